import Derived.Test.Qxb6602722aModsRows
import Derived.WalkKit
import Derived.WalkSpells
import Derived.WalkLawsBesides
import Derived.Deep.QuietTactic
import Derived.BigQuiet
namespace Go.Proofs.Qxb6602722aMods
open Go.RowKit

def mid : ByteArray := ⟨#[32, 97, 110, 100, 32, 116, 104, 101, 32, 112, 114, 111, 102, 105, 108, 101, 39, 115, 32]⟩
def pre : ByteArray := ⟨#[116, 104, 101, 32, 112, 114, 111, 102, 105, 108, 101, 39, 115, 32]⟩
/-- what is said where both switch the family off. -/
def both (f k : ByteArray) : ByteArray := f ++ mid ++ k
/-- what is said where the profile does. -/
def prof (k : ByteArray) : ByteArray := pre ++ k

theorem off_both (f k : ByteArray) (w : World) (hf : f.size ≤ 1048576) (hk : k.size ≤ 1048576) :
    Calls Trym.prog 9 #[.bool true, .string f, .bool true, .string k] w fun e w' => e = .returned (.string (both f k)) ∧ w' = w := by
  unfold both mid
  go_enter Trym.func9, Trym.ntmps9
  go_wp2
  go_ret
  exact ⟨rfl, rfl⟩

theorem off_flag (f k : ByteArray) (w : World) :
    Calls Trym.prog 9 #[.bool true, .string f, .bool false, .string k] w fun e w' => e = .returned (.string f) ∧ w' = w := by
  go_enter Trym.func9, Trym.ntmps9
  go_wp2
  go_ret
  exact ⟨rfl, rfl⟩

theorem off_prof (f k : ByteArray) (b : Bool) (w : World) (hk : k.size ≤ 1048576) :
    Calls Trym.prog 9 #[.bool false, .string f, .bool b, .string k] w fun e w' => e = .returned (.string (prof k)) ∧ w' = w := by
  unfold prof pre
  go_enter Trym.func9, Trym.ntmps9
  go_wp2
  go_ret
  exact ⟨rfl, rfl⟩

theorem zz_of (b1 b2 : Bool) (f k s : ByteArray) (w : World) (h : Calls Trym.prog 9 #[.bool b1, .string f, .bool b2, .string k] w fun e w' => e = .returned (.string s) ∧ w' = w) :
    Calls Trym.prog 6 #[.bool b1, .string f, .bool b2, .string k] w fun e w' => e = .returned (.string s) ∧ w' = w := by
  have H : Hid (Calls Trym.prog 9 #[.bool b1, .string f, .bool b2, .string k] w fun e w' => e = .returned (.string s) ∧ w' = w) := h
  clear h
  go_enter Trym.func6, Trym.ntmps6
  go_wp2_with (go_at_call 9; refine H.out.mono ?_; rintro e w' ⟨rfl, hw⟩; replace hw := hw.symm; subst hw)
  go_ret
  exact ⟨rfl, rfl⟩

theorem zz_both (f k : ByteArray) (w : World) (hf : f.size ≤ 1048576) (hk : k.size ≤ 1048576) :
    Calls Trym.prog 6 #[.bool true, .string f, .bool true, .string k] w fun e w' => e = .returned (.string (both f k)) ∧ w' = w := zz_of _ _ _ _ _ _ (off_both f k w hf hk)
theorem zz_flag (f k : ByteArray) (w : World) :
    Calls Trym.prog 6 #[.bool true, .string f, .bool false, .string k] w fun e w' => e = .returned (.string f) ∧ w' = w := zz_of _ _ _ _ _ _ (off_flag f k w)
theorem zz_prof (f k : ByteArray) (b : Bool) (w : World) (hk : k.size ≤ 1048576) :
    Calls Trym.prog 6 #[.bool false, .string f, .bool b, .string k] w fun e w' => e = .returned (.string (prof k)) ∧ w' = w := zz_of _ _ _ _ _ _ (off_prof f k b w hk)

/-- a bool came back. -/
def SomeBool (e : Ending) : Prop := ∃ r, e = .returned (.bool r)

set_option maxHeartbeats 1000000 in
theorem bytes2 (f k : ByteArray) (w : World) (hf : f.size ≤ maxLen) (hk : k.size ≤ maxLen) :
    Calls Trym.prog 5 #[.string f, .string k] w fun e w' => SomeBool e ∧ w' = w := by
  unfold maxLen at hf hk
  go_enter Trym.func5, Trym.ntmps5
  go_wp2
  all_goals (go_ret; exact ⟨⟨_, rfl⟩, rfl⟩)

set_option maxHeartbeats 1000000 in
theorem bytes4 (b1 b2 : Bool) (f k f2 k2 : ByteArray) (w : World) (hf : f.size ≤ maxLen) (hk : k.size ≤ maxLen) (hf2 : f2.size ≤ maxLen) (hk2 : k2.size ≤ maxLen) :
    Calls Trym.prog 8 #[.bool b1, .string f, .bool b2, .string k, .string f2, .string k2] w fun e w' => SomeBool e ∧ w' = w := by
  unfold maxLen at hf hk hf2 hk2
  go_enter Trym.func8, Trym.ntmps8
  go_wp2
  all_goals (go_ret; exact ⟨⟨_, rfl⟩, rfl⟩)

theorem both_left {f f2 k : ByteArray} : both f k = both f2 k ↔ f = f2 := by
  constructor
  · intro h
    unfold both at h
    have h' := congrArg (fun s : ByteArray => s.data.toList) h
    simp at h'
    exact ByteArray.ext h'
  · rintro rfl; rfl

theorem both_right {f k k2 : ByteArray} : both f k = both f k2 ↔ k = k2 := by
  constructor
  · intro h
    unfold both at h
    have h' := congrArg (fun s : ByteArray => s.data.toList) h
    simp at h'
    exact ByteArray.ext h'
  · rintro rfl; rfl
end Go.Proofs.Qxb6602722aMods
