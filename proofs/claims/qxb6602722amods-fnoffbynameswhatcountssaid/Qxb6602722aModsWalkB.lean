import Derived.Test.Qxb6602722aModsWalkA
namespace Go.Proofs.Qxb6602722aMods
open Go.RowKit

theorem toList_same {a b : ByteArray} : a.toList = b.toList ↔ a = b := by
  constructor
  · intro h
    rw [ByteArray.toList_eq, ByteArray.toList_eq] at h
    exact ByteArray.ext (Array.toList_inj.1 h)
  · rintro rfl; rfl

theorem beq_left (f f2 k : ByteArray) : ((both f k).toList == (both f2 k).toList) = (f.toList == f2.toList) := by
  rw [Bool.eq_iff_iff, beq_iff_eq, beq_iff_eq, toList_same, toList_same]
  exact both_left

theorem beq_right (f k k2 : ByteArray) : ((both f k).toList == (both f k2).toList) = (k.toList == k2.toList) := by
  rw [Bool.eq_iff_iff, beq_iff_eq, beq_iff_eq, toList_same, toList_same]
  exact both_right

set_option maxRecDepth 100000 in
set_option maxHeartbeats 1000000 in
theorem names_small (b1 b2 : Bool) (f k f2 k2 : ByteArray) (w : World) (hf : f.size ≤ 262144) (hk : k.size ≤ 262144) (hf2 : f2.size ≤ 262144) (hk2 : k2.size ≤ 262144) :
    Calls Trym.prog 4 #[.bool b1, .string f, .bool b2, .string k, .string f2, .string k2] w fun e w' => e = .returned (.bool true) ∧ w' = w := by
  have HB : Hid (Calls Trym.prog 8 #[.bool b1, .string f, .bool b2, .string k, .string f2, .string k2] w fun e w' => SomeBool e ∧ w' = w) := bytes4 b1 b2 f k f2 k2 w (by unfold maxLen; omega) (by unfold maxLen; omega) (by unfold maxLen; omega) (by unfold maxLen; omega)
  cases b1 with
  | false =>
    go_enter Trym.func4, Trym.ntmps4
    go_wp2_with (first
      | (go_at_call 8; refine HB.out.mono ?_; rintro e w' ⟨⟨r, rfl⟩, hw⟩; replace hw := hw.symm; subst hw)
      | (go_at_call 6; refine (zz_prof _ _ _ _ (by omega)).mono ?_; rintro e w' ⟨rfl, hw⟩; replace hw := hw.symm; subst hw))
    all_goals (go_ret; exact ⟨rfl, rfl⟩)
  | true =>
    cases b2 with
    | false =>
      go_enter Trym.func4, Trym.ntmps4
      go_wp2_with (first
        | (go_at_call 8; refine HB.out.mono ?_; rintro e w' ⟨⟨r, rfl⟩, hw⟩; replace hw := hw.symm; subst hw)
        | (go_at_call 6; refine (zz_flag _ _ _).mono ?_; rintro e w' ⟨rfl, hw⟩; replace hw := hw.symm; subst hw))
      all_goals (go_ret; exact ⟨rfl, rfl⟩)
    | true =>
      go_enter Trym.func4, Trym.ntmps4
      go_wp2_with (first
        | (go_at_call 8; refine HB.out.mono ?_; rintro e w' ⟨⟨r, rfl⟩, hw⟩; replace hw := hw.symm; subst hw)
        | (go_at_call 6; refine (zz_both _ _ _ (by omega) (by omega)).mono ?_; rintro e w' ⟨rfl, hw⟩; replace hw := hw.symm; subst hw))
      · go_ret
        exact ⟨rfl, rfl⟩
      · go_ret
        exact ⟨congrArg (fun b => Ending.returned (.bool b)) (by rw [beq_right]; simp), rfl⟩
      · exact absurd (beq_left f f2 k) (by assumption)

theorem names_big (b1 b2 : Bool) (f k f2 k2 : ByteArray) (w : World) (hf : f.size ≤ maxLen) (hk : k.size ≤ maxLen) (hf2 : f2.size ≤ maxLen) (hk2 : k2.size ≤ maxLen) (h : ¬ (f.size ≤ 262144 ∧ k.size ≤ 262144 ∧ f2.size ≤ 262144 ∧ k2.size ≤ 262144)) :
    Calls Trym.prog 4 #[.bool b1, .string f, .bool b2, .string k, .string f2, .string k2] w fun e w' => e = .returned (.bool true) ∧ w' = w := by
  have HB : Hid (Calls Trym.prog 8 #[.bool b1, .string f, .bool b2, .string k, .string f2, .string k2] w fun e w' => SomeBool e ∧ w' = w) := bytes4 b1 b2 f k f2 k2 w hf hk hf2 hk2
  unfold maxLen at hf hk hf2 hk2
  by_cases h1 : f.size ≤ 262144
  · by_cases h2 : k.size ≤ 262144
    · by_cases h3 : f2.size ≤ 262144
      · have h4 : ¬ k2.size ≤ 262144 := fun h4 => h ⟨h1, h2, h3, h4⟩
        clear h
        go_enter Trym.func4, Trym.ntmps4
        go_wp2_with (go_at_call 8; refine HB.out.mono ?_; rintro e w' ⟨⟨r, rfl⟩, hw⟩; replace hw := hw.symm; subst hw)
        all_goals (go_ret; exact ⟨rfl, rfl⟩)
      · clear h
        go_enter Trym.func4, Trym.ntmps4
        go_wp2_with (go_at_call 8; refine HB.out.mono ?_; rintro e w' ⟨⟨r, rfl⟩, hw⟩; replace hw := hw.symm; subst hw)
        all_goals (go_ret; exact ⟨rfl, rfl⟩)
    · clear h
      go_enter Trym.func4, Trym.ntmps4
      go_wp2_with (go_at_call 8; refine HB.out.mono ?_; rintro e w' ⟨⟨r, rfl⟩, hw⟩; replace hw := hw.symm; subst hw)
      all_goals (go_ret; exact ⟨rfl, rfl⟩)
  · clear h
    go_enter Trym.func4, Trym.ntmps4
    go_wp2_with (go_at_call 8; refine HB.out.mono ?_; rintro e w' ⟨⟨r, rfl⟩, hw⟩; replace hw := hw.symm; subst hw)
    all_goals (go_ret; exact ⟨rfl, rfl⟩)
end Go.Proofs.Qxb6602722aMods
