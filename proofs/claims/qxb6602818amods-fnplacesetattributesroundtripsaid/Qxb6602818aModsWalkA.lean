import Derived.Test.Qxb6602818aModsRows
import Derived.Test.Qxb6602818aModsPlain
import Derived.WalkKit
import Derived.WalkSpells
import Derived.WalkLawsBesides
import Derived.Deep.QuietTactic
import Derived.BigQuiet
import Derived.Deep.OwnRows
namespace Go.Proofs.Qxb6602818aMods
open Go.RowKit

/-- A slice of int reads as 'zs' in the world w. -/
def RowAt (w : World) (a : Option Addr) (zs : List Int) : Prop :=
  zs = [] ∨ ∃ b off, a = some ⟨b, off, none⟩ ∧ ∀ i, i < zs.length → w.cell? ⟨b, off + i, none⟩ = some (.int .i64 (zs.getD i 0))

theorem RowAt.at {w : World} {a : Option Addr} {zs : List Int} {n : Nat} (h : RowAt w a zs) (hn : zs.length = n) {k : Nat} (hk : k < n) :
    ∃ b off, a = some ⟨b, off, none⟩ ∧ ∀ i, i < n → w.cell? ⟨b, off + i, none⟩ = some (.int .i64 (zs.getD i 0)) := by
  subst hn
  rcases h with rfl | h
  · simp at hk
  · exact h

theorem RowAt.below {w w' : World} {a : Option Addr} {zs : List Int} (h : RowAt w a zs) (hb : Below w.heap.size w w') : RowAt w' a zs := by
  rcases h with rfl | ⟨b, off, rfl, hc⟩
  · exact .inl rfl
  · exact .inr ⟨b, off, rfl, fun i hi => (hb.cell (World.block_lt_of_cell? _ _ (hc i hi))).trans (hc i hi)⟩

theorem below_drewN {w : World} (n : Nat) : Below w.heap.size w (w.drewN n) := by
  exact ⟨rfl, rfl, rfl, Nat.le_refl _, fun _ _ => rfl⟩

theorem Trym.info3 : (Trym.prog.info? 3).map (fun i => (i.zero, i.size, i.bytes)) = some (some (.int .i64 0), 1, 8) := by kernel_rfl

/-- block b is a row of int that holds d. -/
def Own (w : World) (b n : Nat) (d : List Int) : Prop := d.length = n ∧ w.rowIs b 3 n (fun i => .int .i64 (d.getD i 0))

theorem Own.row {w : World} {b n : Nat} {d : List Int} (h : Own w b n d) : RowAt w (some ⟨b, 0, none⟩) d :=
  .inr ⟨b, 0, rfl, fun i hi => by rw [Nat.zero_add]; exact h.2.cell (by rw [← h.1]; exact hi)⟩

theorem Own.set {w : World} {b n : Nat} {d : List Int} (h : Own w b n d) {i : Nat} (hi : i < n) (v : Int) : Own (w.setCell ⟨b, i, none⟩ (.int .i64 v)) b n (d.set i v) := by
  refine ⟨by simp [h.1], (h.2.set i (.int .i64 v)).congr fun j hj => ?_⟩
  rw [Plain.getD_set d i j v (by rw [h.1]; exact hi)]
  split <;> rfl

theorem Own.made (w : World) (n : Nat) : Own (w.alloc (.cells (madeCells #[.int .i64 0] n) 3)) w.heap.size n (List.replicate n 0) := by
  refine ⟨by simp, (World.rowIs_made w (.int .i64 0) n 3).congr fun i hi => ?_⟩
  simp [List.getD, hi]

/-- a bool came back. -/
def SomeBool (e : Ending) : Prop := ∃ r, e = .returned (.bool r)

theorem bytes_any (a : Option Addr) (n cap : Nat) (h : Bool) (w : World) (hn : n ≤ maxLen) :
    Calls Trym.prog 8 #[.slice a n cap, .bool h] w fun e w' => SomeBool e ∧ w' = w := by
  unfold maxLen at hn
  go_enter Trym.func8, Trym.ntmps8
  go_wp2
  all_goals (go_ret; exact ⟨⟨_, rfl⟩, rfl⟩)

set_option maxHeartbeats 1000000 in
theorem clone_some (x : Addr) (n cap : Nat) (zs : List Int) (w : World) (hn : zs.length = n) (hb : n ≤ 1048576) (hr : RowAt w (some x) zs) :
    Calls Trym.prog 9 #[.slice (some x) n cap] w fun e w' => ∃ a c, e = .returned (.slice a n c) ∧ RowAt w' a zs ∧ Below w.heap.size w w' := by
  have HN : Hid (zs.length = n) := hn
  clear hn
  have HR : Hid (RowAt w (some x) zs) := hr
  clear hr
  have hmk := run_make_row' (P := Trym.prog) 24 3 (.int .i64 0) 8 Trym.underlying24 Trym.info3 rfl .i64 .i64 n (by omega) (by omega)
  have HO : Hid (Own (w.alloc (.cells (madeCells #[.int .i64 0] n) 3)) w.heap.size n (zs.take 0 ++ List.replicate (n - 0) 0)) := by show Own _ _ _ _; simpa using Own.made w n
  have HB : Hid (Below w.heap.size w (w.alloc (.cells (madeCells #[.int .i64 0] n) 3))) := (Below.refl _ _).alloc (Nat.le_refl _) _
  have hq : ∀ w : World, (binOp .eql 24 (.slice (some x) n cap) (.slice none 0 0)).run Trym.prog w = .ok (.bool false) w := fun w => Lib.run_eql_slice_nil w _ _ _ _ _ _ _ Trym.underlying24
  go_enter Trym.func9, Trym.ntmps9
  go_wp2
  go_loopw [4] (fun i wr => ∃ k : Nat, k ≤ n ∧ i = .int .i64 k ∧ Hid (Own wr w.heap.size n (zs.take k ++ List.replicate (n - k) 0)) ∧ Hid (Below w.heap.size w wr)) (fun i _ => n - (intOf i).toNat)
  case atStart => exact ⟨0, Nat.zero_le _, rfl, HO, HB⟩
  case round =>
    clear HO HB hmk hq
    obtain ⟨k, hk, rfl, HO, HB⟩ := hrel
    by_cases hlt : k < n
    · obtain ⟨b, off, hx, hc⟩ := HR.out.at HN.out hlt
      obtain rfl : x = ⟨b, off, none⟩ := by simpa using hx
      clear hx
      have hck := hc k hlt
      have hck' := (HB.out.cell (World.block_lt_of_cell? _ _ hck)).trans hck
      have hf := HO.out.2.frozen k
      have ho := HO.out.2.cell hlt
      clear hc hck
      go_wp2
      go_roundw
      case rel => exact ⟨k + 1, by omega, by go_num, (by rw [← Plain.fill_set zs n k HN.out hlt]; exact HO.out.set hlt _), HB.out.setCell (Nat.le_refl _) _⟩
      case measure => simp [intOf]; omega
    · have H1 : Hid (Own wr w.heap.size n zs) := by have := HO.out; rwa [Plain.fill_full zs n k HN.out hlt] at this
      clear HO
      go_wp2
      go_ret
      exact ⟨_, _, rfl, H1.out.row, HB.out⟩

theorem clone_nil (cap : Nat) (w : World) :
    Calls Trym.prog 9 #[.slice none 0 cap] w fun e w' => ∃ a c, e = .returned (.slice a 0 c) ∧ RowAt w' a [] ∧ Below w.heap.size w w' := by
  have hq : ∀ w : World, (binOp .eql 24 (.slice none 0 cap) (.slice none 0 0)).run Trym.prog w = .ok (.bool true) w := fun w => Lib.run_eql_slice_nil w _ _ _ _ _ _ _ Trym.underlying24
  go_enter Trym.func9, Trym.ntmps9
  go_wp2
  go_ret
  exact ⟨none, 0, rfl, .inl rfl, Below.refl _ _⟩

theorem clone_any (a : Option Addr) (n cap : Nat) (zs : List Int) (w : World) (hn : zs.length = n) (hb : n ≤ 1048576) (hr : RowAt w a zs) (ha : a = none → n = 0) :
    Calls Trym.prog 9 #[.slice a n cap] w fun e w' => ∃ a c, e = .returned (.slice a n c) ∧ RowAt w' a zs ∧ Below w.heap.size w w' := by
  cases a with
  | none =>
    obtain rfl : n = 0 := ha rfl
    obtain rfl : zs = [] := List.length_eq_zero_iff.1 hn
    exact clone_nil cap w
  | some x => exact clone_some x n cap zs w hn hb hr

set_option maxHeartbeats 1000000 in
theorem equal_any (a : Option Addr) (cap : Nat) (c : Option Addr) (ccap : Nat) (n : Nat) (zs : List Int) (w : World) (hn : zs.length = n) (hb : n ≤ 1048576) (hx : RowAt w a zs) (hy : RowAt w c zs) :
    Calls Trym.prog 11 #[.slice a n cap, .slice c n ccap] w fun e w' => e = .returned (.bool true) ∧ ∃ q, w' = w.drewN q := by
  have HN : Hid (zs.length = n) := hn
  clear hn
  have HX : Hid (RowAt w a zs) := hx
  have HY : Hid (RowAt w c zs) := hy
  clear hx hy
  go_enter Trym.func11, Trym.ntmps11
  go_wp2
  go_loopw [5] (fun i wr => ∃ k q : Nat, wr = w.drewN q ∧ k ≤ n ∧ i = .int .i64 k) (fun i _ => n - (intOf i).toNat)
  case atStart => exact ⟨0, 0, rfl, Nat.zero_le _, rfl⟩
  case round =>
    obtain ⟨k, q, rfl, hk, rfl⟩ := hrel
    by_cases hlt : k < n
    · obtain ⟨b, off, rfl, hc⟩ := HX.out.at HN.out hlt
      obtain ⟨b2, off2, rfl, hc2⟩ := HY.out.at HN.out hlt
      have hck := hc k hlt
      have hck2 := hc2 k hlt
      clear hc hc2
      have hI : (k : Int) < (n : Int) := by omega
      generalize zs.getD k 0 = x at hck hck2
      go_wp2
      go_quiet (fail)
      go_wp2
      go_roundw
      case rel => exact ⟨k + 1, q + nq, rfl, by omega, by go_num⟩
      case measure => simp [intOf]; omega
    · go_wp2
      go_ret
      exact ⟨rfl, q, rfl⟩

def Owns (w : World) (N : Nat) (v : Value) (d : List Int) : Prop := w.ownsRow N 3 1 v d.length (d.map (Value.int .i64))

theorem Owns.shape {w : World} {N : Nat} {v : Value} {d : List Int} (h : Owns w N v d) : ∃ a c, v = .slice a d.length c ∧ RowAt w a d := by
  have h' := h
  obtain ⟨_, h0 | ⟨g, cap, cur, rfl, _, hg, _, _, _, ht⟩⟩ := h
  · exact ⟨none, 0, by rw [h0.2]; exact h0.1, .inl (List.length_eq_zero_iff.1 h0.2)⟩
  · refine ⟨_, _, rfl, .inr ⟨g, 0, rfl, fun i hi => ?_⟩⟩
    rw [Nat.zero_add, World.ownsRow.cellAt h' i (by omega)]
    simp [hi, List.getD]
end Go.Proofs.Qxb6602818aMods
