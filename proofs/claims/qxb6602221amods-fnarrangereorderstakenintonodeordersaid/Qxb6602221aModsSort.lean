import Derived.Test.Qxb6602221aModsLeaf
import Derived.Deep.OwnRows
namespace Go.Proofs.Qxb6602221aMods
open Go.RowKit

theorem Trym.info21 : (Trym.prog.info? 21).map (fun i => (i.zero, i.size, i.bytes)) = some (some (.int .i32 0), 1, 4) := by kernel_rfl

/-- block b is a row of int32 that holds d. -/
def Own (w : World) (b n : Nat) (d : List Int) : Prop := d.length = n ∧ w.rowIs b 21 n (fun i => .int .i32 (d.getD i 0))

theorem Own.row {w : World} {b n : Nat} {d : List Int} (h : Own w b n d) : RowAt w (some ⟨b, 0, none⟩) d :=
  .inr ⟨b, 0, rfl, fun i hi => by rw [Nat.zero_add]; exact h.2.cell (by rw [← h.1]; exact hi)⟩

theorem Own.set {w : World} {b n : Nat} {d : List Int} (h : Own w b n d) {i : Nat} (hi : i < n) (v : Int) : Own (w.setCell ⟨b, i, none⟩ (.int .i32 v)) b n (d.set i v) := by
  refine ⟨by simp [h.1], (h.2.set i (.int .i32 v)).congr fun j hj => ?_⟩
  rw [Plain.getD_set d i j v (by rw [h.1]; exact hi)]
  split <;> rfl

theorem Own.below {w w' : World} {b n B : Nat} {d : List Int} (h : Own w b n d) (hb : Below B w w') (hB : b < B) : Own w' b n d :=
  ⟨h.1, h.2.of_block (hb.block b hB)⟩

theorem Own.made (w : World) (n : Nat) : Own (w.alloc (.cells (madeCells #[.int .i32 0] n) 21)) w.heap.size n (List.replicate n 0) := by
  refine ⟨by simp, (World.rowIs_made w (.int .i32 0) n 21).congr fun i hi => ?_⟩
  simp [List.getD, hi]

set_option maxHeartbeats 1000000 in
theorem sorted_any (a : Option Addr) (n cap : Nat) (zs : List Int) (w : World) (hn : zs.length = n) (hb : n ≤ 1048576) (hr : RowAt w a zs) :
    Calls Trym.prog 7 #[.slice a n cap] w fun e w' => ∃ b ys, e = .returned (.slice (some ⟨b, 0, none⟩) n n) ∧ Own w' b n ys ∧ ys.Perm zs ∧ Plain.Sorted ys ∧ Below w.heap.size w w' := by
  have HN : Hid (zs.length = n) := hn
  clear hn
  have HR : Hid (RowAt w a zs) := hr
  clear hr
  have hmk := run_make_row' (P := Trym.prog) 23 21 (.int .i32 0) 4 Trym.underlying23 Trym.info21 rfl .i64 .i64 n (by omega) (by omega)
  have HO : Hid (Own (w.alloc (.cells (madeCells #[.int .i32 0] n) 21)) w.heap.size n (zs.take 0 ++ List.replicate (n - 0) 0)) := by show Own _ _ _ _; simpa using Own.made w n
  have HB : Hid (Below w.heap.size w (w.alloc (.cells (madeCells #[.int .i32 0] n) 21))) := (Below.refl _ _).alloc (Nat.le_refl _) _
  go_enter Trym.func7, Trym.ntmps7
  go_wp2
  go_loopw [4] (fun i wr => ∃ k : Nat, k ≤ n ∧ i = .int .i64 k ∧ Hid (Own wr w.heap.size n (zs.take k ++ List.replicate (n - k) 0)) ∧ Hid (Below w.heap.size w wr)) (fun i _ => n - (intOf i).toNat)
  case atStart => exact ⟨0, Nat.zero_le _, rfl, HO, HB⟩
  case round =>
    clear HO HB hmk
    obtain ⟨k, hk, rfl, HO, HB⟩ := hrel
    by_cases hlt : k < n
    · obtain ⟨b, off, rfl, hc⟩ := HR.out.at HN.out hlt
      have hck := hc k hlt
      have hck' := (HB.out.cell (World.block_lt_of_cell? _ _ hck)).trans hck
      have hf := HO.out.2.frozen k
      have ho := HO.out.2.cell hlt
      clear hc hck
      go_wp2
      go_roundw
      case rel => exact ⟨k + 1, by omega, by go_num, (by rw [← Plain.fill_set zs n k HN.out hlt]; exact HO.out.set hlt _), HB.out.setCell (Nat.le_refl _) _⟩
      case measure => simp [intOf]; omega
    · have H1 : Hid (Own wr w.heap.size n zs) := by have := HO.out; rwa [Plain.fill_full zs n k HN.out hlt] at this
      clear HO
      go_wp2
      go_loopw [5] (fun i wq => ∃ k d, 1 ≤ k ∧ (k = 1 ∨ k ≤ n) ∧ i = .int .i64 (k : Nat) ∧ Hid (Own wq w.heap.size n d) ∧ Hid (Below w.heap.size w wq) ∧ Hid (d.Perm zs) ∧ Hid (Plain.Sorted (d.take k))) (fun i _ => n - (intOf i).toNat)
      case atStart => exact ⟨1, zs, Nat.le_refl _, .inl rfl, rfl, H1, HB, List.Perm.refl _, Plain.sorted_take_one _⟩
      case round =>
        clear H1 HB hk hlt
        obtain ⟨k, d, hk1, hk, rfl, HO, HB, HP, HS⟩ := hrel
        by_cases hlt : k < n
        · have HI : Hid (Plain.Ins zs (d.getD k 0) k k d) := Plain.Ins.start (by rw [HO.out.1]; exact hlt) HS.out HP.out
          have hok := HO.out.2.cell hlt
          clear HP HS hk
          generalize d.getD k 0 = x at HI hok
          go_wp2
          go_loopw [7] (fun j wq => ∃ j' e, j = .int .i64 (j' : Nat) ∧ Hid (Own wq w.heap.size n e) ∧ Hid (Below w.heap.size w wq) ∧ Hid (Plain.Ins zs x k j' e)) (fun j _ => (intOf j).toNat)
          case atStart => exact ⟨k, d, rfl, HO, HB, HI⟩
          case round =>
            clear HO HB HI hok
            obtain ⟨j, e, rfl, HO, HB, HI⟩ := hrel
            have hjk : j ≤ k := HI.out.length.2.1
            by_cases hj : 0 < j
            · obtain ⟨m, rfl⟩ : ∃ m, j = m + 1 := ⟨j - 1, by omega⟩
              have hcm := HO.out.2.cell (i := m) (by omega)
              have hfm := HO.out.2.frozen (m + 1)
              have hcm1 := HO.out.2.cell (i := m + 1) (by omega)
              by_cases hgt : x < e[m]?.getD 0
              · go_wp2
                go_roundw
                case rel => exact ⟨m, e.set (m + 1) (e[m]?.getD 0), by go_num, HO.out.set (by omega) _, HB.out.setCell (Nat.le_refl _) _, HI.out.step hgt⟩
                case measure => simp [intOf]
              · have HF := HI.out.finish (.inr ⟨m, rfl, by omega⟩)
                have HF1 : Hid ((e.set (m + 1) x).Perm zs) := HF.1
                have HF2 : Hid (Plain.Sorted ((e.set (m + 1) x).take (k + 1))) := HF.2
                clear HF
                go_wp2
                go_roundw
                case rel => exact ⟨k + 1, e.set (m + 1) x, by omega, .inr (by omega), by go_num, HO.out.set (by omega) _, HB.out.setCell (Nat.le_refl _) _, HF1, HF2⟩
                case measure => simp [intOf]; omega
            · have HF := HI.out.finish (.inl (by omega))
              have HF1 : Hid ((e.set j x).Perm zs) := HF.1
              have HF2 : Hid (Plain.Sorted ((e.set j x).take (k + 1))) := HF.2
              have hfm := HO.out.2.frozen j
              have hcm1 := HO.out.2.cell (i := j) (by omega)
              clear HF
              go_wp2
              go_roundw
              case rel => exact ⟨k + 1, e.set j x, by omega, .inr (by omega), by go_num, HO.out.set (by omega) _, HB.out.setCell (Nat.le_refl _) _, HF1, HF2⟩
              case measure => simp [intOf]; omega
        · go_wp2
          go_ret
          exact ⟨w.heap.size, d, rfl, HO.out, HP.out, (by have := HS.out; rwa [List.take_of_length_le (by have := HO.out.1; omega)] at this), HB.out⟩
end Go.Proofs.Qxb6602221aMods
