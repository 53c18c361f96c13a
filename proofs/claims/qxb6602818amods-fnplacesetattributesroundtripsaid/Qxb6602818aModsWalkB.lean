import Derived.Test.Qxb6602818aModsWalkA
namespace Go.Proofs.Qxb6602818aMods
open Go.RowKit

set_option maxHeartbeats 1000000 in
theorem attributes_any (a : Option Addr) (n cap : Nat) (h : Bool) (zs : List Int) (w : World) (hn : zs.length = n) (hb : n ≤ 1048576) (hr : RowAt w a zs) (hB : ∀ z ∈ zs, z ≤ 9223372036854775807) :
    Calls Trym.prog 14 #[.agg #[.slice a n cap, .bool h]] w fun e w' => ∃ v, e = .returned v ∧ Owns w' w.heap.size v (Plain.attrs zs) ∧ Below w.heap.size w w' := by
  have HN : Hid (zs.length = n) := hn
  have HR : Hid (RowAt w a zs) := hr
  have HM : Hid (∀ z ∈ zs, z ≤ 9223372036854775807) := hB
  clear hn hr hB
  obtain ⟨i0, hi, hz0, hz1, hz2⟩ := info_parts Trym.info3
  go_enter Trym.func14, Trym.ntmps14
  go_wp2
  go_loopw [3, 9] (fun v i wr => ∃ k : Nat, k ≤ n ∧ i = .int .i64 k ∧ Hid (Owns wr w.heap.size v (Plain.attrs (zs.take k))) ∧ Hid (Below w.heap.size w wr)) (fun _ i _ => n - (intOf i).toNat)
  case atStart => exact ⟨0, Nat.zero_le _, rfl, World.ownsRow_nil _ _ _ _, (Below.refl _ _).alloc (Nat.le_refl _) _⟩
  case round =>
    obtain ⟨k, hk, rfl, HO, HB⟩ := hrel
    by_cases hlt : k < n
    · obtain ⟨b, off, rfl, hc⟩ := HR.out.at HN.out hlt
      have hc1 := hc k hlt
      have c1 := (HB.out.cell (World.block_lt_of_cell? _ _ hc1)).trans hc1
      clear hc1 hc
      have hle := Plain.attrs_len zs k
      have hsz : w.heap.size ≤ wr.heap.size := HB.out.size
      have hbd : zs[k]?.getD 0 ≤ 9223372036854775807 := by
        refine HM.out _ ?_
        rw [List.getElem?_eq_getElem (by rw [HN.out]; exact hlt)]
        exact List.getElem_mem _
      by_cases hgt : 1 < zs[k]?.getD 0
      · have HY : Hid (Plain.attrs (zs.take (k + 1)) = Plain.attrs (zs.take k) ++ [zs[k]?.getD 0 - 1]) := Plain.attrs_yes zs k (by rw [HN.out]; exact hlt) hgt
        go_wp2_with (first
          | (at_builtin; refine wpList_append_own _ rfl _ _ 24 rfl w.heap.size 3 i0 (.int .i64 0) 1 8 Trym.underlying24 hi hz0 hz1 hz2 rfl (by decide) _ _ _ rfl (World.ownsRow.alloc HO.out _) ⟨wr.heap.size, 0, none⟩ 1 1 [.int .i64 (zs[k]?.getD 0 - 1)] rfl rfl ?c1 ?c2 ?c3 ?c4 ?c5 ?_)
          | go_in)
        case c1 =>
          intro j u hj
          match j, hj with
          | 0, hj => simp at hj; subst hj; simp [Addr.add]
        case c2 => intro u hu; simp at hu; subst hu; rfl
        case c3 => unfold maxLen; omega
        case c4 => omega
        case c5 => simp; omega
        · intro v' w1 hown' hgrow _
          have R1 : Hid (Owns w1 w.heap.size v' (Plain.attrs (zs.take (k + 1)))) := by
            rw [HY.out]
            show World.ownsRow _ _ _ _ _ _ _
            simpa using hown'
          have R2 : Hid (Below w.heap.size w w1) := (HB.out.alloc hsz _).grown hgrow (by simp; omega) (fun j hj => (HO.out.lt j hj).1)
          clear hown' hgrow HO HB c1
          go_wp2
          go_roundw
          case rel => exact ⟨k + 1, by omega, by go_num, R1, R2⟩
          case measure => simp [intOf]; omega
      · have HY : Hid (Plain.attrs (zs.take (k + 1)) = Plain.attrs (zs.take k)) := Plain.attrs_no zs k (by rw [HN.out]; exact hlt) hgt
        go_wp2
        go_roundw
        case rel => exact ⟨k + 1, by omega, by go_num, by rw [HY.out]; exact HO.out, HB.out⟩
        case measure => simp [intOf]; omega
    · go_wp2
      go_ret
      exact ⟨_, rfl, by rw [← Plain.attrs_all zs n k HN.out hlt]; exact HO.out, HB.out⟩

theorem zzattributes_any (a : Option Addr) (n cap : Nat) (h : Bool) (zs : List Int) (w : World) (hn : zs.length = n) (hb : n ≤ 1048576) (hr : RowAt w a zs) (hB : ∀ z ∈ zs, z ≤ 9223372036854775807) :
    Calls Trym.prog 10 #[.slice a n cap, .bool h] w fun e w' => ∃ v c, e = .returned (.slice v (Plain.attrs zs).length c) ∧ RowAt w' v (Plain.attrs zs) ∧ Below w.heap.size w w' := by
  have H : Hid (Calls Trym.prog 14 #[.agg #[.slice a n cap, .bool h]] w fun e w' => ∃ v, e = .returned v ∧ Owns w' w.heap.size v (Plain.attrs zs) ∧ Below w.heap.size w w') := attributes_any a n cap h zs w hn hb hr hB
  clear hr hn hB
  generalize Plain.attrs zs = d at H ⊢
  go_enter Trym.func10, Trym.ntmps10
  go_wp2_with (go_at_call 14; refine H.out.mono ?_; rintro e w' ⟨v, rfl, ho, hbel⟩; obtain ⟨va, vc, rfl, hrow⟩ := ho.shape)
  go_ret
  exact ⟨va, vc, rfl, hrow, hbel⟩
end Go.Proofs.Qxb6602818aMods
