import Derived.Test.Qxb6602818aModsWalkB
import Derived.Deep.DeepCutAuto
namespace Go.Proofs.Qxb6602818aMods
open Go.RowKit

theorem below_drewN2 {w : World} (n m : Nat) : Below w.heap.size w ((w.drewN n).drewN m) := by
  exact ⟨rfl, rfl, rfl, Nat.le_refl _, fun _ _ => rfl⟩

theorem Owns.nil0 {w : World} {N : Nat} {v : Value} (zs : List Int) (h0 : ¬ zs[0]?.getD 0 = 1) (h : w.ownsRow N 3 1 v 0 []) : Owns w N v (Plain.rebuilt zs 0) := by
  have e : Plain.rebuilt zs 0 = [] := by simp [Plain.rebuilt, h0]
  rw [e]; exact h

theorem Owns.one {w : World} {N : Nat} {v : Value} (zs : List Int) (h0 : zs[0]?.getD 0 = 1) (h : w.ownsRow N 3 1 v (0 + 1) ([] ++ [.int .i64 1])) : Owns w N v (Plain.rebuilt zs 0) := by
  have e : Plain.rebuilt zs 0 = [1] := by simp [Plain.rebuilt, h0]
  rw [e]; exact h

set_option maxRecDepth 100000 in
set_option maxHeartbeats 4000000 in
theorem law_any (a : Option Addr) (n cap : Nat) (h : Bool) (zs : List Int) (w : World) (hn : zs.length = n) (hb : n ≤ 131072) (hr : RowAt w a zs) (ha : a = none → n = 0) (hB : ∀ z ∈ zs, z ≤ 9223372036854775807) :
    Calls Trym.prog 5 #[.slice a n cap, .bool h] w fun e w' => e = .returned (.bool true) ∧ Below w.heap.size w w' := by
  have HN : Hid (zs.length = n) := hn
  have HR : Hid (RowAt w a zs) := hr
  have HM : Hid (∀ z ∈ zs, z ≤ 9223372036854775807) := hB
  have HA : Hid (a = none → n = 0) := ha
  clear hn hr hB ha
  have hd0 : decide ((131072 : Int) < (n : Int)) = false := by simp; omega
  go_enter Trym.func5, Trym.ntmps5
  go_wp2_with fail
  refine (bytes_any _ _ _ _ _ (by unfold maxLen; omega)).mono ?_
  rintro e w' ⟨⟨r, rfl⟩, hw⟩
  replace hw := hw.symm
  subst hw
  cases r
  · go_wp2_with fail
    go_ret
    exact ⟨rfl, Below.refl _ _⟩
  go_wp2_with fail
  go_loopw [5] (fun i wr => ∃ k q : Nat, wr = w.drewN q ∧ k ≤ n ∧ i = .int .i64 k ∧ Hid (Plain.Good zs k)) (fun i _ => n - (intOf i).toNat)
  case atStart => exact ⟨0, 0, rfl, Nat.zero_le _, rfl, Plain.good_zero zs⟩
  case round =>
    obtain ⟨k, q, rfl, hk, rfl, HG⟩ := hrel
    by_cases hlt : k < n
    · obtain ⟨b, off, rfl, hc⟩ := HR.out.at HN.out hlt
      have hck := hc k hlt
      have hI : (k : Int) < (n : Int) := by omega
      by_cases h1 : zs[k]?.getD 0 < 1
      · clear hc
        go_wp2
        go_ret
        exact ⟨rfl, below_drewN _⟩
      · by_cases hpos : 0 < k
        · obtain ⟨j, rfl⟩ : ∃ j, k = j + 1 := ⟨k - 1, by omega⟩
          have hcj := hc j (by omega)
          have hI0 : (0 : Int) < ((j + 1 : Nat) : Int) := by omega
          clear hc
          by_cases h2 : zs[j + 1]?.getD 0 ≤ zs[j]?.getD 0
          · go_wp2
            go_quiet (fail)
            go_wp2
            go_ret
            exact ⟨rfl, below_drewN2 _ _⟩
          · have HG1 : Hid (Plain.Good zs (j + 2)) := Plain.good_succ zs j HG.out h1 h2
            go_wp2
            go_quiet (fail)
            go_wp2
            go_roundw
            case rel => exact ⟨j + 2, q + nq, rfl, by omega, by go_num, HG1⟩
            case measure => simp [intOf]; omega
        · have hd : decide ((0 : Int) < (k : Int)) = false := by simp; omega
          have HG1 : Hid (Plain.Good zs (k + 1)) := by
            obtain rfl : k = 0 := by omega
            exact Plain.good_one zs h1
          clear hc
          go_wp2
          go_quiet (fail)
          go_wp2
          go_roundw
          case rel => exact ⟨k + 1, q + nq, rfl, by omega, by go_num, HG1⟩
          case measure => simp [intOf]; omega
    · have HGA : Hid (Plain.rebuilt zs (Plain.attrs zs).length = zs) := by
        have e : k = n := by omega
        refine Plain.rebuilt_same zs ?_
        rw [HN.out, ← e]; exact HG.out
      have HRq : Hid (RowAt (w.drewN q) a zs) := HR.out.below (below_drewN q)
      have HBq : Hid (Below w.heap.size w (w.drewN q)) := below_drewN q
      clear HG HR hk
      go_wp2_with fail
      refine (clone_any _ _ _ zs _ HN.out (by omega) HRq.out HA.out).mono ?_
      rintro e w1 ⟨a1, c1, rfl, hr1, hb1⟩
      have HR1 : Hid (RowAt w1 a1 zs) := hr1
      have HB1 : Hid (Below w.heap.size w w1) := HBq.out.trans hb1
      clear hr1 hb1 HRq HBq
      go_wp2_with fail
      refine (zzattributes_any _ _ _ _ zs _ HN.out (by omega) HR1.out HM.out).mono ?_
      rintro e w2 ⟨a2, c2, rfl, hr2, hb2⟩
      have HT2 : Hid (RowAt w2 a2 (Plain.attrs zs)) := hr2
      have HR2 : Hid (RowAt w2 a1 zs) := HR1.out.below hb2
      have HB2 : Hid (Below w.heap.size w w2) := HB1.out.trans (hb2.mono HB1.out.size)
      clear hr2 hb2 HR1 HB1
      have hal := Plain.attrs_len_all zs
      rw [HN.out] at hal
      obtain ⟨i0, hi, hz0, hz1, hz2⟩ := info_parts Trym.info3
      obtain ⟨w3, hmk0, hown3, hgr3⟩ := run_make_own (P := Trym.prog) w2 w2.heap.size 24 3 i0 (.int .i64 0) 1 Trym.underlying24 hi hz0 hz1 .i64 .i64 (n + 1) (by rw [hz2]; omega) (by unfold maxLen; omega) (Nat.le_refl _)
      have hmk : (Instr.makeSlice 24 (.int .i64 0) (.int .i64 ((n : Int) + 1))).run Trym.prog w2 = .ok (.slice (some ⟨w2.heap.size, 0, none⟩) 0 (n + 1)) w3 := hmk0
      have HW3 : Hid (w3.ownsRow w2.heap.size 3 1 (.slice (some ⟨w2.heap.size, 0, none⟩) 0 (n + 1)) 0 []) := hown3
      have HB3 : Hid (Below w2.heap.size w2 w3) := (Below.refl _ _).grown hgr3 (Nat.le_refl _) (fun k hk => by cases hk)
      have HR3 : Hid (RowAt w3 a1 zs) := HR2.out.below HB3.out
      clear hmk0 hown3 hgr3
      go_upto_region 17 with fail
      go_cut [63] from 9 (fun s wx => s = .bool (decide (zs[0]?.getD 0 = 1)) ∧ wx = w3)
      case first =>
        by_cases hp : 0 < n
        · obtain ⟨b, off, rfl, hc⟩ := HR3.out.at HN.out hp
          have hc0 := hc 0 hp
          simp only [Nat.add_zero] at hc0
          have hpI : (0 : Int) < (n : Int) := by omega
          clear hc
          go_wp2
          go_meet
          case rel => exact ⟨congrArg Value.bool (Bool.eq_iff_iff.2 (by simp)), rfl⟩
        · have hd1 : decide ((0 : Int) < (n : Int)) = false := by simp; omega
          have HZ : Hid (decide (zs[0]?.getD 0 = 1) = false) := by
            have e : zs = [] := List.length_eq_zero_iff.1 (by rw [HN.out]; omega)
            subst e; rfl
          go_wp2
          go_meet
          case rel => exact ⟨by rw [HZ.out], rfl⟩
      case rest =>
        obtain ⟨rfl, hwc⟩ := hcut
        replace hwc := hwc.symm
        subst hwc
        go_upto_if 63 with fail
        go_cut [7] from 9 (fun s wx => Hid (Owns wx w2.heap.size s (Plain.rebuilt zs 0)) ∧ Hid (Below w2.heap.size w2 wx))
        case first =>
          by_cases h1 : zs[0]?.getD 0 = 1
          · have hd1 : decide (zs[0]?.getD 0 = 1) = true := by simpa using h1
            have H1 : Hid (zs[0]?.getD 0 = 1) := h1
            clear h1
            go_wp2_with (first
              | (at_builtin; refine wpList_append_own _ rfl _ _ 24 rfl w2.heap.size 3 i0 (.int .i64 0) 1 8 Trym.underlying24 hi hz0 hz1 hz2 rfl (by decide) _ _ _ rfl (World.ownsRow.alloc HW3.out _) ⟨w3.heap.size, 0, none⟩ 1 1 [.int .i64 1] rfl rfl ?c1 ?c2 ?c3 ?c4 ?c5 ?_)
              | go_in)
            case c1 =>
              intro j u hj
              match j, hj with
              | 0, hj => simp at hj; subst hj; simp [Addr.add]
            case c2 => intro u hu; simp at hu; subst hu; rfl
            case c3 => unfold maxLen; omega
            case c4 => omega
            case c5 => have := HB3.out.size; simp; omega
            · intro v' w4 hown' hgrow _
              have R1 : Hid (Owns w4 w2.heap.size v' (Plain.rebuilt zs 0)) := Owns.one zs H1.out hown'
              have R2 : Hid (Below w2.heap.size w2 w4) := (HB3.out.alloc HB3.out.size _).grown hgrow (by have := HB3.out.size; simp; omega) (fun j hj => (World.ownsRow.lt HW3.out j hj).1)
              clear hown' hgrow
              go_wp2
              go_meet
              case rel => exact ⟨R1, R2⟩
          · have hd1 : decide (zs[0]?.getD 0 = 1) = false := by simpa using h1
            have H1 : Hid (¬ zs[0]?.getD 0 = 1) := h1
            clear h1
            go_wp2
            go_meet
            case rel => exact ⟨Owns.nil0 zs H1.out HW3.out, HB3⟩
        case rest =>
          obtain ⟨HO7, HB7⟩ := hcut
          clear HB3 HR3 HW3 hmk
          go_wp2_with fail
          go_loopw [7, 8] (fun v i wr => ∃ j : Nat, j ≤ (Plain.attrs zs).length ∧ i = .int .i64 j ∧ Hid (Owns wr w2.heap.size v (Plain.rebuilt zs j)) ∧ Hid (Below w2.heap.size w2 wr)) (fun _ i _ => (Plain.attrs zs).length - (intOf i).toNat)
          case atStart => exact ⟨0, Nat.zero_le _, rfl, HO7, HB7⟩
          case round =>
            clear HO7 HB7
            obtain ⟨j, hj, rfl, HO, HB⟩ := hrel
            by_cases hlt2 : j < (Plain.attrs zs).length
            · obtain ⟨b, off, rfl, hc⟩ := HT2.out.at rfl hlt2
              have hc1 := hc j hlt2
              have c1 := (HB.out.cell (World.block_lt_of_cell? _ _ hc1)).trans hc1
              clear hc1 hc
              have hbd := Plain.attrs_bd HM.out hlt2
              have hle := Plain.rebuilt_len zs j
              have hsz : w2.heap.size ≤ wr.heap.size := HB.out.size
              have HY : Hid (Plain.rebuilt zs (j + 1) = Plain.rebuilt zs j ++ [(Plain.attrs zs)[j]?.getD 0 + 1]) := Plain.rebuilt_succ zs j hlt2
              obtain ⟨hbd1, hbd2⟩ := hbd
              have hge : (Plain.attrs zs).getD j 0 = (Plain.attrs zs)[j]?.getD 0 := rfl
              rw [hge] at c1
              clear hge
              obtain ⟨x, hx⟩ : ∃ x, x = (Plain.attrs zs)[j]?.getD 0 := ⟨_, rfl⟩
              rw [← hx] at c1 hbd1 hbd2 HY
              clear hx
              go_wp2_with (first
                | (at_builtin; refine wpList_append_own _ rfl _ _ 24 rfl w2.heap.size 3 i0 (.int .i64 0) 1 8 Trym.underlying24 hi hz0 hz1 hz2 rfl (by decide) _ _ _ rfl (World.ownsRow.alloc HO.out _) ⟨wr.heap.size, 0, none⟩ 1 1 [.int .i64 (x + 1)] rfl rfl ?d1 ?d2 ?d3 ?d4 ?d5 ?_)
                | go_in)
              case d1 =>
                intro j u hj
                match j, hj with
                | 0, hj => simp at hj; subst hj; simp [Addr.add]
              case d2 => intro u hu; simp at hu; subst hu; rfl
              case d3 => unfold maxLen; omega
              case d4 => omega
              case d5 => simp; omega
              · intro v' w5 hown' hgrow _
                have R1 : Hid (Owns w5 w2.heap.size v' (Plain.rebuilt zs (j + 1))) := by
                  rw [HY.out]
                  show World.ownsRow _ _ _ _ _ _ _
                  simpa using hown'
                have R2 : Hid (Below w2.heap.size w2 w5) := (HB.out.alloc hsz _).grown hgrow (by simp; omega) (fun j hj => (HO.out.lt j hj).1)
                clear hown' hgrow HO HB c1
                go_wp2
                go_roundw
                case rel => exact ⟨j + 1, by omega, by go_num, R1, R2⟩
                case measure => simp [intOf]; omega
            · have HE : Hid (Plain.rebuilt zs j = zs) := by
                have e : j = (Plain.attrs zs).length := by omega
                rw [e]; exact HGA.out
              obtain ⟨va, vc, rfl, hrow⟩ := HO.out.shape
              rw [HE.out] at hrow
              rw [HE.out, HN.out]
              have HX : Hid (RowAt wr va zs) := hrow
              have HYr : Hid (RowAt wr a1 zs) := HR2.out.below HB.out
              clear hrow HO
              go_wp2_with fail
              refine (equal_any _ _ _ _ n zs _ HN.out (by omega) HX.out HYr.out).mono ?_
              rintro e w8 ⟨rfl, q8, rfl⟩
              go_wp2
              go_ret
              exact ⟨rfl, HB2.out.trans ((HB.out.trans ((below_drewN q8).mono HB.out.size)).mono HB2.out.size)⟩
end Go.Proofs.Qxb6602818aMods
