import Derived.Test.Qxb6602221aModsArr
import Derived.Laws.CopyOwn
import Derived.Deep.DeepCutAuto
namespace Go.Proofs.Qxb6602221aMods
open Go.RowKit

theorem MsAt.below {w w' : World} {a : Option Addr} {n : Nat} {M : Nat → Mem} (h : MsAt w a n M) (hb : Below w.heap.size w w') : MsAt w' a n M := by
  rcases h with rfl | ⟨b, off, rfl, hc⟩
  · exact .inl rfl
  · refine .inr ⟨b, off, rfl, fun i hi => ?_⟩
    have hm := hc i hi
    have hbN : b < w.heap.size := World.block_lt_of_cell? _ _ hm.nm
    exact ⟨(hb.cell hbN).trans hm.nm, (hb.cell hbN).trans hm.rg, (hb.cell hbN).trans hm.zn, (hb.cell hbN).trans hm.key, (hb.cell hbN).trans hm.zid, (hb.cell hbN).trans hm.pl⟩

theorem Trym.size21 : (Trym.prog.info? 21).map (·.size) = some 1 := by kernel_rfl

theorem copy_src {w : World} {x : Addr} {ts : List Int} (h : RowAt w (some x) ts) (hp : 0 < (ts.map (Value.int .i32)).length) (o : Obj) :
    ∀ j v, (ts.map (Value.int .i32))[j]? = some v → (w.alloc o).cell? (x.add j) = some v := by
  intro j v hj
  obtain ⟨b, off, hx, hc⟩ := h.at (k := 0) rfl (by simpa using hp)
  obtain rfl : x = ⟨b, off, none⟩ := by simpa using hx
  have hjl : j < ts.length := by
    have := (List.getElem?_eq_some_iff.1 hj).1
    simpa using this
  have h1 := hc j hjl
  have h2 : v = .int .i32 (ts.getD j 0) := by
    simp [hjl] at hj
    simp [List.getD, hjl, ← hj]
  rw [h2, WideShapes.add_plain]
  exact Lib.cell?_alloc_some _ h1

theorem copied {w : World} {g m : Nat} {ts : List Int} (hm : ts.length = m) (h : w.heap[g]? = some (.cells (splice (List.replicate m (Value.int .i32 0)) 0 (ts.map (Value.int .i32))).toArray 21 (0, 0))) : RowAt w (some ⟨g, 0, none⟩) ts := by
  have e : splice (List.replicate m (Value.int .i32 0)) 0 (ts.map (Value.int .i32)) = ts.map (Value.int .i32) := by
    subst hm; simp [splice]
  rw [e] at h
  refine .inr ⟨g, 0, rfl, fun i hi => ?_⟩
  rw [Nat.zero_add]
  simp [World.cell?, h, hi, List.getD]

theorem made_heap (w : World) (m : Nat) : (w.alloc (.cells (madeCells #[Value.int .i32 0] m) 21)).heap[w.heap.size]? = some (.cells (List.replicate m (Value.int .i32 0)).toArray 21 (0, 0)) := by
  rw [heap_alloc_new]
  congr 2
  apply Array.toList_inj.1
  rw [toList_madeCells_one]

theorem copy_run {w w1 : World} {x : Addr} {m mcap : Nat} {ts : List Int} (hm : ts.length = m) (h : RowAt w1 (some x) ts) (hb : Below w.heap.size w w1) :
    ∃ w2, (Builtin.copy_ #[23, 23] 3 #[.slice (some ⟨w1.heap.size, 0, none⟩) m m, .slice (some x) m mcap]).run Trym.prog (w1.alloc (.cells (madeCells #[Value.int .i32 0] m) 21)) = .ok (.int .i64 m) w2 ∧
      RowAt w2 (some ⟨w1.heap.size, 0, none⟩) ts ∧ Below w.heap.size w w2 := by
  have hB := hb.alloc hb.size (.cells (madeCells #[Value.int .i32 0] m) 21)
  rcases Nat.eq_zero_or_pos m with h0 | hp
  · subst h0
    refine ⟨_, run_copy_none (P := Trym.prog) _ 23 23 3 21 _ _ 0 0 0 mcap Trym.underlying23 Trym.size21 (by simp), .inl (List.length_eq_zero_iff.1 hm), hB⟩
  · have hl : (ts.map (Value.int .i32)).length = m := by rw [List.length_map]; exact hm
    have hr := run_copy_row (P := Trym.prog) (w1.alloc (.cells (madeCells #[Value.int .i32 0] m) 21)) 23 23 3 21 w1.heap.size 0 m m x m mcap (List.replicate m (Value.int .i32 0)).toArray 21 (ts.map (Value.int .i32)) Trym.underlying23 Trym.size21
      (made_heap w1 m) (by rw [hl]; simp) (copy_src h (by omega) _) (by rw [hl]; simp) (ints_oneCell _ _)
    rw [hl] at hr
    refine ⟨_, hr, copied hm ?_, below_setRow hB hb.size _⟩
    have := setRow_heap (w1.alloc (.cells (madeCells #[Value.int .i32 0] m) 21)) w1.heap.size _ ((List.replicate m (Value.int .i32 0)).take 0 ++ (ts.map (Value.int .i32) ++ (List.replicate m (Value.int .i32 0)).drop (0 + m))).toArray 21 _ (made_heap w1 m)
    simpa [splice, hl] using this

theorem build_both (a : Option Addr) (n cap : Nat) (M : Nat → Mem) (w : World) (hb : n ≤ 1048576) (hr : MsAt w a n M) (ha : a = none → n = 0) :
    Calls Trym.prog 10 #[.slice a n cap] w fun e w' => ∃ c a, e = .returned (.slice a n c) ∧ NodesAt w' a n M ∧ Below w.heap.size w w' := by
  cases a with
  | none => obtain rfl : n = 0 := ha rfl; exact build_nil w cap M
  | some x => exact build_any x n cap M w hb hr

/-- where the loop over what was arranged stands: of the last place its position. -/
def Prev (n : Nat) (M : Nat → Mem) (gs : List Int) (k : Nat) (p : Int) : Prop :=
  (k = 0 ∧ p = -1) ∨ ∃ q, 0 < k ∧ p = (q : Nat) ∧ q < n ∧ (atsOf n M).getD q 0 = gs.getD (k - 1) 0

theorem prev_lt {n : Nat} {M : Nat → Mem} {ts : List Int} {k q : Nat} {p : Int} (hnd : (atsOf n M).Nodup) (hk : k < (Plain.picked (atsOf n M) ts).length) (hq : q < n) (e : (M q).pl = (Plain.picked (atsOf n M) ts).getD k 0)
    (h : Prev n M (Plain.picked (atsOf n M) ts) k p) : p < (q : Int) := by
  rcases h with ⟨_, rfl⟩ | ⟨q', hk0, rfl, hq', e'⟩
  · omega
  · obtain ⟨j, rfl⟩ : ∃ j, k = j + 1 := ⟨k - 1, by omega⟩
    have := Plain.picked_before hnd hk (p := q') (q := q) (by rw [atsOf_length]; exact hq') (by rw [atsOf_length]; exact hq) (by simpa using e') (by rw [atsOf_getD n M q hq]; exact e)
    omega

theorem all_of_take {ts : List Int} {m k : Nat} {P : Int → Prop} (hm : ts.length = m) (hk : ¬ k < m) (h : ∀ i, i < k → P (ts.getD i 0)) : ∀ x ∈ ts, P x := by
  intro x hx
  obtain ⟨i, hi, rfl⟩ := List.mem_iff_getElem.1 hx
  have := h i (by omega)
  simpa [List.getD, hi] using this

set_option maxRecDepth 100000 in
set_option maxHeartbeats 4000000 in
theorem law_any (a : Option Addr) (n cap : Nat) (M : Nat → Mem) (t : Option Addr) (m mcap : Nat) (ts : List Int) (w : World) (hb : n ≤ 4096) (hr : MsAt w a n M) (han : a = none → n = 0) (hm : ts.length = m) (hmb : m ≤ 4096) (ht : RowAt w t ts) :
    Calls Trym.prog 3 #[.slice a n cap, .slice t m mcap] w fun e w' => e = .returned (.bool true) ∧ Below w.heap.size w w' := by
  have HR : Hid (MsAt w a n M) := hr
  have HT : Hid (RowAt w t ts) := ht
  have HM : Hid (ts.length = m) := hm
  have HA : Hid (a = none → n = 0) := han
  clear hr ht hm han
  go_enter Trym.func3, Trym.ntmps3
  go_upto_if 36 with (first
    | (go_at_call 5; refine (bytes_any _ _ _ M _ _ _ _ (by unfold maxLen; omega) (by unfold maxLen; omega) HR.out).mono ?_; rintro e w' ⟨⟨r, rfl⟩, hw⟩; replace hw := hw.symm; subst hw)
    | (go_at_call 6; refine (members_any _ _ _ M _ (by omega) HR.out).mono ?_; rintro e w1 ⟨z, rfl, hz0, hz1, hb1⟩; have HB1 : Hid (Below w.heap.size w w1) := hb1; clear hb1))
  · go_ret
    exact ⟨rfl, Below.refl _ _⟩
  · go_ret
    exact ⟨rfl, HB1.out⟩
  go_cut [1] from 16 (fun s1 wx => ∃ t' c', s1 = .slice t' m c' ∧ Hid (RowAt wx t' ts) ∧ Hid (Below w.heap.size w wx))
  case first =>
    have HT1 : Hid (RowAt w1 t ts) := HT.out.below HB1.out
    cases t with
    | none =>
      go_wp2
      go_meet
      case rel => exact ⟨none, mcap, rfl, HT1, HB1⟩
    | some x =>
      have hmk := run_make_row' (P := Trym.prog) 23 21 (.int .i32 0) 4 Trym.underlying23 Trym.info21 rfl .i64 .i64 m (by omega) (by omega)
      have hsz : w.heap.size ≤ w1.heap.size := HB1.out.size
      obtain ⟨w2, hrun, hrow, hb2⟩ := copy_run (mcap := mcap) HM.out HT1.out HB1.out
      have HRow : Hid (RowAt w2 (some ⟨w1.heap.size, 0, none⟩) ts) := hrow
      have HB2 : Hid (Below w.heap.size w w2) := hb2
      clear hrow hb2
      go_wp2
      go_meet
      case rel => exact ⟨_, _, rfl, HRow, HB2⟩
  case rest =>
    obtain ⟨t', c', rfl, HTc, HBc⟩ := hcut
    have HRc : Hid (MsAt wc a n M) := HR.out.below HBc.out
    have HNA : Hid ((atsOf n M).length = n) := atsOf_length n M
    clear HR HT HB1 hz0 hz1
    have hmk := run_make_row' (P := Trym.prog) 23 21 (.int .i32 0) 4 Trym.underlying23 Trym.info21 rfl .i64 .i64 n (by omega) (by omega)
    have HO : Hid (Own (wc.alloc (.cells (madeCells #[.int .i32 0] n) 21)) wc.heap.size n ((atsOf n M).take 0 ++ List.replicate (n - 0) 0)) := by show Own _ _ _ _; simpa using Own.made wc n
    have HB : Hid (Below wc.heap.size wc (wc.alloc (.cells (madeCells #[.int .i32 0] n) 21))) := (Below.refl _ _).alloc (Nat.le_refl _) _
    go_wp2
    go_loopw [7] (fun i wr => ∃ k : Nat, k ≤ n ∧ i = .int .i64 k ∧ Hid (Own wr wc.heap.size n ((atsOf n M).take k ++ List.replicate (n - k) 0)) ∧ Hid (Below wc.heap.size wc wr)) (fun i _ => n - (intOf i).toNat)
    case atStart => exact ⟨0, Nat.zero_le _, rfl, HO, HB⟩
    case round =>
      clear HO HB hmk
      obtain ⟨k, hk, rfl, HO, HB⟩ := hrel
      by_cases hlt : k < n
      · obtain ⟨b, off, rfl, hc⟩ := HRc.out.at hlt
        have hck := (hc k hlt).pl
        have hck' := (HB.out.cell (World.block_lt_of_cell? _ _ hck)).trans hck
        have hf := HO.out.2.frozen k
        have ho := HO.out.2.cell hlt
        clear hc hck
        have HP : Hid ((M k).pl = (atsOf n M)[k]?.getD 0) := (atsOf_getD n M k hlt).symm
        have hck2 : wr.cell? ⟨b, off + k * 6 + 5, none⟩ = some (.int .i32 ((atsOf n M)[k]?.getD 0)) := by rw [← HP.out]; exact hck'
        clear hck'
        generalize hats : atsOf n M = ats at *
        go_wp2
        go_roundw
        case rel => exact ⟨k + 1, by omega, by go_num, (by rw [← Plain.fill_set ats n k HNA.out hlt]; exact HO.out.set hlt _), HB.out.setCell (Nat.le_refl _) _⟩
        case measure => simp [intOf]; omega
      · have HO1 : Hid (Own wr wc.heap.size n (atsOf n M)) := by have := HO.out; rwa [Plain.fill_full (atsOf n M) n k HNA.out hlt] at this
        have HTr : Hid (RowAt wr t' ts) := HTc.out.below HB.out
        have HRr : Hid (MsAt wr a n M) := HRc.out.below HB.out
        have HBr : Hid (Below w.heap.size w wr) := HBc.out.trans (HB.out.mono HBc.out.size)
        clear HO HTc HRc HBc hk
        go_wp2_with fail
        refine (sorted_any _ _ _ (atsOf n M) _ HNA.out (by omega) HO1.out.row).mono ?_
        rintro e w2 ⟨b2, ys, rfl, ho2, hp2, hs2, hb2⟩
        have HYL : Hid (ys.length = n) := ho2.1
        have HY2 : Hid (RowAt w2 (some ⟨b2, 0, none⟩) ys) := ho2.row
        have HPY : Hid (ys.Perm (atsOf n M)) := hp2
        have HSY : Hid (Plain.Sorted ys) := hs2
        have HT2 : Hid (RowAt w2 t' ts) := HTr.out.below hb2
        have HR2 : Hid (MsAt w2 a n M) := HRr.out.below hb2
        have HB2 : Hid (Below w.heap.size w w2) := HBr.out.trans (hb2.mono HBr.out.size)
        clear ho2 hp2 hs2 hb2 HTr HRr HBr HO1
        go_wp2_with fail
        refine (distinct_any _ _ _ ys _ HYL.out (by omega) HY2.out).mono ?_
        rintro e w3 ⟨r3, rfl, hr3, hb3⟩
        cases r3 with
        | false =>
          clear hr3
          go_wp2_with fail
          go_ret
          exact ⟨rfl, HB2.out.trans (hb3.mono HB2.out.size)⟩
        | true =>
          have HND : Hid ((atsOf n M).Nodup) := HPY.out.nodup_iff.1 (Plain.nodup_of_adjacent HSY.out (by rw [HYL.out]; exact hr3 rfl))
          have HY3 : Hid (RowAt w3 (some ⟨b2, 0, none⟩) ys) := HY2.out.below hb3
          have HT3 : Hid (RowAt w3 t' ts) := HT2.out.below hb3
          have HR3 : Hid (MsAt w3 a n M) := HR2.out.below hb3
          have HB3 : Hid (Below w.heap.size w w3) := HB2.out.trans (hb3.mono HB2.out.size)
          clear hr3 hb3 HY2 HT2 HR2 HB2
          go_wp2_with fail
          refine (sorted_any _ _ _ ts _ HM.out (by omega) HT3.out).mono ?_
          rintro e w4 ⟨b4, xs, rfl, ho4, hp4, hs4, hb4⟩
          have HXL : Hid (xs.length = m) := ho4.1
          have HX4 : Hid (RowAt w4 (some ⟨b4, 0, none⟩) xs) := ho4.row
          have HPX : Hid (xs.Perm ts) := hp4
          have HSX : Hid (Plain.Sorted xs) := hs4
          have HY4 : Hid (RowAt w4 (some ⟨b2, 0, none⟩) ys) := HY3.out.below hb4
          have HT4 : Hid (RowAt w4 t' ts) := HT3.out.below hb4
          have HR4 : Hid (MsAt w4 a n M) := HR3.out.below hb4
          have HB4 : Hid (Below w.heap.size w w4) := HB3.out.trans (hb4.mono HB3.out.size)
          clear ho4 hp4 hs4 hb4 HY3 HT3 HR3 HB3
          go_wp2_with fail
          refine (distinct_any _ _ _ xs _ HXL.out (by omega) HX4.out).mono ?_
          rintro e w5 ⟨r5, rfl, hr5, hb5⟩
          cases r5 with
          | false =>
            clear hr5
            go_wp2_with fail
            go_ret
            exact ⟨rfl, HB4.out.trans (hb5.mono HB4.out.size)⟩
          | true =>
            have HNT : Hid (ts.Nodup) := HPX.out.nodup_iff.1 (Plain.nodup_of_adjacent HSX.out (by rw [HXL.out]; exact hr5 rfl))
            have HX5 : Hid (RowAt w5 (some ⟨b4, 0, none⟩) xs) := HX4.out.below hb5
            have HY5 : Hid (RowAt w5 (some ⟨b2, 0, none⟩) ys) := HY4.out.below hb5
            have HT5 : Hid (RowAt w5 t' ts) := HT4.out.below hb5
            have HR5 : Hid (MsAt w5 a n M) := HR4.out.below hb5
            have HB5 : Hid (Below w.heap.size w w5) := HB4.out.trans (hb5.mono HB4.out.size)
            clear hr5 hb5 HX4 HY4 HT4 HR4 HB4
            go_wp2_with fail
            go_loopw [10] (fun i wq => ∃ k : Nat, k ≤ m ∧ i = .int .i64 k ∧ wq = w5 ∧ Hid (∀ i, i < k → ts.getD i 0 ∈ atsOf n M)) (fun i _ => m - (intOf i).toNat)
            case atStart => exact ⟨0, Nat.zero_le _, rfl, rfl, fun i hi => by omega⟩
            case round =>
              obtain ⟨k, hk, rfl, hwq, HALL⟩ := hrel
              replace hwq := hwq.symm
              subst hwq
              by_cases hlt2 : k < m
              · obtain ⟨b, off, rfl, hc⟩ := HT5.out.at HM.out hlt2
                have hck := hc k hlt2
                clear hc
                by_cases hin : ts.getD k 0 ∈ ys
                · have HALL' : Hid (∀ i, i < k + 1 → ts.getD i 0 ∈ atsOf n M) := by
                    intro i hi
                    by_cases hik : i = k
                    · rw [hik]; exact HPY.out.mem_iff.1 hin
                    · exact HALL.out i (by omega)
                  generalize ts.getD k 0 = x at hck hin
                  have hd : decide (x ∈ ys) = true := by simpa using hin
                  go_wp2_with (go_at_call 9; refine (inSorted_any _ _ _ ys _ _ HYL.out (by omega) HY5.out HSY.out).mono ?_; rintro e w' ⟨rfl, hw⟩; replace hw := hw.symm; subst hw)
                  go_roundw
                  case rel => exact ⟨k + 1, by omega, by go_num, trivial, HALL'⟩
                  case measure => simp [intOf]; omega
                · generalize ts.getD k 0 = x at hck hin
                  have hd : decide (x ∈ ys) = false := by simpa using hin
                  go_wp2_with (go_at_call 9; refine (inSorted_any _ _ _ ys _ _ HYL.out (by omega) HY5.out HSY.out).mono ?_; rintro e w' ⟨rfl, hw⟩; replace hw := hw.symm; subst hw)
                  go_ret
                  exact ⟨rfl, HB5.out⟩
              · have HMEM : Hid (∀ x ∈ ts, x ∈ atsOf n M) := all_of_take HM.out hlt2 HALL.out
                clear HALL HY5 HSY HPY HYL
                go_wp2_with fail
                refine (build_both _ _ _ M _ (by omega) HR5.out HA.out).mono ?_
                rintro e w6 ⟨c6, a6, rfl, hn6, hb6⟩
                have HN6 : Hid (NodesAt w6 a6 n M) := hn6
                have HX6 : Hid (RowAt w6 (some ⟨b4, 0, none⟩) xs) := HX5.out.below hb6
                have HT6 : Hid (RowAt w6 t' ts) := HT5.out.below hb6
                have HR6 : Hid (MsAt w6 a n M) := HR5.out.below hb6
                have HB6 : Hid (Below w.heap.size w w6) := HB5.out.trans (hb6.mono HB5.out.size)
                clear hn6 hb6 HX5 HT5 HR5 HB5
                go_wp2_with fail
                refine (zzarrange_any _ _ _ M _ _ _ ts _ (by omega) HN6.out HM.out (by omega) HT6.out).mono ?_
                rintro e w7 ⟨v7, c7, rfl, hg7, hb7⟩
                have HLEN : Hid ((Plain.picked (atsOf n M) ts).length = m) := by show _ = _; rw [Plain.picked_length HND.out HNT.out HMEM.out]; exact HM.out
                have HG7 : Hid (RowAt w7 v7 (Plain.picked (atsOf n M) ts)) := hg7
                have HX7 : Hid (RowAt w7 (some ⟨b4, 0, none⟩) xs) := HX6.out.below hb7
                have HR7 : Hid (MsAt w7 a n M) := HR6.out.below hb7
                have HB7 : Hid (Below w.heap.size w w7) := HB6.out.trans (hb7.mono HB6.out.size)
                clear hg7 hb7 HX6 HT6 HR6 HB6 HN6
                rw [HLEN.out]
                go_wp2_with fail
                go_loopw [13, 14] (fun q i wq => ∃ (k : Nat) (p : Int), k ≤ m ∧ i = .int .i64 k ∧ q = .int .i64 p ∧ wq = w7 ∧ Hid (Prev n M (Plain.picked (atsOf n M) ts) k p)) (fun _ i _ => m - (intOf i).toNat)
                case atStart => exact ⟨0, -1, Nat.zero_le _, rfl, rfl, rfl, .inl ⟨rfl, rfl⟩⟩
                case round =>
                  obtain ⟨k, p, hk, rfl, rfl, hwq, HPREV⟩ := hrel
                  replace hwq := hwq.symm
                  subst hwq
                  by_cases hlt3 : k < m
                  · obtain ⟨b, off, rfl, hc⟩ := HG7.out.at HLEN.out hlt3
                    have hck := hc k hlt3
                    clear hc
                    have hmem := Plain.picked_mem (ats := atsOf n M) (ts := ts) (i := k) (by rw [HLEN.out]; exact hlt3)
                    have hin : (Plain.picked (atsOf n M) ts).getD k 0 ∈ xs := HPX.out.mem_iff.2 hmem.1
                    have HAT : Hid ((Plain.picked (atsOf n M) ts).getD k 0 ∈ atsOf n M) := hmem.2
                    clear hmem
                    have HX : Hid (∃ x, x = (Plain.picked (atsOf n M) ts).getD k 0) := ⟨_, rfl⟩
                    obtain ⟨x, hx⟩ := HX.out
                    rw [← hx] at hck hin HAT
                    have HXE : Hid (x = (Plain.picked (atsOf n M) ts).getD k 0) := hx
                    clear hx HX
                    have hd : decide (x ∈ xs) = true := by simpa using hin
                    go_wp2_with (first
                      | (go_at_call 9; refine (inSorted_any _ _ _ xs _ _ HXL.out (by omega) HX7.out HSX.out).mono ?_; rintro e w' ⟨rfl, hw⟩; replace hw := hw.symm; subst hw)
                      | fail)
                    refine (indexOf_any _ _ _ M _ _ (by omega) HR7.out).mono ?_
                    rintro e w' ⟨r8, rfl, h8, hw⟩
                    replace hw := hw.symm
                    subst hw
                    rcases h8 with ⟨_, hno⟩ | ⟨q, hq, rfl, hpl⟩
                    · exfalso
                      obtain ⟨i, hi, hie⟩ := List.mem_iff_getElem.1 HAT.out
                      rw [atsOf_length] at hi
                      refine hno i hi ?_
                      rw [← hie]; simp [atsOf]
                    · have hpq : p < (q : Int) := prev_lt HND.out (by rw [HLEN.out]; exact hlt3) hq (by rw [hpl, HXE.out]) HPREV.out
                      have HPREV' : Hid (Prev n M (Plain.picked (atsOf n M) ts) (k + 1) q) := .inr ⟨q, by omega, rfl, hq, by rw [atsOf_getD n M q hq, hpl, HXE.out]; simp⟩
                      clear hpl
                      go_wp2
                      go_roundw
                      case rel => exact ⟨k + 1, q, by omega, by go_num, rfl, trivial, HPREV'⟩
                      case measure => simp [intOf]; omega
                  · go_wp2
                    go_ret
                    exact ⟨rfl, HB7.out⟩
end Go.Proofs.Qxb6602221aMods
