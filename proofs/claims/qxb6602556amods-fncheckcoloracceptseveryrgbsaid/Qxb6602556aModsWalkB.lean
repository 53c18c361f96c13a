import Derived.Test.Qxb6602556aModsWalkA
namespace Go.Proofs.Qxb6602556aMods
open Go.RowKit

theorem zz_len (s : ByteArray) (w : World) (h7 : s.size ≠ 7) :
    Calls Trym.prog 6 #[.string s] w fun e w' => e = .returned (.string wrongText) ∧ w' = w := by
  have H : Hid (Calls Trym.prog 9 #[.string s] w fun e w' => e = .returned (.string wrongText) ∧ w' = w) := check_len s w h7
  generalize wrongText = t at H ⊢
  go_enter Trym.func6, Trym.ntmps6
  go_wp2_with (go_at_call 9; refine H.out.mono ?_; rintro e w' ⟨rfl, hw⟩; replace hw := hw.symm; subst hw)
  go_ret
  exact ⟨rfl, rfl⟩

theorem zz_ok (s : ByteArray) (w : World) (h7 : s.size = 7) (hpos : 0 < s.size) (h0 : ((s[0].toNat : Int) != 35) = false) (hx : ∀ k, k < 6 → Hexy ((s.extract 1 7).data.toList.getD k 0).toNat) :
    Calls Trym.prog 6 #[.string s] w fun e w' => e = .returned (.string ByteArray.empty) ∧ Below w.heap.size w w' := by
  have H : Hid (Calls Trym.prog 9 #[.string s] w fun e w' => e = .returned (.string ByteArray.empty) ∧ Below w.heap.size w w') := check_ok s w h7 hpos h0 hx
  clear h7 hpos h0 hx
  go_enter Trym.func6, Trym.ntmps6
  go_wp2_with (go_at_call 9; refine H.out.mono ?_; rintro e w' ⟨rfl, hw⟩; have HB : Hid (Below w.heap.size w w') := hw; clear hw)
  go_ret
  exact ⟨rfl, HB.out⟩

set_option maxHeartbeats 400000 in
theorem hex_any (d : Int) (up : Bool) (w : World) (h0 : 0 ≤ d) (h1 : d ≤ 15) :
    Calls Trym.prog 5 #[.int .u32 d, .bool up] w fun e w' => ∃ c, e = .returned (.int .u8 c) ∧ Hexy c ∧ w' = w := by
  have hd : d = 0 ∨ d = 1 ∨ d = 2 ∨ d = 3 ∨ d = 4 ∨ d = 5 ∨ d = 6 ∨ d = 7 ∨ d = 8 ∨ d = 9 ∨ d = 10 ∨ d = 11 ∨ d = 12 ∨ d = 13 ∨ d = 14 ∨ d = 15 := by omega
  clear h0 h1
  cases up
  all_goals
    rcases hd with rfl | rfl | rfl | rfl | rfl | rfl | rfl | rfl | rfl | rfl | rfl | rfl | rfl | rfl | rfl | rfl
    all_goals
      go_enter Trym.func5, Trym.ntmps5
      go_wp2
      go_ret
      exact ⟨_, rfl, by unfold Hexy; decide, rfl⟩

theorem Trym.info5 : (Trym.prog.info? 5).map (fun i => (i.zero, i.size, i.bytes)) = some (some (.int .u8 0), 1, 1) := by kernel_rfl

/-- block b is a row of bytes that holds d. -/
def Own (w : World) (b n : Nat) (d : List Int) : Prop := d.length = n ∧ w.rowIs b 5 n (fun i => .int .u8 (d.getD i 0))

theorem getD_set (zs : List Int) (i j : Nat) (v : Int) (hi : i < zs.length) : (zs.set i v).getD j 0 = if j = i then v else zs.getD j 0 := by
  by_cases h : j = i
  · subst h; simp [List.getD, hi]
  · simp [List.getD, h, Ne.symm h]

theorem Own.set {w : World} {b n : Nat} {d : List Int} (h : Own w b n d) {i : Nat} (hi : i < n) (v : Int) : Own (w.setCell ⟨b, i, none⟩ (.int .u8 v)) b n (d.set i v) := by
  refine ⟨by simp [h.1], (h.2.set i (.int .u8 v)).congr fun j hj => ?_⟩
  rw [getD_set d i j v (by rw [h.1]; exact hi)]
  split <;> rfl

theorem Own.below {w w' : World} {b n B : Nat} {d : List Int} (h : Own w b n d) (hb : Below B w w') (hB : b < B) : Own w' b n d :=
  ⟨h.1, h.2.of_block (hb.block b hB)⟩

/-- 'make([]byte, n)', in whatever world: the new world is a letter. -/
theorem made (n : Nat) (hn : n ≤ 1000) (w : World) : ∃ W, (Instr.makeSlice 23 (.int .i64 n) (.int .i64 n)).run Trym.prog w = .ok (.slice (some ⟨w.heap.size, 0, none⟩) n n) W ∧ Own W w.heap.size n (List.replicate n 0) ∧ Below w.heap.size w W ∧ w.heap.size < W.heap.size := by
  refine ⟨_, run_make_row' (P := Trym.prog) 23 5 (.int .u8 0) 1 Trym.underlying23 Trym.info5 rfl .i64 .i64 n (by omega) (by omega) w, ⟨by simp, (World.rowIs_made w (.int .u8 0) n 5).congr fun i hi => ?_⟩, (Below.refl _ _).alloc (Nat.le_refl _) _, (World.rowIs_made w (.int .u8 0) n 5).lt⟩
  simp [List.getD, hi]

/-- what the seven bytes are after k rounds. -/
def Row7 (xs : List Int) (k : Nat) : Prop := xs.length = 7 ∧ xs.getD 0 0 = 35 ∧ ∀ j, j < k → Hexy (xs.getD (j + 1) 0)

theorem row7_start : Row7 ((List.replicate 7 0).set 0 35) 0 := ⟨rfl, rfl, fun j hj => by omega⟩

theorem row7_step {xs : List Int} {k : Nat} {c : Int} (h : Row7 xs k) (hk : k < 6) (hc : Hexy c) : Row7 (xs.set (1 + k) c) (k + 1) := by
  obtain ⟨h1, h2, h3⟩ := h
  refine ⟨by simp [h1], ?_, fun j hj => ?_⟩
  · rw [getD_set _ _ _ _ (by omega), if_neg (by omega)]; exact h2
  · rw [getD_set _ _ _ _ (by omega)]
    by_cases hjk : j = k
    · subst hjk; rw [if_pos (by omega)]; exact hc
    · rw [if_neg (by omega)]; exact h3 j (by omega)

theorem and15 (x : Int) : 0 ≤ bits .and .u32 x 15 ∧ bits .and .u32 x 15 ≤ 15 := by
  show 0 ≤ IntKind.u32.wrap ((BitVec.ofInt 32 x &&& BitVec.ofInt 32 15).toNat : Int) ∧ IntKind.u32.wrap ((BitVec.ofInt 32 x &&& BitVec.ofInt 32 15).toNat : Int) ≤ 15
  have h : (BitVec.ofInt 32 x &&& BitVec.ofInt 32 15).toNat ≤ 15 := by
    rw [BitVec.toNat_and]
    exact Nat.le_trans Nat.and_le_right (by decide)
  rw [IntKind.wrap_u32]
  omega

theorem hexy_byte {c : Int} (h : Hexy c) : Hexy ((UInt8.ofNat c.toNat).toNat : Int) := by
  have e : ((UInt8.ofNat c.toNat).toNat : Int) = c := by
    unfold Hexy at h
    rw [UInt8.toNat_ofNat']
    omega
  rw [e]; exact h

/-- the text of seven bytes. -/
theorem text_facts {xs : List Int} {k : Nat} (h : Row7 xs k) (hk : ¬ k < 6) :
    ∃ s : ByteArray, strOfNums xs = s ∧ s.size = 7 ∧ (∀ hp : 0 < s.size, ((s[0].toNat : Int) != 35) = false) ∧ ∀ j, j < 6 → Hexy ((s.extract 1 7).data.toList.getD j 0).toNat := by
  obtain ⟨h1, h2, h3⟩ := h
  match xs, h1 with
  | [x0, x1, x2, x3, x4, x5, x6], _ =>
    refine ⟨_, rfl, rfl, fun _ => ?_, fun j hj => ?_⟩
    · have : x0 = 35 := h2
      subst this; rfl
    · have e : ((strOfNums [x0, x1, x2, x3, x4, x5, x6]).extract 1 7).data.toList.getD j 0 = UInt8.ofNat (([x0, x1, x2, x3, x4, x5, x6] : List Int).getD (j + 1) 0).toNat := by
        have hj' : j = 0 ∨ j = 1 ∨ j = 2 ∨ j = 3 ∨ j = 4 ∨ j = 5 := by omega
        rcases hj' with rfl | rfl | rfl | rfl | rfl | rfl <;> simp [strOfNums]
      rw [e]
      exact hexy_byte (h3 j (by omega))

set_option maxRecDepth 100000 in
set_option maxHeartbeats 1000000 in
theorem law_any (rgb : Int) (up : Bool) (ex : Int) (w : World) (hr0 : 0 ≤ rgb) (hr1 : rgb ≤ 16777215) :
    Calls Trym.prog 3 #[.int .u32 rgb, .bool up, .int .u8 ex] w fun e w' => e = .returned (.bool true) ∧ Below w.heap.size w w' := by
  obtain ⟨W1, hmk0, ho1, hb1, hl1⟩ := made 7 (by omega) w
  have hmk : (Instr.makeSlice 23 (.int .i64 7) (.int .i64 7)).run Trym.prog w = .ok (.slice (some ⟨w.heap.size, 0, none⟩) 7 7) W1 := hmk0
  clear hmk0
  have hf1 := ho1.2.frozen 0
  have hc1 := ho1.2.cell (i := 0) (by omega)
  have HO1 : Hid (Own W1 w.heap.size 7 (List.replicate 7 0)) := ho1
  have HB1 : Hid (Below w.heap.size w W1) := hb1
  clear ho1 hb1
  go_enter Trym.func3, Trym.ntmps3
  go_wp2
  go_loopw [8] (fun i wr => ∃ (k : Nat) (xs : List Int), k ≤ 6 ∧ i = .int .i64 k ∧ Hid (Own wr w.heap.size 7 xs) ∧ Hid (Row7 xs k) ∧ Hid (Below w.heap.size w wr)) (fun i _ => 6 - (intOf i).toNat)
  case atStart => exact ⟨0, _, by omega, rfl, HO1.out.set (by omega) 35, row7_start, HB1.out.setCell (Nat.le_refl _) _⟩
  case round =>
    clear HO1 HB1 hmk hf1 hc1
    obtain ⟨k, xs, hk, rfl, HO, HX, HB⟩ := hrel
    by_cases hlt : k < 6
    · have hf := HO.out.2.frozen (1 + k)
      have hc := HO.out.2.cell (i := 1 + k) (by omega)
      have ha := and15 (rgb / 2 ^ (4 * (5 - k)))
      have HA : Hid (0 ≤ bits .and .u32 (rgb / 2 ^ (4 * (5 - k))) 15 ∧ bits .and .u32 (rgb / 2 ^ (4 * (5 - k))) 15 ≤ 15) := ha
      clear ha
      go_wp2_with (go_at_call 5; refine (hex_any _ _ _ HA.out.1 HA.out.2).mono ?_; rintro e w' ⟨c, rfl, hcx, hw⟩; replace hw := hw.symm; subst hw; have HC : Hid (Hexy c) := hcx; clear hcx)
      go_roundw
      case rel => exact ⟨k + 1, xs.set (1 + k) c, by omega, by go_num, HO.out.set (by omega) c, row7_step HX.out hlt HC.out, HB.out.setCell (Nat.le_refl _) _⟩
      case measure => simp [intOf]; omega
    · obtain ⟨s, hst, h7, h35, hhx⟩ := text_facts HX.out hlt
      have hcv := run_convert_bytes_arg (P := Trym.prog) wr 23 5 Trym.underlying23 Trym.underlying5 w.heap.size 0 7 7 xs HO.out.1 (fun i hi => by rw [Nat.zero_add]; exact HO.out.2.cell hi) 9 Trym.underlying9
      rw [hst] at hcv
      have hpos : 0 < s.size := by omega
      have HZ : Hid (∀ w, Calls Trym.prog 6 #[.string s] w fun e w' => e = .returned (.string ByteArray.empty) ∧ Below w.heap.size w w') := fun w => zz_ok s w h7 hpos (h35 hpos) hhx
      have h6 : (s.extract 1 7).size = 6 := by rw [ByteArray.size_extract]; omega
      clear hst h35 hhx
      go_wp2_with fail
      refine (HZ.out _).mono ?_
      rintro e w2 ⟨rfl, hb2⟩
      have HO2 : Hid (Own w2 w.heap.size 7 xs) := HO.out.below hb2 HO.out.2.lt
      have HB2 : Hid (Below w.heap.size w w2) := HB.out.trans (hb2.mono HB.out.size)
      clear hb2 HO HB hcv HZ HX
      go_wp2_with fail
      refine (zz_len _ _ (by omega)).mono ?_
      rintro e w3 ⟨rfl, hw⟩
      replace hw := hw.symm
      subst hw
      unfold wrongText
      obtain ⟨W4, hmk0, ho4, hb4, hl4⟩ := made 8 (by omega) w2
      have hmk : (Instr.makeSlice 23 (.int .i64 8) (.int .i64 8)).run Trym.prog w2 = .ok (.slice (some ⟨w2.heap.size, 0, none⟩) 8 8) W4 := hmk0
      have HN : Hid (w.heap.size < w2.heap.size) := HO2.out.2.lt
      have HO4 : Hid (Own W4 w2.heap.size 8 (List.replicate 8 0)) := ho4
      have HX4 : Hid (Own W4 w.heap.size 7 xs) := HO2.out.below hb4 HO2.out.2.lt
      have HB4 : Hid (Below w.heap.size w W4) := HB2.out.trans (hb4.mono HB2.out.size)
      clear hmk0 ho4 hb4 HB2 HO2
      go_wp2_with fail
      go_loopw [12] (fun i wq => ∃ (j : Nat) (ys : List Int), j ≤ 7 ∧ i = .int .i64 j ∧ Hid (Own wq w2.heap.size 8 ys) ∧ Hid (Own wq w.heap.size 7 xs) ∧ Hid (Below w.heap.size w wq)) (fun i _ => 7 - (intOf i).toNat)
      case atStart => exact ⟨0, _, by omega, rfl, HO4, HX4, HB4⟩
      case round =>
        clear HO4 HX4 HB4 hmk
        obtain ⟨j, ys, hj, rfl, HO, HX, HB⟩ := hrel
        by_cases hlt2 : j < 7
        · have hf := HO.out.2.frozen j
          have hc := HO.out.2.cell (i := j) (by omega)
          have hx := HX.out.2.cell hlt2
          go_wp2
          go_roundw
          case rel => exact ⟨j + 1, _, by omega, by go_num, HO.out.set (by omega) _, ⟨HX.out.1, HX.out.2.setOther (by have := HN.out; simp; omega) _⟩, HB.out.setCell (by have := HN.out; simp; omega) _⟩
          case measure => simp [intOf]; omega
        · have hf := HO.out.2.frozen 7
          have hc := HO.out.2.cell (i := 7) (by omega)
          have HO' := HO.out.set (i := 7) (by omega) ex
          have hcv := run_convert_bytes_arg (P := Trym.prog) (wr.setCell ⟨w2.heap.size, 7, none⟩ (.int .u8 ex)) 23 5 Trym.underlying23 Trym.underlying5 w2.heap.size 0 8 8 (ys.set 7 ex) HO'.1 (fun i hi => by rw [Nat.zero_add]; exact HO'.2.cell hi) 9 Trym.underlying9
          have hs8 : (strOfNums (ys.set 7 ex)).size = 8 := by rw [strOfNums_size]; exact HO'.1
          generalize strOfNums (ys.set 7 ex) = s8 at hcv hs8
          clear HO'
          go_wp2_with fail
          refine (zz_len _ _ (by omega)).mono ?_
          rintro e w5 ⟨rfl, hw⟩
          replace hw := hw.symm
          subst hw
          unfold wrongText
          go_wp2
          go_ret
          exact ⟨rfl, HB.out.setCell (by have := HN.out; simp; omega) _⟩
end Go.Proofs.Qxb6602556aMods
