import Derived.Test.Qxb6602221aModsBuild
namespace Go.Proofs.Qxb6602221aMods
open Go.RowKit

/-- the places of the members. -/
def atsOf (n : Nat) (M : Nat → Mem) : List Int := (List.range n).map fun i => (M i).pl

theorem atsOf_length (n : Nat) (M : Nat → Mem) : (atsOf n M).length = n := by simp [atsOf]
theorem atsOf_getD (n : Nat) (M : Nat → Mem) (k : Nat) (hk : k < n) : (atsOf n M).getD k 0 = (M k).pl := by simp [atsOf, List.getD, hk]

/-- what has been picked of the first k members. -/
def pk (n : Nat) (M : Nat → Mem) (ts : List Int) (k : Nat) : List Int := Plain.picked ((atsOf n M).take k) ts

theorem pk_le (n : Nat) (M : Nat → Mem) (ts : List Int) (k : Nat) : (pk n M ts k).length ≤ k := Plain.picked_len _ _ _
theorem pk_zero (n : Nat) (M : Nat → Mem) (ts : List Int) : pk n M ts 0 = [] := by simp [pk, Plain.picked]
theorem pk_yes (n : Nat) (M : Nat → Mem) (ts : List Int) (k : Nat) (hk : k < n) {p : Int} (hp : (M k).pl = p) (h : p ∈ ts) : pk n M ts (k + 1) = pk n M ts k ++ [p] := by
  unfold pk
  rw [Plain.picked_take _ _ _ (by rw [atsOf_length]; exact hk), atsOf_getD n M k hk, hp, if_pos h]
theorem pk_no (n : Nat) (M : Nat → Mem) (ts : List Int) (k : Nat) (hk : k < n) {p : Int} (hp : (M k).pl = p) (h : ¬ p ∈ ts) : pk n M ts (k + 1) = pk n M ts k := by
  unfold pk
  rw [Plain.picked_take _ _ _ (by rw [atsOf_length]; exact hk), atsOf_getD n M k hk, hp, if_neg h, List.append_nil]
theorem pk_all (n : Nat) (M : Nat → Mem) (ts : List Int) (k : Nat) (hk : ¬ k < n) : pk n M ts k = Plain.picked (atsOf n M) ts := by
  unfold pk; rw [List.take_of_length_le (by rw [atsOf_length]; omega)]

def Owns (w : World) (N : Nat) (v : Value) (d : List Int) : Prop := w.ownsRow N 21 1 v d.length (d.map (Value.int .i32))

theorem Owns.shape {w : World} {N : Nat} {v : Value} {d : List Int} (h : Owns w N v d) : ∃ a c, v = .slice a d.length c ∧ RowAt w a d := by
  have h' := h
  obtain ⟨_, h0 | ⟨g, cap, cur, rfl, _, hg, _, _, _, ht⟩⟩ := h
  · exact ⟨none, 0, by rw [h0.2]; exact h0.1, .inl (List.length_eq_zero_iff.1 h0.2)⟩
  · refine ⟨_, _, rfl, .inr ⟨g, 0, rfl, fun i hi => ?_⟩⟩
    rw [Nat.zero_add, World.ownsRow.cellAt h' i (by omega)]
    simp [hi, List.getD]

theorem NodesAt.at {w : World} {a : Option Addr} {n : Nat} {M : Nat → Mem} (h : NodesAt w a n M) {k : Nat} (hk : k < n) :
    ∃ b off, a = some ⟨b, off, none⟩ ∧ ∃ p, w.cell? ⟨b, off + k, none⟩ = some (.pointer (some ⟨p, 0, none⟩)) ∧ w.cell? ⟨p, 5, none⟩ = some (.int .i32 (M k).pl) := by
  rcases h with rfl | ⟨b, off, rfl, h⟩
  · omega
  · exact ⟨b, off, rfl, h k hk⟩

set_option maxHeartbeats 1000000 in
theorem arrange_any (a : Option Addr) (n cap : Nat) (M : Nat → Mem) (t : Option Addr) (m mcap : Nat) (ts : List Int) (w : World) (hb : n ≤ 1048576) (hr : NodesAt w a n M) (hm : ts.length = m) (hmb : m ≤ 1048576) (ht : RowAt w t ts) :
    Calls Trym.prog 17 #[.slice a n cap, .slice t m mcap, .slice none 0 0] w fun e w' => ∃ v, e = .returned v ∧ Owns w' w.heap.size v (Plain.picked (atsOf n M) ts) ∧ Below w.heap.size w w' := by
  have HR : Hid (NodesAt w a n M) := hr
  have HT : Hid (RowAt w t ts) := ht
  have HM : Hid (ts.length = m) := hm
  clear hr ht hm
  obtain ⟨i0, hi, hz0, hz1, hz2⟩ := info_parts Trym.info21
  go_enter Trym.func17, Trym.ntmps17
  go_wp2
  go_loopw [2, 11] (fun v i wr => ∃ k : Nat, k ≤ n ∧ i = .int .i64 k ∧ Hid (Owns wr w.heap.size v (pk n M ts k)) ∧ Hid (Below w.heap.size w wr)) (fun _ i _ => n - (intOf i).toNat)
  case atStart => exact ⟨0, Nat.zero_le _, rfl, by rw [pk_zero]; exact World.ownsRow_nil _ _ _ _, Below.refl _ _⟩
  case round =>
    obtain ⟨k, hk, rfl, HO, HB⟩ := hrel
    by_cases hlt : k < n
    · obtain ⟨b, off, rfl, p, hc1, hc2⟩ := HR.out.at hlt
      have c1 := (HB.out.cell (World.block_lt_of_cell? _ _ hc1)).trans hc1
      have c2 := (HB.out.cell (World.block_lt_of_cell? _ _ hc2)).trans hc2
      clear hc1 hc2
      generalize hpl : (M k).pl = pl at c2
      have HP : Hid ((M k).pl = pl) := hpl
      clear hpl
      have HT' : Hid (RowAt wr t ts) := HT.out.below HB.out
      have hle := pk_le n M ts k
      have hsz : w.heap.size ≤ wr.heap.size := HB.out.size
      by_cases hin : pl ∈ ts
      · have hd : decide (pl ∈ ts) = true := by simpa using hin
        go_wp2_with (first
          | (go_at_call 18; refine (contains_any _ _ _ _ _ _ HM.out hmb HT'.out).mono ?_; rintro e w' ⟨rfl, hw⟩; replace hw := hw.symm; subst hw)
          | (at_builtin; refine wpList_append_own _ rfl _ _ 23 rfl w.heap.size 21 i0 (.int .i32 0) 1 4 Trym.underlying23 hi hz0 hz1 hz2 rfl (by decide) _ _ _ rfl (World.ownsRow.alloc HO.out _) ⟨wr.heap.size, 0, none⟩ 1 1 [.int .i32 pl] rfl rfl ?c1 ?c2 ?c3 ?c4 ?c5 ?_)
          | go_in)
        case c1 =>
          intro j u hj
          match j, hj with
          | 0, hj => simp at hj; subst hj; simp [Addr.add]
        case c2 => intro u hu; simp at hu; subst hu; rfl
        case c3 => unfold maxLen; omega
        case c4 => omega
        case c5 => simp; omega
        · intro v' w1 hown' hgrow _
          have R1 : Hid (Owns w1 w.heap.size v' (pk n M ts (k + 1))) := by
            rw [pk_yes n M ts k hlt HP.out hin]
            show World.ownsRow _ _ _ _ _ _ _
            simpa using hown'
          have R2 : Hid (Below w.heap.size w w1) := (HB.out.alloc hsz _).grown hgrow (by simp; omega) (fun j hj => (HO.out.lt j hj).1)
          clear hown' hgrow HO HB HT' c1 c2
          go_wp2
          go_roundw
          case rel => exact ⟨k + 1, by omega, by go_num, R1, R2⟩
          case measure => simp [intOf]; omega
      · have hd : decide (pl ∈ ts) = false := by simpa using hin
        go_wp2_with (go_at_call 18; refine (contains_any _ _ _ _ _ _ HM.out hmb HT'.out).mono ?_; rintro e w' ⟨rfl, rfl⟩)
        go_roundw
        case rel => exact ⟨k + 1, by omega, by go_num, by rw [pk_no n M ts k hlt HP.out hin]; exact HO.out, HB.out⟩
        case measure => simp [intOf]; omega
    · go_wp2
      go_ret
      exact ⟨_, rfl, by rw [← pk_all n M ts k hlt]; exact HO.out, HB.out⟩

theorem zzarrange_any (a : Option Addr) (n cap : Nat) (M : Nat → Mem) (t : Option Addr) (m mcap : Nat) (ts : List Int) (w : World) (hb : n ≤ 1048576) (hr : NodesAt w a n M) (hm : ts.length = m) (hmb : m ≤ 1048576) (ht : RowAt w t ts) :
    Calls Trym.prog 11 #[.slice a n cap, .slice t m mcap, .slice none 0 0] w fun e w' => ∃ v c, e = .returned (.slice v (Plain.picked (atsOf n M) ts).length c) ∧ RowAt w' v (Plain.picked (atsOf n M) ts) ∧ Below w.heap.size w w' := by
  have H : Hid (Calls Trym.prog 17 #[.slice a n cap, .slice t m mcap, .slice none 0 0] w fun e w' => ∃ v, e = .returned v ∧ Owns w' w.heap.size v (Plain.picked (atsOf n M) ts) ∧ Below w.heap.size w w') := arrange_any a n cap M t m mcap ts w hb hr hm hmb ht
  clear hr ht hm
  generalize Plain.picked (atsOf n M) ts = d at H ⊢
  go_enter Trym.func11, Trym.ntmps11
  go_wp2_with (go_at_call 17; refine H.out.mono ?_; rintro e w' ⟨v, rfl, ho, hbel⟩; obtain ⟨va, vc, rfl, hrow⟩ := ho.shape)
  go_ret
  exact ⟨va, vc, rfl, hrow, hbel⟩
end Go.Proofs.Qxb6602221aMods
