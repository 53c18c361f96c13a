/-
  PLAIN LAWS on lists: no Go in sight.
-/
namespace Go.Proofs.Qxb6602221aMods.Plain

theorem take_snoc {α : Type} (zs : List α) (k : Nat) (d : α) (h : k < zs.length) : zs.take (k + 1) = zs.take k ++ [zs.getD k d] := by
  rw [List.take_succ_eq_append_getElem h]; simp [List.getD, h]

theorem getD_of_lt (zs : List Int) (k : Nat) (h : k < zs.length) : zs[k]?.getD 0 ∈ zs := by
  rw [List.getElem?_eq_getElem h]; exact List.getElem_mem h

theorem not_mem_take_succ (zs : List Int) (v : Int) (k : Nat) (hk : k < zs.length) (h : ¬ v ∈ zs.take k) (he : (v == zs[k]?.getD 0) = false) : ¬ v ∈ zs.take (k + 1) := by
  rw [take_snoc zs k 0 hk]
  simp at he ⊢
  exact ⟨by simpa using h, he⟩

theorem not_mem_of_take (zs : List Int) (v : Int) (k n : Nat) (hn : zs.length = n) (hk : ¬ k < n) (h : ¬ v ∈ zs.take k) : ¬ v ∈ zs := by
  rwa [List.take_of_length_le (by omega)] at h

/-! ### sorted lists -/
def Sorted (zs : List Int) : Prop := zs.Pairwise (· ≤ ·)

theorem Sorted.le {zs : List Int} (h : Sorted zs) {i j : Nat} (hij : i ≤ j) (hj : j < zs.length) : zs.getD i 0 ≤ zs.getD j 0 := by
  rcases Nat.lt_or_eq_of_le hij with hlt | rfl
  · have := List.pairwise_iff_getElem.1 h i j (by omega) hj hlt
    simpa [List.getD, show i < zs.length by omega, hj] using this
  · exact Int.le_refl _

theorem nodup_of_adjacent {zs : List Int} (h : Sorted zs) (hd : ∀ i, i + 1 < zs.length → zs.getD i 0 ≠ zs.getD (i + 1) 0) : zs.Nodup := by
  refine List.pairwise_iff_getElem.2 fun i j hi hj hij he => ?_
  have h1 := hd i (by omega)
  have h2 := h.le (i := i) (j := i + 1) (by omega) (by omega)
  have h3 := h.le (i := i + 1) (j := j) (by omega) hj
  have e1 : zs.getD i 0 = zs[i] := by simp [List.getD, hi]
  have e2 : zs.getD j 0 = zs[j] := by simp [List.getD, hj]
  omega

theorem adj_succ {zs : List Int} {j : Nat} (h : ∀ i, i + 1 < j + 1 → zs.getD i 0 ≠ zs.getD (i + 1) 0) (he : (zs[j]?.getD 0 == zs[j + 1]?.getD 0) = false) : ∀ i, i + 1 < j + 2 → zs.getD i 0 ≠ zs.getD (i + 1) 0 := by
  intro i hi
  by_cases hij : i = j
  · subst hij; simpa [List.getD] using he
  · exact h i (by omega)

/-- the binary search's end: found. -/
theorem bis_found {zs : List Int} {x : Int} {l : Nat} (hl : l < zs.length) (he : (zs[l]?.getD 0 == x) = true) : decide (x ∈ zs) = true := by
  have := getD_of_lt zs l hl
  rw [eq_of_beq he] at this
  simpa using this

/-- the binary search's end: not found. -/
theorem bis_not {zs : List Int} {x : Int} {l : Nat} (hs : Sorted zs) (hlo : ∀ i, i < l → zs.getD i 0 < x) (hhi : ∀ i, l ≤ i → i < zs.length → x ≤ zs.getD i 0)
    (hne : l < zs.length → (zs[l]?.getD 0 == x) = false) : decide (x ∈ zs) = false := by
  have hx : ¬ x ∈ zs := by
    intro hx
    obtain ⟨i, hi, rfl⟩ := List.mem_iff_getElem.1 hx
    have e1 : zs.getD i 0 = zs[i] := by simp [List.getD, hi]
    by_cases hil : i < l
    · have := hlo i hil; omega
    · have hl : l < zs.length := by omega
      have h1 := hs.le (i := l) (j := i) (by omega) hi
      have h2 := hhi l (Nat.le_refl _) hl
      have h3 := hne hl
      have e2 : zs.getD l 0 = zs[l]?.getD 0 := rfl
      have h4 : zs[l]?.getD 0 ≠ zs[i] := by simpa using h3
      omega
  simpa using hx

theorem bis_end {zs : List Int} {x : Int} {l : Nat} (hs : Sorted zs) (hlo : ∀ i, i < l → zs.getD i 0 < x) (hhi : ∀ i, l ≤ i → i < zs.length → x ≤ zs.getD i 0)
    (hl : l < zs.length) : decide (x ∈ zs) = (zs[l]?.getD 0 == x) := by
  cases h : (zs[l]?.getD 0 == x) with
  | true => exact bis_found hl h
  | false => exact bis_not hs hlo hhi fun _ => h

theorem bis_up {zs : List Int} {x : Int} {m : Nat} (hs : Sorted zs) (hm : m < zs.length) (hq : zs[m]?.getD 0 < x) : ∀ i, i < m + 1 → zs.getD i 0 < x := by
  intro i hi
  have := hs.le (i := i) (j := m) (by omega) hm
  have e2 : zs.getD m 0 = zs[m]?.getD 0 := rfl
  omega

theorem bis_down {zs : List Int} {x : Int} {m : Nat} (hs : Sorted zs) (hq : x ≤ zs[m]?.getD 0) : ∀ i, m ≤ i → i < zs.length → x ≤ zs.getD i 0 := by
  intro i hi hl
  have := hs.le (i := m) (j := i) hi hl
  have e2 : zs.getD m 0 = zs[m]?.getD 0 := rfl
  omega

/-! ### insertion -/
theorem getD_set (zs : List Int) (i j : Nat) (v : Int) (hi : i < zs.length) : (zs.set i v).getD j 0 = if j = i then v else zs.getD j 0 := by
  by_cases h : j = i
  · subst h; simp [List.getD, hi]
  · simp [List.getD, h, Ne.symm h]

theorem fill_set (zs : List Int) (n k : Nat) (hn : zs.length = n) (hk : k < n) : (zs.take k ++ List.replicate (n - k) 0).set k (zs[k]?.getD 0) = zs.take (k + 1) ++ List.replicate (n - (k + 1)) 0 := by
  subst hn
  obtain ⟨m, hm⟩ : ∃ m, zs.length - k = m + 1 := ⟨zs.length - k - 1, by omega⟩
  have e : zs.length - (k + 1) = m := by omega
  have hl : (zs.take k).length = k := by simp; omega
  have hg : zs.getD k 0 = zs[k]?.getD 0 := rfl
  rw [hm, e, take_snoc zs k 0 hk, hg, List.replicate_succ]
  rw [List.set_append_right _ _ (by omega), hl, Nat.sub_self]
  simp

theorem fill_full (zs : List Int) (n k : Nat) (hn : zs.length = n) (hk : ¬ k < n) : zs.take k ++ List.replicate (n - k) 0 = zs := by
  have e : n - k = 0 := by omega
  rw [e, List.take_of_length_le (by omega)]; simp

theorem sorted_take_one (zs : List Int) : Sorted (zs.take 1) := by
  cases zs with
  | nil => exact List.Pairwise.nil
  | cons x r => simp [Sorted]

/-- The inner loop's state: 'd' holds 'A', a hole at 'j', 'B', 'R'; 'A ++ B' is the sorted head; all of B is above x. -/
def Ins (zs : List Int) (x : Int) (i j : Nat) (d : List Int) : Prop :=
  ∃ A y B R, d = A ++ y :: (B ++ R) ∧ A.length = j ∧ A.length + B.length = i ∧ Sorted (A ++ B) ∧ (∀ b ∈ B, x < b) ∧ (A ++ x :: (B ++ R)).Perm zs

theorem Ins.start {zs d : List Int} {i : Nat} (hi : i < d.length) (hs : Sorted (d.take i)) (hp : d.Perm zs) : Ins zs (d.getD i 0) i i d := by
  have hd : d = d.take i ++ d.getD i 0 :: d.drop (i + 1) := by
    have : d.getD i 0 = d[i] := by simp [List.getD, hi]
    rw [this, List.getElem_cons_drop, List.take_append_drop]
  refine ⟨d.take i, d.getD i 0, [], d.drop (i + 1), ?_, by simp; omega, by simp; omega, by simpa using hs, by simp, ?_⟩
  · simpa using hd
  · rw [List.nil_append, ← hd]; exact hp

theorem Ins.length {zs d : List Int} {x : Int} {i j : Nat} (h : Ins zs x i j d) : d.length = zs.length ∧ j ≤ i ∧ i < d.length := by
  obtain ⟨A, y, B, R, rfl, h1, h2, _, _, hp⟩ := h
  have := hp.length_eq
  simp at this ⊢
  omega

theorem Ins.step {zs d : List Int} {x : Int} {i j : Nat} (h : Ins zs x i (j + 1) d) (hx : x < d[j]?.getD 0) : Ins zs x i j (d.set (j + 1) (d[j]?.getD 0)) := by
  obtain ⟨A, y, B, R, rfl, h1, h2, hs, hb, hp⟩ := h
  obtain ⟨A', z, rfl⟩ : ∃ A' z, A = A' ++ [z] := by
    rcases List.eq_nil_or_concat A with rfl | ⟨A', z, rfl⟩
    · simp at h1
    · exact ⟨A', z, List.concat_eq_append⟩
  simp at h1
  have hz : ((A' ++ [z]) ++ y :: (B ++ R))[j]?.getD 0 = z := by simp [← h1]
  rw [hz] at hx ⊢
  refine ⟨A', z, z :: B, R, ?_, h1, by simp at h2 ⊢; omega, by simpa using hs, ?_, ?_⟩
  · rw [← h1]; simp
  · intro b hb'
    rcases List.mem_cons.1 hb' with rfl | hb'
    · exact hx
    · exact hb b hb'
  · refine List.Perm.trans ?_ hp
    simp only [List.append_assoc, List.cons_append, List.nil_append]
    exact List.Perm.append_left _ (List.Perm.swap _ _ _)

theorem Ins.finish {zs d : List Int} {x : Int} {i j : Nat} (h : Ins zs x i j d) (hx : j = 0 ∨ ∃ k, j = k + 1 ∧ d[k]?.getD 0 ≤ x) : (d.set j x).Perm zs ∧ Sorted ((d.set j x).take (i + 1)) := by
  obtain ⟨A, y, B, R, rfl, h1, h2, hs, hb, hp⟩ := h
  have hset : (A ++ y :: (B ++ R)).set j x = A ++ x :: (B ++ R) := by rw [← h1]; simp
  rw [hset]
  refine ⟨hp, ?_⟩
  have ht : (A ++ x :: (B ++ R)).take (i + 1) = A ++ x :: B := by
    rw [← h2]
    have : A ++ x :: (B ++ R) = (A ++ x :: B) ++ R := by simp
    rw [this, List.take_left' (by simp; omega)]
  rw [ht]
  unfold Sorted at hs ⊢
  rw [List.pairwise_append] at hs ⊢
  refine ⟨hs.1, List.pairwise_cons.2 ⟨fun b hb' => Int.le_of_lt (hb b hb'), hs.2.1⟩, ?_⟩
  intro a ha b hb'
  have hax : a ≤ x := by
    rcases hx with rfl | ⟨k, rfl, hk⟩
    · have : A = [] := by simpa using h1
      subst this; simp at ha
    · obtain ⟨A', z, rfl⟩ : ∃ A' z, A = A' ++ [z] := by
        rcases List.eq_nil_or_concat A with rfl | ⟨A', z, rfl⟩
        · simp at h1
        · exact ⟨A', z, List.concat_eq_append⟩
      simp at h1
      have hz : ((A' ++ [z]) ++ y :: (B ++ R))[k]?.getD 0 = z := by simp [← h1]
      rw [hz] at hk
      rcases List.mem_append.1 ha with ha | ha
      · have := (List.pairwise_append.1 hs.1).2.2 a ha z (by simp); omega
      · simp at ha; omega
  rcases List.mem_cons.1 hb' with rfl | hb'
  · exact hax
  · have := hb b hb'; omega

/-! ### the law -/
def Before (ats : List Int) (x y : Int) : Prop := ∀ p q, p < ats.length → q < ats.length → ats.getD p 0 = x → ats.getD q 0 = y → p < q

theorem pos_unique {ats : List Int} (h : ats.Nodup) {p q : Nat} (hp : p < ats.length) (hq : q < ats.length) (he : ats.getD p 0 = ats.getD q 0) : p = q := by
  have e1 : ats.getD p 0 = ats[p] := by simp [List.getD, hp]
  have e2 : ats.getD q 0 = ats[q] := by simp [List.getD, hq]
  rw [e1, e2] at he
  exact List.getElem_inj h |>.1 he

theorem before_self {ats : List Int} (h : ats.Nodup) : ats.Pairwise (Before ats) := by
  refine List.pairwise_iff_getElem.2 fun i j hi hj hij p q hp hq ep eq => ?_
  have e1 : ats.getD i 0 = ats[i] := by simp [List.getD, hi]
  have e2 : ats.getD j 0 = ats[j] := by simp [List.getD, hj]
  have := pos_unique h hp hi (by rw [ep, e1])
  have := pos_unique h hq hj (by rw [eq, e2])
  omega

def picked (ats ts : List Int) : List Int := ats.filter fun x => decide (x ∈ ts)

theorem picked_snoc (ats ts : List Int) (x : Int) : picked (ats ++ [x]) ts = picked ats ts ++ if x ∈ ts then [x] else [] := by
  unfold picked
  rw [List.filter_append]
  by_cases h : x ∈ ts <;> simp [h]

theorem picked_take (ats ts : List Int) (k : Nat) (hk : k < ats.length) : picked (ats.take (k + 1)) ts = picked (ats.take k) ts ++ if ats.getD k 0 ∈ ts then [ats.getD k 0] else [] := by
  rw [take_snoc ats k 0 hk, picked_snoc]

theorem picked_len (ats ts : List Int) (k : Nat) : (picked (ats.take k) ts).length ≤ k := by
  unfold picked
  exact Nat.le_trans (List.length_filter_le _ _) (List.length_take_le _ _)

theorem picked_length {ats ts : List Int} (ha : ats.Nodup) (ht : ts.Nodup) (hm : ∀ t ∈ ts, t ∈ ats) : (picked ats ts).length = ts.length := by
  refine List.Perm.length_eq ?_
  refine (List.perm_ext_iff_of_nodup (ha.filter _) ht).2 fun x => ?_
  simp
  exact fun h => hm x h

theorem picked_mem {ats ts : List Int} {i : Nat} (hi : i < (picked ats ts).length) : (picked ats ts).getD i 0 ∈ ts ∧ (picked ats ts).getD i 0 ∈ ats := by
  have h := getD_of_lt (picked ats ts) i hi
  have h' : (picked ats ts).getD i 0 ∈ picked ats ts := h
  generalize (picked ats ts).getD i 0 = y at h' ⊢
  unfold picked at h'
  rw [List.mem_filter] at h'
  exact ⟨by simpa using h'.2, h'.1⟩

theorem picked_before {ats ts : List Int} (ha : ats.Nodup) {i : Nat} (hi : i + 1 < (picked ats ts).length) {p q : Nat} (hp : p < ats.length) (hq : q < ats.length)
    (ep : ats.getD p 0 = (picked ats ts).getD i 0) (eq : ats.getD q 0 = (picked ats ts).getD (i + 1) 0) : p < q := by
  have h := (before_self ha).filter (fun x => decide (x ∈ ts))
  have := List.pairwise_iff_getElem.1 h i (i + 1) (by unfold picked at hi; omega) (by unfold picked at hi; omega) (by omega)
  refine this p q hp hq ?_ ?_
  · rw [ep]; unfold picked at hi ⊢; simp [List.getD, show i < (List.filter (fun x => decide (x ∈ ts)) ats).length by omega]
  · rw [eq]; unfold picked at hi ⊢; simp [List.getD, hi]

end Go.Proofs.Qxb6602221aMods.Plain
