/-
  PLAIN LAWS on lists: no Go in sight.
-/
namespace Go.Proofs.Qxb6602818aMods.Plain

theorem take_snoc {α : Type} (zs : List α) (k : Nat) (d : α) (h : k < zs.length) : zs.take (k + 1) = zs.take k ++ [zs.getD k d] := by
  rw [List.take_succ_eq_append_getElem h]; simp [List.getD, h]

theorem getD_set (zs : List Int) (i j : Nat) (v : Int) (hi : i < zs.length) : (zs.set i v).getD j 0 = if j = i then v else zs.getD j 0 := by
  by_cases h : j = i
  · subst h; simp [List.getD, hi]
  · simp [List.getD, h, Ne.symm h]

theorem fill_set (zs : List Int) (n k : Nat) (hn : zs.length = n) (hk : k < n) : (zs.take k ++ List.replicate (n - k) 0).set k (zs[k]?.getD 0) = zs.take (k + 1) ++ List.replicate (n - (k + 1)) 0 := by
  subst hn
  obtain ⟨m, hm⟩ : ∃ m, zs.length - k = m + 1 := ⟨zs.length - k - 1, by omega⟩
  have e : zs.length - (k + 1) = m := by omega
  have hl : (zs.take k).length = k := by simp; omega
  have hg : zs.getD k 0 = zs[k]?.getD 0 := rfl
  rw [hm, e, take_snoc zs k 0 hk, hg, List.replicate_succ]
  rw [List.set_append_right _ _ (by omega), hl, Nat.sub_self]
  simp

theorem fill_full (zs : List Int) (n k : Nat) (hn : zs.length = n) (hk : ¬ k < n) : zs.take k ++ List.replicate (n - k) 0 = zs := by
  have e : n - k = 0 := by omega
  rw [e, List.take_of_length_le (by omega)]; simp

/-- what 'attributes' answers. -/
def attrs (zs : List Int) : List Int := (zs.filter fun k => decide (1 < k)).map fun k => k - 1

theorem attrs_snoc (zs : List Int) (x : Int) : attrs (zs ++ [x]) = attrs zs ++ if 1 < x then [x - 1] else [] := by
  unfold attrs
  rw [List.filter_append]
  by_cases h : 1 < x <;> simp [h]

theorem attrs_yes (zs : List Int) (k : Nat) (hk : k < zs.length) (h : 1 < zs[k]?.getD 0) : attrs (zs.take (k + 1)) = attrs (zs.take k) ++ [zs[k]?.getD 0 - 1] := by
  rw [take_snoc zs k 0 hk, attrs_snoc]
  have e : zs.getD k 0 = zs[k]?.getD 0 := rfl
  rw [e, if_pos h]

theorem attrs_no (zs : List Int) (k : Nat) (hk : k < zs.length) (h : ¬ 1 < zs[k]?.getD 0) : attrs (zs.take (k + 1)) = attrs (zs.take k) := by
  rw [take_snoc zs k 0 hk, attrs_snoc]
  have e : zs.getD k 0 = zs[k]?.getD 0 := rfl
  rw [e, if_neg h, List.append_nil]

theorem attrs_len (zs : List Int) (k : Nat) : (attrs (zs.take k)).length ≤ k := by
  unfold attrs
  rw [List.length_map]
  exact Nat.le_trans (List.length_filter_le _ _) (List.length_take_le _ _)

theorem attrs_len_all (zs : List Int) : (attrs zs).length ≤ zs.length := by
  unfold attrs
  rw [List.length_map]
  exact List.length_filter_le _ _

theorem attrs_all (zs : List Int) (n k : Nat) (hn : zs.length = n) (hk : ¬ k < n) : attrs (zs.take k) = attrs zs := by
  rw [List.take_of_length_le (by omega)]

/-- each attribute is a place less one: it does not reach the greatest int. -/
theorem attrs_bd {zs : List Int} {B : Int} (hB : ∀ z ∈ zs, z ≤ B) {j : Nat} (hj : j < (attrs zs).length) : 1 ≤ (attrs zs)[j]?.getD 0 ∧ (attrs zs)[j]?.getD 0 + 1 ≤ B := by
  rw [List.getElem?_eq_getElem hj]
  have hm := List.getElem_mem hj
  generalize (attrs zs)[j] = y at hm
  unfold attrs at hm
  obtain ⟨k, hk, rfl⟩ := List.mem_map.1 hm
  rw [List.mem_filter] at hk
  have h1 : 1 < k := by simpa using hk.2
  have h2 := hB k hk.1
  simp
  omega

/-- what is rebuilt: place 1 if the set begins with it, then each attribute and one. -/
def rebuilt (zs : List Int) (k : Nat) : List Int := (if zs[0]?.getD 0 = 1 then [1] else []) ++ ((attrs zs).take k).map fun j => j + 1

theorem rebuilt_succ (zs : List Int) (k : Nat) (hk : k < (attrs zs).length) : rebuilt zs (k + 1) = rebuilt zs k ++ [(attrs zs)[k]?.getD 0 + 1] := by
  unfold rebuilt
  rw [take_snoc (attrs zs) k 0 hk]
  simp [List.getD]

theorem rebuilt_len (zs : List Int) (k : Nat) : (rebuilt zs k).length ≤ k + 1 := by
  unfold rebuilt
  have : ((attrs zs).take k).length ≤ k := List.length_take_le _ _
  rw [List.length_append, List.length_map]
  split <;> simp <;> omega

def Good (zs : List Int) (n : Nat) : Prop := (∀ i, i < n → 1 ≤ zs.getD i 0) ∧ ∀ i, i + 1 < n → zs.getD i 0 < zs.getD (i + 1) 0

theorem good_zero (zs : List Int) : Good zs 0 := ⟨fun i hi => by omega, fun i hi => by omega⟩

theorem good_one (zs : List Int) (h : ¬ zs[0]?.getD 0 < 1) : Good zs 1 := by
  refine ⟨fun i hi => ?_, fun i hi => by omega⟩
  obtain rfl : i = 0 := by omega
  have e : zs.getD 0 0 = zs[0]?.getD 0 := rfl
  omega

theorem good_succ (zs : List Int) (k : Nat) (hg : Good zs (k + 1)) (h1 : ¬ zs[k + 1]?.getD 0 < 1) (h2 : ¬ zs[k + 1]?.getD 0 ≤ zs[k]?.getD 0) : Good zs (k + 2) := by
  have e1 : zs.getD (k + 1) 0 = zs[k + 1]?.getD 0 := rfl
  have e2 : zs.getD k 0 = zs[k]?.getD 0 := rfl
  refine ⟨fun i hi => ?_, fun i hi => ?_⟩
  · by_cases h : i = k + 1
    · subst h; omega
    · exact hg.1 i (by omega)
  · by_cases h : i = k
    · subst h; omega
    · exact hg.2 i (by omega)

theorem good_above (z : Int) (r : List Int) (h : Good (z :: r) (r.length + 1)) : ∀ i, i < r.length → 1 < r.getD i 0 := by
  intro i
  induction i with
  | zero =>
    intro hi
    have h1 := h.1 0 (by omega)
    have h2 := h.2 0 (by omega)
    simp at h1 h2 ⊢
    omega
  | succ i ih =>
    intro hi
    have h1 := ih (by omega)
    have h2 := h.2 (i + 1) (by omega)
    simp at h1 h2 ⊢
    omega

theorem rebuilt_same (zs : List Int) (h : Good zs zs.length) : rebuilt zs (attrs zs).length = zs := by
  unfold rebuilt
  rw [List.take_length]
  have em : (attrs zs).map (fun j => j + 1) = zs.filter fun k => decide (1 < k) := by
    unfold attrs
    rw [List.map_map]
    have e : ((fun j : Int => j + 1) ∘ fun k : Int => k - 1) = id := by
      funext x
      simp
    rw [e, List.map_id]
  rw [em]
  cases zs with
  | nil => simp
  | cons z r =>
    have hr : r.filter (fun k => decide (1 < k)) = r := by
      refine List.filter_eq_self.2 fun x hx => ?_
      obtain ⟨i, hi, rfl⟩ := List.mem_iff_getElem.1 hx
      have := good_above z r h i hi
      simpa [List.getD, hi] using this
    have h1 := h.1 0 (by simp)
    simp at h1
    by_cases hz : z = 1
    · subst hz
      simp [hr]
    · have hz1 : 1 < z := by omega
      simp [hr, hz, hz1]

end Go.Proofs.Qxb6602818aMods.Plain
