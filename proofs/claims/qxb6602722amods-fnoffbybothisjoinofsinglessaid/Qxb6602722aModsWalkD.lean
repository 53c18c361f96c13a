import Derived.Test.Qxb6602722aModsWalkC
namespace Go.Proofs.Qxb6602722aMods
open Go.RowKit

theorem both_join (f k : ByteArray) : both f k = f ++ ⟨#[32, 97, 110, 100, 32]⟩ ++ prof k := by
  unfold both prof mid pre
  apply ByteArray.ext
  apply Array.toList_inj.1
  simp [ByteArray.data_append]

theorem both_size (f k : ByteArray) : (both f k).size = f.size + 19 + k.size := by
  unfold both mid; simp [ByteArray.size_append]; rfl

theorem prof_size (k : ByteArray) : (prof k).size = 14 + k.size := by
  unfold prof pre; simp [ByteArray.size_append]; rfl

set_option maxRecDepth 100000 in
set_option maxHeartbeats 1000000 in
theorem join_small (f k : ByteArray) (w : World) (hf : f.size ≤ 1048576) (hk : k.size ≤ 1048576) (hs : f.size + k.size ≤ 1048576) :
    Calls Trym.prog 3 #[.string f, .string k] w fun e w' => e = .returned (.bool true) ∧ ∃ q, w' = w.drewN q := by
  have HB : Hid (Calls Trym.prog 5 #[.string f, .string k] w fun e w' => SomeBool e ∧ w' = w) := bytes2 f k w (by unfold maxLen; omega) (by unfold maxLen; omega)
  have HC : Hid (Calls Trym.prog 7 #[.string (both f k), .string f, .string ⟨#[32, 97, 110, 100, 32]⟩, .string (prof k)] w fun e w' => e = .returned (.bool true) ∧ ∃ q, w' = w.drewN q) :=
    concat3 _ _ _ _ w (both_join f k) (by omega) (by decide) (by rw [prof_size]; omega)
  go_enter Trym.func3, Trym.ntmps3
  go_wp2_with (go_at_call 5; refine HB.out.mono ?_; rintro e w' ⟨⟨r, rfl⟩, hw⟩; replace hw := hw.symm; subst hw)
  · go_ret
    exact ⟨rfl, 0, rfl⟩
  refine (zz_both _ _ _ hf hk).mono ?_
  rintro e w1 ⟨rfl, hw⟩
  replace hw := hw.symm
  subst hw
  go_wp2_with fail
  refine (zz_flag _ _ _).mono ?_
  rintro e w1 ⟨rfl, hw⟩
  replace hw := hw.symm
  subst hw
  go_wp2_with fail
  refine (zz_prof _ _ _ _ hk).mono ?_
  rintro e w1 ⟨rfl, hw⟩
  replace hw := hw.symm
  subst hw
  go_wp2_with fail
  refine HC.out.mono ?_
  rintro e w1 ⟨rfl, q, rfl⟩
  go_wp2
  go_ret
  exact ⟨rfl, q, rfl⟩

set_option maxHeartbeats 1000000 in
theorem join_big (f k : ByteArray) (w : World) (hf : f.size ≤ maxLen) (hk : k.size ≤ maxLen) (h : ¬ (f.size ≤ 1048576 ∧ k.size ≤ 1048576 ∧ f.size + k.size ≤ 1048576)) :
    Calls Trym.prog 3 #[.string f, .string k] w fun e w' => e = .returned (.bool true) ∧ ∃ q, w' = w.drewN q := by
  have HB : Hid (Calls Trym.prog 5 #[.string f, .string k] w fun e w' => SomeBool e ∧ w' = w) := bytes2 f k w hf hk
  unfold maxLen at hf hk
  by_cases h1 : f.size ≤ 1048576
  · by_cases h2 : k.size ≤ 1048576
    · have h3 : ¬ f.size + k.size ≤ 1048576 := fun h3 => h ⟨h1, h2, h3⟩
      clear h
      go_enter Trym.func3, Trym.ntmps3
      go_wp2_with (go_at_call 5; refine HB.out.mono ?_; rintro e w' ⟨⟨r, rfl⟩, hw⟩; replace hw := hw.symm; subst hw)
      all_goals (go_ret; exact ⟨rfl, 0, rfl⟩)
    · clear h
      go_enter Trym.func3, Trym.ntmps3
      go_wp2_with (go_at_call 5; refine HB.out.mono ?_; rintro e w' ⟨⟨r, rfl⟩, hw⟩; replace hw := hw.symm; subst hw)
      all_goals (go_ret; exact ⟨rfl, 0, rfl⟩)
  · clear h
    go_enter Trym.func3, Trym.ntmps3
    go_wp2_with (go_at_call 5; refine HB.out.mono ?_; rintro e w' ⟨⟨r, rfl⟩, hw⟩; replace hw := hw.symm; subst hw)
    all_goals (go_ret; exact ⟨rfl, 0, rfl⟩)
end Go.Proofs.Qxb6602722aMods
