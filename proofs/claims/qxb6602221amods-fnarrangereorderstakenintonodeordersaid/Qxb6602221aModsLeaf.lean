import Derived.Test.Qxb6602221aModsRows
import Derived.Test.Qxb6602221aModsPlain
import Derived.WalkKit
import Derived.WalkSpells
import Derived.WalkLawsBesides
import Derived.Deep.QuietTactic
import Derived.BigQuiet
namespace Go.Proofs.Qxb6602221aMods
open Go.RowKit

/-- A slice of int32 reads as 'zs' in the world w. -/
def RowAt (w : World) (a : Option Addr) (zs : List Int) : Prop :=
  zs = [] ∨ ∃ b off, a = some ⟨b, off, none⟩ ∧ ∀ i, i < zs.length → w.cell? ⟨b, off + i, none⟩ = some (.int .i32 (zs.getD i 0))

theorem RowAt.at {w : World} {a : Option Addr} {zs : List Int} {n : Nat} (h : RowAt w a zs) (hn : zs.length = n) {k : Nat} (hk : k < n) :
    ∃ b off, a = some ⟨b, off, none⟩ ∧ ∀ i, i < n → w.cell? ⟨b, off + i, none⟩ = some (.int .i32 (zs.getD i 0)) := by
  subst hn
  rcases h with rfl | h
  · simp at hk
  · exact h

theorem RowAt.below {w w' : World} {a : Option Addr} {zs : List Int} (h : RowAt w a zs) (hb : Below w.heap.size w w') : RowAt w' a zs := by
  rcases h with rfl | ⟨b, off, rfl, hc⟩
  · exact .inl rfl
  · exact .inr ⟨b, off, rfl, fun i hi => (hb.cell (World.block_lt_of_cell? _ _ (hc i hi))).trans (hc i hi)⟩

theorem below_drewN {w : World} (n : Nat) : Below w.heap.size w (w.drewN n) := by
  exact ⟨rfl, rfl, rfl, Nat.le_refl _, fun _ _ => rfl⟩

theorem below_drewN2 {w : World} (n m : Nat) : Below w.heap.size w ((w.drewN n).drewN m) := by
  exact ⟨rfl, rfl, rfl, Nat.le_refl _, fun _ _ => rfl⟩

theorem ret_int {k : IntKind} {a b : Int} (h : a = b) : Ending.returned (.int k a) = .returned (.int k b) := by rw [h]

set_option maxHeartbeats 400000 in
theorem index_any (a : Option Addr) (n cap : Nat) (zs : List Int) (v : Int) (w : World) (hn : zs.length = n) (hb : n ≤ 1048576) (hr : RowAt w a zs) :
    Calls Trym.prog 19 #[.slice a n cap, .int .i32 v] w fun e w' => ∃ r : Int, e = .returned (.int .i64 r) ∧ (0 ≤ r ↔ v ∈ zs) ∧ w' = w := by
  have HN : Hid (zs.length = n) := hn
  clear hn
  have HR : Hid (RowAt w a zs) := hr
  clear hr
  go_enter Trym.func19, Trym.ntmps19
  go_wp2
  go_loop [8] (fun i => ∃ k : Nat, k ≤ n ∧ i = .int .i64 k ∧ ¬ v ∈ zs.take k) (fun i => n - (intOf i).toNat)
  case atStart => exact ⟨0, Nat.zero_le _, rfl, by simp⟩
  case round =>
    obtain ⟨k, hk, rfl, hnot⟩ := hrel
    have HNOT : Hid (¬ v ∈ zs.take k) := hnot
    clear hnot
    by_cases hlt : k < n
    · obtain ⟨b, off, rfl, hc⟩ := HR.out.at HN.out hlt
      have hck := hc k hlt
      clear hc
      go_wp2
      · have he : (v == zs[k]?.getD 0) = true := by assumption
        go_ret
        refine ⟨k, rfl, ⟨fun _ => ?_, fun _ => by omega⟩, rfl⟩
        rw [eq_of_beq he]
        exact Plain.getD_of_lt zs k (by rw [HN.out]; exact hlt)
      · have he : (v == zs[k]?.getD 0) = false := by assumption
        go_round
        case rel => exact ⟨k + 1, by omega, by go_num, Plain.not_mem_take_succ zs v k (by rw [HN.out]; exact hlt) HNOT.out he⟩
        case measure => simp [intOf]; omega
    · go_wp2
      go_ret
      exact ⟨-1, rfl, ⟨fun h => by omega, fun h => absurd h (Plain.not_mem_of_take zs v k n HN.out hlt HNOT.out)⟩, rfl⟩

theorem contains_any (a : Option Addr) (n cap : Nat) (zs : List Int) (v : Int) (w : World) (hn : zs.length = n) (hb : n ≤ 1048576) (hr : RowAt w a zs) :
    Calls Trym.prog 18 #[.slice a n cap, .int .i32 v] w fun e w' => e = .returned (.bool (decide (v ∈ zs))) ∧ w' = w := by
  have H := fun w h => index_any a n cap zs v w hn hb h
  have H' : Hid (∀ w, RowAt w a zs → Calls Trym.prog 19 #[.slice a n cap, .int .i32 v] w fun e w' => ∃ r : Int, e = .returned (.int .i64 r) ∧ (0 ≤ r ↔ v ∈ zs) ∧ w' = w) := H
  have HR : Hid (RowAt w a zs) := hr
  clear H hr hn
  by_cases hv : v ∈ zs
  · have hd : decide (v ∈ zs) = true := by simpa using hv
    rw [hd]
    clear hd
    go_enter Trym.func18, Trym.ntmps18
    go_wp2_with (go_at_call 19; refine (H'.out _ HR.out).mono ?_; rintro e w' ⟨r, rfl, h, rfl⟩; have h0 : 0 ≤ r := h.2 hv; clear h)
    go_ret
    exact ⟨rfl, rfl⟩
  · have hd : decide (v ∈ zs) = false := by simpa using hv
    rw [hd]
    clear hd
    go_enter Trym.func18, Trym.ntmps18
    go_wp2_with (go_at_call 19; refine (H'.out _ HR.out).mono ?_; rintro e w' ⟨r, rfl, h, rfl⟩; have h0 : decide (0 ≤ r) = false := decide_eq_false (fun x => hv (h.1 x)); clear h)
    go_ret
    exact ⟨rfl, rfl⟩

set_option maxHeartbeats 400000 in
theorem distinct_any (a : Option Addr) (n cap : Nat) (zs : List Int) (w : World) (hn : zs.length = n) (hb : n ≤ 1048576) (hr : RowAt w a zs) :
    Calls Trym.prog 8 #[.slice a n cap] w fun e w' => ∃ r, e = .returned (.bool r) ∧ (r = true → ∀ i, i + 1 < n → zs.getD i 0 ≠ zs.getD (i + 1) 0) ∧ Below w.heap.size w w' := by
  have HN : Hid (zs.length = n) := hn
  clear hn
  have HR : Hid (RowAt w a zs) := hr
  clear hr
  go_enter Trym.func8, Trym.ntmps8
  go_wp2
  go_loopw [3] (fun i wr => ∃ k q : Nat, wr = w.drewN q ∧ 1 ≤ k ∧ (k = 1 ∨ k ≤ n) ∧ i = .int .i64 k ∧ ∀ i, i + 1 < k → zs.getD i 0 ≠ zs.getD (i + 1) 0) (fun i _ => n - (intOf i).toNat)
  case atStart => exact ⟨1, 0, rfl, Nat.le_refl _, .inl rfl, rfl, fun i hi => by omega⟩
  case round =>
    obtain ⟨k, q, rfl, hk1, hk, rfl, hnot⟩ := hrel
    have HNOT : Hid (∀ i, i + 1 < k → zs.getD i 0 ≠ zs.getD (i + 1) 0) := hnot
    clear hnot
    by_cases hlt : k < n
    · obtain ⟨b, off, rfl, hc⟩ := HR.out.at HN.out hlt
      obtain ⟨j, rfl⟩ : ∃ j, k = j + 1 := ⟨k - 1, by omega⟩
      have hck := hc (j + 1) hlt
      have hcj := hc j (by omega)
      clear hc hk
      go_wp2
      go_quiet (fail)
      go_wp2
      · go_ret
        exact ⟨false, rfl, fun h => by simp at h, below_drewN2 _ _⟩
      · have he : (zs[j]?.getD 0 == zs[j + 1]?.getD 0) = false := by assumption
        go_roundw
        case rel => exact ⟨j + 2, q + nq, rfl, by omega, .inr (by omega), by go_num, Plain.adj_succ HNOT.out he⟩
        case measure => simp [intOf]; omega
    · go_wp2
      go_ret
      exact ⟨true, rfl, fun _ i hi => HNOT.out i (by omega), below_drewN _⟩

set_option maxHeartbeats 400000 in
theorem inSorted_any (a : Option Addr) (n cap : Nat) (zs : List Int) (x : Int) (w : World) (hn : zs.length = n) (hb : n ≤ 1048576) (hr : RowAt w a zs) (hs : Plain.Sorted zs) :
    Calls Trym.prog 9 #[.slice a n cap, .int .i32 x] w fun e w' => e = .returned (.bool (decide (x ∈ zs))) ∧ w' = w := by
  have HN : Hid (zs.length = n) := hn
  clear hn
  have HR : Hid (RowAt w a zs) := hr
  clear hr
  have HS : Hid (Plain.Sorted zs) := hs
  clear hs
  go_enter Trym.func9, Trym.ntmps9
  go_wp2
  go_loop [5, 6] (fun lo hi => ∃ l h : Nat, l ≤ h ∧ h ≤ n ∧ lo = .int .i64 l ∧ hi = .int .i64 h ∧ Hid (∀ i, i < l → zs.getD i 0 < x) ∧ Hid (∀ i, h ≤ i → i < zs.length → x ≤ zs.getD i 0))
    (fun lo hi => (intOf hi).toNat - (intOf lo).toNat)
  case atStart => exact ⟨0, n, Nat.zero_le _, Nat.le_refl _, rfl, rfl, fun i hi => by omega, fun i h1 h2 => by have := HN.out; omega⟩
  case round =>
    obtain ⟨l, h, hlh, hh, rfl, rfl, hlo, hhi⟩ := hrel
    by_cases hlt : l < h
    · have hm : l + (h - l) / 2 < n := by omega
      obtain ⟨b, off, rfl, hc⟩ := HR.out.at HN.out hm
      have hck := hc (l + (h - l) / 2) hm
      clear hc
      go_wp2
      · have hq : zs[l + (h - l) / 2]?.getD 0 < x := by assumption
        go_round
        case rel => exact ⟨l + (h - l) / 2 + 1, h, by omega, hh, by go_num, rfl, Plain.bis_up HS.out (by rw [HN.out]; exact hm) hq, hhi⟩
        case measure => simp only [intOf]; omega
      · have hq : x ≤ zs[l + (h - l) / 2]?.getD 0 := by assumption
        go_round
        case rel => exact ⟨l, l + (h - l) / 2, by omega, by omega, rfl, by go_num, hlo, Plain.bis_down HS.out hq⟩
        case measure => simp only [intOf]; omega
    · obtain rfl : l = h := by omega
      clear hlh
      by_cases hl : l < n
      · obtain ⟨b, off, rfl, hc⟩ := HR.out.at HN.out hl
        have hck := hc l hl
        clear hc
        have HL : Hid (l < zs.length) := by rw [HN.out]; exact hl
        go_wp2
        go_ret
        exact ⟨congrArg (fun b => Ending.returned (.bool b)) (Plain.bis_end HS.out hlo.out hhi.out HL.out).symm, rfl⟩
      · have HL : Hid (¬ l < zs.length) := by rw [HN.out]; exact hl
        go_wp2
        go_ret
        exact ⟨congrArg (fun b => Ending.returned (.bool b)) (Plain.bis_not HS.out hlo.out hhi.out (fun h => absurd h HL.out)).symm, rfl⟩
end Go.Proofs.Qxb6602221aMods
