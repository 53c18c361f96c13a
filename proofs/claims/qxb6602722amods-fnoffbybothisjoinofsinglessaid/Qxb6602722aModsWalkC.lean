import Derived.Test.Qxb6602722aModsWalkA
namespace Go.Proofs.Qxb6602722aMods
open Go.RowKit

theorem byte1 (s a b c : ByteArray) (h : s = a ++ b ++ c) (k : Nat) (hk : k < a.size) (hs : k < s.size) : s[k] = a[k] := by
  subst h
  rw [ByteArray.getElem_append_left (by simp; omega), ByteArray.getElem_append_left hk]

theorem byte2 (s a b c : ByteArray) (h : s = a ++ b ++ c) (k : Nat) (hk : k < b.size) (hs : a.size + k < s.size) : s[a.size + k] = b[k] := by
  subst h
  rw [ByteArray.getElem_append_left (by simp; omega), ByteArray.getElem_append_right (by omega)]
  congr 1
  omega

theorem byte3 (s a b c : ByteArray) (h : s = a ++ b ++ c) (k : Nat) (hk : k < c.size) (hs : a.size + b.size + k < s.size) : s[a.size + b.size + k] = c[k] := by
  subst h
  rw [ByteArray.getElem_append_right (by simp)]
  congr 1
  simp

set_option maxRecDepth 100000 in
set_option maxHeartbeats 2000000 in
theorem concat3 (s a b c : ByteArray) (w : World) (hs : s = a ++ b ++ c) (ha : a.size ≤ 4000000) (hb : b.size ≤ 4000000) (hc : c.size ≤ 4000000) :
    Calls Trym.prog 7 #[.string s, .string a, .string b, .string c] w fun e w' => e = .returned (.bool true) ∧ ∃ q, w' = w.drewN q := by
  have hl : s.size = a.size + b.size + c.size := by rw [hs]; simp
  have hlb : ((s.size : Int) != (a.size : Int) + (b.size : Int) + (c.size : Int)) = false := by rw [hl]; simp
  have HS : Hid (s = a ++ b ++ c) := hs
  have HL : Hid (s.size = a.size + b.size + c.size) := hl
  clear hs
  have hl1 : a.size + b.size + c.size ≤ s.size := by omega
  have hl2 : s.size ≤ 12000000 := by omega
  clear hl
  go_enter Trym.func7, Trym.ntmps7
  go_wp2
  go_loopw [9] (fun i wr => ∃ k q : Nat, wr = w.drewN q ∧ k ≤ a.size ∧ i = .int .i64 k) (fun i _ => a.size - (intOf i).toNat)
  case atStart => exact ⟨0, 0, rfl, Nat.zero_le _, rfl⟩
  case round =>
    obtain ⟨k, q, rfl, hk, rfl⟩ := hrel
    by_cases hlt : k < a.size
    · have hI : (k : Int) < (a.size : Int) := by omega
      have hIs : (k : Int) < (s.size : Int) := by omega
      have hks : k < s.size := by omega
      have hbyte : ((s[k].toNat : Int) != (a[k].toNat : Int)) = false := by rw [byte1 s a b c HS.out k hlt hks]; simp
      go_wp2
      go_quiet (fail)
      go_wp2
      go_roundw
      case rel => exact ⟨k + 1, q + nq, rfl, by omega, by go_num⟩
      case measure => simp [intOf]; omega
    · go_wp2
      clear hlt hk
      go_loopw [11] (fun i wr => ∃ k q : Nat, wr = w.drewN q ∧ k ≤ b.size ∧ i = .int .i64 k) (fun i _ => b.size - (intOf i).toNat)
      case atStart => exact ⟨0, q, rfl, Nat.zero_le _, rfl⟩
      case round =>
        obtain ⟨k, q, rfl, hk, rfl⟩ := hrel
        by_cases hlt : k < b.size
        · have hI : (k : Int) < (b.size : Int) := by omega
          have hI0 : (0 : Int) ≤ (a.size : Int) + (k : Int) := by omega
          have hIs : (a.size : Int) + (k : Int) < (s.size : Int) := by omega
          have hks : a.size + k < s.size := by omega
          have hbyte : ((s[a.size + k].toNat : Int) != (b[k].toNat : Int)) = false := by rw [byte2 s a b c HS.out k hlt hks]; simp
          go_wp2
          go_quiet (fail)
          go_wp2
          go_roundw
          case rel => exact ⟨k + 1, q + nq, rfl, by omega, by go_num⟩
          case measure => simp [intOf]; omega
        · go_wp2
          clear hlt hk
          go_loopw [12] (fun i wr => ∃ k q : Nat, wr = w.drewN q ∧ k ≤ c.size ∧ i = .int .i64 k) (fun i _ => c.size - (intOf i).toNat)
          case atStart => exact ⟨0, q, rfl, Nat.zero_le _, rfl⟩
          case round =>
            obtain ⟨k, q, rfl, hk, rfl⟩ := hrel
            by_cases hlt : k < c.size
            · have hI : (k : Int) < (c.size : Int) := by omega
              have hI0 : (0 : Int) ≤ (a.size : Int) + (b.size : Int) + (k : Int) := by omega
              have hIs : (a.size : Int) + (b.size : Int) + (k : Int) < (s.size : Int) := by omega
              have hks : a.size + b.size + k < s.size := by omega
              have hbyte : ((s[a.size + b.size + k].toNat : Int) != (c[k].toNat : Int)) = false := by rw [byte3 s a b c HS.out k hlt hks]; simp
              go_wp2
              go_quiet (fail)
              go_wp2
              go_roundw
              case rel => exact ⟨k + 1, q + nq, rfl, by omega, by go_num⟩
              case measure => simp [intOf]; omega
            · go_wp2
              go_ret
              exact ⟨rfl, q, rfl⟩
end Go.Proofs.Qxb6602722aMods
