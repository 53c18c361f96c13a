import Derived.Test.Qxb6602221aModsLeaf
namespace Go.Proofs.Qxb6602221aMods
open Go.RowKit

/-- A slice of members: of element i the three strings, the key, the zone, the place. -/
structure Mem where
  nm : ByteArray
  rg : ByteArray
  zn : ByteArray
  key : Int
  zid : Int
  pl : Int

def Mem.nil : Mem := ⟨ByteArray.empty, ByteArray.empty, ByteArray.empty, 0, 0, 0⟩

/-- element i of the slice that begins at ⟨b, off⟩. -/
structure MemAt (w : World) (b o : Nat) (m : Mem) : Prop where
  nm : w.cell? ⟨b, o, none⟩ = some (.string m.nm)
  rg : w.cell? ⟨b, o + 1, none⟩ = some (.string m.rg)
  zn : w.cell? ⟨b, o + 2, none⟩ = some (.string m.zn)
  key : w.cell? ⟨b, o + 3, none⟩ = some (.int .u64 m.key)
  zid : w.cell? ⟨b, o + 4, none⟩ = some (.int .i64 m.zid)
  pl : w.cell? ⟨b, o + 5, none⟩ = some (.int .i32 m.pl)

def MsAt (w : World) (a : Option Addr) (n : Nat) (M : Nat → Mem) : Prop :=
  n = 0 ∨ ∃ b off, a = some ⟨b, off, none⟩ ∧ ∀ i, i < n → MemAt w b (off + i * 6) (M i)

theorem MsAt.at {w : World} {a : Option Addr} {n : Nat} {M : Nat → Mem} (h : MsAt w a n M) {k : Nat} (hk : k < n) :
    ∃ b off, a = some ⟨b, off, none⟩ ∧ ∀ i, i < n → MemAt w b (off + i * 6) (M i) := by
  rcases h with rfl | h
  · omega
  · exact h

theorem Trym.cells28 : Trym.prog.cellsOf 28 = 6 := by kernel_rfl

set_option maxHeartbeats 400000 in
theorem indexOf_any (a : Option Addr) (n cap : Nat) (M : Nat → Mem) (v : Int) (w : World) (hb : n ≤ 1048576) (hr : MsAt w a n M) :
    Calls Trym.prog 12 #[.slice a n cap, .int .i32 v] w fun e w' => ∃ r : Int, e = .returned (.int .i64 r) ∧ ((r = -1 ∧ ∀ i, i < n → (M i).pl ≠ v) ∨ ∃ k, k < n ∧ r = (k : Nat) ∧ (M k).pl = v) ∧ w' = w := by
  have HR : Hid (MsAt w a n M) := hr
  clear hr
  go_enter Trym.func12, Trym.ntmps12
  go_wp2
  go_loop [5] (fun i => ∃ k : Nat, k ≤ n ∧ i = .int .i64 k ∧ Hid (∀ i, i < k → (M i).pl ≠ v)) (fun i => n - (intOf i).toNat)
  case atStart => exact ⟨0, Nat.zero_le _, rfl, fun i hi => by omega⟩
  case round =>
    obtain ⟨k, hk, rfl, HNOT⟩ := hrel
    by_cases hlt : k < n
    · obtain ⟨b, off, rfl, hc⟩ := HR.out.at hlt
      have hck := (hc k hlt).pl
      clear hc
      generalize hp : (M k).pl = p at hck
      have HP : Hid ((M k).pl = p) := hp
      clear hp
      go_wp2
      · have he : (p == v) = true := by assumption
        go_ret
        exact ⟨k, rfl, .inr ⟨k, hlt, rfl, HP.out.trans (eq_of_beq he)⟩, rfl⟩
      · have he : (p == v) = false := by assumption
        go_round
        case rel =>
          refine ⟨k + 1, by omega, by go_num, fun i hi => ?_⟩
          by_cases hik : i = k
          · subst hik; rw [HP.out]; simpa using he
          · exact HNOT.out i (by omega)
        case measure => simp [intOf]; omega
    · go_wp2
      go_ret
      exact ⟨-1, rfl, .inl ⟨rfl, fun i hi => HNOT.out i (by omega)⟩, rfl⟩

/-- a bool came back. -/
def SomeBool (e : Ending) : Prop := ∃ r, e = .returned (.bool r)

set_option maxHeartbeats 1000000 in
theorem bytes_any (a : Option Addr) (n cap : Nat) (M : Nat → Mem) (c : Option Addr) (m mcap : Nat) (w : World) (hn : n ≤ maxLen) (hm : m ≤ maxLen) (hr : MsAt w a n M) :
    Calls Trym.prog 5 #[.slice a n cap, .slice c m mcap] w fun e w' => SomeBool e ∧ w' = w := by
  have HR : Hid (MsAt w a n M) := hr
  clear hr
  unfold maxLen at hn hm
  by_cases hb : n ≤ 1048576
  · go_enter Trym.func5, Trym.ntmps5
    go_wp2
    go_loop [5, 6] (fun t i => ∃ (k : Nat) (z : Int), k ≤ n ∧ i = .int .i64 k ∧ t = .int .i64 z ∧ 0 ≤ z ∧ z ≤ 1048576) (fun _ i => n - (intOf i).toNat)
    case atStart => exact ⟨0, n, Nat.zero_le _, rfl, rfl, by omega, by omega⟩
    case round =>
      obtain ⟨k, z, hk, rfl, rfl, hz0, hz1⟩ := hrel
      by_cases hlt : k < n
      · obtain ⟨b, off, rfl, hc⟩ := HR.out.at hlt
        have hc1 := (hc k hlt).nm
        have hc2 := (hc k hlt).rg
        have hc3 := (hc k hlt).zn
        clear hc
        generalize (M k).nm = s1 at hc1
        generalize (M k).rg = s2 at hc2
        generalize (M k).zn = s3 at hc3
        go_wp2
        iterate 6 (go_ret; exact ⟨⟨_, rfl⟩, rfl⟩)
        go_round
        case rel => exact ⟨k + 1, z + s1.size + s2.size + s3.size, by omega, by go_num, rfl, by omega, by assumption⟩
        case measure => simp [intOf]; omega
      · go_wp2
        all_goals (go_ret; exact ⟨⟨_, rfl⟩, rfl⟩)
  · go_enter Trym.func5, Trym.ntmps5
    go_wp2
    go_ret
    exact ⟨⟨_, rfl⟩, rfl⟩

set_option maxHeartbeats 1000000 in
theorem members_any (a : Option Addr) (n cap : Nat) (M : Nat → Mem) (w : World) (hb : n ≤ 1048576) (hr : MsAt w a n M) :
    Calls Trym.prog 6 #[.slice a n cap] w fun e w' => ∃ r : Int, e = .returned (.int .i64 r) ∧ 0 ≤ r ∧ r ≤ 1048577 ∧ Below w.heap.size w w' := by
  have HR : Hid (MsAt w a n M) := hr
  clear hr
  go_enter Trym.func6, Trym.ntmps6
  go_wp2
  go_loopw [3, 4] (fun t i wr => ∃ (k q : Nat) (z : Int), wr = w.drewN q ∧ k ≤ n ∧ i = .int .i64 k ∧ t = .int .i64 z ∧ 0 ≤ z ∧ z ≤ 1048576) (fun _ i _ => n - (intOf i).toNat)
  case atStart => exact ⟨0, 0, 0, rfl, Nat.zero_le _, rfl, rfl, by omega, by omega⟩
  case round =>
    obtain ⟨k, q, z, rfl, hk, rfl, rfl, hz0, hz1⟩ := hrel
    by_cases hlt : k < n
    · obtain ⟨b, off, rfl, hc⟩ := HR.out.at hlt
      have hc1 := (hc k hlt).nm
      have hc2 := (hc k hlt).rg
      have hc3 := (hc k hlt).zn
      clear hc
      generalize (M k).nm = s1 at hc1
      generalize (M k).rg = s2 at hc2
      generalize (M k).zn = s3 at hc3
      by_cases hS : s1.size ≤ 1048576 ∧ s2.size ≤ 1048576 ∧ s3.size ≤ 1048576
      · obtain ⟨hs1, hs2, hs3⟩ := hS
        have hltI : (k : Int) < (n : Int) := by omega
        go_wp2
        go_quiet (fail)
        go_wp2
        · go_ret
          exact ⟨1048577, rfl, by omega, by omega, below_drewN _⟩
        · go_roundw
          case rel => exact ⟨k + 1, q + nq, z + (72 + s1.size + s2.size + s3.size), rfl, by omega, by go_num, rfl, by omega, by assumption⟩
          case measure => simp [intOf]; omega
      · go_wp2
        all_goals first | (go_ret; exact ⟨1048577, rfl, by omega, by omega, below_drewN _⟩) | omega
    · go_wp2
      go_ret
      exact ⟨z, rfl, hz0, by omega, below_drewN _⟩
end Go.Proofs.Qxb6602221aMods
