import Derived.Test.Qxb6602221aModsMems
import Derived.Test.Qxb6602221aModsSort
import Derived.Deep.RegionHeld3
namespace Go.Proofs.Qxb6602221aMods
open Go.RowKit

theorem Trym.info40 : (Trym.prog.info? 40).map (fun i => (i.zero, i.size, i.bytes)) = some (some (.pointer none), 1, 8) := by kernel_rfl

set_option maxHeartbeats 400000 in
theorem newMember_any (s1 s2 s3 : ByteArray) (key zid pl : Int) (w : World) :
    Calls Trym.prog 16 #[.agg #[.string s1, .string s2, .string s3], .int .u64 key, .int .i64 zid, .int .i32 pl] w fun e w' => e = .returned (.pointer (some ⟨w.heap.size + 1, 0, none⟩)) ∧
      w' = (w.alloc (.cells #[.string s1, .string s2, .string s3] 39)).alloc (.cells #[.string s1, .string s2, .string s3, .int .u64 key, .int .i64 zid, .int .i32 pl] 43) := by
  go_enter Trym.func16, Trym.ntmps16
  go_wp2
  go_ret
  exact ⟨rfl, rfl⟩

/-- The members that were built: pointers, each to a block whose sixth cell is the place. -/
def NodesAt (w : World) (a : Option Addr) (n : Nat) (M : Nat → Mem) : Prop :=
  n = 0 ∨ ∃ b off, a = some ⟨b, off, none⟩ ∧ ∀ i, i < n → ∃ p, w.cell? ⟨b, off + i, none⟩ = some (.pointer (some ⟨p, 0, none⟩)) ∧ w.cell? ⟨p, 5, none⟩ = some (.int .i32 (M i).pl)

/-- Half built: block N is a row of n pointers; the first k lead to their members. -/
def Half (w : World) (N n k : Nat) (M : Nat → Mem) : Prop :=
  ∃ f, w.rowIs N 40 n f ∧ ∀ i, i < k → ∃ p, f i = .pointer (some ⟨p, 0, none⟩) ∧ N < p ∧ w.cell? ⟨p, 5, none⟩ = some (.int .i32 (M i).pl)

theorem cell_alloc3 {w : World} {a : Addr} {v : Value} (o1 o2 o3 : Obj) (h : w.cell? a = some v) : (((w.alloc o1).alloc o2).alloc o3).cell? a = some v :=
  Lib.cell?_alloc_some o3 (Lib.cell?_alloc_some o2 (Lib.cell?_alloc_some o1 h))

theorem half_step {wr : World} {N n k : Nat} {M : Nat → Mem} {f : Nat → Value} (hrow : wr.rowIs N 40 n f)
    (hold : ∀ i, i < k → ∃ p, f i = .pointer (some ⟨p, 0, none⟩) ∧ N < p ∧ wr.cell? ⟨p, 5, none⟩ = some (.int .i32 (M i).pl)) (o1 o2 : Obj) (v0 v1 v2 v3 v4 : Value) (t : TypeId) (pl : Int) (hp : (M k).pl = pl) :
    Half ((((wr.alloc o1).alloc o2).alloc (.cells #[v0, v1, v2, v3, v4, .int .i32 pl] t)).setCell ⟨N, k, none⟩ (.pointer (some ⟨wr.heap.size + 1 + 1, 0, none⟩))).drew.drew N n (k + 1) M := by
  refine ⟨_, ((((hrow.alloc o1).alloc o2).alloc _).set k (.pointer (some ⟨wr.heap.size + 1 + 1, 0, none⟩))).drew.drew, fun i hi => ?_⟩
  have hlt := hrow.lt
  by_cases hik : i = k
  · subst hik
    refine ⟨wr.heap.size + 1 + 1, by simp, by omega, ?_⟩
    rw [World.cell?_drew, World.cell?_drew, World.cell?_setCell_far _ _ _ _ (by simp; omega), World.cell?_alloc_at _ _ _ _ (by simp), hp]
    rfl
  · obtain ⟨p, h1, h2, h3⟩ := hold i (by omega)
    refine ⟨p, by simp [hik, h1], h2, ?_⟩
    rw [World.cell?_drew, World.cell?_drew, World.cell?_setCell_far _ _ _ _ (by simp; omega)]
    exact cell_alloc3 _ _ _ h3

theorem Half.done {w : World} {N n k : Nat} {M : Nat → Mem} (h : Half w N n k M) (hk : ¬ k < n) : NodesAt w (some ⟨N, 0, none⟩) n M := by
  obtain ⟨f, hrow, hold⟩ := h
  refine .inr ⟨N, 0, rfl, fun i hi => ?_⟩
  obtain ⟨p, h1, h2, h3⟩ := hold i (by omega)
  exact ⟨p, by rw [Nat.zero_add, hrow.cell hi, h1], h3⟩

set_option maxHeartbeats 2000000 in
theorem build_any (x : Addr) (n cap : Nat) (M : Nat → Mem) (w : World) (hb : n ≤ 1048576) (hr : MsAt w (some x) n M) :
    Calls Trym.prog 10 #[.slice (some x) n cap] w fun e w' => ∃ c a, e = .returned (.slice a n c) ∧ NodesAt w' a n M ∧ Below w.heap.size w w' := by
  have HR : Hid (MsAt w (some x) n M) := hr
  clear hr
  have hmk := run_make_row' (P := Trym.prog) 32 40 (.pointer none) 8 Trym.underlying32 Trym.info40 rfl .i64 .i64 n (by omega) (by omega)
  have HO : Hid (Half (w.alloc (.cells (madeCells #[.pointer none] n) 40)) w.heap.size n 0 M) := ⟨_, World.rowIs_made w (.pointer none) n 40, fun i hi => by omega⟩
  have HB : Hid (Below w.heap.size w (w.alloc (.cells (madeCells #[.pointer none] n) 40))) := (Below.refl _ _).alloc (Nat.le_refl _) _
  have hq : ∀ w : World, (binOp .eql 22 (.slice (some x) n cap) (.slice none 0 0)).run Trym.prog w = .ok (.bool false) w := fun w => Lib.run_eql_slice_nil w _ _ _ _ _ _ _ Trym.underlying22
  go_enter Trym.func10, Trym.ntmps10
  go_wp2
  go_loopw [4] (fun i wr => ∃ k : Nat, k ≤ n ∧ i = .int .i64 k ∧ Hid (Half wr w.heap.size n k M) ∧ Hid (Below w.heap.size w wr)) (fun i _ => n - (intOf i).toNat)
  case atStart => exact ⟨0, Nat.zero_le _, rfl, HO, HB⟩
  case round =>
    clear HO HB hmk hq
    obtain ⟨k, hk, rfl, HO, HB⟩ := hrel
    by_cases hlt : k < n
    · obtain ⟨b, off, hx, hc⟩ := HR.out.at hlt
      obtain rfl : x = ⟨b, off, none⟩ := by simpa using hx
      clear hx
      have hm := hc k hlt
      have hbN : b < w.heap.size := World.block_lt_of_cell? _ _ hm.nm
      have c0 := (HB.out.cell hbN).trans hm.nm
      have c1 := (HB.out.cell hbN).trans hm.rg
      have c2 := (HB.out.cell hbN).trans hm.zn
      have c3 := (HB.out.cell hbN).trans hm.key
      have c4 := (HB.out.cell hbN).trans hm.zid
      have c5 := (HB.out.cell hbN).trans hm.pl
      clear hm hc
      have hI0 : (0 : Int) ≤ (k : Int) := by omega
      have hI1 : (k : Int) < (n : Int) := by omega
      generalize (M k).nm = s1 at c0
      generalize (M k).rg = s2 at c1
      generalize (M k).zn = s3 at c2
      generalize (M k).key = key at c3
      generalize (M k).zid = zid at c4
      generalize hpl : (M k).pl = pl at c5
      have HP : Hid ((M k).pl = pl) := hpl
      clear hpl
      obtain ⟨f, hrow, hold⟩ := HO.out
      have HROW : Hid (wr.rowIs w.heap.size 40 n f) := hrow
      have HOLD : Hid (∀ i, i < k → ∃ p, f i = .pointer (some ⟨p, 0, none⟩) ∧ w.heap.size < p ∧ wr.cell? ⟨p, 5, none⟩ = some (.int .i32 (M i).pl)) := hold
      have hfk := hrow.frozen k
      have hck := hrow.cell hlt
      have hNlt := hrow.lt
      have hbW : b < wr.heap.size := World.block_lt_of_cell? _ _ c0
      have hn1 : w.heap.size ≠ b := by omega
      have hn2 : w.heap.size ≠ wr.heap.size := by omega
      have kf := fun o1 o2 o3 => (((HROW.out.alloc o1).alloc o2).alloc o3).frozen k
      have kc := fun o1 o2 o3 => (((HROW.out.alloc o1).alloc o2).alloc o3).cell hlt
      have k3 := fun o1 o2 o3 => cell_alloc3 o1 o2 o3 c3
      have k4 := fun o1 o2 o3 => cell_alloc3 o1 o2 o3 c4
      have k5 := fun o1 o2 o3 => cell_alloc3 o1 o2 o3 c5
      clear hrow hold HO
      have e0 := World.new_ne wr _ c0
      go_wp2
      go_region_held3 (fun w' => w'.cell? ⟨b, off + k * 6, none⟩ = some (.string s1) ∧ w'.cell? ⟨b, off + k * 6 + 1, none⟩ = some (.string s2) ∧ w'.cell? ⟨b, off + k * 6 + 2, none⟩ = some (.string s3)) (go_keep) (fail)
      all_goals go_wp2
      go_region_held3 (fun w' => w'.cell? ⟨b, off + k * 6 + 3, none⟩ = some (.int .u64 key) ∧ w'.cell? ⟨b, off + k * 6 + 4, none⟩ = some (.int .i64 zid) ∧ w'.cell? ⟨b, off + k * 6 + 5, none⟩ = some (.int .i32 pl) ∧ w'.cell? ⟨wr.heap.size, 0, none⟩ = some (.string s1) ∧ w'.cell? ⟨wr.heap.size, 1, none⟩ = some (.string s2) ∧ w'.cell? ⟨wr.heap.size, 2, none⟩ = some (.string s3)) (go_keep) (first | (go_at_call 16; refine (newMember_any _ _ _ _ _ _ _).mono ?_; rintro e w' ⟨rfl, rfl⟩))
      all_goals go_wp2
      go_roundw
      case rel => exact ⟨k + 1, by omega, by go_num, half_step HROW.out HOLD.out _ _ _ _ _ _ _ _ _ HP.out, (((((HB.out.alloc (by omega) _).alloc (by simp; omega) _).alloc (by simp; omega) _).setCell (Nat.le_refl _) _).drew).drew⟩
      case measure => simp [intOf]; omega
    · go_wp2
      go_ret
      exact ⟨n, some ⟨w.heap.size, 0, none⟩, rfl, HO.out.done hlt, HB.out⟩

theorem build_nil (w : World) (cap : Nat) (M : Nat → Mem) :
    Calls Trym.prog 10 #[.slice none 0 cap] w fun e w' => ∃ c a, e = .returned (.slice a 0 c) ∧ NodesAt w' a 0 M ∧ Below w.heap.size w w' := by
  have hq : ∀ w : World, (binOp .eql 22 (.slice none 0 cap) (.slice none 0 0)).run Trym.prog w = .ok (.bool true) w := fun w => Lib.run_eql_slice_nil w _ _ _ _ _ _ _ Trym.underlying22
  go_enter Trym.func10, Trym.ntmps10
  go_wp2
  go_ret
  exact ⟨0, none, rfl, .inl rfl, Below.refl _ _⟩
end Go.Proofs.Qxb6602221aMods
