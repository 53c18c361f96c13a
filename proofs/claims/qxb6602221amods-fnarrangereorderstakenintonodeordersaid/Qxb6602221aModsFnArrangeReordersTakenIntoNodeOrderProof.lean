import Derived.Test.Qxb6602221aModsLaw
import Derived.ProofKit
import Derived.OpenShut
import Derived.ShutString
import Derived.ChangeOld
import Derived.Deep.Slices
namespace Go.Proofs.Qxb6602221aMods.fnArrangeReordersTakenIntoNodeOrder
open Go.ChangeShapes Go.WideShapes Go.ChangeAt Go.RowKit Go.Deep
set_option linter.unusedVariables false

theorem own : ownKnob Trym.prog.godebug = none := by kernel_rfl
theorem laidOut : laidOutB Trym.prog = true := by kernel_rfl
theorem cells9 : Trym.prog.cellsOf 9 = 1 := by kernel_rfl
theorem cells26 : Trym.prog.cellsOf 26 = 1 := by kernel_rfl
theorem cells3 : Trym.prog.cellsOf 3 = 1 := by kernel_rfl
theorem cells21 : Trym.prog.cellsOf 21 = 1 := by kernel_rfl

/-- too many members or too many places: true at once. -/
theorem law_big (a : Option Addr) (n cap : Nat) (M : Nat → Mem) (t : Option Addr) (m mcap : Nat) (w : World) (hn : n ≤ maxLen) (hm : m ≤ maxLen) (hb : ¬ (n ≤ 4096 ∧ m ≤ 4096)) (hr : MsAt w a n M) :
    Calls Trym.prog 3 #[.slice a n cap, .slice t m mcap] w fun e w' => e = .returned (.bool true) ∧ Below w.heap.size w w' := by
  have HR : Hid (MsAt w a n M) := hr
  have HN : Hid (n ≤ maxLen) := hn
  have HM : Hid (m ≤ maxLen) := hm
  clear hr
  unfold maxLen at hn hm
  by_cases h1 : n ≤ 4096
  · have h2 : ¬ m ≤ 4096 := fun h => hb ⟨h1, h⟩
    clear hb
    go_enter Trym.func3, Trym.ntmps3
    go_wp2_with (go_at_call 5; refine (bytes_any _ _ _ M _ _ _ _ HN.out HM.out HR.out).mono ?_; rintro e w' ⟨⟨r, rfl⟩, hw⟩; replace hw := hw.symm; subst hw)
    all_goals (go_ret; exact ⟨rfl, Below.refl _ _⟩)
  · clear hb
    go_enter Trym.func3, Trym.ntmps3
    go_wp2_with (go_at_call 5; refine (bytes_any _ _ _ M _ _ _ _ HN.out HM.out HR.out).mono ?_; rintro e w' ⟨⟨r, rfl⟩, hw⟩; replace hw := hw.symm; subst hw)
    all_goals (go_ret; exact ⟨rfl, Below.refl _ _⟩)

theorem walk (a : Option Addr) (n cap : Nat) (M : Nat → Mem) (t : Option Addr) (m mcap : Nat) (ts : List Int) (w : World) (hn : n ≤ maxLen) (hm : m ≤ maxLen) (hr : MsAt w a n M) (han : a = none → n = 0) (hl : ts.length = m) (ht : RowAt w t ts) :
    Calls Trym.prog 3 #[.slice a n cap, .slice t m mcap] w fun e w' => e = .returned (.bool true) ∧ Below w.heap.size w w' := by
  by_cases hb : n ≤ 4096 ∧ m ≤ 4096
  · exact law_any a n cap M t m mcap ts w hb.1 hr han hl hb.2 ht
  · exact law_big a n cap M t m mcap w hn hm hb hr

section
variable {H : Type} {enc : TypeId × Value → H} {W : World} {spare : Nat → Bool} {held : Bool}

/-- one member, read as data: its six cells. -/
theorem open_mem {fuel : Nat} {x : DataW H × List MemPlace} {cs : List Value} (hl : cs.length = 6) (h : DataW.trod enc Trym.prog W 0 spare held fuel 28 cs = some x) :
    ∃ m : Mem, cs = [.string m.nm, .string m.rg, .string m.zn, .int .u64 m.key, .int .i64 m.zid, .int .i32 m.pl] := by
  obtain ⟨xs, k, _, _, _, hxl, hf⟩ := DataW.trod_struct Trym.underlying28 h
  match xs, hxl, cs, hl with
  | [y0, y1, y2, y3, y4, y5], _, [v0, v1, v2, v3, v4, v5], _ =>
    have g0 := hf 0 _ rfl
    have g1 := hf 1 _ rfl
    have g2 := hf 2 _ rfl
    have g3 := hf 3 _ rfl
    have g4 := hf 4 _ rfl
    have g5 := hf 5 _ rfl
    simp [cells9, cells26, cells3, cells21] at g0 g1 g2 g3 g4 g5
    obtain ⟨s0, e0, _⟩ := DataW.trod_string Trym.underlying9 g0
    obtain ⟨s1, e1, _⟩ := DataW.trod_string Trym.underlying9 g1
    obtain ⟨s2, e2, _⟩ := DataW.trod_string Trym.underlying9 g2
    obtain ⟨i3, e3, _⟩ := DataW.trod_int Trym.underlying26 g3
    obtain ⟨i4, e4, _⟩ := DataW.trod_int Trym.underlying3 g4
    obtain ⟨i5, e5, _⟩ := DataW.trod_int Trym.underlying21 g5
    simp at e0 e1 e2 e3 e4 e5
    subst e0 e1 e2 e3 e4 e5
    exact ⟨⟨s0, s1, s2, i3, i4, i5⟩, rfl⟩

theorem open_ms {fuel n cap : Nat} {a : Option Addr} {x : DataW H × List MemPlace} (h : DataW.trod enc Trym.prog W 0 spare held fuel 22 [.slice a n cap] = some x) :
    (a = none → n = 0) ∧ n ≤ maxLen ∧ ∃ M, MsAt W a n M := by
  rcases open_slice Trym.underlying22 h with ⟨hcs, _⟩ | ⟨ad, len, cp, m, k, D, Pl, hcs, _, hl, hm, hmm, _, hx⟩
  · simp at hcs
    obtain ⟨rfl, rfl, rfl⟩ := hcs
    exact ⟨fun _ => rfl, Nat.zero_le _, fun _ => Mem.nil, .inl rfl⟩
  · simp at hcs
    obtain ⟨rfl, rfl, rfl⟩ := hcs
    refine ⟨fun h => by simp at h, by omega, ?_⟩
    have hlm : n ≤ m := by rw [hmm]; split <;> omega
    rw [Trym.cells28] at hx
    have inh : Inhabited Mem := ⟨Mem.nil⟩
    obtain ⟨M, hM⟩ := choose_lt (α := Mem) (n := n) (p := fun i q => ∃ cs', W.cells? 0 (ad.add (i * 6)) 6 = some cs' ∧ cs' = [.string q.nm, .string q.rg, .string q.zn, .int .u64 q.key, .int .i64 q.zid, .int .i32 q.pl]) (fun i hi => by
      obtain ⟨cs', h1, h2⟩ := hx i (by omega)
      obtain ⟨_, hlen, _⟩ := World.cells?_some h1
      obtain ⟨q, hq⟩ := open_mem hlen h2
      exact ⟨q, cs', h1, hq⟩)
    refine ⟨M, ?_⟩
    rcases Nat.eq_zero_or_pos n with h0 | hp
    · exact .inl h0
    obtain ⟨b, off, spot⟩ := ad
    have hspot : spot = none := by
      obtain ⟨cs', h1, rfl⟩ := hM 0 hp
      have := (World.cells?_some h1).2.2 0 (by omega)
      simp at this
      simpa [Addr.add] using World.cell?_spot this
    subst hspot
    refine .inr ⟨b, off, rfl, fun i hi => ?_⟩
    obtain ⟨cs', h1, rfl⟩ := hM i hi
    have hc := (World.cells?_some h1).2.2
    rw [add_plain] at hc
    have c0 := hc 0 (by omega)
    have c1 := hc 1 (by omega)
    have c2 := hc 2 (by omega)
    have c3 := hc 3 (by omega)
    have c4 := hc 4 (by omega)
    have c5 := hc 5 (by omega)
    rw [add_plain] at c0 c1 c2 c3 c4 c5
    exact ⟨c0, c1, c2, c3, c4, c5⟩
end

set_option maxRecDepth 100000 in
theorem lifted (os : Os) (started : os.Started) (H : Type) (enc : TypeId × Value → H) :
    ReturnsInHanded {} Trym.checked os 3 .any (Rows.fnArrangeReordersTakenIntoNodeOrderSpec.pre6 enc Trym.prog Trym.f3 Rows.fnArrangeReordersTakenIntoNodeOrderRow.domain false) (Rows.fnArrangeReordersTakenIntoNodeOrderSpec.post enc Trym.prog Trym.f3 false true false false) := by
  refine returnsInHanded_of_change (C := Trym.checked) own started (by kernel_rfl) Trym.func3
    (ChangeSpec.witness6 (enc := enc) (C := Trym.checked) false ⟨#[], #[.slice none 0 0, .slice none 0 0], []⟩ 8 (by kernel_rfl) (by kernel_rfl) (by kernel_rfl) (by kernel_rfl)) ?_
  intro W base args ds gs before hval0 hW hcnd _
  have hval : ∀ (j : Nat) t v, Trym.f3.params[j]? = some t → args[j]? = some v → Value.okWide Trym.prog W .any base t v := hval0
  have hW' := hW
  obtain ⟨p, q, hA0, hV, rfl, hfz, hnd⟩ := hW
  have hA : DataW.TrodAll enc Trym.prog W 0 (fun _ => true) true Trym.f3.params.toList args.toList ds p := hA0
  rw [Trym.params3] at hA hval
  obtain ⟨v0, vs0, d0, ds0, p0, q0, hargs, rfl, rfl, h0, r0⟩ := trodAll_cons hA
  obtain ⟨v1, vs1, d1, ds1, p1, q1, rfl, rfl, rfl, h1, r1⟩ := trodAll_cons r0
  obtain ⟨rfl, rfl, rfl⟩ := trodAll_nil r1
  obtain rfl : args = #[v0, v1] := by cases args; simp_all
  obtain ⟨rfl, rfl⟩ := trodVars_none hV
  obtain ⟨a0, len0, cap0, rfl⟩ := okWide_slice Trym.underlying22 (hval 0 22 v0 rfl rfl)
  obtain ⟨a1, len1, cap1, rfl⟩ := okWide_slice Trym.underlying23 (hval 1 23 v1 rfl rfl)
  have k0 := h0
  have k1 := h1
  have lt0 : ∀ x ∈ p0, x.block < W.heap.size := by obtain ⟨m, hm⟩ := k0; exact DataW.trod_lt m _ _ _ hm
  have lt1 : ∀ x ∈ p1, x.block < W.heap.size := by obtain ⟨m, hm⟩ := k1; exact DataW.trod_lt m _ _ _ hm
  obtain ⟨han, hn, M, hMs⟩ : (a0 = none → len0 = 0) ∧ len0 ≤ maxLen ∧ ∃ M, MsAt W a0 len0 M := by
    obtain ⟨fuel, hf⟩ := h0
    exact open_ms (by simpa [Value.cells] using hf)
  obtain ⟨ts, hts, hm, hrow⟩ : ∃ ts : List Int, ts.length = len1 ∧ len1 ≤ maxLen ∧ RowAt W a1 ts := by
    obtain ⟨fuel, hf⟩ := h1
    rcases open_ints Trym.underlying23 Trym.underlying21 cells21 hf with ⟨hcs, _⟩ | ⟨x, l, c, zs, hcs, _, hl, hm, hz, _, hcell, hwz⟩
    · simp [Value.cells] at hcs
      obtain ⟨rfl, rfl, rfl⟩ := hcs
      exact ⟨[], rfl, Nat.zero_le _, .inl rfl⟩
    · simp [Value.cells] at hcs
      obtain ⟨rfl, rfl, rfl⟩ := hcs
      simp only [if_true] at hz
      refine ⟨zs.take len1, by simp; omega, by omega, ?_⟩
      rcases Nat.eq_zero_or_pos len1 with h0 | hp
      · left; rw [h0]; rfl
      obtain ⟨b, off, spot⟩ := x
      have hspot : spot = none := by simpa [Addr.add] using World.cell?_spot (hcell 0 (by omega))
      subst hspot
      refine .inr ⟨b, off, rfl, fun i hi => ?_⟩
      have hi' : i < len1 := by simp at hi; omega
      rw [← add_plain, hcell i (by omega)]
      simp [List.getD, hi']
  clear hA0 hval0
  refine (walk a0 len0 cap0 M a1 len1 cap1 ts W hn hm hMs han hts hrow).mono fun e W' ⟨he, bel⟩ => ?_
  subst he
  exact ⟨_, rfl, _, _, _, [], _, [], hW', trodAll_mk1 (shut_bool Trym.underlying4 _), (trodAll_cons_mk (Below.trod laidOut (by kernel_rfl) (of_decide_eq_true (by kernel_rfl)) k0 bel lt0) (trodAll_cons_mk (Below.trod laidOut (by kernel_rfl) (of_decide_eq_true (by kernel_rfl)) k1 bel lt1) trodAll_mk0)), rfl, bel.frame _, fun h => by cases h⟩

theorem over : Rows.fnArrangeReordersTakenIntoNodeOrderRow.holds Trym.pinned (OpenSpec.ofChange Rows.fnArrangeReordersTakenIntoNodeOrderSpec) :=
  OpenClaim.holds_of_wide 3 Trym.f3 rfl rfl rfl rfl rfl rfl rfl ⟨rfl, rfl, rfl, rfl, rfl⟩ rfl rfl rfl rfl rfl (by kernel_rfl) Trym.func3 (by kernel_rfl)
    (of_decide_eq_true (by kernel_rfl)) (by unfold Func.isWrapper; first | (rw [if_pos (by decide +kernel)]; kernel_rfl) | (rw [if_neg (by decide +kernel)]; exact ⟨rfl, rfl⟩))
    (fun os started H enc _ => lifted os started H enc)

/-- THE STATEMENT -/
theorem proved : Rows.FnArrangeReordersTakenIntoNodeOrderSaid := over
end Go.Proofs.Qxb6602221aMods.fnArrangeReordersTakenIntoNodeOrder
