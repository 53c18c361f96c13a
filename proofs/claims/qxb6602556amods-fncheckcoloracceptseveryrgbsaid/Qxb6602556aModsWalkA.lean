import Derived.Test.Qxb6602556aModsRows
import Derived.WalkKit
import Derived.WalkSpells
import Derived.WalkLawsBesides
import Derived.Laws.BytesArg
import Derived.Lib.ConvBytes
import Derived.Deep.OwnRows
namespace Go.Proofs.Qxb6602556aMods
open Go.RowKit

/-- the bytes of the text that says what is wrong. -/
def wrongText : ByteArray := ⟨#[109, 117, 115, 116, 32, 98, 101, 32, 35, 32, 97, 110, 100, 32, 115, 105, 120, 32, 104, 101, 120, 97, 100, 101, 99, 105, 109, 97, 108, 32, 100, 105, 103, 105, 116, 115, 44, 32, 115, 117, 99, 104, 32, 97, 115, 32, 35, 52, 57, 56, 51, 57, 99]⟩

def Hexy (c : Int) : Prop := (48 ≤ c ∧ c ≤ 57) ∨ (97 ≤ c ∧ c ≤ 102) ∨ (65 ≤ c ∧ c ≤ 70)

set_option maxHeartbeats 400000 in
theorem check_len (s : ByteArray) (w : World) (h7 : s.size ≠ 7) :
    Calls Trym.prog 9 #[.string s] w fun e w' => e = .returned (.string wrongText) ∧ w' = w := by
  have hb : ((s.size : Int) != 7) = true := by rw [bne_iff_ne]; omega
  go_enter Trym.func9, Trym.ntmps9
  go_wp2
  go_ret
  exact ⟨rfl, rfl⟩

theorem below_bytes (w : World) (e : TypeId) (s : ByteArray) : Below w.heap.size w (Lib.bytesWorld w e s) :=
  ⟨rfl, rfl, rfl, by rw [Lib.bytesWorld_size]; omega, fun k hk => Lib.bytesWorld_at_old w e s k hk⟩

set_option maxHeartbeats 1000000 in
theorem check_ok (s : ByteArray) (w : World) (h7 : s.size = 7) (hpos : 0 < s.size) (h0 : ((s[0].toNat : Int) != 35) = false) (hx : ∀ k, k < 6 → Hexy ((s.extract 1 7).data.toList.getD k 0).toNat) :
    Calls Trym.prog 9 #[.string s] w fun e w' => e = .returned (.string ByteArray.empty) ∧ Below w.heap.size w w' := by
  have hb : ((s.size : Int) != 7) = false := by rw [h7]; rfl
  have hcv : ∀ (s : ByteArray) (w : World), (convert 9 23 (.string s)).run Trym.prog w = .ok (.slice (some ⟨w.heap.size, 0, none⟩) s.size (grownCap w s.size 0 5)) (Lib.bytesWorld w 5 s) := fun s w => Lib.run_convert_string_bytes w 9 23 5 s Trym.underlying9 Trym.underlying23 Trym.underlying5
  have HX : Hid (∀ k, k < 6 → ∃ c : Int, (Lib.bytesWorld w 5 (s.extract 1 7)).cell? ⟨w.heap.size, k, none⟩ = some (.int .u8 c) ∧ Hexy c) := fun k hk =>
    ⟨_, Lib.bytesWorld_cell w 5 (s.extract 1 7) k (by rw [ByteArray.size_extract]; omega), hx k hk⟩
  have HB : Hid (Below w.heap.size w (Lib.bytesWorld w 5 (s.extract 1 7))) := below_bytes _ _ _
  clear hx
  go_enter Trym.func9, Trym.ntmps9
  go_wp2
  clear hcv
  generalize Lib.bytesWorld w 5 (s.extract 1 7) = W at HX HB ⊢
  go_loop [17] (fun i => ∃ k : Nat, k ≤ 6 ∧ i = .int .i64 k) (fun i => 6 - (intOf i).toNat)
  case atStart => exact ⟨0, by omega, rfl⟩
  case round =>
    obtain ⟨k, hk, rfl⟩ := hrel
    by_cases hlt : k < 6
    · obtain ⟨c, hc, hh⟩ := HX.out k hlt
      rcases hh with ⟨h1, h2⟩ | ⟨h1, h2⟩ | ⟨h1, h2⟩
      all_goals
        go_wp2
        go_round
        case rel => exact ⟨k + 1, by omega, by go_num⟩
        case measure => simp [intOf]; omega
    · go_wp2
      go_ret
      exact ⟨rfl, HB.out⟩
end Go.Proofs.Qxb6602556aMods
