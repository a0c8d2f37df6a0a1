/-
  PROVED: what the reference's writer puts out at its end behind the end's symbol: ten bytes. Conditions: none beyond the writer's state.
-/
import Derived.Test.YtnkemepodpkhnaaGreatFmtSymbol
import Derived.RegionTactic
import Derived.BigRegion
import Derived.Deep.AppendLies
import Derived.Deep.LoopGhost
import Derived.OwnWalk
import Derived.Deep.RegionHeld3
import Derived.Deep.RegionWith
import Derived.Deep.QuietTactic
import Derived.BigQuiet
namespace Go.Proofs.YtnkemepodpkhnaaGreatFmt
open Go.ChangeShapes Go.WideShapes Go.ChangeAt Go.RowKit
/-- The writer behind n shifts at the end. -/
def Sh : Nat → WS
  | 0 => St 42
  | n + 1 => (Sh n).shift
theorem Sh_ok : ∀ n, n < 5 → (Sh n).Ok := by decide +kernel
/-- The ten bytes of the end's symbol. -/
theorem Sh_out : (Sh 5).out = [0, 131, 255, 251, 255, 255, 192, 0, 0, 0] := by decide +kernel

set_option maxRecDepth 100000 in
theorem end_all (xb b : Nat) (ov : Value) (w : World) (hW : Wr w xb b ov (St 42)) :
    Calls Tryz.prog 14 #[.pointer (some ⟨xb, 0, none⟩)] w fun e w' => ∃ ov', e = .returned ov' ∧ w'.ownsRow b 5 1 ov' 10 ([0, 131, 255, 251, 255, 255, 192, 0, 0, 0].map (Value.int .u8)) ∧ Kept b (· = xb) w w' := by
  have HW := hid hW
  clear hW
  go_enter Tryz.func14, Tryz.ntmps14
  go_wp2
  go_loopg [3] 5 (fun k i wr => k ≤ 5 ∧ i = .int .i64 (5 - k) ∧ WOut xb b (Sh (5 - k)) w wr)
  case atStart => exact ⟨by omega, rfl, ov, HW.out, Kept.refl _ _ _⟩
  case round =>
    obtain ⟨hk, rfl, ov', hWr, hK⟩ := hrel
    have H := hid (And.intro hWr hK)
    by_cases h0 : gk = 0
    · subst h0
      have c0 : wr.cell? ⟨xb, 0, none⟩ = some ov' := by rw [hWr.1.cell]; rfl
      clear hWr hK
      go_wp2
      go_ret
      refine ⟨ov', rfl, ?_, H.out.2⟩
      have h1 := H.out.1.2.1
      rw [Nat.sub_zero, Sh_out] at h1
      exact h1
    · clear hWr hK
      have hlt : (5 : Int) - (gk : Int) < 5 := by omega
      go_wp2_with (go_at_call 25; go_loud (refine (shift_any xb b ov' (Sh (5 - gk)) _ H.out.1 (Sh_ok _ (by omega))).mono ?_); rintro e w1 ⟨rfl, hT⟩)
      obtain ⟨ov1, hW1, hK1⟩ := hT
      go_roundg (gk - 1)
      case measure => omega
      case rel =>
        refine ⟨by omega, by rw [show (5 : Int) - ((gk - 1 : Nat) : Int) = 5 - (gk : Int) + 1 by omega], ov1, ?_, H.out.2.trans hK1⟩
        rw [show 5 - (gk - 1) = 5 - gk + 1 by omega]
        exact hW1

end Go.Proofs.YtnkemepodpkhnaaGreatFmt
