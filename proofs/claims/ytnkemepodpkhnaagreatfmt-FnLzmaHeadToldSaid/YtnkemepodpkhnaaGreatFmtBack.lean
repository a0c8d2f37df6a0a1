/-
  PROVED: the back tree of four bits at fifteen: steps 38 to 41. Conditions: the tree's sixteen chances are halves.
-/
import Derived.Test.YtnkemepodpkhnaaGreatFmtSteps
import Derived.RegionTactic
import Derived.BigRegion
import Derived.Deep.AppendLies
import Derived.Deep.LoopGhost
import Derived.OwnWalk
import Derived.Deep.RegionWith
import Derived.Deep.QuietTactic
import Derived.BigQuiet
namespace Go.Proofs.YtnkemepodpkhnaaGreatFmt
open Go.ChangeShapes Go.WideShapes Go.ChangeAt Go.RowKit
theorem bits_kb : IntKind.i64.wrap 2 = 2 ∧ IntKind.i64.wrap 6 = 6 ∧ IntKind.i64.wrap 14 = 14 ∧ IntKind.i64.wrap 30 = 30 ∧ bits BinOp.and IntKind.i64 1073741823 1 = 1 ∧ bits BinOp.and IntKind.i64 536870911 1 = 1 ∧ bits BinOp.and IntKind.i64 268435455 1 = 1 ∧ bits BinOp.and IntKind.i64 134217727 1 = 1 ∧ bits BinOp.or IntKind.i64 2 1 = 3 ∧ bits BinOp.or IntKind.i64 6 1 = 7 ∧ bits BinOp.or IntKind.i64 14 1 = 15 ∧ bits BinOp.or IntKind.i64 30 1 = 31 ∧ bits BinOp.or IntKind.i64 0 1 = 1 ∧ bits BinOp.or IntKind.i64 1 2 = 3 ∧ bits BinOp.or IntKind.i64 3 4 = 7 ∧ bits BinOp.or IntKind.i64 7 8 = 15 ∧ IntKind.i64.wrap 1 = 1 ∧ IntKind.i64.wrap 3 = 3 ∧ IntKind.i64.wrap 4 = 4 ∧ IntKind.i64.wrap 7 = 7 ∧ IntKind.i64.wrap 8 = 8 ∧ IntKind.i64.wrap 15 = 15 ∧ IntKind.i64.wrap 16 = 16 := by decide

/-- The place in the back tree of four bits when k bits are to come, and what was read. -/
def atb : Nat → Nat | 4 => 1 | 3 => 3 | 2 => 7 | 1 => 15 | _ => 31
def vab : Nat → Nat | 4 => 0 | 3 => 1 | 2 => 3 | 1 => 7 | _ => 15

theorem back_next {xb b mb off k n a : Nat} {t : TypeId} {C C' : Array Value} {w wr w' : World} {x y z : Value} (hk : k ≤ 3) (hx : x = .int .i64 (atb k)) (hy : y = .int .i64 (vab k)) (hz : z = .int .i64 (4 - k)) (hn : n + 1 = 42 - k) (ha : a < atb k) (ha8 : a < 16)
    (hU : Upd off (off + 16) C C') (hF : ∀ j, atb (k + 1) ≤ j → j < 16 → C'[off + j]? = some (.int .u16 1024)) (hK : Kept b (fun k => k = xb ∨ k = mb) w wr)
    (hT : TreeOut xb b mb (off + a) (off + a + 1) t C' (St (n + 1)) wr.drew w') :
    ∃ ov' C', k ≤ 4 ∧ x = .int .i64 (atb k) ∧ y = .int .i64 (vab k) ∧ z = .int .i64 (4 - k) ∧ Wr w' xb b ov' (St (42 - k)) ∧ Blk w' mb C' t ∧ Upd off (off + 16) C C' ∧ (∀ j, atb k ≤ j → j < 16 → C'[off + j]? = some (.int .u16 1024)) ∧ Kept b (fun k => k = xb ∨ k = mb) w w' := by
  obtain ⟨⟨ov', hW⟩, ⟨D, hD, hUD⟩, hK'⟩ := hT
  have hmo : atb (k + 1) ≤ atb k := by
    rcases (show k = 0 ∨ k = 1 ∨ k = 2 ∨ k = 3 by omega) with rfl | rfl | rfl | rfl <;> decide
  refine ⟨ov', D, by omega, hx, hy, hz, hn ▸ hW, hD, hU.trans (hUD.mono (by omega) (by omega)), fun j h1 h2 => ?_, hK.drew.trans hK'⟩
  rw [hUD.2 (off + j) (by omega)]
  exact hF j (by omega) h2

set_option maxRecDepth 100000 in
set_option maxHeartbeats 2000000 in
theorem back4 (xb b mb off : Nat) (t : TypeId) (ov : Value) (C : Array Value) (w : World) (hW : Wr w xb b ov (St 38))
    (hC : Blk w mb C t) (hp : ∀ j, j < 16 → C[off + j]? = some (.int .u16 1024)) (hmb : mb < b) (hne : mb ≠ xb) :
    Calls Tryz.prog 50 #[.iface 51 (.pointer (some ⟨xb, 0, none⟩)), .slice (some ⟨mb, off, none⟩) 16 16, .int .i64 1, .int .i64 4, .int .i64 1073741823] w fun e w' => e = .returned (.int .i64 15) ∧ TreeOut xb b mb off (off + 16) t C (St 42) w w' := by
  have HI := hid (And.intro hW (And.intro hC hp))
  clear hW hC hp
  obtain ⟨k0, k1, k2, k3, k4, k5, k6, k7, k8, k9, k10, k11, k12, k13, k14, k15, k16, k17, k18, k19, k20, k21, k22⟩ := bits_kb
  have n1 := nil_bit
  have n2 := method_bit
  go_enter Tryz.func50, Tryz.ntmps50
  go_wp2
  go_loopg [11, 12, 16] 4 (fun k x y z wr => ∃ ov' C', k ≤ 4 ∧ x = .int .i64 (atb k) ∧ y = .int .i64 (vab k) ∧ z = .int .i64 (4 - k) ∧ Wr wr xb b ov' (St (42 - k)) ∧ Blk wr mb C' t ∧ Upd off (off + 16) C C' ∧ (∀ j, atb k ≤ j → j < 16 → C'[off + j]? = some (.int .u16 1024)) ∧ Kept b (fun k => k = xb ∨ k = mb) w wr)
  case atStart => exact ⟨ov, C, by omega, rfl, rfl, rfl, HI.out.1, HI.out.2.1, Upd.refl _ _ _, fun j _ h => HI.out.2.2 j h, Kept.refl _ _ _⟩
  case round =>
    obtain ⟨ov', C', hk, rfl, rfl, rfl, hWr, hB', hU, hF, hK⟩ := hrel
    have HH := hid (And.intro hWr (And.intro hB' (And.intro hU (And.intro hF hK))))
    clear hWr hB' hU hF hK
    rcases (show gk = 4 ∨ gk = 3 ∨ gk = 2 ∨ gk = 1 ∨ gk = 0 by omega) with rfl | rfl | rfl | rfl | rfl
    · have ea : atb 4 = 1 := rfl
      have eb : vab 4 = 0 := rfl
      go_wp2_with fail
      go_region_with (go_at_call 117; go_loud (refine (bit_at 38 xb b mb (off + 1) t ov' 1 C' wr.drew (by omega) rfl HH.out.1 HH.out.2.1 (HH.out.2.2.2.1 1 (by decide) (by omega)) hmb hne (Or.inr rfl)).mono ?_); rintro e w' ⟨rfl, hT⟩)
      go_wp2
      go_roundg 3
      case measure => omega
      case rel => exact back_next (k := 3) (n := 38) (a := 1) (by omega) rfl rfl rfl rfl (by decide) (by decide) HH.out.2.2.1 HH.out.2.2.2.1 HH.out.2.2.2.2 hT
    · have ea : atb 3 = 3 := rfl
      have eb : vab 3 = 1 := rfl
      go_wp2_with fail
      go_region_with (go_at_call 117; go_loud (refine (bit_at 39 xb b mb (off + 3) t ov' 1 C' wr.drew (by omega) rfl HH.out.1 HH.out.2.1 (HH.out.2.2.2.1 3 (by decide) (by omega)) hmb hne (Or.inr rfl)).mono ?_); rintro e w' ⟨rfl, hT⟩)
      go_wp2
      go_roundg 2
      case measure => omega
      case rel => exact back_next (k := 2) (n := 39) (a := 3) (by omega) rfl rfl rfl rfl (by decide) (by decide) HH.out.2.2.1 HH.out.2.2.2.1 HH.out.2.2.2.2 hT
    · have ea : atb 2 = 7 := rfl
      have eb : vab 2 = 3 := rfl
      go_wp2_with fail
      go_region_with (go_at_call 117; go_loud (refine (bit_at 40 xb b mb (off + 7) t ov' 1 C' wr.drew (by omega) rfl HH.out.1 HH.out.2.1 (HH.out.2.2.2.1 7 (by decide) (by omega)) hmb hne (Or.inr rfl)).mono ?_); rintro e w' ⟨rfl, hT⟩)
      go_wp2
      go_roundg 1
      case measure => omega
      case rel => exact back_next (k := 1) (n := 40) (a := 7) (by omega) rfl rfl rfl rfl (by decide) (by decide) HH.out.2.2.1 HH.out.2.2.2.1 HH.out.2.2.2.2 hT
    · have ea : atb 1 = 15 := rfl
      have eb : vab 1 = 7 := rfl
      go_wp2_with fail
      go_region_with (go_at_call 117; go_loud (refine (bit_at 41 xb b mb (off + 15) t ov' 1 C' wr.drew (by omega) rfl HH.out.1 HH.out.2.1 (HH.out.2.2.2.1 15 (by decide) (by omega)) hmb hne (Or.inr rfl)).mono ?_); rintro e w' ⟨rfl, hT⟩)
      go_wp2
      go_roundg 0
      case measure => omega
      case rel => exact back_next (k := 0) (n := 41) (a := 15) (by omega) rfl rfl rfl rfl (by decide) (by decide) HH.out.2.2.1 HH.out.2.2.2.1 HH.out.2.2.2.2 hT
    · have ea : atb 0 = 31 := rfl
      have eb : vab 0 = 15 := rfl
      go_wp2
      go_ret
      exact ⟨rfl, ⟨ov', HH.out.1⟩, ⟨C', HH.out.2.1, HH.out.2.2.1⟩, HH.out.2.2.2.2⟩

end Go.Proofs.YtnkemepodpkhnaaGreatFmt
