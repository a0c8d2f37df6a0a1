/-
  PROVED: the tree of six bits at 63: steps 6 to 11. Conditions: the tree's 64 chances are halves.
-/
import Derived.Test.YtnkemepodpkhnaaGreatFmtSteps
import Derived.RegionTactic
import Derived.BigRegion
import Derived.Deep.AppendLies
import Derived.Deep.LoopGhost
import Derived.OwnWalk
import Derived.Deep.RegionWith
import Derived.Deep.QuietTactic
import Derived.BigQuiet
namespace Go.Proofs.YtnkemepodpkhnaaGreatFmt
open Go.ChangeShapes Go.WideShapes Go.ChangeAt Go.RowKit
theorem bits_k6 : IntKind.i64.wrap 2 = 2 ∧ IntKind.i64.wrap 6 = 6 ∧ IntKind.i64.wrap 14 = 14 ∧ IntKind.i64.wrap 30 = 30 ∧ IntKind.i64.wrap 62 = 62 ∧ IntKind.i64.wrap 126 = 126 ∧ bits BinOp.and IntKind.i64 1 1 = 1 ∧ bits BinOp.and IntKind.i64 3 1 = 1 ∧ bits BinOp.and IntKind.i64 7 1 = 1 ∧ bits BinOp.and IntKind.i64 15 1 = 1 ∧ bits BinOp.and IntKind.i64 31 1 = 1 ∧ bits BinOp.and IntKind.i64 63 1 = 1 ∧ bits BinOp.or IntKind.i64 2 1 = 3 ∧ bits BinOp.or IntKind.i64 6 1 = 7 ∧ bits BinOp.or IntKind.i64 14 1 = 15 ∧ bits BinOp.or IntKind.i64 30 1 = 31 ∧ bits BinOp.or IntKind.i64 62 1 = 63 ∧ bits BinOp.or IntKind.i64 126 1 = 127 := by decide

/-- The place in the tree of six bits when k bits are to come. -/
def at6 : Nat → Nat | 6 => 1 | 5 => 3 | 4 => 7 | 3 => 15 | 2 => 31 | 1 => 63 | _ => 127

theorem tree6_next {xb b mb off k n a : Nat} {t : TypeId} {C C' : Array Value} {w wr w' : World} {x y : Value} (hk : k ≤ 5) (hx : x = .int .i64 (at6 k)) (hy : y = .int .i64 (k - 1)) (hn : n + 1 = 12 - k) (ha : a < at6 k) (ha8 : a < 64)
    (hU : Upd off (off + 64) C C') (hF : ∀ j, at6 (k + 1) ≤ j → j < 64 → C'[off + j]? = some (.int .u16 1024)) (hK : Kept b (fun k => k = xb ∨ k = mb) w wr)
    (hT : TreeOut xb b mb (off + a) (off + a + 1) t C' (St (n + 1)) wr.drew w') :
    ∃ ov' C', k ≤ 6 ∧ x = .int .i64 (at6 k) ∧ y = .int .i64 (k - 1) ∧ Wr w' xb b ov' (St (12 - k)) ∧ Blk w' mb C' t ∧ Upd off (off + 64) C C' ∧ (∀ j, at6 k ≤ j → j < 64 → C'[off + j]? = some (.int .u16 1024)) ∧ Kept b (fun k => k = xb ∨ k = mb) w w' := by
  obtain ⟨⟨ov', hW⟩, ⟨D, hD, hUD⟩, hK'⟩ := hT
  have hmo : at6 (k + 1) ≤ at6 k := by
    rcases (show k = 0 ∨ k = 1 ∨ k = 2 ∨ k = 3 ∨ k = 4 ∨ k = 5 by omega) with rfl | rfl | rfl | rfl | rfl | rfl <;> decide
  refine ⟨ov', D, by omega, hx, hy, hn ▸ hW, hD, hU.trans (hUD.mono (by omega) (by omega)), fun j h1 h2 => ?_, hK.drew.trans hK'⟩
  rw [hUD.2 (off + j) (by omega)]
  exact hF j (by omega) h2

set_option maxRecDepth 100000 in
set_option maxHeartbeats 2000000 in
theorem tree6 (xb b mb off : Nat) (t : TypeId) (ov : Value) (C : Array Value) (w : World) (hW : Wr w xb b ov (St 6))
    (hC : Blk w mb C t) (hp : ∀ j, j < 64 → C[off + j]? = some (.int .u16 1024)) (hmb : mb < b) (hne : mb ≠ xb) :
    Calls Tryz.prog 37 #[.iface 51 (.pointer (some ⟨xb, 0, none⟩)), .slice (some ⟨mb, off, none⟩) 64 64, .int .i64 6, .int .i64 63] w fun e w' => e = .returned (.int .i64 63) ∧ TreeOut xb b mb off (off + 64) t C (St 12) w w' := by
  have HI := hid (And.intro hW (And.intro hC hp))
  clear hW hC hp
  obtain ⟨k0, k1, k2, k3, k4, k5, k6, k7, k8, k9, k10, k11, k12, k13, k14, k15, k16, k17⟩ := bits_k6
  have n1 := nil_bit
  have n2 := method_bit
  go_enter Tryz.func37, Tryz.ntmps37
  go_wp2
  go_loopg [9, 10] 6 (fun k x y wr => ∃ ov' C', k ≤ 6 ∧ x = .int .i64 (at6 k) ∧ y = .int .i64 (k - 1) ∧ Wr wr xb b ov' (St (12 - k)) ∧ Blk wr mb C' t ∧ Upd off (off + 64) C C' ∧ (∀ j, at6 k ≤ j → j < 64 → C'[off + j]? = some (.int .u16 1024)) ∧ Kept b (fun k => k = xb ∨ k = mb) w wr)
  case atStart => exact ⟨ov, C, by omega, rfl, rfl, HI.out.1, HI.out.2.1, Upd.refl _ _ _, fun j _ h => HI.out.2.2 j h, Kept.refl _ _ _⟩
  case round =>
    obtain ⟨ov', C', hk, rfl, rfl, hWr, hB', hU, hF, hK⟩ := hrel
    have HH := hid (And.intro hWr (And.intro hB' (And.intro hU (And.intro hF hK))))
    clear hWr hB' hU hF hK
    rcases (show gk = 6 ∨ gk = 5 ∨ gk = 4 ∨ gk = 3 ∨ gk = 2 ∨ gk = 1 ∨ gk = 0 by omega) with rfl | rfl | rfl | rfl | rfl | rfl | rfl
    · have ea : at6 6 = 1 := rfl
      go_wp2_with fail
      go_region_with (go_at_call 117; go_loud (refine (bit_at 6 xb b mb (off + 1) t ov' 1 C' wr.drew (by omega) rfl HH.out.1 HH.out.2.1 (HH.out.2.2.2.1 1 (by decide) (by omega)) hmb hne (Or.inr rfl)).mono ?_); rintro e w' ⟨rfl, hT⟩)
      go_wp2
      go_roundg 5
      case measure => omega
      case rel => exact tree6_next (k := 5) (n := 6) (a := 1) (by omega) rfl rfl rfl (by decide) (by decide) HH.out.2.2.1 HH.out.2.2.2.1 HH.out.2.2.2.2 hT
    · have ea : at6 5 = 3 := rfl
      go_wp2_with fail
      go_region_with (go_at_call 117; go_loud (refine (bit_at 7 xb b mb (off + 3) t ov' 1 C' wr.drew (by omega) rfl HH.out.1 HH.out.2.1 (HH.out.2.2.2.1 3 (by decide) (by omega)) hmb hne (Or.inr rfl)).mono ?_); rintro e w' ⟨rfl, hT⟩)
      go_wp2
      go_roundg 4
      case measure => omega
      case rel => exact tree6_next (k := 4) (n := 7) (a := 3) (by omega) rfl rfl rfl (by decide) (by decide) HH.out.2.2.1 HH.out.2.2.2.1 HH.out.2.2.2.2 hT
    · have ea : at6 4 = 7 := rfl
      go_wp2_with fail
      go_region_with (go_at_call 117; go_loud (refine (bit_at 8 xb b mb (off + 7) t ov' 1 C' wr.drew (by omega) rfl HH.out.1 HH.out.2.1 (HH.out.2.2.2.1 7 (by decide) (by omega)) hmb hne (Or.inr rfl)).mono ?_); rintro e w' ⟨rfl, hT⟩)
      go_wp2
      go_roundg 3
      case measure => omega
      case rel => exact tree6_next (k := 3) (n := 8) (a := 7) (by omega) rfl rfl rfl (by decide) (by decide) HH.out.2.2.1 HH.out.2.2.2.1 HH.out.2.2.2.2 hT
    · have ea : at6 3 = 15 := rfl
      go_wp2_with fail
      go_region_with (go_at_call 117; go_loud (refine (bit_at 9 xb b mb (off + 15) t ov' 1 C' wr.drew (by omega) rfl HH.out.1 HH.out.2.1 (HH.out.2.2.2.1 15 (by decide) (by omega)) hmb hne (Or.inr rfl)).mono ?_); rintro e w' ⟨rfl, hT⟩)
      go_wp2
      go_roundg 2
      case measure => omega
      case rel => exact tree6_next (k := 2) (n := 9) (a := 15) (by omega) rfl rfl rfl (by decide) (by decide) HH.out.2.2.1 HH.out.2.2.2.1 HH.out.2.2.2.2 hT
    · have ea : at6 2 = 31 := rfl
      go_wp2_with fail
      go_region_with (go_at_call 117; go_loud (refine (bit_at 10 xb b mb (off + 31) t ov' 1 C' wr.drew (by omega) rfl HH.out.1 HH.out.2.1 (HH.out.2.2.2.1 31 (by decide) (by omega)) hmb hne (Or.inr rfl)).mono ?_); rintro e w' ⟨rfl, hT⟩)
      go_wp2
      go_roundg 1
      case measure => omega
      case rel => exact tree6_next (k := 1) (n := 10) (a := 31) (by omega) rfl rfl rfl (by decide) (by decide) HH.out.2.2.1 HH.out.2.2.2.1 HH.out.2.2.2.2 hT
    · have ea : at6 1 = 63 := rfl
      go_wp2_with fail
      go_region_with (go_at_call 117; go_loud (refine (bit_at 11 xb b mb (off + 63) t ov' 1 C' wr.drew (by omega) rfl HH.out.1 HH.out.2.1 (HH.out.2.2.2.1 63 (by decide) (by omega)) hmb hne (Or.inr rfl)).mono ?_); rintro e w' ⟨rfl, hT⟩)
      go_wp2
      go_roundg 0
      case measure => omega
      case rel => exact tree6_next (k := 0) (n := 11) (a := 63) (by omega) rfl rfl rfl (by decide) (by decide) HH.out.2.2.1 HH.out.2.2.2.1 HH.out.2.2.2.2 hT
    · have ea : at6 0 = 127 := rfl
      go_wp2
      go_ret
      exact ⟨rfl, ⟨ov', HH.out.1⟩, ⟨C', HH.out.2.1, HH.out.2.2.1⟩, HH.out.2.2.2.2⟩

end Go.Proofs.YtnkemepodpkhnaaGreatFmt
