/-
  PROVED: the tree of three bits at a nought: steps 3, 4, 5. Conditions: the tree's eight chances are halves.
-/
import Derived.Test.YtnkemepodpkhnaaGreatFmtSteps
import Derived.RegionTactic
import Derived.BigRegion
import Derived.Deep.AppendLies
import Derived.Deep.LoopGhost
import Derived.OwnWalk
import Derived.Deep.RegionWith
import Derived.Deep.QuietTactic
import Derived.BigQuiet
namespace Go.Proofs.YtnkemepodpkhnaaGreatFmt
open Go.ChangeShapes Go.WideShapes Go.ChangeAt Go.RowKit
theorem bits_k : IntKind.i64.wrap 2 = 2 ∧ IntKind.i64.wrap 4 = 4 ∧ IntKind.i64.wrap 8 = 8 ∧ bits BinOp.and IntKind.i64 0 1 = 0 ∧ bits BinOp.and IntKind.i64 1 1 = 1 ∧ bits BinOp.or IntKind.i64 2 0 = 2 ∧ bits BinOp.or IntKind.i64 4 0 = 4 ∧ bits BinOp.or IntKind.i64 8 0 = 8 := by decide

/-- The place in the tree of three bits when k bits are to come. -/
def at3 : Nat → Nat | 3 => 1 | 2 => 2 | 1 => 4 | _ => 8

theorem tree3_next {xb b mb off k n a : Nat} {t : TypeId} {C C' : Array Value} {w wr w' : World} {x y : Value} (hk : k ≤ 2) (hx : x = .int .i64 (at3 k)) (hy : y = .int .i64 (k - 1)) (hn : n + 1 = 6 - k) (ha : a < at3 k) (ha8 : a < 8)
    (hU : Upd off (off + 8) C C') (hF : ∀ j, at3 (k + 1) ≤ j → j < 8 → C'[off + j]? = some (.int .u16 1024)) (hK : Kept b (fun k => k = xb ∨ k = mb) w wr)
    (hT : TreeOut xb b mb (off + a) (off + a + 1) t C' (St (n + 1)) wr.drew w') :
    ∃ ov' C', k ≤ 3 ∧ x = .int .i64 (at3 k) ∧ y = .int .i64 (k - 1) ∧ Wr w' xb b ov' (St (6 - k)) ∧ Blk w' mb C' t ∧ Upd off (off + 8) C C' ∧ (∀ j, at3 k ≤ j → j < 8 → C'[off + j]? = some (.int .u16 1024)) ∧ Kept b (fun k => k = xb ∨ k = mb) w w' := by
  obtain ⟨⟨ov', hW⟩, ⟨D, hD, hUD⟩, hK'⟩ := hT
  have hmo : at3 (k + 1) ≤ at3 k := by
    rcases (show k = 0 ∨ k = 1 ∨ k = 2 by omega) with rfl | rfl | rfl <;> decide
  refine ⟨ov', D, by omega, hx, hy, hn ▸ hW, hD, hU.trans (hUD.mono (by omega) (by omega)), fun j h1 h2 => ?_, hK.drew.trans hK'⟩
  rw [hUD.2 (off + j) (by omega)]
  exact hF j (by omega) h2

set_option maxRecDepth 100000 in
set_option maxHeartbeats 1000000 in
theorem tree3 (xb b mb off : Nat) (t : TypeId) (ov : Value) (C : Array Value) (w : World) (hW : Wr w xb b ov (St 3))
    (hC : Blk w mb C t) (hp : ∀ j, j < 8 → C[off + j]? = some (.int .u16 1024)) (hmb : mb < b) (hne : mb ≠ xb) :
    Calls Tryz.prog 37 #[.iface 51 (.pointer (some ⟨xb, 0, none⟩)), .slice (some ⟨mb, off, none⟩) 8 8, .int .i64 3, .int .i64 0] w fun e w' => e = .returned (.int .i64 0) ∧ TreeOut xb b mb off (off + 8) t C (St 6) w w' := by
  have HI := hid (And.intro hW (And.intro hC hp))
  clear hW hC hp
  obtain ⟨k1, k2, k3, k4, k5, k6, k7, k8⟩ := bits_k
  have n1 := nil_bit
  have n2 := method_bit
  go_enter Tryz.func37, Tryz.ntmps37
  go_wp2
  go_loopg [9, 10] 3 (fun k x y wr => ∃ ov' C', k ≤ 3 ∧ x = .int .i64 (at3 k) ∧ y = .int .i64 (k - 1) ∧ Wr wr xb b ov' (St (6 - k)) ∧ Blk wr mb C' t ∧ Upd off (off + 8) C C' ∧ (∀ j, at3 k ≤ j → j < 8 → C'[off + j]? = some (.int .u16 1024)) ∧ Kept b (fun k => k = xb ∨ k = mb) w wr)
  case atStart => exact ⟨ov, C, by omega, rfl, rfl, HI.out.1, HI.out.2.1, Upd.refl _ _ _, fun j _ h => HI.out.2.2 j h, Kept.refl _ _ _⟩
  case round =>
    obtain ⟨ov', C', hk, rfl, rfl, hWr, hB', hU, hF, hK⟩ := hrel
    have HH := hid (And.intro hWr (And.intro hB' (And.intro hU (And.intro hF hK))))
    clear hWr hB' hU hF hK
    rcases (show gk = 3 ∨ gk = 2 ∨ gk = 1 ∨ gk = 0 by omega) with rfl | rfl | rfl | rfl
    · have ea : at3 3 = 1 := rfl
      go_wp2_with fail
      go_region_with (go_at_call 117; go_loud (refine (bit_at 3 xb b mb (off + 1) t ov' 0 C' wr.drew (by omega) rfl HH.out.1 HH.out.2.1 (HH.out.2.2.2.1 1 (by decide) (by omega)) hmb hne (Or.inl rfl)).mono ?_); rintro e w' ⟨rfl, hT⟩)
      go_wp2
      go_roundg 2
      case measure => omega
      case rel => exact tree3_next (k := 2) (n := 3) (a := 1) (by omega) rfl rfl rfl (by decide) (by decide) HH.out.2.2.1 HH.out.2.2.2.1 HH.out.2.2.2.2 hT
    · have ea : at3 2 = 2 := rfl
      go_wp2_with fail
      go_region_with (go_at_call 117; go_loud (refine (bit_at 4 xb b mb (off + 2) t ov' 0 C' wr.drew (by omega) rfl HH.out.1 HH.out.2.1 (HH.out.2.2.2.1 2 (by decide) (by omega)) hmb hne (Or.inl rfl)).mono ?_); rintro e w' ⟨rfl, hT⟩)
      go_wp2
      go_roundg 1
      case measure => omega
      case rel => exact tree3_next (k := 1) (n := 4) (a := 2) (by omega) rfl rfl rfl (by decide) (by decide) HH.out.2.2.1 HH.out.2.2.2.1 HH.out.2.2.2.2 hT
    · have ea : at3 1 = 4 := rfl
      go_wp2_with fail
      go_region_with (go_at_call 117; go_loud (refine (bit_at 5 xb b mb (off + 4) t ov' 0 C' wr.drew (by omega) rfl HH.out.1 HH.out.2.1 (HH.out.2.2.2.1 4 (by decide) (by omega)) hmb hne (Or.inl rfl)).mono ?_); rintro e w' ⟨rfl, hT⟩)
      go_wp2
      go_roundg 0
      case measure => omega
      case rel => exact tree3_next (k := 0) (n := 5) (a := 4) (by omega) rfl rfl rfl (by decide) (by decide) HH.out.2.2.1 HH.out.2.2.2.1 HH.out.2.2.2.2 hT
    · have ea : at3 0 = 8 := rfl
      go_wp2
      go_ret
      exact ⟨rfl, ⟨ov', HH.out.1⟩, ⟨C', HH.out.2.1, HH.out.2.2.1⟩, HH.out.2.2.2.2⟩

end Go.Proofs.YtnkemepodpkhnaaGreatFmt
