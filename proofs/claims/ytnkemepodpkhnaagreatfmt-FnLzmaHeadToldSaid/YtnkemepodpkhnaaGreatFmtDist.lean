/-
  PROVED: what the reference does with the end's distance: steps 6 to 41. Conditions: the chances that are met are halves.
-/
import Derived.Test.YtnkemepodpkhnaaGreatFmtTreeB
import Derived.Test.YtnkemepodpkhnaaGreatFmtBack
import Derived.RegionTactic
import Derived.BigRegion
import Derived.Deep.AppendLies
import Derived.Deep.LoopGhost
import Derived.OwnWalk
import Derived.Deep.RegionWith
import Derived.Deep.QuietTactic
import Derived.BigQuiet
namespace Go.Proofs.YtnkemepodpkhnaaGreatFmt
open Go.ChangeShapes Go.WideShapes Go.ChangeAt Go.RowKit
theorem slot_gt : ∀ k : Fin 30, (3 : Int) < 4294967295 / 2 ^ k.val := by decide +kernel
set_option maxRecDepth 100000 in
theorem slotOf_end (w : World) : Calls Tryz.prog 49 #[.int .u32 4294967295] w fun e w' => e = .returned (.int .i64 63) ∧ w = w' := by
  have k1 : bits BinOp.and IntKind.u32 3 1 = 1 := by decide
  go_enter Tryz.func49, Tryz.ntmps49
  go_wp2
  go_loopg [3] 30 (fun k n wr => k ≤ 30 ∧ n = .int .i64 (30 - k) ∧ w = wr)
  case atStart => exact ⟨by omega, rfl, rfl⟩
  case round =>
    obtain ⟨hk, rfl, rfl⟩ := hrel
    obtain ⟨j, hj⟩ : ∃ j : Nat, j = 30 - gk := ⟨_, rfl⟩
    have e : (30 : Int) - (gk : Int) = (j : Int) := by omega
    have hj30 : j ≤ 30 := by omega
    by_cases h0 : gk = 0
    · subst h0
      go_wp2
      go_ret
      exact ⟨rfl, rfl⟩
    · have hg : (3 : Int) < 4294967295 / 2 ^ j := slot_gt ⟨j, by omega⟩
      rw [e]
      have E := hid e
      clear e hj
      go_wp2
      go_roundg (gk - 1)
      case measure => omega
      case rel => exact ⟨by omega, by rw [show (30 : Int) - ((gk - 1 : Nat) : Int) = (j : Int) + 1 by have := E.out; omega], rfl⟩

theorem plain_and : ∀ k : Fin 30, bits BinOp.and IntKind.i64 (1073741823 / 2 ^ k.val) 1 = 1 := by decide +kernel
theorem plain_or : ∀ k : Fin 27, bits BinOp.or IntKind.i64 ((2 ^ k.val - 1) * 2) 1 = 2 ^ (k.val + 1) - 1 := by decide +kernel
theorem nil_plain (a : Addr) (w : World) : (nilAhead 360 51 (.pointer (some a)) "loop.example/pub-g03423/spec.plain").run Tryz.prog w = .ok (some false) w := by kernel_rfl
theorem method_plain (a : Addr) (w : World) : (method 360 51 (.pointer (some a)) "loop.example/pub-g03423/spec.plain").run Tryz.prog w = .ok (118, .pointer (some a)) w := by kernel_rfl
theorem Kept.undrew {b : Nat} {K : Nat → Prop} {w w' : World} (h : Kept b K w.drew w') : Kept b K w w' := ⟨h.os, h.tape, h.output, h.size, h.block⟩
theorem kind_plain {n : Nat} (h1 : 12 ≤ n) (h2 : n < 38) : kind n = none := by simp [kind, h1, h2]
theorem pow_bound : ∀ k, k < 27 → (0 : Int) ≤ 2 ^ k - 1 ∧ (2 : Int) ^ k - 1 < 134217728 := by decide +kernel
theorem bits_d : bits BinOp.and IntKind.i64 63 1 = 1 ∧ bits BinOp.or IntKind.i64 2 1 = 3 := by decide

set_option maxRecDepth 100000 in
set_option maxHeartbeats 2000000 in
theorem distance_end (xb b mb : Nat) (ov : Value) (C : Array Value) (w : World) (hW : Wr w xb b ov (St 6))
    (hC : Blk w mb C 68) (hp : ∀ j, j < 64 → C[436 + j]? = some (.int .u16 1024)) (hp2 : ∀ j, j < 16 → C[807 + j]? = some (.int .u16 1024)) (hmb : mb < b) (hne : mb ≠ xb) :
    Calls Tryz.prog 36 #[.pointer (some ⟨mb, 0, none⟩), .iface 51 (.pointer (some ⟨xb, 0, none⟩)), .int .i64 0, .int .u32 4294967295] w fun e w' => e = .returned (.int .u32 4294967295) ∧ TreeOut xb b mb 436 823 68 C (St 42) w w' := by
  have n1 := nil_plain
  have n2 := method_plain
  obtain ⟨k1, k2⟩ := bits_d
  have HI := hid (And.intro hW (And.intro hC (And.intro hp hp2)))
  clear hW hC hp hp2
  go_enter Tryz.func36, Tryz.ntmps36
  go_wp2_with fail
  go_region_with (first | (go_at_call 49; go_loud (refine (slotOf_end _).mono ?_); rintro e w' ⟨rfl, rfl⟩) | (go_at_call 37; go_loud (refine (tree6 xb b mb 436 68 ov C w.drew HI.out.1 HI.out.2.1 HI.out.2.2.1 hmb hne).mono ?_); rintro e w1 ⟨rfl, hT⟩))
  all_goals
    go_wp2_with fail
    obtain ⟨⟨ov1, hW1⟩, ⟨C1, hC1, hU1⟩, hK1⟩ := hT
    have HT := hid (And.intro hW1 (And.intro hC1 (And.intro hU1 hK1)))
    clear hW1 hC1 hU1 hK1
    go_loopg [13, 14] 26 (fun k x y wr => k ≤ 26 ∧ x = .int .i64 (2 ^ (26 - k) - 1) ∧ y = .int .i64 (k + 3) ∧ WOut xb b (St (38 - k)) w1 wr)
    case atStart => exact ⟨by omega, rfl, rfl, ov1, HT.out.1, Kept.refl _ _ _⟩
    case round =>
      obtain ⟨hk, rfl, rfl, ov2, hW2, hK2⟩ := hrel
      have H2 := hid (And.intro hW2 hK2)
      clear hW2 hK2
      by_cases h0 : gk = 0
      · subst h0
        have HB := hid ((HT.out.2.1.kept H2.out.2 hmb hne))
        have HP : Hid (∀ j, j < 16 → C1[807 + j]? = some (.int .u16 1024)) := fun j hj => by rw [HT.out.2.2.1.2 _ (by omega)]; exact HI.out.2.2.2 j hj
        go_wp2_with (go_at_call 50; go_loud (refine (back4 xb b mb 807 68 ov2 C1 _ H2.out.1 HB.out HP.out hmb hne).mono ?_); rintro e w3 ⟨rfl, hT3⟩)
        go_ret
        obtain ⟨hW3, ⟨C3, hC3, hU3⟩, hK3⟩ := hT3
        exact ⟨rfl, hW3, ⟨C3, hC3, (HT.out.2.2.1.mono (by omega) (by omega)).trans (hU3.mono (by omega) (by omega))⟩, (HT.out.2.2.2.undrew.trans (H2.out.2.mono (Nat.le_refl _) (fun k e => Or.inl e))).trans hK3⟩
      · obtain ⟨m, hm⟩ : ∃ m : Nat, m = gk + 3 := ⟨_, rfl⟩
        obtain ⟨h, hh⟩ : ∃ h : Int, h = 2 ^ (26 - gk) - 1 := ⟨_, rfl⟩
        have hb := pow_bound (26 - gk) (by omega)
        have em : (gk : Int) + 3 = (m : Int) := by omega
        have pa : bits BinOp.and IntKind.i64 (1073741823 / 2 ^ m) 1 = 1 := plain_and ⟨m, by omega⟩
        have po : bits BinOp.or IntKind.i64 (h * 2) 1 = 2 ^ (26 - gk + 1) - 1 := by rw [hh]; exact plain_or ⟨26 - gk, by omega⟩
        have hm30 : m < 30 := by omega
        have hm3 : 4 ≤ m := by omega
        rw [← hh] at hb
        rw [em, ← hh]
        have E := hid (And.intro em (And.intro hh hm))
        clear em hh hm
        obtain ⟨hb1, hb2⟩ := hb
        go_wp2_with fail
        go_region_with (go_at_call 118; go_loud (refine (plain_at (38 - gk) xb b ov2 wr.drew (by omega) (kind_plain (by omega) (by omega)) H2.out.1).mono ?_); rintro e w3 ⟨rfl, hT3⟩)
        go_wp2
        obtain ⟨ov3, hW3, hK3⟩ := hT3
        go_roundg (gk - 1)
        case measure => omega
        case rel =>
          refine ⟨by omega, ?_, ?_, ov3, ?_, H2.out.2.trans hK3.undrew⟩
          · rw [show 26 - (gk - 1) = 26 - gk + 1 by omega, po]
          · rw [show ((gk - 1 : Nat) : Int) + 3 = (m : Int) - 1 by have := E.out.1; omega]
          · rw [show 38 - (gk - 1) = 38 - gk + 1 by omega]; exact hW3
end Go.Proofs.YtnkemepodpkhnaaGreatFmt
