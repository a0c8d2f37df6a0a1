/-
  PROVED: what the reference's range writer does at a bit of a chance of a half and at a plain bit of one, told by the pure state. Conditions: the state ahead of and behind the step fits; the chance lies in a block below the own row.
-/
import Derived.Test.YtnkemepodpkhnaaGreatFmtWriter
import Derived.RegionTactic
import Derived.BigRegion
import Derived.Deep.AppendLies
import Derived.Deep.LoopGhost
import Derived.OwnWalk
import Derived.Deep.QuietTactic
import Derived.BigQuiet
namespace Go.Proofs.YtnkemepodpkhnaaGreatFmt
open Go.ChangeShapes Go.WideShapes Go.ChangeAt Go.RowKit

/-- A chance's cell: of the block mb of cells C the place o holds a number; behind the step it holds another one. -/
def CellOut (xb b mb o : Nat) (t : TypeId) (C : Array Value) (s : WS) (w w' : World) : Prop :=
  (∃ ov', Wr w' xb b ov' s) ∧ (∃ x, Blk w' mb (C.setIfInBounds o x) t) ∧ Kept b (fun k => k = xb ∨ k = mb) w w'

theorem learn (mb o : Nat) (p v : Int) (w : World) (C : Array Value) (t : TypeId) (hB : Blk w mb C t) (hp : C[o]? = some (.int .u16 p)) :
    Calls Tryz.prog 120 #[.pointer (some ⟨mb, o, none⟩), .int .i64 v] w fun e w' => e = .returned (.tuple #[]) ∧ ∃ x, (w.setCell ⟨mb, o, none⟩ x).drew = w' := by
  have hc : w.cell? ⟨mb, o, none⟩ = some (.int .u16 p) := by rw [hB.cell]; exact hp
  have hf := hB.frozen o
  clear hB hp
  by_cases hv : v = 0
  · have h1 : (v == 0) = true := by simpa using hv
    clear hv
    go_enter Tryz.func120, Tryz.ntmps120
    go_wp2
    go_region
    all_goals go_wp2
    all_goals go_end0
    all_goals exact ⟨rfl, _, rfl⟩
  · have h1 : (v == 0) = false := by simpa using hv
    clear hv
    go_enter Tryz.func120, Tryz.ntmps120
    go_wp2
    go_region
    all_goals go_wp2
    all_goals go_end0
    all_goals exact ⟨rfl, _, rfl⟩

/-- A bit of a chance of a half, ahead of the settling. -/
def WS.mid (s : WS) (v : Int) : WS :=
  if v = 0 then ⟨s.low, s.span / 2048 * 1024, s.cache, s.wait, s.out⟩ else ⟨s.low + s.span / 2048 * 1024, s.span - s.span / 2048 * 1024, s.cache, s.wait, s.out⟩
def WS.bit (s : WS) (v : Int) : WS := (s.mid v).settle

set_option maxRecDepth 100000 in
theorem bit_any (xb b mb o : Nat) (t : TypeId) (ov : Value) (s : WS) (v : Int) (C : Array Value) (w : World) (hW : Wr w xb b ov s) (hO : s.Ok) (hM : (s.mid v).Ok)
    (hC : Blk w mb C t) (hp : C[o]? = some (.int .u16 1024)) (hmb : mb < b) (hne : mb ≠ xb) (hv : v = 0 ∨ v = 1) :
    Calls Tryz.prog 117 #[.pointer (some ⟨xb, 0, none⟩), .pointer (some ⟨mb, o, none⟩), .int .i64 v] w fun e w' => e = .returned (.int .i64 v) ∧ CellOut xb b mb o t C (s.bit v) w w' := by
  obtain ⟨low, span, cache, wait, out⟩ := s
  have HW := hid hW
  have HM := hid hM
  have HC := hid hC
  have HP := hid hp
  obtain ⟨hB, hown, hxb, hbs, _⟩ := hW
  obtain ⟨o1, o2, o3, o4, o5, o6, o7, o8⟩ := hO
  simp only at *
  have c1 : w.cell? ⟨xb, 1, none⟩ = some (.int .u64 low) := by rw [hB.cell]; rfl
  have c2 : w.cell? ⟨xb, 2, none⟩ = some (.int .u32 span) := by rw [hB.cell]; rfl
  have cp : w.cell? ⟨mb, o, none⟩ = some (.int .u16 1024) := by rw [hC.cell]; exact hp
  have dl := hB.lt
  have f1 := hB.frozen 1
  have f2 := hB.frozen 2
  clear hown hB hM hC hp
  rcases hv with rfl | rfl
  · have e1 : (WS.mk low span cache wait out).mid 0 = ⟨low, span / 2048 * 1024, cache, wait, out⟩ := rfl
    have hx : ∀ (n : Nat) (x : Value), Wr (((w.drewN n).setCell ⟨xb, 2, none⟩ (.int .u32 (span / 2048 * 1024))).setCell ⟨mb, o, none⟩ x).drew xb b ov ((WS.mk low span cache wait out).mid 0) := fun n x => by
      refine ⟨?_, ?_, hxb, by simpa [World.drewN] using hbs, HW.out.2.2.2.2⟩
      · have h1 := (((HW.out.1.drewN n).set 2 (.int .u32 (span / 2048 * 1024))).set_other ⟨mb, o, none⟩ hne x).drew
        rw [e1]; simpa using h1
      · exact ownsRow_setCell_below (ownsRow_setCell_below (HW.out.2.1) (w := w.drewN n) (a := ⟨xb, 2, none⟩) hxb _) (a := ⟨mb, o, none⟩) hmb _
    have HX := hid hx
    clear hx e1
    go_enter Tryz.func117, Tryz.ntmps117
    go_wp2
    go_quiet (fail)
    go_wp2_with (first
      | (go_at_call 120; go_must (refine (learn mb o 1024 0 _ C t ((HC.out.drewN _).set_other _ (fun e => hne e.symm) _) HP.out).mono ?_); rintro e w' ⟨rfl, x, rfl⟩)
      | (go_at_call 119; go_must (refine (settle_any _ _ _ _ _ (HX.out _ _) HM.out).mono ?_); rintro e w' ⟨rfl, hWo⟩))
    go_ret
    obtain ⟨ov', hW', hK'⟩ := hWo
    refine ⟨rfl, ⟨ov', hW'⟩, ⟨x, ?_⟩, ?_⟩
    · have h1 := (((HC.out.drewN nq).set_other ⟨xb, 2, none⟩ (fun e => hne e.symm) (.int .u32 (span / 2048 * 1024))).set o x).drew
      exact h1.kept hK' hmb hne
    · exact (((((Kept.refl b (fun k => k = xb ∨ k = mb) w).drewN nq).setCell (Or.inr (Or.inl rfl)) _).setCell (Or.inr (Or.inr rfl)) _).drew).trans (hK'.mono (Nat.le_refl _) (fun k e => Or.inl e))
  · have e1 : (WS.mk low span cache wait out).mid 1 = ⟨low + span / 2048 * 1024, span - span / 2048 * 1024, cache, wait, out⟩ := rfl
    have hx : ∀ (n : Nat) (x : Value), Wr ((((w.drewN n).setCell ⟨xb, 1, none⟩ (.int .u64 (low + span / 2048 * 1024))).setCell ⟨xb, 2, none⟩ (.int .u32 (span - span / 2048 * 1024))).setCell ⟨mb, o, none⟩ x).drew xb b ov ((WS.mk low span cache wait out).mid 1) := fun n x => by
      refine ⟨?_, ?_, hxb, by simpa [World.drewN] using hbs, HW.out.2.2.2.2⟩
      · have h1 := ((((HW.out.1.drewN n).set 1 (.int .u64 (low + span / 2048 * 1024))).set 2 (.int .u32 (span - span / 2048 * 1024))).set_other ⟨mb, o, none⟩ hne x).drew
        rw [e1]; simpa using h1
      · exact ownsRow_setCell_below (ownsRow_setCell_below (ownsRow_setCell_below (HW.out.2.1) (w := w.drewN n) (a := ⟨xb, 1, none⟩) hxb _) (a := ⟨xb, 2, none⟩) hxb _) (a := ⟨mb, o, none⟩) hmb _
    have HX := hid hx
    clear hx e1
    go_enter Tryz.func117, Tryz.ntmps117
    go_wp2
    go_quiet (fail)
    go_wp2_with (first
      | (go_at_call 120; go_must (refine (learn mb o 1024 1 _ C t (((HC.out.drewN _).set_other _ (fun e => hne e.symm) _).set_other _ (fun e => hne e.symm) _) HP.out).mono ?_); rintro e w' ⟨rfl, x, rfl⟩)
      | (go_at_call 119; go_must (refine (settle_any _ _ _ _ _ (HX.out _ _) HM.out).mono ?_); rintro e w' ⟨rfl, hWo⟩))
    go_ret
    obtain ⟨ov', hW', hK'⟩ := hWo
    refine ⟨rfl, ⟨ov', hW'⟩, ⟨x, ?_⟩, ?_⟩
    · have h1 := ((((HC.out.drewN nq).set_other ⟨xb, 1, none⟩ (fun e => hne e.symm) (.int .u64 (low + span / 2048 * 1024))).set_other ⟨xb, 2, none⟩ (fun e => hne e.symm) (.int .u32 (span - span / 2048 * 1024))).set o x).drew
      exact h1.kept hK' hmb hne
    · exact ((((((Kept.refl b (fun k => k = xb ∨ k = mb) w).drewN nq).setCell (Or.inr (Or.inl rfl)) _).setCell (Or.inr (Or.inl rfl)) _).setCell (Or.inr (Or.inr rfl)) _).drew).trans (hK'.mono (Nat.le_refl _) (fun k e => Or.inl e))

def WS.mid1 (s : WS) : WS := ⟨s.low + s.span / 2, s.span / 2, s.cache, s.wait, s.out⟩
/-- A plain bit of one. -/
def WS.plain (s : WS) : WS := s.mid1.settle

set_option maxRecDepth 100000 in
theorem plain_one (xb b : Nat) (ov : Value) (s : WS) (w : World) (hW : Wr w xb b ov s) (hO : s.Ok) (hM : s.mid1.Ok) :
    Calls Tryz.prog 118 #[.pointer (some ⟨xb, 0, none⟩), .int .i64 1] w fun e w' => e = .returned (.int .i64 1) ∧ WOut xb b s.plain w w' := by
  obtain ⟨low, span, cache, wait, out⟩ := s
  have HW := hid hW
  have HM := hid hM
  obtain ⟨hB, hown, hxb, hbs, _⟩ := hW
  obtain ⟨o1, o2, o3, o4, o5, o6, o7, o8⟩ := hO
  simp only at *
  have c1 : w.cell? ⟨xb, 1, none⟩ = some (.int .u64 low) := by rw [hB.cell]; rfl
  have c2 : w.cell? ⟨xb, 2, none⟩ = some (.int .u32 span) := by rw [hB.cell]; rfl
  have dl := hB.lt
  have f1 := hB.frozen 1
  have f2 := hB.frozen 2
  clear hown hB hM
  have hx : Wr ((w.setCell ⟨xb, 2, none⟩ (.int .u32 (span / 2))).setCell ⟨xb, 1, none⟩ (.int .u64 (low + span / 2))).drew xb b ov (WS.mk low span cache wait out).mid1 := by
    refine ⟨?_, ?_, hxb, by simpa using hbs, HW.out.2.2.2.2⟩
    · have h1 := ((HW.out.1.set 2 (.int .u32 (span / 2))).set 1 (.int .u64 (low + span / 2))).drew
      simpa [WS.mid1] using h1
    · exact ownsRow_setCell_below (ownsRow_setCell_below (HW.out.2.1) (a := ⟨xb, 2, none⟩) hxb _) (a := ⟨xb, 1, none⟩) hxb _
  have HX := hid hx
  clear hx
  go_enter Tryz.func118, Tryz.ntmps118
  go_wp2
  go_region
  all_goals
    go_wp2_with (go_at_call 119; go_must (refine (settle_any _ _ _ _ _ HX.out HM.out).mono ?_); rintro e w' ⟨rfl, hWo⟩)
    go_ret
    obtain ⟨ov', hW', hK'⟩ := hWo
    exact ⟨rfl, ov', hW', ((((Kept.refl b (· = xb) w).setCell (Or.inr rfl) _).setCell (Or.inr rfl) _).drew).trans hK'⟩

/-- The writer at its beginning. -/
def WS0 : WS := ⟨0, 4294967295, 0, 1, []⟩

theorem btoi_any (v : Bool) (w : World) : Calls Tryz.prog 20 #[.bool v] w fun e w' => e = .returned (.int .i64 (if v then 1 else 0)) ∧ w = w' := by
  cases v <;>
  · go_enter Tryz.func20, Tryz.ntmps20
    go_wp2
    go_ret
    exact ⟨rfl, rfl⟩

theorem newWriter (w : World) : Calls Tryz.prog 12 #[] w fun e w' => e = .returned (.pointer (some ⟨w.heap.size, 0, none⟩)) ∧ w.alloc (.cells #[.slice none 0 0, .int .u64 0, .int .u32 4294967295, .int .u8 0, .int .i64 1] 86) = w' := by
  go_enter Tryz.func12, Tryz.ntmps12
  go_wp2
  go_ret
  exact ⟨rfl, rfl⟩
end Go.Proofs.YtnkemepodpkhnaaGreatFmt
