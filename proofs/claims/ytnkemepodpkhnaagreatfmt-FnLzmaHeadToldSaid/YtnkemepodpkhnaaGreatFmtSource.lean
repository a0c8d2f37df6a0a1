/-
  PROVED: a row of bytes is cloned, a reader is made over it, and the package's configuration of a reader is sound. Conditions: the row has 23 bytes and the dictionary's bound is 65536.
-/
import Derived.Test.YtnkemepodpkhnaaGreatFmtWrite
import Derived.Test.YtnkemepodpkhnaaGreatFmtRead
import Derived.RegionTactic
import Derived.BigRegion
import Derived.Deep.AppendLies
import Derived.Deep.LoopGhost
import Derived.OwnWalk
import Derived.Deep.RegionWith
import Derived.Deep.QuietTactic
import Derived.BigQuiet
namespace Go.Proofs.YtnkemepodpkhnaaGreatFmt
open Go.ChangeShapes Go.WideShapes Go.ChangeAt Go.RowKit
theorem eql_nil_slice (a : Addr) (n c : Nat) (w : World) : (binOp .eql 25 (.slice (some a) n c) (.slice none 0 0)).run Tryz.prog w = .ok (.bool false) w := by kernel_rfl

def CloneOut (L : List Int) (w : World) (e : Ending) (w' : World) : Prop :=
  ∃ g cap, e = .returned (.slice (some ⟨g, 0, none⟩) 23 cap) ∧ w.heap.size ≤ g ∧ g < w'.heap.size ∧ 23 ≤ cap ∧ (∀ j, j < 23 → w'.cell? ⟨g, j, none⟩ = some (.int .u8 (L.getD j 0))) ∧ Below w.heap.size w w'

set_option maxRecDepth 100000 in
set_option maxHeartbeats 1000000 in
theorem clone_any (B g0 cap0 : Nat) (L : List Int) (w : World) (hL : L.length = 23) (hown : w.ownsRow B 5 1 (.slice (some ⟨g0, 0, none⟩) 23 cap0) 23 (L.map (Value.int .u8))) :
    Calls Tryz.prog 19 #[.slice (some ⟨g0, 0, none⟩) 23 cap0] w (CloneOut L w) := by
  obtain ⟨i0, hi0, hz0, hz1, hz2⟩ := info_parts info5
  have heq := eql_nil_slice
  go_enter Tryz.func19, Tryz.ntmps19
  go_wp2_with (
    at_builtin
    go_must (refine wpList_append_lies _ (by rfl) _ _ _ (by rfl) w.heap.size 5 i0 _ 1 1 Tryz.underlying25 hi0 hz0 hz1 hz2 rfl (by omega) _ 0 [] (by rfl) (World.ownsRow_made w #[] 0 (Nat.le_refl _) (by unfold maxLen; omega) rfl) ⟨g0, 0, none⟩ 23 cap0 (L.map (Value.int .u8)) (by rfl) (by simp [hL]) (World.ownsRow.cells (hown.alloc _) rfl) (by simp [Value.oneCell']) (by omega) (by unfold maxLen; omega) (by omega) (by simp) (w.heap.size + 1) (by simp) ?_)
    intro g cap w1 hown1 hgrow hat hlt2)
  go_ret
  have hB : Below w.heap.size w w1 := ((Below.refl _ _).alloc (Nat.le_refl _) _).grown hgrow (by simp) (fun k hk => by simp [Value.ownBlock] at hk; omega)
  refine ⟨g, cap, rfl, ?_, hlt2, ?_, fun j hj => ?_, hB⟩
  · rcases hown1.2 with ⟨h, _⟩ | ⟨g', cap', cur, h, hb, _⟩
    · cases h
    · cases h; exact hb
  · rcases hown1.2 with ⟨h, _⟩ | ⟨g', cap', cur, h, _, _, hc, _⟩
    · cases h
    · cases h; exact hc
  · have h := hown1.cellAt j (by omega)
    rw [h]
    simp [hL, hj]

set_option maxRecDepth 100000 in
theorem newReaderS (g cap : Nat) (w : World) :
    Calls Tryz.prog 18 #[.slice (some ⟨g, 0, none⟩) 23 cap] w fun e w' => e = .returned (.pointer (some ⟨w.heap.size, 0, none⟩)) ∧ w' = w.alloc (.cells #[.slice (some ⟨g, 0, none⟩) 23 cap, .int .i64 0, .int .i64 (-1)] 117) := by
  go_enter Tryz.func18, Tryz.ntmps18
  go_wp2
  go_ret
  exact ⟨rfl, rfl⟩

set_option maxRecDepth 100000 in
theorem verify (k : Nat) (w : World) (h : w.cell? ⟨k, 0, none⟩ = some (.int .i64 65536)) :
    Calls Tryz.prog 26 #[.pointer (some ⟨k, 0, none⟩)] w fun e w' => e = .returned .nilIface ∧ w = w' := by
  have hf : Calls Tryz.prog 38 #[.pointer (some ⟨k, 0, none⟩)] w fun e w' => (∃ u, e = .returned u) ∧ w = w' := by
    go_enter Tryz.func38, Tryz.ntmps38
    go_wp2
    go_end0
    exact ⟨⟨_, rfl⟩, rfl⟩
  go_enter Tryz.func26, Tryz.ntmps26
  go_wp2_with (
    go_at_call 38
    go_loud (refine hf.mono ?_)
    rintro e w' ⟨⟨u, rfl⟩, rfl⟩)
  go_ret
  exact ⟨rfl, rfl⟩

end Go.Proofs.YtnkemepodpkhnaaGreatFmt
