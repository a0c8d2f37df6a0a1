/-
  PROVED: the reference packs the end's symbol alone into ten bytes, with a new model. Conditions: the model is new, pb is at most 4, the list holds the end alone.
-/
import Derived.Test.YtnkemepodpkhnaaGreatFmtEnd
import Derived.Test.YtnkemepodpkhnaaGreatFmtNewm
import Derived.RegionTactic
import Derived.BigRegion
import Derived.Deep.AppendLies
import Derived.Deep.LoopGhost
import Derived.OwnWalk
import Derived.Deep.RegionHeld3
import Derived.Deep.RegionWith
import Derived.Deep.QuietTactic
import Derived.BigQuiet
namespace Go.Proofs.YtnkemepodpkhnaaGreatFmt
open Go.ChangeShapes Go.WideShapes Go.ChangeAt Go.RowKit
def PackRel (mb lb : Nat) (C D : Array Value) (t : TypeId) (w : World) (k : Nat) (s8 i : Value) (wr : World) : Prop :=
  Kept w.heap.size (· = mb) w wr ∧
  ((k = 1 ∧ s8 = .slice (some ⟨w.heap.size + 1, 0, none⟩) 0 0 ∧ i = .int .i64 0 ∧ Wr wr w.heap.size (w.heap.size + 2) (.slice none 0 0) (St 0) ∧ Blk wr mb C 68 ∧ Blk wr lb D t) ∨
   (k = 0 ∧ i = .int .i64 1 ∧ ∃ ov', Wr wr w.heap.size (w.heap.size + 1) ov' (St 42)))

def PackOut (mb : Nat) (w : World) (e : Ending) (w' : World) : Prop :=
  ∃ ov', e = .returned ov' ∧ w'.ownsRow w.heap.size 5 1 ov' 10 ([0, 131, 255, 251, 255, 255, 192, 0, 0, 0].map (Value.int .u8)) ∧ Kept w.heap.size (· = mb) w w'

set_option maxRecDepth 100000 in
set_option maxHeartbeats 2000000 in
theorem packed_end (mb lb lc : Nat) (C D : Array Value) (t : TypeId) (pb : Nat) (w : World) (hpb : pb ≤ 4) (hC : Blk w mb C 68) (hpbc : C[2]? = some (.int .i64 pb))
    (hp : ∀ j, 4 ≤ j → j < 1851 → C[j]? = some (.int .u16 1024)) (hst : C[1851]? = some (.int .i64 0)) (hre : ∀ j, j < 4 → C[1852 + j]? = some (.int .u32 0))
    (hD : Blk w lb D t) (hd : D[0]? = some (.int .i64 4) ∧ D[1]? = some (.int .u8 0) ∧ D[2]? = some (.int .i64 0) ∧ D[3]? = some (.int .i64 0) ∧ D[4]? = some (.int .i64 0)) (_hlb : lb ≠ mb) :
    Calls Tryz.prog 8 #[.pointer (some ⟨mb, 0, none⟩), .slice none 0 0, .slice (some ⟨lb, 0, none⟩) 1 lc] w (PackOut mb w) := by
  have hmw := hC.lt
  have hlw := hD.lt
  have h0 : PackRel mb lb C D t w 1 (.slice (some ⟨w.heap.size + 1, 0, none⟩) 0 0) (.int .i64 0) ((w.alloc (.cells #[.slice none 0 0, .int .u64 0, .int .u32 4294967295, .int .u8 0, .int .i64 1] 86)).alloc (.cells #[] 5)) := by
    refine ⟨((Kept.refl _ _ _).alloc (Nat.le_refl _) _).alloc (by simp) _, Or.inl ⟨rfl, rfl, rfl, ⟨?_, World.ownsRow_nil _ _ _ _, by omega, by simp, fun _ => rfl⟩, (hC.alloc _).alloc _, (hD.alloc _).alloc _⟩⟩
    exact (Blk.new w _ _).alloc _
  have HI := hid (And.intro h0 (And.intro hpbc (And.intro hp (And.intro hst (And.intro hre hd)))))
  clear h0 hC hpbc hp hst hre hD hd
  go_enter Tryz.func8, Tryz.ntmps8
  go_wp2_with (go_at_call 12; go_loud (refine (newWriter _).mono ?_); rintro e w1 ⟨rfl, rfl⟩)
  go_loopg [8, 19] 1 (fun k s8 i wr => PackRel mb lb C D t w k s8 i wr)
  case atStart => exact HI.out.1
  case round =>
    obtain ⟨hK, ⟨rfl, rfl, rfl, hW, hC, hD⟩ | ⟨rfl, rfl, ov', hW⟩⟩ := hrel
    · obtain ⟨q0, q1, q2, q3, q4⟩ := HI.out.2.2.2.2.2
      have c0 := hD.cell_at 0 q0
      have c1 := hD.cell_at 1 q1
      have c2 := hD.cell_at 2 q2
      have c3 := hD.cell_at 3 q3
      have c4 := hD.cell_at 4 q4
      have hxw : w.heap.size < wr.heap.size := hW.1.lt
      have hsz := hK.size
      have hW1 : Wr (wr.alloc (opBox 4 0)) w.heap.size (wr.heap.size + 1) (.slice none 0 0) (St 0) := hW.rebase St0_out (Below.heap_alloc _ _ _ hxw) (by omega) (by simp)
      have hC1 : Blk (wr.alloc (opBox 4 0)) mb C 68 := hC.alloc _
      have hB1 : Blk (wr.alloc (opBox 4 0)) wr.heap.size #[.int .i64 4, .int .u8 0, .int .i64 0, .int .i64 0, .int .i64 0] 34 := Blk.new wr _ _
      have hK1 : Kept w.heap.size (· = mb) w (wr.alloc (opBox 4 0)) := hK.alloc (by omega) _
      have H := hid (And.intro hW1 (And.intro hC1 (And.intro hB1 hK1)))
      clear hW1 hC1 hB1 hK1 hK hW hC hD q0 q1 q2 q3 q4
      go_wp2_with (
        go_at_call 13
        go_loud (refine (symbol_end w.heap.size (wr.heap.size + 1) mb (.slice none 0 0) C (wr.alloc (opBox 4 0)) _ 0 pb hpb H.out.1 H.out.2.1 HI.out.2.1 HI.out.2.2.1 HI.out.2.2.2.1 HI.out.2.2.2.2.1 (by omega) (by omega)).mono ?_)
        rintro e w1 ⟨rfl, hT⟩
        have hbx := hT.blk H.out.2.2.1 (by omega) (by omega) (by omega)
        have b0 := hbx.cell_at 0 (v := .int .i64 4) rfl
        have b2 := hbx.cell_at 2 (v := .int .i64 0) rfl
        have HT := hid hT
        clear hT hbx)
      obtain ⟨wo, rfl⟩ : ∃ wo : World, wo = wr := ⟨_, rfl⟩
      go_loopg [12] 0 (fun k v wx => v = .int .i64 0 ∧ wx = w1)
      case atStart => exact ⟨rfl, rfl⟩
      case round =>
        obtain ⟨rfl, rfl⟩ := hrel
        go_wp2
        go_roundg 0
        case measure => omega
        case rel =>
          obtain ⟨⟨ov2, hW2⟩, _, hK2⟩ := HT.out
          refine ⟨H.out.2.2.2.trans ⟨hK2.os, hK2.tape, hK2.output, hK2.size, fun k hk hn => hK2.block k (by omega) (by omega)⟩, Or.inr ⟨rfl, rfl, ov2, hW2.lower (by omega) (by omega)⟩⟩
    · have H := hid (And.intro hK hW)
      clear hK hW
      go_wp2_with (
        go_at_call 14
        go_loud (refine (end_all w.heap.size (w.heap.size + 1) ov' _ H.out.2).mono ?_)
        rintro e w1 ⟨ov2, rfl, hT⟩)
      go_ret
      obtain ⟨hO, hK2⟩ := hT
      refine ⟨ov2, rfl, ?_, ?_⟩
      · obtain ⟨h1, h2⟩ := hO
        refine ⟨h1, ?_⟩
        rcases h2 with h2 | ⟨g, cap, cur, e1, e2, r⟩
        · exact .inl h2
        · exact .inr ⟨g, cap, cur, e1, by omega, r⟩
      · exact H.out.1.trans ⟨hK2.os, hK2.tape, hK2.output, hK2.size, fun k hk hn => hK2.block k (by omega) (by omega)⟩

end Go.Proofs.YtnkemepodpkhnaaGreatFmt
