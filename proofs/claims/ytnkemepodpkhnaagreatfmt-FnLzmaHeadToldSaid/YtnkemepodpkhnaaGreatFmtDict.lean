/-
  PROVED: the package makes a decoder's dictionary and a decoder without a fault. Conditions: the range decoder's first bytes are as a writer makes them.
-/
import Derived.Test.YtnkemepodpkhnaaGreatFmtReader
import Derived.RegionTactic
import Derived.BigRegion
import Derived.Deep.AppendLies
import Derived.Deep.LoopGhost
import Derived.OwnWalk
import Derived.Deep.RegionWith
import Derived.Deep.QuietTactic
import Derived.BigQuiet
namespace Go.Proofs.YtnkemepodpkhnaaGreatFmt
open Go.ChangeShapes Go.WideShapes Go.ChangeAt Go.RowKit
theorem info5b : (Tryz.prog.info? 5).map (fun i => (i.zero.isSome, i.size, i.bytes)) = some (true, 1, 1) := by kernel_rfl

/-- A new dictionary of the decoder's. -/
def DictOut (w : World) (d : Nat) (w' : World) : Prop := Below w.heap.size w w' ∧ w.heap.size ≤ d ∧ ∃ C, Blk w' d C 162 ∧ C[3]? = some (.int .i64 0)

set_option maxRecDepth 100000 in
set_option maxHeartbeats 1000000 in
theorem newDict (n : Nat) (w : World) (h1 : 1 ≤ n) (h2 : n ≤ 1000000) :
    Calls Tryz.prog 33 #[.int .i64 n] w fun e w' => e = .returned (.tuple #[.pointer (some ⟨w.heap.size + 2, 0, none⟩), .nilIface]) ∧ DictOut w (w.heap.size + 2) w' := by
  obtain ⟨M, hM, hmk⟩ := make_any 25 5 1 1 Tryz.underlying25 info5b (n + 1) (by omega) (by omega)
  have ec : ((n + 1 : Nat) : Int) = (n : Int) + 1 := by omega
  rw [ec] at hmk
  have d1 : decide ((1 : Int) ≤ (n : Int)) = true := by simp; omega
  have d2 : decide ((n : Int) ≤ 4294967295) = true := by simp; omega
  have d3 : (1 : Int) ≤ (n : Int) := by omega
  have d4 : (n : Int) ≤ 4294967295 := by omega
  clear hM ec
  go_enter Tryz.func33, Tryz.ntmps33
  go_wp2
  go_ret2
  refine ⟨rfl, (((Below.refl _ _).alloc (Nat.le_refl _) _).alloc (by simp) _).alloc (by simp; omega) _, by omega, ?_⟩
  refine ⟨#[.slice (some ⟨w.heap.size, 0, none⟩) (n + 1) (n + 1), .int .i64 0, .int .i64 0, .int .i64 0], ?_, rfl⟩
  have := Blk.new ((w.alloc (.cells M 5)).alloc (.cells #[.slice (some ⟨w.heap.size, 0, none⟩) (n + 1) (n + 1), .int .i64 0, .int .i64 0] 158)) #[.slice (some ⟨w.heap.size, 0, none⟩) (n + 1) (n + 1), .int .i64 0, .int .i64 0, .int .i64 0] 162
  simpa using this

theorem assert_br (a : Addr) (w : World) : (Instr.typeAssert (.iface 76 (.pointer (some a))) 80 114 true).run Tryz.prog w = .ok (.tuple #[.iface 76 (.pointer (some a)), .bool true]) w := by kernel_rfl

set_option maxRecDepth 100000 in
theorem byteReader (rb : Nat) (w : World) : Calls Tryz.prog 35 #[.iface 76 (.pointer (some ⟨rb, 0, none⟩))] w fun e w' => e = .returned (.iface 76 (.pointer (some ⟨rb, 0, none⟩))) ∧ w = w' := by
  have ha := assert_br ⟨rb, 0, none⟩
  go_enter Tryz.func35, Tryz.ntmps35
  go_wp2
  go_ret
  exact ⟨rfl, rfl⟩

set_option maxRecDepth 100000 in
set_option maxHeartbeats 1000000 in
theorem newDecoder (rb g cap sb d : Nat) (L : List Int) (size : Int) (w : World) (hR : Rd w rb g cap L 13) (hL : tail5 L) (C : Array Value) (hD : Blk w d C 162) (h3 : C[3]? = some (.int .i64 0)) (hne : d ≠ rb) :
    Calls Tryz.prog 34 #[.iface 76 (.pointer (some ⟨rb, 0, none⟩)), .pointer (some ⟨sb, 0, none⟩), .pointer (some ⟨d, 0, none⟩), .int .i64 size] w fun e w' => (∃ k, e = .returned (.tuple #[.pointer (some ⟨k, 0, none⟩), .nilIface])) ∧ Kept w.heap.size (· = rb) w w' := by
  have hlt := hD.lt
  have HI := hid (And.intro hR (And.intro hD h3))
  clear hR hD h3
  go_enter Tryz.func34, Tryz.ntmps34
  go_wp2_with (first
    | (go_at_call 47
       go_loud (refine (newRangeDecoder rb g cap L w HI.out.1 hL).mono ?_)
       rintro e w1 ⟨rfl, hK⟩
       have hd1 := HI.out.2.1.kept hK hlt hne
       have c3 : w1.cell? ⟨d, 3, none⟩ = some (.int .i64 0) := by rw [hd1.cell]; exact HI.out.2.2
       have H1 := hid hK
       clear hK hd1)
    | go_in)
  go_ret2
  exact ⟨⟨_, rfl⟩, H1.out.alloc H1.out.size _⟩

end Go.Proofs.YtnkemepodpkhnaaGreatFmt
