/-
  PROVED: the law of an LZMA stream's head answers true at every input. Conditions: none beyond the parameters' own types.
-/
import Derived.Test.YtnkemepodpkhnaaGreatFmtWrite
import Derived.Test.YtnkemepodpkhnaaGreatFmtBegin
import Derived.RegionTactic
import Derived.BigRegion
import Derived.Deep.AppendLies
import Derived.Deep.LoopGhost
import Derived.OwnWalk
import Derived.Deep.RegionWith
import Derived.Deep.QuietTactic
import Derived.BigQuiet
namespace Go.Proofs.YtnkemepodpkhnaaGreatFmt
open Go.ChangeShapes Go.WideShapes Go.ChangeAt Go.RowKit
set_option maxRecDepth 100000 in
set_option maxHeartbeats 1000000 in
theorem header (h k lc lp pb dict : Nat) (z : Int) (rv a0 a1 a2 a3 a4 : Value) (w : World)
    (hB : Blk w h #[rv, a0, a1, a2, a3, a4, .int .i64 lc, .int .i64 lp, .int .i64 pb, .int .u32 dict, .int .i64 z, .pointer (some ⟨k, 0, none⟩)] 83) :
    Calls Tryz.prog 11 #[.pointer (some ⟨h, 0, none⟩)] w fun e w' => e = .returned (.tuple #[.agg #[.int .i64 lc, .int .i64 lp, .int .i64 pb, .int .u32 dict, .int .i64 z], .bool true]) ∧ Below w.heap.size w w' := by
  have hl := hB.lt
  have e6 : w.cell? ⟨h, 6, none⟩ = some (.int .i64 lc) := by rw [hB.cell]; rfl
  have e7 : w.cell? ⟨h, 7, none⟩ = some (.int .i64 lp) := by rw [hB.cell]; rfl
  have e8 : w.cell? ⟨h, 8, none⟩ = some (.int .i64 pb) := by rw [hB.cell]; rfl
  have e9 : w.cell? ⟨h, 9, none⟩ = some (.int .u32 dict) := by rw [hB.cell]; rfl
  have e10 : w.cell? ⟨h, 10, none⟩ = some (.int .i64 z) := by rw [hB.cell]; rfl
  have e11 : w.cell? ⟨h, 11, none⟩ = some (.pointer (some ⟨k, 0, none⟩)) := by rw [hB.cell]; rfl
  clear hB
  go_enter Tryz.func11, Tryz.ntmps11
  go_wp2_with fail
  go_region
  all_goals go_wp2
  all_goals
    refine bodyPost_ret (v := .tuple #[.agg #[.int .i64 lc, .int .i64 lp, .int .i64 pb, .int .u32 dict, .int .i64 z], .bool true]) (by simp [results, Tryz.results11, go_sem]) rfl ⟨rfl, ((Below.refl _ _).alloc (Nat.le_refl _) _).drew⟩

def LzOut (lc lp pb dict : Nat) (z : Int) (w : World) (e : Ending) (w' : World) : Prop :=
  ∃ h k rv a0 a1 a2 a3 a4, e = .returned (.tuple #[.pointer (some ⟨h, 0, none⟩), .nilIface]) ∧ w.heap.size ≤ h ∧
    Blk w' h #[rv, a0, a1, a2, a3, a4, .int .i64 lc, .int .i64 lp, .int .i64 pb, .int .u32 dict, .int .i64 z, .pointer (some ⟨k, 0, none⟩)] 83 ∧ Below w.heap.size w w'

set_option maxRecDepth 100000 in
set_option maxHeartbeats 1000000 in
theorem lzmaReader (B g0 cap0 lc lp pb dict : Nat) (z : Int) (L : List Int) (w : World) (hL : L.length = 23) (hown : w.ownsRow B 5 1 (.slice (some ⟨g0, 0, none⟩) 23 cap0) 23 (L.map (Value.int .u8)))
    (ht : tail5 L) (hS : Says L lc lp pb dict z) (hd0 : 4096 ≤ dict) (hd1 : dict ≤ 65536) :
    Calls Tryz.prog 10 #[.slice (some ⟨g0, 0, none⟩) 23 cap0] w (LzOut lc lp pb dict z w) := by
  have H := hid (And.intro hown (And.intro ht hS))
  clear hown ht hS
  go_enter Tryz.func10, Tryz.ntmps10
  go_wp2_with fail
  refine (clone_any B g0 cap0 L w hL H.out.1).mono ?_
  rintro e w1 ⟨g, cap, rfl, hg, hg1, hcap, hc, hB⟩
  have H1 := hid (And.intro hc hB)
  clear hc hB
  go_wp2_with fail
  refine (newReaderS g cap w1).mono ?_
  rintro e w2 ⟨rfl, hw2⟩
  have hR : Rd w2 w1.heap.size g cap L 0 := by
    rw [hw2]
    exact ⟨⟨-1, Blk.new w1 _ 117⟩, fun j hj => by rw [World.cell?_of_block (w := w1) (Below.heap_alloc _ _ _ hg1)]; exact H1.out.1 j hj, by omega, hcap⟩
  have hs2 : w2.heap.size = w1.heap.size + 1 := by rw [hw2]; simp
  have hB2 : Below w.heap.size w w2 := by rw [hw2]; exact H1.out.2.alloc (by omega) _
  have hnr := newReader w1.heap.size g cap lc lp pb dict z L w2 hR H.out.2.1 H.out.2.2 hd0 hd1
  have H2 := hid (And.intro hnr (And.intro hs2 hB2))
  clear hnr hs2 hB2 hw2 hR
  go_wp2_with fail
  refine H2.out.1.mono ?_
  rintro e w3 ⟨h, k, rv, a0, a1, a2, a3, a4, rfl, hh, hC, hK⟩
  have H3 := hid (And.intro hC hK)
  clear hC hK
  go_wp2
  go_ret2
  have h2 := H2.out.2.1
  have h3 := H2.out.2.2.size
  exact ⟨h, k, rv, a0, a1, a2, a3, a4, rfl, by omega, H3.out.1, H2.out.2.2.trans (H3.out.2.below (by omega) (fun k e => by omega))⟩

/-- A setting and a size, as the reading of a head answers. -/
def HdOut (lc lp pb dict : Nat) (z : Int) (w : World) (e : Ending) (w' : World) : Prop :=
  e = .returned (.tuple #[.agg #[.int .i64 lc, .int .i64 lp, .int .i64 pb, .int .i64 dict, .int .i64 0, .bool false], .int .i64 z, .bool true]) ∧ Below w.heap.size w w'

set_option maxRecDepth 100000 in
set_option maxHeartbeats 1000000 in
theorem lzmaHead (B g0 cap0 lc lp pb dict : Nat) (z : Int) (L : List Int) (w : World) (hL : L.length = 23) (hown : w.ownsRow B 5 1 (.slice (some ⟨g0, 0, none⟩) 23 cap0) 23 (L.map (Value.int .u8)))
    (ht : tail5 L) (hS : Says L lc lp pb dict z) (hd0 : 4096 ≤ dict) (hd1 : dict ≤ 65536) :
    Calls Tryz.prog 6 #[.slice (some ⟨g0, 0, none⟩) 23 cap0] w (HdOut lc lp pb dict z w) := by
  have p3 : (dict : Int) ≤ 65536 := by omega
  have H := hid (And.intro hown (And.intro ht hS))
  clear hown ht hS
  go_enter Tryz.func6, Tryz.ntmps6
  go_wp2_with fail
  refine (lzmaReader B g0 cap0 lc lp pb dict z L _ hL (H.out.1.alloc _) H.out.2.1 H.out.2.2 hd0 hd1).mono ?_
  rintro e w1 ⟨h, k, rv, a0, a1, a2, a3, a4, rfl, hh, hC, hB1⟩
  simp at hh
  have hX1 : Blk w1 w.heap.size #[.int .i64 0, .int .i64 0, .int .i64 0, .int .i64 0, .int .i64 0, .bool false] 28 := (Blk.new w _ 28).below hB1 (by simp)
  have hB1' : Below w.heap.size w w1 := ((Below.refl _ _).alloc (Nat.le_refl _) _).trans (hB1.mono (by simp))
  have H1 := hid (And.intro hX1 hB1')
  have hs1 : w.heap.size < w1.heap.size := hX1.lt
  have HC := hid hC
  clear hC hX1 hB1 hB1'
  go_wp2_with fail
  refine (header h k lc lp pb dict z rv a0 a1 a2 a3 a4 w1 HC.out).mono ?_
  rintro e w2 ⟨rfl, hB2⟩
  have hX2 := H1.out.1.below hB2 hs1
  have hB2' : Below w.heap.size w w2 := H1.out.2.trans (hB2.mono (by omega))
  have hs2 : w.heap.size < w2.heap.size := hX2.lt
  have x0 : w2.cell? ⟨w.heap.size, 0, none⟩ = some (.int .i64 0) := by rw [hX2.cell]; rfl
  have x1 : w2.cell? ⟨w.heap.size, 1, none⟩ = some (.int .i64 0) := by rw [hX2.cell]; rfl
  have x2 : w2.cell? ⟨w.heap.size, 2, none⟩ = some (.int .i64 0) := by rw [hX2.cell]; rfl
  have x3 : w2.cell? ⟨w.heap.size, 3, none⟩ = some (.int .i64 0) := by rw [hX2.cell]; rfl
  have x4 : w2.cell? ⟨w.heap.size, 4, none⟩ = some (.int .i64 0) := by rw [hX2.cell]; rfl
  have x5 : w2.cell? ⟨w.heap.size, 5, none⟩ = some (.bool false) := by rw [hX2.cell]; rfl
  have y0 := hX2.frozen 0
  have y1 := hX2.frozen 1
  have y2 := hX2.frozen 2
  have y3 := hX2.frozen 3
  have y4 := hX2.frozen 4
  have y5 := hX2.frozen 5
  have hne : w2.heap.size ≠ w.heap.size := by omega
  have hne' : w.heap.size ≠ w2.heap.size := by omega
  have H2 := hid (And.intro hX2 hB2')
  clear hX2 hB2 hB2' H1 HC hs1 H
  go_wp2_with fail
  go_region
  all_goals go_wp2
  have hz : Blk (((((((w2.setCell ⟨w.heap.size, 0, none⟩ (.int .i64 lc)).setCell ⟨w.heap.size, 1, none⟩ (.int .i64 lp)).setCell ⟨w.heap.size, 2, none⟩ (.int .i64 pb)).setCell ⟨w.heap.size, 3, none⟩ (.int .i64 dict)).setCell ⟨w.heap.size, 4, none⟩ (.int .i64 0)).setCell ⟨w.heap.size, 5, none⟩ (.bool false)).alloc
      (.cells #[.int .i64 lc, .int .i64 lp, .int .i64 pb, .int .u32 dict, .int .i64 z] 48)) w.heap.size #[.int .i64 lc, .int .i64 lp, .int .i64 pb, .int .i64 dict, .int .i64 0, .bool false] 28 := by
    have h := ((((((H2.out.1.set 0 (.int .i64 lc)).set 1 (.int .i64 lp)).set 2 (.int .i64 pb)).set 3 (.int .i64 dict)).set 4 (.int .i64 0)).set 5 (.bool false)).alloc (.cells #[.int .i64 lc, .int .i64 lp, .int .i64 pb, .int .u32 dict, .int .i64 z] 48)
    simpa using h
  have b0 := hz.cell 0
  have b1 := hz.cell 1
  have b2 := hz.cell 2
  have b3 := hz.cell 3
  have b4 := hz.cell 4
  have b5 := hz.cell 5
  simp at b0 b1 b2 b3 b4 b5
  refine bodyPost_ret (v := .tuple #[.agg #[.int .i64 lc, .int .i64 lp, .int .i64 pb, .int .i64 dict, .int .i64 0, .bool false], .int .i64 z, .bool true]) (by simp [results, Tryz.results6, go_sem, b0, b1, b2, b3, b4, b5]) rfl ⟨rfl, ?_⟩
  exact (((((((H2.out.2.setCell (Nat.le_refl _) _).setCell (Nat.le_refl _) _).setCell (Nat.le_refl _) _).setCell (Nat.le_refl _) _).setCell (Nat.le_refl _) _).setCell (Nat.le_refl _) _).alloc (by simp; omega) _).drew
theorem streamLen (lc lp pb room : Nat) (sz : Int) : (streamOf lc lp pb room sz).length = 23 := by
  simp [streamOf, headOf, little]

theorem streamTail (lc lp pb room : Nat) (sz : Int) : tail5 (streamOf lc lp pb room sz) := by
  simp [tail5, streamOf, headOf, little, List.range_succ]

theorem streamSays (lc lp pb : Nat) (room : Nat) (z : Int) (h1 : lc < 9) (h2 : lp < 5) (h3 : pb < 5) (h4 : room < 4294967296) (hz : z = -1 ∨ (0 ≤ z ∧ z ≤ 1000000)) :
    Says (streamOf lc lp pb room z) lc lp pb room z := by
  refine ⟨h1, h2, h3, (pb * 5 + lp) * 9 + lc, room % 256, room / 256 % 256, room / 65536 % 256, room / 16777216 % 256,
    (z % 256).toNat, (z / 256 % 256).toNat, (z / 65536 % 256).toNat, (z / 16777216 % 256).toNat, (z / 4294967296 % 256).toNat, (z / 1099511627776 % 256).toNat, (z / 281474976710656 % 256).toNat, (z / 72057594037927936 % 256).toNat, _, rfl, ?_, ?_, rfl, ?_⟩
  · refine ⟨?_, ⟨?_, ?_, ?_, ?_⟩, ⟨?_, ?_, ?_, ?_, ?_, ?_, ?_, ?_⟩, ⟨?_, ?_, ?_, ?_⟩, ⟨?_, ?_, ?_, ?_, ?_, ?_, ?_, ?_⟩⟩ <;>
    first
      | omega
      | (simp [streamOf, headOf, little, List.range_succ]; done)
      | (simp [streamOf, headOf, little, List.range_succ]; omega)
  · omega
  · rcases hz with rfl | hz
    · exact Or.inr ⟨by decide, rfl⟩
    · refine Or.inl ⟨by omega, by omega⟩

set_option maxRecDepth 100000 in
theorem props (c lc lp pb : Nat) (w : World) (hc : c < 225) (h1 : lc = c % 9) (h2 : lp = c / 9 % 5) (h3 : pb = c / 45) :
    Calls Tryz.prog 4 #[.int .i64 c] w fun e w' => e = .returned (.tuple #[.int .i64 lc, .int .i64 lp, .int .i64 pb]) ∧ w = w' := by
  have b1 : (c : Int) < 225 := by omega
  have g1 : (lc : Int) = (c : Int) % 9 := by omega
  have g2 : (lp : Int) = (c : Int) / 9 % 5 := by omega
  have g3 : (pb : Int) = (c : Int) / 45 := by omega
  rw [g1, g2, g3]
  clear g1 g2 g3 h1 h2 h3
  go_enter Tryz.func4, Tryz.ntmps4
  go_wp2_with fail
  go_ret3
  exact ⟨rfl, rfl⟩

def LawOut (w : World) (e : Ending) (w' : World) : Prop := e = .returned (.bool true) ∧ Below w.heap.size w w'

set_option maxRecDepth 100000 in
set_option maxHeartbeats 2000000 in
theorem law_any (code dict size : Nat) (sized : Bool) (w : World) (h1 : code < 256) (h2 : dict < 65536) (h3 : size < 65536) :
    Calls Tryz.prog 3 #[.int .u8 code, .int .u16 dict, .int .u16 size, .bool sized] w (LawOut w) := by
  obtain ⟨q, hq⟩ : ∃ q : Nat, q = code % 225 := ⟨_, rfl⟩
  obtain ⟨r, hr⟩ : ∃ r : Nat, r = dict % 61441 := ⟨_, rfl⟩
  obtain ⟨lc, hlc⟩ : ∃ n : Nat, n = q % 9 := ⟨_, rfl⟩
  obtain ⟨lp, hlp⟩ : ∃ n : Nat, n = q / 9 % 5 := ⟨_, rfl⟩
  obtain ⟨pb, hpb⟩ : ∃ n : Nat, n = q / 45 := ⟨_, rfl⟩
  have hpr := fun w => props q lc lp pb w (by omega) hlc hlp hpb
  have m1 : lc < 9 := by omega
  have m2 : lp < 5 := by omega
  have m3 : pb < 5 := by omega
  have eq1 : (code : Int) % 225 = (q : Int) := by omega
  have er1 : (dict : Int) % 61441 = (r : Int) := by omega
  have b1 : (code : Int) < 256 := by omega
  have b2 : (dict : Int) < 65536 := by omega
  have b3 : (size : Int) < 65536 := by omega
  have hr1 : r < 61441 := by omega
  have hr2 : (r : Int) < 61441 := by omega
  have ew : ((4096 + r : Nat) : Int) = 4096 + (r : Int) := by omega
  have HP := hid hpr
  clear hpr hlc hlp hpb hq hr
  cases sized
  · have hwr := writeLzma_open lc lp pb (4096 + r) size w (by omega) (by omega) (by omega) (by omega) (by omega)
    rw [ew] at hwr
    have HW := hid hwr
    clear hwr
    go_enter Tryz.func3, Tryz.ntmps3
    go_wp2_with fail
    refine (HP.out _).mono ?_
    rintro e w' ⟨rfl, rfl⟩
    go_wp2_with fail
    refine HW.out.mono ?_
    rintro e w1 ⟨ov, rfl, hown, hB⟩
    obtain ⟨g, cap, rfl⟩ : ∃ g cap, ov = .slice (some ⟨g, 0, none⟩) 23 cap := by
      rcases hown.2 with ⟨_, h⟩ | ⟨g, cap, cur, h, _⟩
      · omega
      · exact ⟨g, cap, h⟩
    have hhd := lzmaHead w.heap.size g cap lc lp pb (4096 + r) (-1) _ w1 (streamLen _ _ _ _ _) hown (streamTail _ _ _ _ _) (streamSays lc lp pb (4096 + r) (-1) m1 m2 m3 (by omega) (by omega)) (by omega) (by omega)
    have H1 := hid (And.intro hhd hB)
    clear hhd hB hown HW
    go_wp2_with fail
    refine H1.out.1.mono ?_
    rintro e w2 ⟨rfl, hB2⟩
    rw [ew]
    have hB2' := H1.out.2.trans (hB2.mono H1.out.2.size)
    have H2 := hid hB2'
    have hs := hB2'.size
    clear hB2 hB2' H1
    go_wp2
    go_ret
    refine ⟨rfl, ?_⟩
    with_reducible refine Below.alloc ?_ ?_ _
    · exact H2.out
    · exact hs
  · have hwr := writeLzma_sized lc lp pb (4096 + r) size w (by omega) (by omega) (by omega) (by omega) (by omega)
    rw [ew] at hwr
    have HW := hid hwr
    clear hwr
    go_enter Tryz.func3, Tryz.ntmps3
    go_wp2_with fail
    refine (HP.out _).mono ?_
    rintro e w' ⟨rfl, rfl⟩
    go_wp2_with fail
    refine HW.out.mono ?_
    rintro e w1 ⟨ov, rfl, hown, hB⟩
    obtain ⟨g, cap, rfl⟩ : ∃ g cap, ov = .slice (some ⟨g, 0, none⟩) 23 cap := by
      rcases hown.2 with ⟨_, h⟩ | ⟨g, cap, cur, h, _⟩
      · omega
      · exact ⟨g, cap, h⟩
    have hhd := lzmaHead w.heap.size g cap lc lp pb (4096 + r) (size : Int) _ w1 (streamLen _ _ _ _ _) hown (streamTail _ _ _ _ _) (streamSays lc lp pb (4096 + r) (size : Int) m1 m2 m3 (by omega) (by omega)) (by omega) (by omega)
    have H1 := hid (And.intro hhd hB)
    clear hhd hB hown HW
    go_wp2_with fail
    refine H1.out.1.mono ?_
    rintro e w2 ⟨rfl, hB2⟩
    rw [ew]
    have hB2' := H1.out.2.trans (hB2.mono H1.out.2.size)
    have H2 := hid hB2'
    have hs := hB2'.size
    clear hB2 hB2' H1
    go_wp2
    go_ret
    refine ⟨rfl, ?_⟩
    with_reducible refine Below.alloc ?_ ?_ _
    · exact H2.out
    · exact hs

end Go.Proofs.YtnkemepodpkhnaaGreatFmt
