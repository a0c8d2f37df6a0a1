/-
  PROVED: the package makes a reader over a stream that it wrote, and the reader holds what the head says. Conditions: the dictionary lies between 4096 and 65536.
-/
import Derived.Test.YtnkemepodpkhnaaGreatFmtWrite
import Derived.Test.YtnkemepodpkhnaaGreatFmtSource
import Derived.RegionTactic
import Derived.BigRegion
import Derived.Deep.AppendLies
import Derived.Deep.LoopGhost
import Derived.OwnWalk
import Derived.Deep.RegionWith
import Derived.Deep.QuietTactic
import Derived.BigQuiet
namespace Go.Proofs.YtnkemepodpkhnaaGreatFmt
open Go.ChangeShapes Go.WideShapes Go.ChangeAt Go.RowKit
/-- The thirteen bytes that the head's fields stand in. -/
def HeadL (L : List Int) (c r0 r1 r2 r3 s0 s1 s2 s3 s4 s5 s6 s7 : Nat) : Prop :=
  L.getD 0 0 = c ∧ (L.getD 1 0 = r0 ∧ L.getD 2 0 = r1 ∧ L.getD 3 0 = r2 ∧ L.getD 4 0 = r3) ∧
  (L.getD 5 0 = s0 ∧ L.getD 6 0 = s1 ∧ L.getD 7 0 = s2 ∧ L.getD 8 0 = s3 ∧ L.getD 9 0 = s4 ∧ L.getD 10 0 = s5 ∧ L.getD 11 0 = s6 ∧ L.getD 12 0 = s7) ∧
  (r0 < 256 ∧ r1 < 256 ∧ r2 < 256 ∧ r3 < 256) ∧ (s0 < 256 ∧ s1 < 256 ∧ s2 < 256 ∧ s3 < 256 ∧ s4 < 256 ∧ s5 < 256 ∧ s6 < 256 ∧ s7 < 256)

theorem headAt_of {L : List Int} {c r0 r1 r2 r3 s0 s1 s2 s3 s4 s5 s6 s7 : Nat} (h : HeadL L c r0 r1 r2 r3 s0 s1 s2 s3 s4 s5 s6 s7) {w : World} {pbk : Nat} (hc : ∀ j, j < 13 → w.cell? ⟨pbk, j, none⟩ = some (.int .u8 (L.getD j 0))) :
    HeadAt w pbk c r0 r1 r2 r3 s0 s1 s2 s3 s4 s5 s6 s7 := by
  obtain ⟨a0, ⟨a1, a2, a3, a4⟩, ⟨a5, a6, a7, a8, a9, a10, a11, a12⟩, hr, hs⟩ := h
  refine ⟨?_, ⟨?_, ?_, ?_, ?_⟩, ⟨?_, ?_, ?_, ?_, ?_, ?_, ?_, ?_⟩, hr, hs⟩
  · rw [hc 0 (by omega), a0]
  · rw [hc 1 (by omega), a1]
  · rw [hc 2 (by omega), a2]
  · rw [hc 3 (by omega), a3]
  · rw [hc 4 (by omega), a4]
  · rw [hc 5 (by omega), a5]
  · rw [hc 6 (by omega), a6]
  · rw [hc 7 (by omega), a7]
  · rw [hc 8 (by omega), a8]
  · rw [hc 9 (by omega), a9]
  · rw [hc 10 (by omega), a10]
  · rw [hc 11 (by omega), a11]
  · rw [hc 12 (by omega), a12]

/-- What the head says: the properties, the dictionary and the size. -/
def Says (L : List Int) (lc lp pb dict : Nat) (z : Int) : Prop :=
  lc < 9 ∧ lp < 5 ∧ pb < 5 ∧ ∃ c r0 r1 r2 r3 s0 s1 s2 s3 s4 s5 s6 s7 S : Nat, c = (pb * 5 + lp) * 9 + lc ∧ HeadL L c r0 r1 r2 r3 s0 s1 s2 s3 s4 s5 s6 s7 ∧
    r3 * 16777216 + r2 * 65536 + r1 * 256 + r0 = dict ∧ s7 * 72057594037927936 + s6 * 281474976710656 + s5 * 1099511627776 + s4 * 4294967296 + s3 * 16777216 + s2 * 65536 + s1 * 256 + s0 = S ∧
    ((S ≤ 1000000 ∧ z = S) ∨ (S = 18446744073709551615 ∧ z = -1))

theorem unmarshal_any (hb pbk lc lp pb dict : Nat) (z : Int) (L : List Int) (w : World) (rv : Value) (q6 q7 q8 q9 q10 q11 : Value) (hS : Says L lc lp pb dict z)
    (hc : ∀ j, j < 13 → w.cell? ⟨pbk, j, none⟩ = some (.int .u8 (L.getD j 0))) (hd : dict ≤ 1000000)
    (hB : Blk w hb #[rv, .int .i64 0, .int .i64 0, .int .i64 0, .int .u32 0, .int .i64 0, q6, q7, q8, q9, q10, q11] 83) (hne : hb ≠ pbk) :
    Calls Tryz.prog 29 #[.pointer (some ⟨hb, 1, none⟩), .slice (some ⟨pbk, 0, none⟩) 13 13] w (UmOut hb lc lp pb dict z rv q6 q7 q8 q9 q10 q11 w) := by
  obtain ⟨h1, h2, h3, c, r0, r1, r2, r3, s0, s1, s2, s3, s4, s5, s6, s7, S, hcc, hH, hdict, hSS, hz⟩ := hS
  rcases hz with ⟨hz, rfl⟩ | ⟨hz, rfl⟩
  · exact unmarshal_sized hb pbk 13 lc lp pb r0 r1 r2 r3 s0 s1 s2 s3 s4 s5 s6 s7 dict S c w rv q6 q7 q8 q9 q10 q11 h1 h2 h3 hcc (headAt_of hH hc) (by omega) hB hne hdict hd hSS hz
  · exact unmarshal_open hb pbk 13 lc lp pb r0 r1 r2 r3 s0 s1 s2 s3 s4 s5 s6 s7 dict S c w rv q6 q7 q8 q9 q10 q11 h1 h2 h3 hcc (headAt_of hH hc) (by omega) hB hne hdict hd hSS hz

/-- What the making of a state and of a dictionary leaves as it was. -/
theorem mid {w w2 w4 w5 : World} {rb g cap hb lc lp pb dict : Nat} {L : List Int} {z : Int} {rv q11 x q4 q6 q7 q8 q9 q10 : Value} (hR : Rd w2 rb g cap L 13)
    (hB : Blk w2 hb #[rv, .int .i64 lc, .int .i64 lp, .int .i64 pb, q4, .int .i64 z, q6, q7, q8, q9, q10, q11] 83) (hK : Kept w.heap.size (· = rb) w w2) (h1 : rb < hb) (h2 : g < hb) (h3 : w.heap.size < hb)
    (hB4 : Below ((((((w2.setCell ⟨hb, 6, none⟩ (.int .i64 lc)).setCell ⟨hb, 7, none⟩ (.int .i64 lp)).setCell ⟨hb, 8, none⟩ (.int .i64 pb)).setCell ⟨hb, 9, none⟩ (.int .u32 dict)).setCell ⟨hb, 10, none⟩ (.int .i64 z)).setCell ⟨hb, 4, none⟩ x).heap.size
      ((((((w2.setCell ⟨hb, 6, none⟩ (.int .i64 lc)).setCell ⟨hb, 7, none⟩ (.int .i64 lp)).setCell ⟨hb, 8, none⟩ (.int .i64 pb)).setCell ⟨hb, 9, none⟩ (.int .u32 dict)).setCell ⟨hb, 10, none⟩ (.int .i64 z)).setCell ⟨hb, 4, none⟩ x) w4)
    (hB5 : Below w4.heap.size w4 w5) :
    Rd w5 rb g cap L 13 ∧ Blk w5 hb #[rv, .int .i64 lc, .int .i64 lp, .int .i64 pb, x, .int .i64 z, .int .i64 lc, .int .i64 lp, .int .i64 pb, .int .u32 dict, .int .i64 z, q11] 83 ∧ Kept w.heap.size (· = rb) w w5 ∧ hb < w5.heap.size := by
  have hl := hB.lt
  have hs4 := hB4.size
  have hs5 := hB5.size
  have hset : Kept hb (fun _ => False) w2 ((((((w2.setCell ⟨hb, 6, none⟩ (.int .i64 lc)).setCell ⟨hb, 7, none⟩ (.int .i64 lp)).setCell ⟨hb, 8, none⟩ (.int .i64 pb)).setCell ⟨hb, 9, none⟩ (.int .u32 dict)).setCell ⟨hb, 10, none⟩ (.int .i64 z)).setCell ⟨hb, 4, none⟩ x) :=
    ((((((Kept.refl hb (fun _ => False) w2).setCell (p := ⟨hb, 6, none⟩) (Or.inl (Nat.le_refl _)) _).setCell (p := ⟨hb, 7, none⟩) (Or.inl (Nat.le_refl _)) _).setCell (p := ⟨hb, 8, none⟩) (Or.inl (Nat.le_refl _)) _).setCell (p := ⟨hb, 9, none⟩) (Or.inl (Nat.le_refl _)) _).setCell (p := ⟨hb, 10, none⟩) (Or.inl (Nat.le_refl _)) _).setCell (p := ⟨hb, 4, none⟩) (Or.inl (Nat.le_refl _)) _
  have hsz := hset.size
  have hb4 : Blk ((((((w2.setCell ⟨hb, 6, none⟩ (.int .i64 lc)).setCell ⟨hb, 7, none⟩ (.int .i64 lp)).setCell ⟨hb, 8, none⟩ (.int .i64 pb)).setCell ⟨hb, 9, none⟩ (.int .u32 dict)).setCell ⟨hb, 10, none⟩ (.int .i64 z)).setCell ⟨hb, 4, none⟩ x) hb #[rv, .int .i64 lc, .int .i64 lp, .int .i64 pb, x, .int .i64 z, .int .i64 lc, .int .i64 lp, .int .i64 pb, .int .u32 dict, .int .i64 z, q11] 83 := by
    have h := (((((hB.set 6 (.int .i64 lc)).set 7 (.int .i64 lp)).set 8 (.int .i64 pb)).set 9 (.int .u32 dict)).set 10 (.int .i64 z)).set 4 x
    simpa using h
  have k4 : Kept hb (fun _ => False) w2 w4 := hset.trans ⟨hB4.os, hB4.tape, hB4.output, hB4.size, fun k hk _ => hB4.block k (by omega)⟩
  have k5 : Kept hb (fun _ => False) w2 w5 := k4.trans ⟨hB5.os, hB5.tape, hB5.output, hB5.size, fun k hk _ => hB5.block k (by omega)⟩
  exact ⟨hR.kept k5 h1 h2 id id, (hb4.below hB4 (by omega)).below hB5 (by omega), hK.trans ⟨k5.os, k5.tape, k5.output, k5.size, fun k hk _ => k5.block k (by omega) id⟩, by omega⟩

def NrOut (rb lc lp pb dict : Nat) (z : Int) (w : World) (e : Ending) (w' : World) : Prop :=
  ∃ h k rv a0 a1 a2 a3 a4, e = .returned (.tuple #[.pointer (some ⟨h, 0, none⟩), .nilIface]) ∧ w.heap.size ≤ h ∧
    Blk w' h #[rv, a0, a1, a2, a3, a4, .int .i64 lc, .int .i64 lp, .int .i64 pb, .int .u32 dict, .int .i64 z, .pointer (some ⟨k, 0, none⟩)] 83 ∧ Kept w.heap.size (· = rb) w w'

set_option maxRecDepth 100000 in
set_option maxHeartbeats 4000000 in
theorem newReader (rb g cap lc lp pb dict : Nat) (z : Int) (L : List Int) (w : World) (hR : Rd w rb g cap L 0) (hL : tail5 L) (hS : Says L lc lp pb dict z) (hd0 : 4096 ≤ dict) (hd1 : dict ≤ 65536) :
    Calls Tryz.prog 17 #[.agg #[.int .i64 65536], .iface 76 (.pointer (some ⟨rb, 0, none⟩))] w (NrOut rb lc lp pb dict z w) := by
  obtain ⟨M, hM, hmk⟩ := make_any 25 5 1 1 Tryz.underlying25 info5b 13 (by omega) (by omega)
  have hlt := hR.lt
  have ha : (w.alloc (.cells #[.int .i64 65536] 74)).cell? ⟨w.heap.size, 0, none⟩ = some (.int .i64 65536) := by rw [(Blk.new w _ 74).cell]; rfl
  have hR1 : Rd ((w.alloc (.cells #[.int .i64 65536] 74)).alloc (.cells M 5)) rb g cap L 0 := hR.kept (b := w.heap.size) (K := fun _ => False) (((Kept.refl _ _ _).alloc (Nat.le_refl _) _).alloc (by simp) _) hlt.1 hlt.2 id id
  have hM1 : Blk ((w.alloc (.cells #[.int .i64 65536] 74)).alloc (.cells M 5)) (w.heap.size + 1) M 5 := by
    have := Blk.new (w.alloc (.cells #[.int .i64 65536] 74)) M 5
    simpa using this
  have hs13 : M.size = 13 := by simpa using hM
  have hmk' : ∀ w : World, (Instr.makeSlice 25 (.int .i64 13) (.int .i64 13)).run Tryz.prog w = .ok (.slice (some ⟨w.heap.size, 0, none⟩) 13 13) (w.alloc (.cells M 5)) := hmk
  obtain ⟨v1, v2, v3⟩ : lc < 9 ∧ lp < 5 ∧ pb < 5 := ⟨hS.1, hS.2.1, hS.2.2.1⟩
  have hz : z = -1 ∨ (0 ≤ z ∧ z ≤ 1000000) := by
    obtain ⟨_, _, _, c, r0, r1, r2, r3, s0, s1, s2, s3, s4, s5, s6, s7, S, _, _, _, _, hz⟩ := hS
    omega
  have HZ := hid hz
  clear hz
  have H := hid (And.intro hR1 (And.intro hM1 (And.intro hs13 (And.intro hL hS))))
  clear hR hR1 hM1 hs13 hmk hM hL hS
  go_enter Tryz.func17, Tryz.ntmps17
  go_wp2_with (
    go_at_call 26
    go_loud (refine (verify w.heap.size _ ha).mono ?_)
    rintro e w' ⟨rfl, rfl⟩)
  refine (readFull (w.heap.size + 2) rb g cap (w.heap.size + 1) L M _ H.out.1 H.out.2.1 H.out.2.2.1 (by omega) (by omega)).mono ?_
  rintro e w1 ⟨rfl, hR1, hc1, hK1, hs1⟩
  have hs1' : w1.heap.size = w.heap.size + 2 := by rw [hs1]; simp
  have hA1 : Blk w1 w.heap.size #[.int .i64 65536] 74 := Blk.kept ((Blk.new w #[.int .i64 65536] 74).alloc (.cells M 5)) hK1 (by omega) (by omega)
  have hK1' : Kept w.heap.size (· = rb) w w1 := by
    refine (((Kept.refl w.heap.size (· = rb) w).alloc (Nat.le_refl _) _).alloc (by simp) _).trans ⟨hK1.os, hK1.tape, hK1.output, hK1.size, fun k hk hn => hK1.block k (by omega) (by omega)⟩
  obtain ⟨hb, hhb⟩ : ∃ hb, hb = w1.heap.size := ⟨_, rfl⟩
  have hhb2 : hb = w.heap.size + 2 := by omega
  have hN : Blk (w1.alloc (.cells #[.iface 76 (.pointer (some ⟨rb, 0, none⟩)), .int .i64 0, .int .i64 0, .int .i64 0, .int .u32 0, .int .i64 0, .int .i64 0, .int .i64 0, .int .i64 0, .int .u32 0, .int .i64 0, .pointer none] 83)) hb #[.iface 76 (.pointer (some ⟨rb, 0, none⟩)), .int .i64 0, .int .i64 0, .int .i64 0, .int .u32 0, .int .i64 0, .int .i64 0, .int .i64 0, .int .i64 0, .int .u32 0, .int .i64 0, .pointer none] 83 := by
    rw [hhb]; exact Blk.new w1 _ 83
  have hc1' : ∀ j, j < 13 → (w1.alloc (.cells #[.iface 76 (.pointer (some ⟨rb, 0, none⟩)), .int .i64 0, .int .i64 0, .int .i64 0, .int .u32 0, .int .i64 0, .int .i64 0, .int .i64 0, .int .i64 0, .int .u32 0, .int .i64 0, .pointer none] 83)).cell? ⟨w.heap.size + 1, j, none⟩ = some (.int .u8 (L.getD j 0)) := fun j hj => by
    rw [World.cell?_of_block (w := w1) (Below.heap_alloc _ _ _ (show w.heap.size + 1 < w1.heap.size by omega))]; exact hc1 j hj
  have hum := unmarshal_any hb (w.heap.size + 1) lc lp pb dict z L _ _ _ _ _ _ _ _ H.out.2.2.2.2 hc1' (by omega) hN (by omega)
  have HU := hid hum
  have H1 := hid (And.intro hR1 (And.intro hA1 hK1'))
  have hlt1 : rb < hb ∧ w.heap.size < hb := by omega
  have hsz : w1.heap.size = hb := hhb.symm
  have HB := hid hhb2
  clear hum hN hc1' hc1 hR1 hA1 hK1' hK1 hs1 hs1' hmk' hhb hhb2
  go_wp2_with fail
  refine HU.out.mono ?_
  rintro e w2 ⟨rfl, hB2, hK2⟩
  have hhb2 := HB.out
  have hss : (w1.alloc (.cells #[.iface 76 (.pointer (some ⟨rb, 0, none⟩)), .int .i64 0, .int .i64 0, .int .i64 0, .int .u32 0, .int .i64 0, .int .i64 0, .int .i64 0, .int .i64 0, .int .u32 0, .int .i64 0, .pointer none] 83)).heap.size = hb + 1 := by simp [hsz]
  rw [hss] at hK2
  have hR2 : Rd w2 rb g cap L 13 := (H1.out.1.kept (b := hb) (K := fun _ => False) ((Kept.refl _ _ _).alloc (by omega) _) hlt1.1 (by omega) id id).kept hK2 (by omega) (by omega) (by omega) (by omega)
  have hA2 : Blk w2 w.heap.size #[.int .i64 65536] 74 := (H1.out.2.1.alloc _).kept hK2 (by omega) (by omega)
  have hK2' : Kept w.heap.size (· = rb) w w2 := (H1.out.2.2.alloc (by omega) _).trans ⟨hK2.os, hK2.tape, hK2.output, hK2.size, fun k hk hn => hK2.block k (by omega) (by omega)⟩
  have hs2 : hb < w2.heap.size := hB2.lt
  have c0 : w2.cell? ⟨w.heap.size, 0, none⟩ = some (.int .i64 65536) := by rw [hA2.cell]; rfl
  have e1 : w2.cell? ⟨hb, 1, none⟩ = some (.int .i64 lc) := by rw [hB2.cell]; rfl
  have e2 : w2.cell? ⟨hb, 2, none⟩ = some (.int .i64 lp) := by rw [hB2.cell]; rfl
  have e3 : w2.cell? ⟨hb, 3, none⟩ = some (.int .i64 pb) := by rw [hB2.cell]; rfl
  have e4 : w2.cell? ⟨hb, 4, none⟩ = some (.int .u32 dict) := by rw [hB2.cell]; rfl
  have e5 : w2.cell? ⟨hb, 5, none⟩ = some (.int .i64 z) := by rw [hB2.cell]; rfl
  have e6 : w2.cell? ⟨hb, 6, none⟩ = some (.int .i64 0) := by rw [hB2.cell]; rfl
  have e7 : w2.cell? ⟨hb, 7, none⟩ = some (.int .i64 0) := by rw [hB2.cell]; rfl
  have e8 : w2.cell? ⟨hb, 8, none⟩ = some (.int .i64 0) := by rw [hB2.cell]; rfl
  have e9 : w2.cell? ⟨hb, 9, none⟩ = some (.int .u32 0) := by rw [hB2.cell]; rfl
  have e10 : w2.cell? ⟨hb, 10, none⟩ = some (.int .i64 0) := by rw [hB2.cell]; rfl
  have f4 := hB2.frozen 4
  have f6 := hB2.frozen 6
  have f7 := hB2.frozen 7
  have f8 := hB2.frozen 8
  have f9 := hB2.frozen 9
  have f10 := hB2.frozen 10
  have H2 := hid (And.intro hR2 (And.intro hB2 hK2'))
  clear hR2 hA2 hB2 hK2 hK2' HU H1 hhb2 hss
  have p1 : ¬ ((65536 : Int) < (dict : Int)) := by omega
  have p2 : ¬ ((dict : Int) < 4096) := by omega
  have p3 : (dict : Int) ≤ 65536 := by omega
  rcases HZ.out with hz | ⟨hz0, hz1⟩
  · subst hz
    go_wp2_with fail
    refine (newState_any lc lp pb _ (by omega) (by omega) (by omega)).mono ?_
    rintro e w4 ⟨rfl, hB4⟩
    have H4 := hid hB4
    clear hB4
    go_wp2_with fail
    refine (newDict dict _ (by omega) (by omega)).mono ?_
    rintro e w5 ⟨rfl, hB5, hd5, C5, hC5, h53⟩
    have hM := mid H2.out.1 H2.out.2.1 H2.out.2.2 hlt1.1 (by omega) hlt1.2 H4.out hB5
    have hrd : rb < w4.heap.size + 2 := by have := H4.out.size; simp at this; omega
    have hhd : hb ≠ w4.heap.size + 2 := by have := H4.out.size; simp at this; omega
    have k5 : w5.cell? ⟨hb, 5, none⟩ = some (.int .i64 (-1)) := by rw [hM.2.1.cell]; rfl
    have hdec := fun sb => newDecoder rb g cap sb (w4.heap.size + 2) L (-1) w5.drew hM.1 H.out.2.2.2.1 C5 hC5.drew h53 (by omega)
    have HM := hid (And.intro hM hdec)
    clear hM hdec hB5 hC5 h53 hd5 H4 H2
    clear c0 e1 e2 e3 e4 e5 e6 e7 e8 e9 e10 f4 f6 f7 f8 f9 f10 ha hsz
    go_wp2_with fail
    go_region_with (first
      | (go_at_call 35
         go_loud (refine (byteReader rb _).mono ?_)
         rintro e w' ⟨rfl, rfl⟩)
      | (go_at_call 34
         go_loud (refine (HM.out.2 _).mono ?_)
         rintro e w6 ⟨⟨kd, rfl⟩, hK6⟩
         have hB6 := Blk.kept HM.out.1.2.1.drew hK6 HM.out.1.2.2.2 (by omega)
         have k11 : w6.cell? ⟨hb, 11, none⟩ = some (.pointer none) := by rw [hB6.cell]; rfl
         have f11 := hB6.frozen 11
         have H6 := hid (And.intro hB6 hK6)
         clear hB6 hK6))
    all_goals
      go_wp2
      go_ret2
      refine ⟨hb, kd, .iface 76 (.pointer (some ⟨rb, 0, none⟩)), .int .i64 lc, .int .i64 lp, .int .i64 pb, .int .u32 dict, .int .i64 (-1), rfl, by omega, ?_, ?_⟩
      · have h := H6.out.1.set 11 (.pointer (some ⟨kd, 0, none⟩))
        simpa using h
      · exact (HM.out.1.2.2.1.drew.trans (H6.out.2.mono (show w.heap.size ≤ w5.heap.size by have := HM.out.1.2.2.2; omega) (fun _ h => h))).setCell (p := ⟨hb, 11, none⟩) (Or.inl (show w.heap.size ≤ hb by omega)) _
  · obtain ⟨m, rfl⟩ := Int.eq_ofNat_of_zero_le hz0
    have p4 : ¬ ((1125899906842624 : Int) < (m : Int)) := by omega
    by_cases hm : m < dict
    · have p5 : (m : Int) < (dict : Int) := by omega
      by_cases hm4 : m < 4096
      · have p6 : (m : Int) < 4096 := by omega
        go_wp2_with fail
        refine (newState_any lc lp pb _ (by omega) (by omega) (by omega)).mono ?_
        rintro e w4 ⟨rfl, hB4⟩
        have H4 := hid hB4
        clear hB4
        go_wp2_with fail
        refine (newDict 4096 _ (by omega) (by omega)).mono ?_
        rintro e w5 ⟨rfl, hB5, hd5, C5, hC5, h53⟩
        have hM := mid H2.out.1 H2.out.2.1 H2.out.2.2 hlt1.1 (by omega) hlt1.2 H4.out hB5
        have hrd : rb < w4.heap.size + 2 := by have := H4.out.size; simp at this; omega
        have hhd : hb ≠ w4.heap.size + 2 := by have := H4.out.size; simp at this; omega
        have k5 : w5.cell? ⟨hb, 5, none⟩ = some (.int .i64 ((m : Int))) := by rw [hM.2.1.cell]; rfl
        have hdec := fun sb => newDecoder rb g cap sb (w4.heap.size + 2) L ((m : Int)) w5.drew hM.1 H.out.2.2.2.1 C5 hC5.drew h53 (by omega)
        have HM := hid (And.intro hM hdec)
        clear hM hdec hB5 hC5 h53 hd5 H4 H2
        clear c0 e1 e2 e3 e4 e5 e6 e7 e8 e9 e10 f4 f6 f7 f8 f9 f10 ha hsz
        go_wp2_with fail
        go_region_with (first
          | (go_at_call 35
             go_loud (refine (byteReader rb _).mono ?_)
             rintro e w' ⟨rfl, rfl⟩)
          | (go_at_call 34
             go_loud (refine (HM.out.2 _).mono ?_)
             rintro e w6 ⟨⟨kd, rfl⟩, hK6⟩
             have hB6 := Blk.kept HM.out.1.2.1.drew hK6 HM.out.1.2.2.2 (by omega)
             have k11 : w6.cell? ⟨hb, 11, none⟩ = some (.pointer none) := by rw [hB6.cell]; rfl
             have f11 := hB6.frozen 11
             have H6 := hid (And.intro hB6 hK6)
             clear hB6 hK6))
        all_goals
          go_wp2
          go_ret2
          refine ⟨hb, kd, .iface 76 (.pointer (some ⟨rb, 0, none⟩)), .int .i64 lc, .int .i64 lp, .int .i64 pb, .int .u32 4096, .int .i64 (m), rfl, by omega, ?_, ?_⟩
          · have h := H6.out.1.set 11 (.pointer (some ⟨kd, 0, none⟩))
            simpa using h
          · exact (HM.out.1.2.2.1.drew.trans (H6.out.2.mono (show w.heap.size ≤ w5.heap.size by have := HM.out.1.2.2.2; omega) (fun _ h => h))).setCell (p := ⟨hb, 11, none⟩) (Or.inl (show w.heap.size ≤ hb by omega)) _
      · have p6 : ¬ ((m : Int) < 4096) := by omega
        have p7 : (m : Int) ≤ 65536 := by omega
        go_wp2_with fail
        refine (newState_any lc lp pb _ (by omega) (by omega) (by omega)).mono ?_
        rintro e w4 ⟨rfl, hB4⟩
        have H4 := hid hB4
        clear hB4
        go_wp2_with fail
        refine (newDict m _ (by omega) (by omega)).mono ?_
        rintro e w5 ⟨rfl, hB5, hd5, C5, hC5, h53⟩
        have hM := mid H2.out.1 H2.out.2.1 H2.out.2.2 hlt1.1 (by omega) hlt1.2 H4.out hB5
        have hrd : rb < w4.heap.size + 2 := by have := H4.out.size; simp at this; omega
        have hhd : hb ≠ w4.heap.size + 2 := by have := H4.out.size; simp at this; omega
        have k5 : w5.cell? ⟨hb, 5, none⟩ = some (.int .i64 ((m : Int))) := by rw [hM.2.1.cell]; rfl
        have hdec := fun sb => newDecoder rb g cap sb (w4.heap.size + 2) L ((m : Int)) w5.drew hM.1 H.out.2.2.2.1 C5 hC5.drew h53 (by omega)
        have HM := hid (And.intro hM hdec)
        clear hM hdec hB5 hC5 h53 hd5 H4 H2
        clear c0 e1 e2 e3 e4 e5 e6 e7 e8 e9 e10 f4 f6 f7 f8 f9 f10 ha hsz
        go_wp2_with fail
        go_region_with (first
          | (go_at_call 35
             go_loud (refine (byteReader rb _).mono ?_)
             rintro e w' ⟨rfl, rfl⟩)
          | (go_at_call 34
             go_loud (refine (HM.out.2 _).mono ?_)
             rintro e w6 ⟨⟨kd, rfl⟩, hK6⟩
             have hB6 := Blk.kept HM.out.1.2.1.drew hK6 HM.out.1.2.2.2 (by omega)
             have k11 : w6.cell? ⟨hb, 11, none⟩ = some (.pointer none) := by rw [hB6.cell]; rfl
             have f11 := hB6.frozen 11
             have H6 := hid (And.intro hB6 hK6)
             clear hB6 hK6))
        all_goals
          go_wp2
          go_ret2
          refine ⟨hb, kd, .iface 76 (.pointer (some ⟨rb, 0, none⟩)), .int .i64 lc, .int .i64 lp, .int .i64 pb, .int .u32 m, .int .i64 (m), rfl, by omega, ?_, ?_⟩
          · have h := H6.out.1.set 11 (.pointer (some ⟨kd, 0, none⟩))
            simpa using h
          · exact (HM.out.1.2.2.1.drew.trans (H6.out.2.mono (show w.heap.size ≤ w5.heap.size by have := HM.out.1.2.2.2; omega) (fun _ h => h))).setCell (p := ⟨hb, 11, none⟩) (Or.inl (show w.heap.size ≤ hb by omega)) _
    · have p5 : ¬ ((m : Int) < (dict : Int)) := by omega
      go_wp2_with fail
      refine (newState_any lc lp pb _ (by omega) (by omega) (by omega)).mono ?_
      rintro e w4 ⟨rfl, hB4⟩
      have H4 := hid hB4
      clear hB4
      go_wp2_with fail
      refine (newDict dict _ (by omega) (by omega)).mono ?_
      rintro e w5 ⟨rfl, hB5, hd5, C5, hC5, h53⟩
      have hM := mid H2.out.1 H2.out.2.1 H2.out.2.2 hlt1.1 (by omega) hlt1.2 H4.out hB5
      have hrd : rb < w4.heap.size + 2 := by have := H4.out.size; simp at this; omega
      have hhd : hb ≠ w4.heap.size + 2 := by have := H4.out.size; simp at this; omega
      have k5 : w5.cell? ⟨hb, 5, none⟩ = some (.int .i64 ((m : Int))) := by rw [hM.2.1.cell]; rfl
      have hdec := fun sb => newDecoder rb g cap sb (w4.heap.size + 2) L ((m : Int)) w5.drew hM.1 H.out.2.2.2.1 C5 hC5.drew h53 (by omega)
      have HM := hid (And.intro hM hdec)
      clear hM hdec hB5 hC5 h53 hd5 H4 H2
      clear c0 e1 e2 e3 e4 e5 e6 e7 e8 e9 e10 f4 f6 f7 f8 f9 f10 ha hsz
      go_wp2_with fail
      go_region_with (first
        | (go_at_call 35
           go_loud (refine (byteReader rb _).mono ?_)
           rintro e w' ⟨rfl, rfl⟩)
        | (go_at_call 34
           go_loud (refine (HM.out.2 _).mono ?_)
           rintro e w6 ⟨⟨kd, rfl⟩, hK6⟩
           have hB6 := Blk.kept HM.out.1.2.1.drew hK6 HM.out.1.2.2.2 (by omega)
           have k11 : w6.cell? ⟨hb, 11, none⟩ = some (.pointer none) := by rw [hB6.cell]; rfl
           have f11 := hB6.frozen 11
           have H6 := hid (And.intro hB6 hK6)
           clear hB6 hK6))
      all_goals
        go_wp2
        go_ret2
        refine ⟨hb, kd, .iface 76 (.pointer (some ⟨rb, 0, none⟩)), .int .i64 lc, .int .i64 lp, .int .i64 pb, .int .u32 dict, .int .i64 (m), rfl, by omega, ?_, ?_⟩
        · have h := H6.out.1.set 11 (.pointer (some ⟨kd, 0, none⟩))
          simpa using h
        · exact (HM.out.1.2.2.1.drew.trans (H6.out.2.mono (show w.heap.size ≤ w5.heap.size by have := HM.out.1.2.2.2; omega) (fun _ h => h))).setCell (p := ⟨hb, 11, none⟩) (Or.inl (show w.heap.size ≤ hb by omega)) _

end Go.Proofs.YtnkemepodpkhnaaGreatFmt
