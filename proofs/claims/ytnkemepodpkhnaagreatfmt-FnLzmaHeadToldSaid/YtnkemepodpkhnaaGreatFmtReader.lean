/-
  PROVED: a reader of bytes hands its bytes on one by one, and the package's range decoder begins behind the head. Conditions: 23 bytes, of which the five behind the head begin with a nought and are no number of all ones.
-/
import Derived.Test.YtnkemepodpkhnaaGreatFmtState
import Derived.RegionTactic
import Derived.BigRegion
import Derived.Deep.AppendLies
import Derived.Deep.LoopGhost
import Derived.OwnWalk
import Derived.Deep.RegionWith
import Derived.Deep.QuietTactic
import Derived.BigQuiet
namespace Go.Proofs.YtnkemepodpkhnaaGreatFmt
open Go.ChangeShapes Go.WideShapes Go.ChangeAt Go.RowKit
/-- A reader over 23 bytes that stands at place i. -/
def Rd (w : World) (rb g cap : Nat) (L : List Int) (i : Nat) : Prop :=
  (∃ pr : Int, Blk w rb #[.slice (some ⟨g, 0, none⟩) 23 cap, .int .i64 i, .int .i64 pr] 117) ∧ (∀ j, j < 23 → w.cell? ⟨g, j, none⟩ = some (.int .u8 (L.getD j 0))) ∧ g ≠ rb ∧ 23 ≤ cap
def RdOut (B rb g cap : Nat) (L : List Int) (i : Nat) (w w' : World) : Prop := Rd w' rb g cap L i ∧ Kept B (· = rb) w w' ∧ w'.heap.size = w.heap.size

theorem Rd.drewN {w : World} {rb g cap : Nat} {L : List Int} {i : Nat} (h : Rd w rb g cap L i) (n : Nat) : Rd (w.drewN n) rb g cap L i := h
theorem Rd.kept {w w' : World} {rb g cap b : Nat} {K : Nat → Prop} {L : List Int} {i : Nat} (h : Rd w rb g cap L i) (hk : Kept b K w w') (h1 : rb < b) (h2 : g < b) (h3 : ¬ K rb) (h4 : ¬ K g) : Rd w' rb g cap L i := by
  obtain ⟨⟨pr, hB⟩, hc, r⟩ := h
  exact ⟨⟨pr, hB.kept hk h1 h3⟩, fun j hj => by rw [World.cell?_of_block (w := w) (hk.block g h2 h4)]; exact hc j hj, r⟩
theorem Rd.lt {w : World} {rb g cap : Nat} {L : List Int} {i : Nat} (h : Rd w rb g cap L i) : rb < w.heap.size ∧ g < w.heap.size := by
  obtain ⟨⟨pr, hB⟩, hc, r⟩ := h
  exact ⟨hB.lt, World.block_lt_of_cell? w _ (hc 0 (by omega))⟩

set_option maxRecDepth 100000 in
set_option maxHeartbeats 1000000 in
theorem readByte (B rb g cap : Nat) (L : List Int) (i : Nat) (w : World) (hR : Rd w rb g cap L i) (hi : i < 23) :
    Calls Tryz.prog 123 #[.pointer (some ⟨rb, 0, none⟩)] w fun e w' => e = .returned (.tuple #[.int .u8 (L.getD i 0), .nilIface]) ∧ RdOut B rb g cap L (i + 1) w w' := by
  obtain ⟨⟨pr, hB⟩, hc, hne, hcap⟩ := hR
  have c0 : w.cell? ⟨rb, 0, none⟩ = some (.slice (some ⟨g, 0, none⟩) 23 cap) := by rw [hB.cell]; rfl
  have c1 : w.cell? ⟨rb, 1, none⟩ = some (.int .i64 i) := by rw [hB.cell]; rfl
  have c2 : w.cell? ⟨rb, 2, none⟩ = some (.int .i64 pr) := by rw [hB.cell]; rfl
  have f1 := hB.frozen 1
  have f2 := hB.frozen 2
  have ci := hc i hi
  obtain ⟨x, hx⟩ : ∃ x, x = L.getD i 0 := ⟨_, rfl⟩
  rw [← hx]
  rw [← hx] at ci
  have hne' : rb ≠ g := fun e => hne e.symm
  have i1 : (0 : Int) ≤ (i : Int) := by omega
  have i2 : (i : Int) < 23 := by omega
  have H := hid (And.intro hB (And.intro hc hcap))
  clear hB hc hx
  go_enter Tryz.func123, Tryz.ntmps123
  go_wp2_with fail
  go_quiet (fail)
  go_wp2_with fail
  go_quiet (fail)
  go_wp2
  go_ret2
  have hk : ∀ B' n, Kept B' (· = rb) w (((w.setCell ⟨rb, 2, none⟩ (.int .i64 (-1))).drewN n).setCell ⟨rb, 1, none⟩ (.int .i64 (i + 1))) := fun B' n =>
    (((Kept.refl B' (· = rb) w).setCell (p := ⟨rb, 2, none⟩) (Or.inr rfl) _).drewN _).setCell (p := ⟨rb, 1, none⟩) (Or.inr rfl) _
  refine ⟨rfl, ⟨⟨-1, ?_⟩, fun j hj => ?_, hne, H.out.2.2⟩, hk B _, by simp [World.drewN]⟩
  · have h1 := fun n => ((H.out.1.set 2 (.int .i64 (-1))).drewN n).set 1 (.int .i64 (i + 1))
    simpa using h1 _
  · rw [World.cell?_of_block (w := w) ((hk (g + 1) _).block g (by omega) hne)]
    exact H.out.2.1 j hj

theorem nil_rb (a : Addr) (w : World) : (nilAhead 360 76 (.pointer (some a)) "ReadByte").run Tryz.prog w = .ok (some false) w := by kernel_rfl
theorem method_rb (a : Addr) (w : World) : (method 360 76 (.pointer (some a)) "ReadByte").run Tryz.prog w = .ok (123, .pointer (some a)) w := by kernel_rfl
theorem nil_read (a : Addr) (w : World) : (nilAhead 360 76 (.pointer (some a)) "Read").run Tryz.prog w = .ok (some false) w := by kernel_rfl
theorem method_read (a : Addr) (w : World) : (method 360 76 (.pointer (some a)) "Read").run Tryz.prog w = .ok (122, .pointer (some a)) w := by kernel_rfl

/-- The range decoder in block db. -/
def Dec (w : World) (db rb : Nat) (code : Int) : Prop := Blk w db #[.iface 76 (.pointer (some ⟨rb, 0, none⟩)), .int .u32 4294967295, .int .u32 code] 179

set_option maxRecDepth 100000 in
set_option maxHeartbeats 1000000 in
theorem updateCode (B db rb g cap : Nat) (L : List Int) (i : Nat) (code code' : Int) (w : World) (hD : Dec w db rb code) (hR : Rd w rb g cap L i) (hi : i < 23) (hne : db ≠ rb) (hdg : db ≠ g)
    (hcode : bits BinOp.or IntKind.u32 (code * 256 % 4294967296) (L.getD i 0) = code') (_h0 : 0 ≤ code) (_h1 : code < 4294967296) (hb : 0 ≤ L.getD i 0 ∧ L.getD i 0 < 256) :
    Calls Tryz.prog 55 #[.pointer (some ⟨db, 0, none⟩)] w fun e w' => e = .returned .nilIface ∧ Rd w' rb g cap L (i + 1) ∧ Dec w' db rb code' ∧ Kept B (fun k => k = rb ∨ k = db) w w' ∧ w'.heap.size = w.heap.size := by
  have c0 : w.cell? ⟨db, 0, none⟩ = some (.iface 76 (.pointer (some ⟨rb, 0, none⟩))) := by rw [Blk.cell hD]; rfl
  have n1 := nil_rb
  have n2 := method_rb
  have HI := hid (And.intro hD (And.intro hR hcode))
  obtain ⟨x, hx⟩ : ∃ x, x = L.getD i 0 := ⟨_, rfl⟩
  rw [← hx] at hb
  obtain ⟨hb0, hb1⟩ := hb
  have HX := hid hx
  clear hD hR hcode hx
  go_enter Tryz.func55, Tryz.ntmps55
  go_wp2_with (
    go_at_call 123
    go_loud (refine (readByte (max B (db + 1)) rb g cap L i w HI.out.2.1 hi).mono ?_)
    rintro e w1 ⟨rfl, hR1, hK1, hs1⟩
    have hd1 := Blk.kept HI.out.1 hK1 (by omega) hne
    have c2 : w1.cell? ⟨db, 2, none⟩ = some (.int .u32 code) := by rw [hd1.cell]; rfl
    have f2 := hd1.frozen 2
    rw [← HX.out]
    have H1 := hid (And.intro hR1 (And.intro hK1 (And.intro hs1 hd1)))
    clear hR1 hK1 hs1 hd1)
  go_ret
  obtain ⟨⟨pr, hrB⟩, hrc, hrn, hrcap⟩ := H1.out.1
  have he := HI.out.2.2
  rw [← HX.out] at he
  rw [he]
  refine ⟨rfl, ⟨⟨pr, Blk.set_other hrB _ hne _⟩, fun j hj => ?_, hrn, hrcap⟩, ?_, ?_, ?_⟩
  · rw [World.cell?_setCell_other _ _ _ _ (by intro e; exact hdg (congrArg Addr.block e))]
    exact hrc j hj
  · have h1 := H1.out.2.2.2.set 2 (.int .u32 code')
    simpa [Dec] using h1
  · exact (show Kept B (fun k => k = rb ∨ k = db) w w1 from H1.out.2.1.mono (Nat.le_max_left _ _) (fun k e => Or.inl e)).setCell (p := ⟨db, 2, none⟩) (Or.inr (Or.inr rfl)) _
  · simpa using H1.out.2.2.1

/-- The ten bytes behind the head: no number of all ones. -/
def tail5 (L : List Int) : Prop := L.getD 13 0 = 0 ∧ L.getD 14 0 = 131 ∧ L.getD 15 0 = 255 ∧ L.getD 16 0 = 251 ∧ L.getD 17 0 = 255

def codeAt : Nat → Int | 0 => 0 | 1 => 131 | 2 => 33791 | 3 => 8650747 | _ => 2214591487

theorem codes : bits BinOp.or IntKind.u32 (0 * 256 % 4294967296) 131 = 131 ∧ bits BinOp.or IntKind.u32 (131 * 256 % 4294967296) 255 = 33791 ∧ bits BinOp.or IntKind.u32 (33791 * 256 % 4294967296) 251 = 8650747 ∧ bits BinOp.or IntKind.u32 (8650747 * 256 % 4294967296) 255 = 2214591487 := by decide

set_option maxRecDepth 100000 in
set_option maxHeartbeats 1000000 in
theorem newRangeDecoder (rb g cap : Nat) (L : List Int) (w : World) (hR : Rd w rb g cap L 13) (hL : tail5 L) :
    Calls Tryz.prog 47 #[.iface 76 (.pointer (some ⟨rb, 0, none⟩))] w fun e w' => e = .returned (.tuple #[.pointer (some ⟨w.heap.size, 0, none⟩), .nilIface]) ∧ Kept w.heap.size (· = rb) w w' := by
  obtain ⟨l0, l1, l2, l3, l4⟩ := hL
  obtain ⟨q1, q2, q3, q4⟩ := codes
  have hlt := hR.lt
  have n1 := nil_rb
  have n2 := method_rb
  have hR0 : Rd (w.alloc (.cells #[.iface 76 (.pointer (some ⟨rb, 0, none⟩)), .int .u32 4294967295, .int .u32 0] 179)) rb g cap L 13 := hR.kept (b := w.heap.size) (K := fun _ => False) ((Kept.refl _ _ _).alloc (Nat.le_refl _) _) hlt.1 hlt.2 id id
  have hD0 : Dec (w.alloc (.cells #[.iface 76 (.pointer (some ⟨rb, 0, none⟩)), .int .u32 4294967295, .int .u32 0] 179)) w.heap.size rb 0 := Blk.new w _ 179
  have HI := hid (And.intro hR0 (And.intro hD0 (And.intro l0 (And.intro l1 (And.intro l2 (And.intro l3 l4))))))
  have HQ := hid (And.intro q1 (And.intro q2 (And.intro q3 q4)))
  clear hR hR0 hD0 l0 l1 l2 l3 l4 q1 q2 q3 q4
  go_enter Tryz.func47, Tryz.ntmps47
  go_wp2_with (
    go_at_call 123
    go_loud (refine (readByte (w.heap.size + 1) rb g cap L 13 _ HI.out.1 (by omega)).mono ?_)
    rintro e w1 ⟨rfl, hR1, hK1, hs1⟩
    rw [HI.out.2.2.1]
    have hd1 := Blk.kept HI.out.2.1 hK1 (by omega) (by omega)
    have H1 := hid (And.intro hR1 (And.intro hK1 (And.intro hs1 hd1)))
    clear hR1 hK1 hs1 hd1)
  go_loopg [2, 3, 5] 4 (fun k p e i wr => k ≤ 4 ∧ p = .pointer (some ⟨w.heap.size, 0, none⟩) ∧ e = .nilIface ∧ i = .int .i64 (4 - k) ∧ Rd wr rb g cap L (18 - k) ∧ Dec wr w.heap.size rb (codeAt (4 - k)) ∧ Kept w.heap.size (· = rb) w wr ∧ wr.heap.size = w.heap.size + 1)
  case atStart => exact ⟨by omega, rfl, rfl, rfl, H1.out.1, H1.out.2.2.2, ((Kept.refl w.heap.size (· = rb) w).alloc (Nat.le_refl _) _).trans (H1.out.2.1.mono (by omega) (fun _ h => h)), by simpa using H1.out.2.2.1⟩
  case round =>
    clear H1
    obtain ⟨hk, rfl, rfl, rfl, hR, hD, hK, hs⟩ := hrel
    have H := hid (And.intro hR (And.intro hD (And.intro hK hs)))
    clear hR hD hK hs
    rcases (show gk = 4 ∨ gk = 3 ∨ gk = 2 ∨ gk = 1 ∨ gk = 0 by omega) with rfl | rfl | rfl | rfl | rfl
    · have hD' : Dec wr w.heap.size rb 0 := H.out.2.1
      have hR' : Rd wr rb g cap L 14 := H.out.1
      have hb' : 0 ≤ L.getD 14 0 ∧ L.getD 14 0 < 256 := by rw [HI.out.2.2.2.1]; omega
      have hc' : bits BinOp.or IntKind.u32 (0 * 256 % 4294967296) (L.getD 14 0) = 131 := by rw [HI.out.2.2.2.1]; exact HQ.out.1
      have hcall := updateCode w.heap.size w.heap.size rb g cap L 14 0 131 wr hD' hR' (by omega) (by omega) (by omega) hc' (by omega) (by omega) hb'
      have HC := hid hcall
      clear hD' hR' hb' hc' hcall
      go_wp2_with (
        go_at_call 55
        go_loud (refine HC.out.mono ?_)
        rintro e w2 ⟨rfl, hR, hD, hK, hs⟩
        have H2 := hid (And.intro hR (And.intro hD (And.intro hK hs)))
        clear hR hD hK hs)
      go_roundg 3
      case measure => omega
      case rel => exact ⟨by omega, rfl, rfl, rfl, H2.out.1, H2.out.2.1, H.out.2.2.1.trans ⟨H2.out.2.2.1.os, H2.out.2.2.1.tape, H2.out.2.2.1.output, H2.out.2.2.1.size, fun k hk hn => H2.out.2.2.1.block k hk (by omega)⟩, by rw [H2.out.2.2.2]; exact H.out.2.2.2⟩
    · have hD' : Dec wr w.heap.size rb 131 := H.out.2.1
      have hR' : Rd wr rb g cap L 15 := H.out.1
      have hb' : 0 ≤ L.getD 15 0 ∧ L.getD 15 0 < 256 := by rw [HI.out.2.2.2.2.1]; omega
      have hc' : bits BinOp.or IntKind.u32 (131 * 256 % 4294967296) (L.getD 15 0) = 33791 := by rw [HI.out.2.2.2.2.1]; exact HQ.out.2.1
      have hcall := updateCode w.heap.size w.heap.size rb g cap L 15 131 33791 wr hD' hR' (by omega) (by omega) (by omega) hc' (by omega) (by omega) hb'
      have HC := hid hcall
      clear hD' hR' hb' hc' hcall
      go_wp2_with (
        go_at_call 55
        go_loud (refine HC.out.mono ?_)
        rintro e w2 ⟨rfl, hR, hD, hK, hs⟩
        have H2 := hid (And.intro hR (And.intro hD (And.intro hK hs)))
        clear hR hD hK hs)
      go_roundg 2
      case measure => omega
      case rel => exact ⟨by omega, rfl, rfl, rfl, H2.out.1, H2.out.2.1, H.out.2.2.1.trans ⟨H2.out.2.2.1.os, H2.out.2.2.1.tape, H2.out.2.2.1.output, H2.out.2.2.1.size, fun k hk hn => H2.out.2.2.1.block k hk (by omega)⟩, by rw [H2.out.2.2.2]; exact H.out.2.2.2⟩
    · have hD' : Dec wr w.heap.size rb 33791 := H.out.2.1
      have hR' : Rd wr rb g cap L 16 := H.out.1
      have hb' : 0 ≤ L.getD 16 0 ∧ L.getD 16 0 < 256 := by rw [HI.out.2.2.2.2.2.1]; omega
      have hc' : bits BinOp.or IntKind.u32 (33791 * 256 % 4294967296) (L.getD 16 0) = 8650747 := by rw [HI.out.2.2.2.2.2.1]; exact HQ.out.2.2.1
      have hcall := updateCode w.heap.size w.heap.size rb g cap L 16 33791 8650747 wr hD' hR' (by omega) (by omega) (by omega) hc' (by omega) (by omega) hb'
      have HC := hid hcall
      clear hD' hR' hb' hc' hcall
      go_wp2_with (
        go_at_call 55
        go_loud (refine HC.out.mono ?_)
        rintro e w2 ⟨rfl, hR, hD, hK, hs⟩
        have H2 := hid (And.intro hR (And.intro hD (And.intro hK hs)))
        clear hR hD hK hs)
      go_roundg 1
      case measure => omega
      case rel => exact ⟨by omega, rfl, rfl, rfl, H2.out.1, H2.out.2.1, H.out.2.2.1.trans ⟨H2.out.2.2.1.os, H2.out.2.2.1.tape, H2.out.2.2.1.output, H2.out.2.2.1.size, fun k hk hn => H2.out.2.2.1.block k hk (by omega)⟩, by rw [H2.out.2.2.2]; exact H.out.2.2.2⟩
    · have hD' : Dec wr w.heap.size rb 8650747 := H.out.2.1
      have hR' : Rd wr rb g cap L 17 := H.out.1
      have hb' : 0 ≤ L.getD 17 0 ∧ L.getD 17 0 < 256 := by rw [HI.out.2.2.2.2.2.2]; omega
      have hc' : bits BinOp.or IntKind.u32 (8650747 * 256 % 4294967296) (L.getD 17 0) = 2214591487 := by rw [HI.out.2.2.2.2.2.2]; exact HQ.out.2.2.2
      have hcall := updateCode w.heap.size w.heap.size rb g cap L 17 8650747 2214591487 wr hD' hR' (by omega) (by omega) (by omega) hc' (by omega) (by omega) hb'
      have HC := hid hcall
      clear hD' hR' hb' hc' hcall
      go_wp2_with (
        go_at_call 55
        go_loud (refine HC.out.mono ?_)
        rintro e w2 ⟨rfl, hR, hD, hK, hs⟩
        have H2 := hid (And.intro hR (And.intro hD (And.intro hK hs)))
        clear hR hD hK hs)
      go_roundg 0
      case measure => omega
      case rel => exact ⟨by omega, rfl, rfl, rfl, H2.out.1, H2.out.2.1, H.out.2.2.1.trans ⟨H2.out.2.2.1.os, H2.out.2.2.1.tape, H2.out.2.2.1.output, H2.out.2.2.1.size, fun k hk hn => H2.out.2.2.1.block k hk (by omega)⟩, by rw [H2.out.2.2.2]; exact H.out.2.2.2⟩
    · have c1 : wr.cell? ⟨w.heap.size, 1, none⟩ = some (.int .u32 4294967295) := by rw [Blk.cell H.out.2.1]; rfl
      have c2 : wr.cell? ⟨w.heap.size, 2, none⟩ = some (.int .u32 2214591487) := by rw [Blk.cell H.out.2.1]; rfl
      go_wp2_with fail
      go_quiet (fail)
      go_wp2
      go_ret2
      exact ⟨rfl, H.out.2.2.1.drewN _⟩

end Go.Proofs.YtnkemepodpkhnaaGreatFmt
