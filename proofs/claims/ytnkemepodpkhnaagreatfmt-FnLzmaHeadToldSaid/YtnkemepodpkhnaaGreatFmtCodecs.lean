/-
  PROVED: the package's trees of chances and its lengths' codec are made and laid into the state, and nothing else that was there turns. Conditions: the state's block is there.
-/
import Derived.Test.YtnkemepodpkhnaaGreatFmtFill
import Derived.RegionTactic
import Derived.BigRegion
import Derived.Deep.AppendLies
import Derived.Deep.LoopGhost
import Derived.OwnWalk
import Derived.Deep.RegionWith
import Derived.Deep.QuietTactic
import Derived.BigQuiet
namespace Go.Proofs.YtnkemepodpkhnaaGreatFmt
open Go.ChangeShapes Go.WideShapes Go.ChangeAt Go.RowKit
set_option maxRecDepth 100000 in
theorem init_any (B b o n c : Nat) (t : TypeId) (C : Array Value) (w : World) (hC : Blk w b C t) (hn : o + n ≤ C.size) (hm : n ≤ 1000000000) :
    Calls Tryz.prog 51 #[.slice (some ⟨b, o, none⟩) n c] w fun e w' => e = .returned (.tuple #[]) ∧ Filled B b o n t C w w' := by
  have HC := hid hC
  clear hC
  go_enter Tryz.func51, Tryz.ntmps51
  go_wp2
  go_loopg [5] n (fun k i wr => ∃ C', k ≤ n ∧ i = .int .i64 (n - k) ∧ Blk wr b C' t ∧ Upd o (o + n) C C' ∧ (∀ j, j < n - k → C'[o + j]? = some (.int .u16 1024)) ∧ wr.heap.size = w.heap.size ∧ Kept B (· = b) w wr)
  case atStart => exact ⟨C, by omega, by simp, HC.out, Upd.refl _ _ _, fun j h => by omega, rfl, Kept.refl _ _ _⟩
  case round =>
    obtain ⟨C', hk, rfl, hB, hU, hF, hsz, hK⟩ := hrel
    obtain ⟨j, hj⟩ : ∃ j : Nat, j = n - gk := ⟨_, rfl⟩
    have e : (n : Int) - (gk : Int) = (j : Int) := by omega
    rw [e]
    by_cases h0 : gk = 0
    · have H := hid (And.intro hB (And.intro hU (And.intro hF (And.intro hsz hK))))
      have hlt : ¬ ((j : Int) < (n : Int)) := by omega
      have E := hid (And.intro hj h0)
      clear hB hU hF hsz hK e hj h0
      go_wp2
      go_end0
      exact ⟨rfl, ⟨C', H.out.1, H.out.2.1, fun i hi => H.out.2.2.1 i (by have := E.out; omega)⟩, H.out.2.2.2.1, H.out.2.2.2.2⟩
    · have hlt : (j : Int) < (n : Int) := by omega
      have hlt' : j < n := by omega
      have hs : o + j < C'.size := by rw [hU.1]; omega
      have hcell : wr.cell? ⟨b, o + j, none⟩ = some C'[o + j] := by rw [hB.cell]; exact Array.getElem?_eq_getElem hs
      have hfz := hB.frozen (o + j)
      obtain ⟨cv, hcv⟩ : ∃ cv, cv = C'[o + j] := ⟨_, rfl⟩
      rw [← hcv] at hcell
      clear hcv
      have H := hid (And.intro hB (And.intro hU (And.intro hF (And.intro hsz hK))))
      have E := hid (And.intro hj e)
      clear hB hU hF hsz hK e hj hs
      go_wp2
      go_roundg (gk - 1)
      case measure => omega
      case rel =>
        refine ⟨C'.setIfInBounds (o + j) (.int .u16 1024), by omega, ?_, H.out.1.set _ _, H.out.2.1.trans ((Upd.set C' _ _).mono (by omega) (by omega)), fun i hi => ?_, by simpa using H.out.2.2.2.1, H.out.2.2.2.2.setCell (Or.inr rfl) _⟩
        · have := E.out; rw [show (n : Int) - ((gk - 1 : Nat) : Int) = (j : Int) + 1 by omega]
        · have hE := E.out
          rw [Array.getElem?_setIfInBounds]
          by_cases hi2 : i = j
          · subst hi2
            rw [if_pos rfl, if_pos (by rw [H.out.2.1.1]; omega)]
          · rw [if_neg (by omega)]
            exact H.out.2.2.1 i (by omega)
/-- The state's block is there, and nothing else that was there has turned. -/
def SOut (sb : Nat) (w w' : World) : Prop := (∃ C', Blk w' sb C' 156 ∧ C'.size = 608) ∧ Kept w.heap.size (· = sb) w w'
theorem SOut.trans {sb : Nat} {a b c : World} (h : SOut sb a b) (k : SOut sb b c) : SOut sb a c := ⟨k.1, h.2.trans (k.2.mono h.2.size (fun _ h => h))⟩
theorem SOut.drew {sb : Nat} {a b : World} (h : SOut sb a b) : SOut sb a b.drew := ⟨h.1, h.2.drew⟩
theorem SOut.undrew {sb : Nat} {a b : World} (h : SOut sb a.drew b) : SOut sb a b := ⟨h.1, h.2.os, h.2.tape, h.2.output, h.2.size, h.2.block⟩
theorem SOut.set {sb : Nat} {a b : World} (h : SOut sb a b) (o : Nat) (v : Value) : SOut sb a (b.setCell ⟨sb, o, none⟩ v) := by
  obtain ⟨⟨C, hC, hs⟩, hK⟩ := h
  exact ⟨⟨_, hC.set o v, by simpa using hs⟩, hK.setCell (Or.inr rfl) v⟩
theorem SOut.alloc {sb : Nat} {a b : World} (h : SOut sb a b) (o : Obj) : SOut sb a (b.alloc o) := by
  obtain ⟨⟨C, hC, hs⟩, hK⟩ := h
  exact ⟨⟨_, hC.alloc o, hs⟩, hK.alloc hK.size o⟩
theorem SOut.below {sb : Nat} {a b c : World} (h : SOut sb a b) (k : Below b.heap.size b c) : SOut sb a c := by
  obtain ⟨⟨C, hC, hs⟩, hK⟩ := h
  exact ⟨⟨_, hC.below k hC.lt, hs⟩, hK.trans (Kept.of_below (k.mono hK.size))⟩
theorem SOut.start {sb : Nat} {w : World} {C : Array Value} (h : Blk w sb C 156) (hs : C.size = 608) : SOut sb w w := ⟨⟨C, h, hs⟩, Kept.refl _ _ _⟩
/-- A cell of the state, and that it may be written. -/
theorem SOut.cell {sb : Nat} {a b : World} (h : SOut sb a b) (o : Nat) (ho : o < 608) : (∃ v, b.cell? ⟨sb, o, none⟩ = some v) ∧ b.frozen? ⟨sb, o, none⟩ = false := by
  obtain ⟨⟨C, hC, hs⟩, _⟩ := h
  exact ⟨⟨C[o], by rw [hC.cell]; exact Array.getElem?_eq_getElem (by omega)⟩, hC.frozen o⟩

theorem info136 : (Tryz.prog.info? 136).map (fun i => (i.zero.isSome, i.size, i.bytes)) = some (true, 1, 2) := by kernel_rfl

theorem init_s (sb o n : Nat) (w : World) (C : Array Value) (hC : Blk w sb C 156) (hs : C.size = 608) (hn : o + n ≤ 608) :
    Calls Tryz.prog 51 #[.slice (some ⟨sb, o, none⟩) n n] w fun e w' => e = .returned (.tuple #[]) ∧ SOut sb w w' :=
  (init_any w.heap.size sb o n n 156 C w hC (by omega) (by omega)).mono fun _ _ ⟨he, ⟨D, hD, hU, _⟩, _, hK⟩ => ⟨he, ⟨D, hD, by rw [hU.1]; exact hs⟩, hK⟩

theorem pow_b : ∀ k : Fin 9, wrap64 (2 ^ k.val) = ((2 ^ k.val : Nat) : Int) ∧ 2 ^ k.val ≤ 256 := by decide +kernel

set_option maxRecDepth 100000 in
set_option maxHeartbeats 1000000 in
theorem probTree (k : Nat) (w : World) (h1 : 1 ≤ k) (h8 : k ≤ 8) :
    Calls Tryz.prog 58 #[.int .i64 k] w fun e w' => (∃ n : Nat, e = .returned (.agg #[.slice (some ⟨w.heap.size + 1, 0, none⟩) n n, .int .u8 k])) ∧ Below w.heap.size w w' := by
  obtain ⟨hp, hn⟩ := pow_b ⟨k, by omega⟩
  simp only at hp hn
  obtain ⟨n, hnn⟩ : ∃ n : Nat, n = 2 ^ k := ⟨_, rfl⟩
  rw [← hnn] at hp hn
  clear hnn
  obtain ⟨M, hM, hmk⟩ := make_any 139 136 1 2 Tryz.underlying139 info136 n (by omega) (by omega)
  have hi1 : (1 : Int) ≤ (k : Int) := by omega
  have hi2 : (k : Int) ≤ 32 := by omega
  have hi3 : decide ((k : Int) ≤ 32) = true := by simpa using hi2
  have hi4 : decide ((1 : Int) ≤ (k : Int)) = true := by simpa using hi1
  have hb1 : Blk (((w.alloc (.cells #[.slice none 0 0, .int .u8 0] 144)).alloc (.cells M 136)).alloc (.cells #[.slice (some ⟨w.heap.size + 1, 0, none⟩) n n, .int .u8 k] 144)) (w.heap.size + 1) M 136 := by
    have := (Blk.new (w.alloc (.cells #[.slice none 0 0, .int .u8 0] 144)) M 136).alloc (.cells #[.slice (some ⟨w.heap.size + 1, 0, none⟩) n n, .int .u8 k] 144)
    simpa using this
  have hb2 : Blk (((w.alloc (.cells #[.slice none 0 0, .int .u8 0] 144)).alloc (.cells M 136)).alloc (.cells #[.slice (some ⟨w.heap.size + 1, 0, none⟩) n n, .int .u8 k] 144)) (w.heap.size + 2) #[.slice (some ⟨w.heap.size + 1, 0, none⟩) n n, .int .u8 k] 144 := by
    have := Blk.new ((w.alloc (.cells #[.slice none 0 0, .int .u8 0] 144)).alloc (.cells M 136)) #[.slice (some ⟨w.heap.size + 1, 0, none⟩) n n, .int .u8 k] 144
    simpa using this
  have hb0 : Blk (((w.alloc (.cells #[.slice none 0 0, .int .u8 0] 144)).alloc (.cells M 136)).alloc (.cells #[.slice (some ⟨w.heap.size + 1, 0, none⟩) n n, .int .u8 k] 144)) w.heap.size #[.slice none 0 0, .int .u8 0] 144 := ((Blk.new w _ _).alloc _).alloc _
  have hk0 : Below w.heap.size w (((w.alloc (.cells #[.slice none 0 0, .int .u8 0] 144)).alloc (.cells M 136)).alloc (.cells #[.slice (some ⟨w.heap.size + 1, 0, none⟩) n n, .int .u8 k] 144)) := (((Below.refl _ _).alloc (Nat.le_refl _) _).alloc (by simp) _).alloc (by simp; omega) _
  have HI := hid (And.intro hb1 (And.intro hb2 (And.intro hb0 (And.intro hk0 hM))))
  clear hb1 hb2 hb0 hk0 hM
  go_enter Tryz.func58, Tryz.ntmps58
  go_wp2_with fail
  rw [hp]
  clear hp
  go_loopg [23] n (fun q i wr => q ≤ n ∧ i = .int .i64 (n - q) ∧ (∃ M', Blk wr (w.heap.size + 1) M' 136 ∧ M'.size = n * 1) ∧ Blk wr (w.heap.size + 2) #[.slice (some ⟨w.heap.size + 1, 0, none⟩) n n, .int .u8 k] 144 ∧ Blk wr w.heap.size #[.slice none 0 0, .int .u8 0] 144 ∧ Below w.heap.size w wr)
  case atStart => exact ⟨by omega, by simp, ⟨M, HI.out.1, HI.out.2.2.2.2⟩, HI.out.2.1, HI.out.2.2.1, HI.out.2.2.2.1⟩
  case round =>
    obtain ⟨hk, rfl, ⟨M', hM', hsM⟩, hT, hR, hK⟩ := hrel
    obtain ⟨j, hj⟩ : ∃ j : Nat, j = n - gk := ⟨_, rfl⟩
    have e : (n : Int) - (gk : Int) = (j : Int) := by omega
    rw [e]
    have t0 : wr.cell? ⟨w.heap.size + 2, 0, none⟩ = some (.slice (some ⟨w.heap.size + 1, 0, none⟩) n n) := by rw [Blk.cell hT]; rfl
    by_cases h0 : gk = 0
    · have hlt : ¬ ((j : Int) < (n : Int)) := by omega
      have t1 : wr.cell? ⟨w.heap.size + 2, 1, none⟩ = some (.int .u8 k) := by rw [Blk.cell hT]; rfl
      have r0 : wr.cell? ⟨w.heap.size, 0, none⟩ = some (.slice none 0 0) := by rw [Blk.cell hR]; rfl
      have r1 : wr.cell? ⟨w.heap.size, 1, none⟩ = some (.int .u8 0) := by rw [Blk.cell hR]; rfl
      have f0 := Blk.frozen hR 0
      have f1 := Blk.frozen hR 1
      have H := hid hK
      clear hM' hsM hT hR hK hj e h0
      go_wp2
      refine bodyPost_ret (v := .agg #[.slice (some ⟨w.heap.size + 1, 0, none⟩) n n, .int .u8 k]) (by simp [results, Tryz.results58, go_sem, r0, r1]) rfl ⟨⟨n, rfl⟩, ?_⟩
      exact (H.out.setCell (by simp) _).setCell (by simp) _
    · have hlt : (j : Int) < (n : Int) := by omega
      have hlt' : j < n := by omega
      have hs : j < M'.size := by omega
      have hcell : wr.cell? ⟨w.heap.size + 1, j, none⟩ = some M'[j] := by rw [Blk.cell hM']; exact Array.getElem?_eq_getElem hs
      have hfz := Blk.frozen hM' j
      obtain ⟨cv, hcv⟩ : ∃ cv, cv = M'[j] := ⟨_, rfl⟩
      rw [← hcv] at hcell
      clear hcv
      have H := hid (And.intro hM' (And.intro hsM (And.intro hT (And.intro hR (And.intro hK (And.intro hj e))))))
      clear hM' hsM hT hR hK hj e hs
      go_wp2
      go_roundg (gk - 1)
      case measure => omega
      case rel =>
        have E := H.out.2.2.2.2.2
        refine ⟨by omega, by rw [show (n : Int) - ((gk - 1 : Nat) : Int) = (j : Int) + 1 by omega], ⟨_, Blk.set H.out.1 j _, by simpa using H.out.2.1⟩, Blk.set_other H.out.2.2.1 _ (by show w.heap.size + 1 ≠ _; omega) _, Blk.set_other H.out.2.2.2.1 _ (by show w.heap.size + 1 ≠ _; omega) _, H.out.2.2.2.2.1.setCell (by show w.heap.size ≤ w.heap.size + 1; omega) _⟩

/-- A tree's codec, and a back tree's. -/
theorem treeCodec (k : Nat) (w : World) (h1 : 1 ≤ k) (h8 : k ≤ 8) :
    Calls Tryz.prog 56 #[.int .i64 k] w fun e w' => (∃ g n : Nat, e = .returned (.agg #[.slice (some ⟨g, 0, none⟩) n n, .int .u8 k])) ∧ Below w.heap.size w w' := by
  have hk0 : Below w.heap.size w (w.alloc (.cells #[.slice none 0 0, .int .u8 0] 146)) := (Below.refl _ _).alloc (Nat.le_refl _) _
  have hb0 : Blk (w.alloc (.cells #[.slice none 0 0, .int .u8 0] 146)) w.heap.size #[.slice none 0 0, .int .u8 0] 146 := Blk.new w _ _
  have HI := hid (And.intro hk0 hb0)
  clear hk0 hb0
  go_enter Tryz.func56, Tryz.ntmps56
  go_wp2_with (
    go_at_call 58
    refine (probTree k _ h1 h8).mono ?_
    rintro e w1 ⟨⟨n, rfl⟩, hB⟩
    have hb1 := HI.out.2.below hB (by simp)
    have c0 : w1.cell? ⟨w.heap.size, 0, none⟩ = some (.slice none 0 0) := by rw [hb1.cell]; rfl
    have c1 : w1.cell? ⟨w.heap.size, 1, none⟩ = some (.int .u8 0) := by rw [hb1.cell]; rfl
    have f0 := hb1.frozen 0
    have f1 := hb1.frozen 1
    have HB := hid hB
    clear hB hb1)
  refine bodyPost_ret (v := .agg #[.slice (some ⟨w.heap.size + 2, 0, none⟩) n n, .int .u8 k]) (by simp [results, Tryz.results56, go_sem, c0, c1]) rfl ⟨⟨_, n, rfl⟩, ?_⟩
  exact ((HI.out.1.trans (HB.out.mono (by simp))).setCell (by simp) _).setCell (by simp) _

theorem treeReverse (k : Nat) (w : World) (h1 : 1 ≤ k) (h8 : k ≤ 8) :
    Calls Tryz.prog 57 #[.int .i64 k] w fun e w' => (∃ g n : Nat, e = .returned (.agg #[.slice (some ⟨g, 0, none⟩) n n, .int .u8 k])) ∧ Below w.heap.size w w' := by
  have hk0 : Below w.heap.size w (w.alloc (.cells #[.slice none 0 0, .int .u8 0] 151)) := (Below.refl _ _).alloc (Nat.le_refl _) _
  have hb0 : Blk (w.alloc (.cells #[.slice none 0 0, .int .u8 0] 151)) w.heap.size #[.slice none 0 0, .int .u8 0] 151 := Blk.new w _ _
  have HI := hid (And.intro hk0 hb0)
  clear hk0 hb0
  go_enter Tryz.func57, Tryz.ntmps57
  go_wp2_with (
    go_at_call 58
    refine (probTree k _ h1 h8).mono ?_
    rintro e w1 ⟨⟨n, rfl⟩, hB⟩
    have hb1 := HI.out.2.below hB (by simp)
    have c0 : w1.cell? ⟨w.heap.size, 0, none⟩ = some (.slice none 0 0) := by rw [hb1.cell]; rfl
    have c1 : w1.cell? ⟨w.heap.size, 1, none⟩ = some (.int .u8 0) := by rw [hb1.cell]; rfl
    have f0 := hb1.frozen 0
    have f1 := hb1.frozen 1
    have HB := hid hB
    clear hB hb1)
  refine bodyPost_ret (v := .agg #[.slice (some ⟨w.heap.size + 2, 0, none⟩) n n, .int .u8 k]) (by simp [results, Tryz.results57, go_sem, c0, c1]) rfl ⟨⟨_, n, rfl⟩, ?_⟩
  exact ((HI.out.1.trans (HB.out.mono (by simp))).setCell (by simp) _).setCell (by simp) _

set_option maxRecDepth 100000 in
set_option maxHeartbeats 1000000 in
theorem lengthInit (sb o : Nat) (w : World) (C : Array Value) (hC : Blk w sb C 156) (hs : C.size = 608) (hn : o + 68 ≤ 608) :
    Calls Tryz.prog 53 #[.pointer (some ⟨sb, o, none⟩)] w fun e w' => e = .returned (.tuple #[]) ∧ SOut sb w w' := by
  have H0 := hid (SOut.start hC hs)
  clear hC hs
  go_enter Tryz.func53, Tryz.ntmps53
  go_wp2_with fail
  go_loopg [5] 2 (fun q i wr => q ≤ 2 ∧ i = .int .i64 (2 - q) ∧ SOut sb w wr)
  case atStart => exact ⟨by omega, rfl, H0.out⟩
  case round =>
    clear H0
    obtain ⟨hk, rfl, hS⟩ := hrel
    obtain ⟨j, hj⟩ : ∃ j : Nat, j = 2 - gk := ⟨_, rfl⟩
    have e : (2 : Int) - (gk : Int) = (j : Int) := by omega
    rw [e]
    by_cases h0 : gk = 0
    · have hlt : ¬ ((j : Int) < 2) := by omega
      obtain rfl : j = 2 := by omega
      have H := hid hS
      clear hS e hj h0
      go_wp2_with fail
      go_loopg [14] 16 (fun q i wr => q ≤ 16 ∧ i = .int .i64 (16 - q) ∧ SOut sb w wr)
      case atStart => exact ⟨by omega, rfl, H.out⟩
      case round =>
        clear H
        obtain ⟨hk, rfl, hS⟩ := hrel
        obtain ⟨j, hj⟩ : ∃ j : Nat, j = 16 - gk := ⟨_, rfl⟩
        have e : (16 : Int) - (gk : Int) = (j : Int) := by omega
        rw [e]
        by_cases h0 : gk = 0
        · have hlt : ¬ ((j : Int) < 16) := by omega
          obtain rfl : j = 16 := by omega
          have H := hid hS
          clear hS e hj h0
          go_wp2_with fail
          go_loopg [24] 16 (fun q i wr => q ≤ 16 ∧ i = .int .i64 (16 - q) ∧ SOut sb w wr)
          case atStart => exact ⟨by omega, rfl, H.out⟩
          case round =>
            clear H
            obtain ⟨hk, rfl, hS⟩ := hrel
            obtain ⟨j, hj⟩ : ∃ j : Nat, j = 16 - gk := ⟨_, rfl⟩
            have e : (16 : Int) - (gk : Int) = (j : Int) := by omega
            rw [e]
            by_cases h0 : gk = 0
            · have hlt : ¬ ((j : Int) < 16) := by omega
              obtain rfl : j = 16 := by omega
              have H := hid hS
              clear hS e hj h0
              go_wp2_with (
                go_at_call 56
                go_loud (refine (treeCodec 8 _ (by omega) (by omega)).mono ?_)
                rintro e w1 ⟨⟨g, n, rfl⟩, hB⟩
                have S1 := H.out.below hB
                obtain ⟨⟨v0, c0⟩, f0⟩ := S1.cell (o + 66) (by omega)
                obtain ⟨⟨v1, c1⟩, f1⟩ := S1.cell (o + 66 + 1) (by omega)
                have HS1 := hid S1
                clear S1 hB)
              go_end0
              exact ⟨rfl, (HS1.out.set _ _).set _ _⟩
            · have hlt : (j : Int) < 16 := by omega
              have hlt' : j < 16 := by omega
              have H := hid (And.intro hS (And.intro hj e))
              clear hS hj e
              go_wp2_with fail
              go_region_with (
                go_at_call 56
                go_loud (refine (treeCodec 3 _ (by omega) (by omega)).mono ?_)
                rintro e w1 ⟨⟨g, n, rfl⟩, hB⟩
                have S1 := (H.out.1.drew).below hB
                obtain ⟨⟨v0, c0⟩, f0⟩ := S1.cell (o + 34 + j * 2) (by omega)
                obtain ⟨⟨v1, c1⟩, f1⟩ := S1.cell (o + 34 + j * 2 + 1) (by omega)
                have HS1 := hid S1
                clear S1 hB)
              all_goals
                go_wp2
                go_roundg (gk - 1)
                case measure => omega
                case rel =>
                  have E := H.out.2
                  exact ⟨by omega, by rw [show (16 : Int) - ((gk - 1 : Nat) : Int) = (j : Int) + 1 by omega], (HS1.out.set _ _).set _ _⟩
        · have hlt : (j : Int) < 16 := by omega
          have hlt' : j < 16 := by omega
          have H := hid (And.intro hS (And.intro hj e))
          clear hS hj e
          go_wp2_with fail
          go_region_with (
            go_at_call 56
            go_loud (refine (treeCodec 3 _ (by omega) (by omega)).mono ?_)
            rintro e w1 ⟨⟨g, n, rfl⟩, hB⟩
            have S1 := (H.out.1.drew).below hB
            obtain ⟨⟨v0, c0⟩, f0⟩ := S1.cell (o + 2 + j * 2) (by omega)
            obtain ⟨⟨v1, c1⟩, f1⟩ := S1.cell (o + 2 + j * 2 + 1) (by omega)
            have HS1 := hid S1
            clear S1 hB)
          all_goals
            go_wp2
            go_roundg (gk - 1)
            case measure => omega
            case rel =>
              have E := H.out.2
              exact ⟨by omega, by rw [show (16 : Int) - ((gk - 1 : Nat) : Int) = (j : Int) + 1 by omega], (HS1.out.set _ _).set _ _⟩
    · have hlt : (j : Int) < 2 := by omega
      have hlt' : j < 2 := by omega
      obtain ⟨⟨v0, c0⟩, f0⟩ := hS.cell (o + j) (by omega)
      have H := hid (And.intro hS (And.intro hj e))
      clear hS hj e
      go_wp2
      go_roundg (gk - 1)
      case measure => omega
      case rel =>
        have E := H.out.2
        exact ⟨by omega, by rw [show (2 : Int) - ((gk - 1 : Nat) : Int) = (j : Int) + 1 by omega], H.out.1.set _ _⟩

end Go.Proofs.YtnkemepodpkhnaaGreatFmt
