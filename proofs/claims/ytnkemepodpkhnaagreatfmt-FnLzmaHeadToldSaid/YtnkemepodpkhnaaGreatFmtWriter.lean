/-
  PROVED: what the reference's range writer does at a shift and at a settling, told by a pure state of five fields. Conditions: the fields fit their kinds, low has 32 bits, nothing is long.
-/
import Derived.Test.YtnkemepodpkhnaaGreatFmtBase
import Derived.RegionTactic
import Derived.BigRegion

import Derived.Deep.AppendLies
import Derived.Deep.LoopGhost
import Derived.OwnWalk
import Derived.Deep.QuietTactic
import Derived.BigQuiet
namespace Go.Proofs.YtnkemepodpkhnaaGreatFmt
open Go.ChangeShapes Go.WideShapes Go.ChangeAt Go.RowKit

/-- The writer's five fields. -/
structure WS where
  low : Int
  span : Int
  cache : Int
  wait : Nat
  out : List Int

/-- What a put-out of j bytes writes, where nothing is carried. -/
def em (cache : Int) : Nat → List Int
  | 0 => []
  | j + 1 => em cache j ++ [if j = 0 then cache else 255]

theorem em_length (cache : Int) (j : Nat) : (em cache j).length = j := by
  induction j with
  | zero => rfl
  | succ j ih => simp [em, ih]

theorem em_step (cache : Int) {k n : Nat} (h : k ≤ n) (h0 : 0 < k) : em cache (n - (k - 1)) = em cache (n - k) ++ [if k = n then cache else 255] := by
  obtain ⟨j, hj⟩ : ∃ j, n - k = j := ⟨_, rfl⟩
  rw [show n - (k - 1) = j + 1 by omega, hj]
  by_cases e : j = 0
  · simp only [em, if_pos e, if_pos (show k = n by omega)]
  · simp only [em, if_neg e, if_neg (show ¬ k = n by omega)]

/-- The writer's shift, where low has 32 bits. -/
def WS.shift (s : WS) : WS :=
  if s.low < 4278190080 then ⟨s.low * 256 % 4294967296, s.span, s.low / 16777216, 1, s.out ++ em s.cache s.wait⟩
  else ⟨s.low * 256 % 4294967296, s.span, s.cache, s.wait + 1, s.out⟩

/-- The fields fit their kinds, low has 32 bits, nothing is long. -/
def WS.Ok (s : WS) : Prop := 0 ≤ s.low ∧ s.low < 4294967296 ∧ 0 ≤ s.span ∧ s.span < 4294967296 ∧ 0 ≤ s.cache ∧ s.cache < 256 ∧ s.wait ≤ 1000 ∧ s.out.length ≤ 1000

/-- The writer lies in block xb as s tells; what it has put out lies in a row of its own from block b on. -/
def Wr (w : World) (xb b : Nat) (ov : Value) (s : WS) : Prop :=
  Blk w xb #[ov, .int .u64 s.low, .int .u32 s.span, .int .u8 s.cache, .int .i64 s.wait] 86 ∧ w.ownsRow b 5 1 ov s.out.length (s.out.map (Value.int .u8)) ∧ xb < b ∧ b ≤ w.heap.size ∧ (s.out = [] → ov = .slice none 0 0)

/-- The writer's step: it lies as s tells, and else nothing below b is other than it was. -/
def WOut (xb b : Nat) (s : WS) (w w' : World) : Prop := ∃ ov', Wr w' xb b ov' s ∧ Kept b (· = xb) w w'

theorem info5 : (Tryz.prog.info? 5).map (fun i => (i.zero, i.size, i.bytes)) = some (some (.int .u8 0), 1, 1) := by kernel_rfl

theorem own_ne {w : World} {xb b n : Nat} {ov : Value} {xs : List Value} (h : w.ownsRow b 5 1 ov n xs) (hx : xb < b) : some xb ≠ ov.ownBlock := fun e => by
  have := (h.lt xb e.symm).1
  omega

set_option maxRecDepth 100000 in
set_option maxHeartbeats 1000000 in
theorem shift_put (xb b : Nat) (ov : Value) (s : WS) (w : World) (hW : Wr w xb b ov s) (hO : s.Ok) (hc : s.low < 4278190080) :
    Calls Tryz.prog 25 #[.pointer (some ⟨xb, 0, none⟩)] w fun e w' => e = .returned (.tuple #[]) ∧ WOut xb b s.shift w w' := by
  obtain ⟨i0, hi0, hz0, hz1, hz2⟩ := info_parts info5
  obtain ⟨low, span, cache, wait, out⟩ := s
  have HW := hid hW
  obtain ⟨hB, hown, hxb, hbs, _⟩ := hW
  obtain ⟨o1, o2, o3, o4, o5, o6, o7, o8⟩ := hO
  simp only at *
  have c1 : w.cell? ⟨xb, 1, none⟩ = some (.int .u64 low) := by rw [hB.cell]; rfl
  have c3 : w.cell? ⟨xb, 3, none⟩ = some (.int .u8 cache) := by rw [hB.cell]; rfl
  have hd : low / 4294967296 = 0 := by omega
  clear hown
  go_enter Tryz.func25, Tryz.ntmps25
  go_wp2
  go_loopg [3] wait (fun k p wr => ∃ ov', k ≤ wait ∧ p = .int .u8 (if k = wait then cache else 255) ∧ Wr wr xb b ov' ⟨low, span, cache, k, out ++ em cache (wait - k)⟩ ∧ Kept b (· = xb) w wr)
  case atStart => exact ⟨ov, Nat.le_refl _, by simp, by simpa [em] using HW.out, Kept.refl _ _ _⟩
  case round =>
    obtain ⟨ov', hk, rfl, hWr, hK⟩ := hrel
    obtain ⟨hB', hown', _, hbs', hnil'⟩ := hWr
    have HN := hid hnil'
    clear hnil'
    simp only at hown' hB'
    have d0 : wr.cell? ⟨xb, 0, none⟩ = some ov' := by rw [hB'.cell]; rfl
    have d1 : wr.cell? ⟨xb, 1, none⟩ = some (.int .u64 low) := by rw [hB'.cell]; rfl
    have d4 : wr.cell? ⟨xb, 4, none⟩ = some (.int .i64 gk) := by rw [hB'.cell]; rfl
    have d3 : wr.cell? ⟨xb, 3, none⟩ = some (.int .u8 cache) := by rw [hB'.cell]; rfl
    have dl := hB'.lt
    have f0 := hB'.frozen 0
    have f1 := hB'.frozen 1
    have f3 := hB'.frozen 3
    have f4 := hB'.frozen 4
    clear c1 c3
    obtain ⟨q, hq⟩ : ∃ q : Int, q = if gk = wait then cache else 255 := ⟨_, rfl⟩
    have HQ := hid hq
    have hq0 : 0 ≤ q := by rw [hq]; split <;> omega
    have hq1 : q < 256 := by rw [hq]; split <;> omega
    rw [← hq]
    clear hq
    by_cases h0 : 0 < gk
    · have hem := em_length cache (wait - gk)
      have hlen : (out ++ em cache (wait - gk)).length ≤ 2000 := by rw [List.length_append, hem]; omega
      obtain ⟨outs, houts⟩ : ∃ l, l = out ++ em cache (wait - gk) := ⟨_, rfl⟩
      rw [← houts] at hown' hlen
      have HO := hid houts
      clear houts hem
      have hne := own_ne hown' hxb
      have HH := hid (And.intro hB' hK)
      clear hB' hK hB HW
      go_wp2_with (
        at_builtin
        go_must (refine wpList_append_lies _ (by rfl) _ _ _ (by rfl) b 5 i0 _ 1 1 Tryz.underlying25 hi0 hz0 hz1 hz2 rfl (by omega) _ outs.length (outs.map (Value.int .u8)) (by rfl) (hown'.alloc _) ⟨wr.heap.size, 0, none⟩ 1 1 [.int .u8 q] (by rfl) (by rfl) (World.news_of_block (heap_alloc_new wr _)) (by simp [Value.oneCell']) (by omega) (by unfold maxLen; omega) (by omega) (by simp; omega) (wr.heap.size + 1) (by simp) ?_)
        intro g cap w1 hown1 hgrow hat hlt
        have HB1 := hid ((HH.out.1.alloc _).grown hgrow hne)
        have g0 : w1.cell? ⟨xb, 0, none⟩ = some ov' := by rw [HB1.out.cell]; rfl
        have g4 : w1.cell? ⟨xb, 4, none⟩ = some (.int .i64 gk) := by rw [HB1.out.cell]; rfl
        have e0 := HB1.out.frozen 0
        have e4 := HB1.out.frozen 4)
      go_roundg (gk - 1)
      case measure => omega
      case rel =>
        refine ⟨.slice (some ⟨g, 0, none⟩) (outs.length + 1) cap, by omega, by rw [if_neg (by omega)], ⟨?_, ?_, hxb, ?_, fun h => absurd (congrArg List.length h) (by rw [List.length_append, em_length]; simp; omega)⟩, ?_⟩
        · have h1 := (HB1.out.set 0 (.slice (some ⟨g, 0, none⟩) (outs.length + 1) cap)).set 4 (.int .i64 (gk - 1))
          have e : ((gk - 1 : Nat) : Int) = (gk : Int) - 1 := by omega
          rw [e]
          simpa using h1
        · have h1 := ownsRow_setCell_below (ownsRow_setCell_below hown1 (a := ⟨xb, 0, none⟩) hxb (.slice (some ⟨g, 0, none⟩) (outs.length + 1) cap)) (a := ⟨xb, 4, none⟩) hxb (.int .i64 (gk - 1))
          rw [em_step _ hk h0, ← List.append_assoc, ← HO.out, ← HQ.out]
          simpa using h1
        · have := hgrow.size
          simp at this ⊢
          omega
        · exact ((((HH.out.2.alloc (by omega) _).grown hgrow (by simp; omega) (fun k hk => Or.inl (hown'.lt k hk).1)).setCell (Or.inr rfl) _).setCell (Or.inr rfl) _)
    · have d4' : wr.cell? ⟨xb, 4, none⟩ = some (.int .i64 0) := by rw [d4, show gk = 0 by omega]; rfl
      clear d4
      have HH := hid (And.intro hB' (And.intro hK hown'))
      clear hB' hK hB HW hown'
      have e0 : gk = 0 := by omega
      have E0 := hid e0
      clear e0
      go_wp2
      go_end0
      have e1 : ((WS.mk low span cache wait out).shift) = ⟨low * 256 % 4294967296, span, low / 16777216, 1, out ++ em cache wait⟩ := by
        simp only [WS.shift, if_pos hc]
      refine ⟨rfl, ov', ?_, ?_⟩
      · rw [e1]
        refine ⟨?_, ?_, hxb, by simpa using hbs', fun h => HN.out (by rw [E0.out, Nat.sub_zero]; exact h)⟩
        · have h1 := ((HH.out.1.set 3 (.int .u8 (low / 16777216))).set 4 (.int .i64 1)).set 1 (.int .u64 (low * 256 % 4294967296))
          simpa using h1
        · have h1 := HH.out.2.2
          rw [E0.out, Nat.sub_zero] at h1
          exact ownsRow_setCell_below (ownsRow_setCell_below (ownsRow_setCell_below h1 (a := ⟨xb, 3, none⟩) hxb _) (a := ⟨xb, 4, none⟩) hxb _) (a := ⟨xb, 1, none⟩) hxb _
      · exact (((HH.out.2.1.setCell (Or.inr rfl) _).setCell (Or.inr rfl) _).setCell (Or.inr rfl) _)

set_option maxRecDepth 100000 in
theorem shift_wait (xb b : Nat) (ov : Value) (s : WS) (w : World) (hW : Wr w xb b ov s) (hO : s.Ok) (hc : ¬ s.low < 4278190080) :
    Calls Tryz.prog 25 #[.pointer (some ⟨xb, 0, none⟩)] w fun e w' => e = .returned (.tuple #[]) ∧ WOut xb b s.shift w w' := by
  obtain ⟨low, span, cache, wait, out⟩ := s
  have HW := hid hW
  obtain ⟨hB, hown, hxb, hbs, _⟩ := hW
  obtain ⟨o1, o2, o3, o4, o5, o6, o7, o8⟩ := hO
  simp only at *
  have c1 : w.cell? ⟨xb, 1, none⟩ = some (.int .u64 low) := by rw [hB.cell]; rfl
  have c4 : w.cell? ⟨xb, 4, none⟩ = some (.int .i64 wait) := by rw [hB.cell]; rfl
  have dl := hB.lt
  have f1 := hB.frozen 1
  have f4 := hB.frozen 4
  have hd : low / 4294967296 = 0 := by omega
  clear hown hB
  go_enter Tryz.func25, Tryz.ntmps25
  go_wp2
  go_end0
  have e1 : ((WS.mk low span cache wait out).shift) = ⟨low * 256 % 4294967296, span, cache, wait + 1, out⟩ := by
    simp only [WS.shift, if_neg (show ¬ low < 4278190080 by omega)]
  refine ⟨rfl, ov, ?_, ?_⟩
  · rw [e1]
    refine ⟨?_, ?_, hxb, by simpa using hbs, HW.out.2.2.2.2⟩
    · have h1 := (HW.out.1.set 4 (.int .i64 (wait + 1))).set 1 (.int .u64 (low * 256 % 4294967296))
      simpa using h1
    · exact ownsRow_setCell_below (ownsRow_setCell_below HW.out.2.1 (a := ⟨xb, 4, none⟩) hxb _) (a := ⟨xb, 1, none⟩) hxb _
  · exact (((Kept.refl b (· = xb) w).setCell (Or.inr rfl) _).setCell (Or.inr rfl) _)

theorem shift_any (xb b : Nat) (ov : Value) (s : WS) (w : World) (hW : Wr w xb b ov s) (hO : s.Ok) :
    Calls Tryz.prog 25 #[.pointer (some ⟨xb, 0, none⟩)] w fun e w' => e = .returned (.tuple #[]) ∧ WOut xb b s.shift w w' := by
  by_cases hc : s.low < 4278190080
  · exact shift_put xb b ov s w hW hO hc
  · exact shift_wait xb b ov s w hW hO hc

def WS.settle (s : WS) : WS := if s.span < 16777216 then WS.shift ⟨s.low, s.span * 256, s.cache, s.wait, s.out⟩ else s

set_option maxRecDepth 100000 in
theorem settle_any (xb b : Nat) (ov : Value) (s : WS) (w : World) (hW : Wr w xb b ov s) (hO : s.Ok) :
    Calls Tryz.prog 119 #[.pointer (some ⟨xb, 0, none⟩)] w fun e w' => e = .returned (.tuple #[]) ∧ WOut xb b s.settle w w' := by
  obtain ⟨low, span, cache, wait, out⟩ := s
  have HW := hid hW
  have HO := hid hO
  obtain ⟨hB, hown, hxb, hbs, _⟩ := hW
  obtain ⟨o1, o2, o3, o4, o5, o6, o7, o8⟩ := hO
  simp only at *
  have c2 : w.cell? ⟨xb, 2, none⟩ = some (.int .u32 span) := by rw [hB.cell]; rfl
  have dl := hB.lt
  have f2 := hB.frozen 2
  clear hown hB
  by_cases hs : span < 16777216
  · have hW1 : Wr (w.setCell ⟨xb, 2, none⟩ (.int .u32 (span * 256))) xb b ov ⟨low, span * 256, cache, wait, out⟩ := by
      refine ⟨?_, ownsRow_setCell_below HW.out.2.1 (a := ⟨xb, 2, none⟩) hxb _, hxb, by simpa using hbs, HW.out.2.2.2.2⟩
      have h1 := (HW.out.1.set 2 (.int .u32 (span * 256)))
      simpa using h1
    have HW1 := hid hW1
    clear hW1
    have e1 : ((WS.mk low span cache wait out).settle) = WS.shift ⟨low, span * 256, cache, wait, out⟩ := by
      simp only [WS.settle, if_pos hs]
    have HE := hid e1
    clear e1
    go_enter Tryz.func119, Tryz.ntmps119
    go_wp2_with (
      go_at_call 25
      refine (shift_any _ _ _ _ _ HW1.out ⟨o1, o2, by simp only; omega, by simp only; omega, o5, o6, o7, o8⟩).mono ?_
      rintro e w' ⟨rfl, hWo⟩)
    go_end0
    obtain ⟨ov', hW', hK'⟩ := hWo
    exact ⟨rfl, ov', by rw [HE.out]; exact hW', ((Kept.refl b (· = xb) w).setCell (Or.inr rfl) _).trans hK'⟩
  · have e1 : ((WS.mk low span cache wait out).settle) = ⟨low, span, cache, wait, out⟩ := by
      simp only [WS.settle, if_neg (show ¬ span < 16777216 by omega)]
    have HE := hid e1
    clear e1
    go_enter Tryz.func119, Tryz.ntmps119
    go_wp2
    go_end0
    exact ⟨rfl, ov, by rw [HE.out]; exact HW.out, Kept.refl _ _ _⟩
end Go.Proofs.YtnkemepodpkhnaaGreatFmt
