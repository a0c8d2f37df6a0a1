/-
  PROVED: the reference's filling of a row of chances with halves, and of a length's chances; the making of a slice of whatever elements. Conditions: the row lies in a block of cells.
-/
import Derived.Test.YtnkemepodpkhnaaGreatFmtBase
import Derived.RegionTactic
import Derived.BigRegion
import Derived.Deep.AppendLies
import Derived.Deep.LoopGhost
import Derived.OwnWalk
import Derived.Deep.RegionWith
import Derived.Deep.QuietTactic
import Derived.BigQuiet
namespace Go.Proofs.YtnkemepodpkhnaaGreatFmt
open Go.ChangeShapes Go.WideShapes Go.ChangeAt Go.RowKit
/-- Of the block b the n cells from o on are halves now, and nothing else has turned. -/
def Filled (B b o n : Nat) (t : TypeId) (C : Array Value) (w w' : World) : Prop :=
  (∃ C', Blk w' b C' t ∧ Upd o (o + n) C C' ∧ ∀ j, j < n → C'[o + j]? = some (.int .u16 1024)) ∧ w'.heap.size = w.heap.size ∧ Kept B (· = b) w w'

set_option maxRecDepth 100000 in
theorem fill_any (B b o n c : Nat) (t : TypeId) (C : Array Value) (w : World) (hC : Blk w b C t) (hn : o + n ≤ C.size) (hm : n ≤ 1000000000) :
    Calls Tryz.prog 15 #[.slice (some ⟨b, o, none⟩) n c] w fun e w' => e = .returned (.tuple #[]) ∧ Filled B b o n t C w w' := by
  have HC := hid hC
  clear hC
  go_enter Tryz.func15, Tryz.ntmps15
  go_wp2
  go_loopg [5] n (fun k i wr => ∃ C', k ≤ n ∧ i = .int .i64 (n - k) ∧ Blk wr b C' t ∧ Upd o (o + n) C C' ∧ (∀ j, j < n - k → C'[o + j]? = some (.int .u16 1024)) ∧ wr.heap.size = w.heap.size ∧ Kept B (· = b) w wr)
  case atStart => exact ⟨C, by omega, by simp, HC.out, Upd.refl _ _ _, fun j h => by omega, rfl, Kept.refl _ _ _⟩
  case round =>
    obtain ⟨C', hk, rfl, hB, hU, hF, hsz, hK⟩ := hrel
    obtain ⟨j, hj⟩ : ∃ j : Nat, j = n - gk := ⟨_, rfl⟩
    have e : (n : Int) - (gk : Int) = (j : Int) := by omega
    rw [e]
    by_cases h0 : gk = 0
    · have H := hid (And.intro hB (And.intro hU (And.intro hF (And.intro hsz hK))))
      have hlt : ¬ ((j : Int) < (n : Int)) := by omega
      have E := hid (And.intro hj h0)
      clear hB hU hF hsz hK e hj h0
      go_wp2
      go_end0
      exact ⟨rfl, ⟨C', H.out.1, H.out.2.1, fun i hi => H.out.2.2.1 i (by have := E.out; omega)⟩, H.out.2.2.2.1, H.out.2.2.2.2⟩
    · have hlt : (j : Int) < (n : Int) := by omega
      have hlt' : j < n := by omega
      have hs : o + j < C'.size := by rw [hU.1]; omega
      have hcell : wr.cell? ⟨b, o + j, none⟩ = some C'[o + j] := by rw [hB.cell]; exact Array.getElem?_eq_getElem hs
      have hfz := hB.frozen (o + j)
      obtain ⟨cv, hcv⟩ : ∃ cv, cv = C'[o + j] := ⟨_, rfl⟩
      rw [← hcv] at hcell
      clear hcv
      have H := hid (And.intro hB (And.intro hU (And.intro hF (And.intro hsz hK))))
      have E := hid (And.intro hj e)
      clear hB hU hF hsz hK e hj hs
      go_wp2
      go_roundg (gk - 1)
      case measure => omega
      case rel =>
        refine ⟨C'.setIfInBounds (o + j) (.int .u16 1024), by omega, ?_, H.out.1.set _ _, H.out.2.1.trans ((Upd.set C' _ _).mono (by omega) (by omega)), fun i hi => ?_, by simpa using H.out.2.2.2.1, H.out.2.2.2.2.setCell (Or.inr rfl) _⟩
        · have := E.out; rw [show (n : Int) - ((gk - 1 : Nat) : Int) = (j : Int) + 1 by omega]
        · have hE := E.out
          rw [Array.getElem?_setIfInBounds]
          by_cases hi2 : i = j
          · subst hi2
            rw [if_pos rfl, if_pos (by rw [H.out.2.1.1]; omega)]
          · rw [if_neg (by omega)]
            exact H.out.2.2.1 i (by omega)
theorem make_any (t e size bytes : Nat) (hu : Tryz.prog.underlying t = some (.slice e)) (hi : (Tryz.prog.info? e).map (fun i => (i.zero.isSome, i.size, i.bytes)) = some (true, size, bytes)) (n : Nat) (hn : bytes * n ≤ 140737488355328) (hm : n ≤ 140737488355328) :
    ∃ M : Array Value, M.size = n * size ∧ ∀ w : World, (Instr.makeSlice t (.int .i64 n) (.int .i64 n)).run Tryz.prog w = .ok (.slice (some ⟨w.heap.size, 0, none⟩) n n) (w.alloc (.cells M e)) := by
  cases hq : Tryz.prog.info? e with
  | none => simp [hq] at hi
  | some i =>
    simp only [hq, Option.map_some, Option.some.injEq, Prod.mk.injEq] at hi
    obtain ⟨h1, h2, h3⟩ := hi
    obtain ⟨z, hz⟩ := Option.isSome_iff_exists.1 h1
    refine ⟨madeCells z.cells (n * size), size_madeCells _ _, fun w => ?_⟩
    have hb : (i.bytes : Int) * (n : Int) ≤ 281474976710656 := by
      rw [h3]
      have h4 : ((bytes * n : Nat) : Int) ≤ 140737488355328 := by omega
      rw [Int.natCast_mul] at h4
      omega
    have h := run_make (P := Tryz.prog) w t e i z hu hq hz .i64 .i64 n n (by omega) (Int.le_refl _) hb (by omega)
    simp only [Int.toNat_natCast, h2] at h
    exact h

theorem info72 : (Tryz.prog.info? 72).map (fun i => (i.zero.isSome, i.size, i.bytes)) = some (true, 768, 1536) := by kernel_rfl

theorem zc68 : Tryz.zeroCells68.size = 1856 ∧ Tryz.zeroCells68[1851]? = some (.int .i64 0) ∧ Tryz.zeroCells68[1852]? = some (.int .u32 0) ∧ Tryz.zeroCells68[1853]? = some (.int .u32 0) ∧ Tryz.zeroCells68[1854]? = some (.int .u32 0) ∧ Tryz.zeroCells68[1855]? = some (.int .u32 0) := by
  refine ⟨Tryz.zeroCells68_size, ?_, ?_, ?_, ?_, ?_⟩ <;> kernel_rfl

/-- The model's block: where G says so its chances are halves; its head and its foot are as they were. -/
def Mod (mb : Nat) (C0 : Array Value) (G : Nat → Prop) (w : World) : Prop :=
  ∃ C', Blk w mb C' 68 ∧ C'.size = 1856 ∧ (∀ j, G j → C'[j]? = some (.int .u16 1024)) ∧ ∀ j, j < 4 ∨ 1851 ≤ j → C'[j]? = C0[j]?
def ModOut (B mb : Nat) (C0 : Array Value) (G : Nat → Prop) (w w' : World) : Prop := Mod mb C0 G w' ∧ w'.heap.size = w.heap.size ∧ Kept B (· = mb) w w'

theorem Mod.mono {mb : Nat} {C0 : Array Value} {G G' : Nat → Prop} {w : World} (h : Mod mb C0 G w) (hg : ∀ j, G' j → G j) : Mod mb C0 G' w := by
  obtain ⟨C', h1, h2, h3, h4⟩ := h
  exact ⟨C', h1, h2, fun j hj => h3 j (hg j hj), h4⟩

theorem fill_mod (B mb o n : Nat) (C0 : Array Value) (G : Nat → Prop) (w : World) (h : Mod mb C0 G w) (h4 : 4 ≤ o) (hn : o + n ≤ 1851) :
    Calls Tryz.prog 15 #[.slice (some ⟨mb, o, none⟩) n n] w fun e w' => e = .returned (.tuple #[]) ∧ ModOut B mb C0 (fun j => G j ∨ (o ≤ j ∧ j < o + n)) w w' := by
  obtain ⟨C', hC, hs, hG, hU⟩ := h
  refine (fill_any B mb o n n 68 C' w hC (by omega) (by omega)).mono fun e w' ⟨he, ⟨D, hD, hUD, hF⟩, hsz, hK⟩ => ⟨he, ⟨D, hD, by rw [hUD.1]; exact hs, fun j hj => ?_, fun j hj => ?_⟩, hsz, hK⟩
  · by_cases hin : o ≤ j ∧ j < o + n
    · have := hF (j - o) (by omega)
      rwa [show o + (j - o) = j by omega] at this
    · rw [hUD.2 j (by omega)]
      rcases hj with hj | hj
      · exact hG j hj
      · exact absurd hj hin
  · rw [hUD.2 j (by omega)]; exact hU j hj

theorem Mod.set {mb : Nat} {C0 : Array Value} {G : Nat → Prop} {w : World} (h : Mod mb C0 G w) (o : Nat) (h4 : 4 ≤ o) (hn : o < 1851) : Mod mb C0 (fun j => G j ∨ j = o) (w.setCell ⟨mb, o, none⟩ (.int .u16 1024)) := by
  obtain ⟨C', hC, hs, hG, hU⟩ := h
  refine ⟨_, hC.set o _, by simpa using hs, fun j hj => ?_, fun j hj => ?_⟩
  · rw [Array.getElem?_setIfInBounds]
    by_cases e : o = j
    · rw [if_pos e, if_pos (by omega)]
    · rw [if_neg e]
      rcases hj with hj | hj
      · exact hG j hj
      · omega
  · rw [Array.getElem?_setIfInBounds, if_neg (by omega)]; exact hU j hj
theorem Mod.cell {mb : Nat} {C0 : Array Value} {G : Nat → Prop} {w : World} (h : Mod mb C0 G w) (o : Nat) (ho : o < 1856) : ∃ v, w.cell? ⟨mb, o, none⟩ = some v := by
  obtain ⟨C', hC, hs, _, _⟩ := h
  exact ⟨C'[o], by rw [hC.cell]; exact Array.getElem?_eq_getElem (by omega)⟩
theorem Mod.frozen {mb : Nat} {C0 : Array Value} {G : Nat → Prop} {w : World} (h : Mod mb C0 G w) (o : Nat) : w.frozen? ⟨mb, o, none⟩ = false := by
  obtain ⟨C', hC, _⟩ := h
  exact hC.frozen o
theorem Mod.head {mb : Nat} {C0 : Array Value} {G : Nat → Prop} {w : World} (h : Mod mb C0 G w) (o : Nat) (ho : o < 4 ∨ 1851 ≤ o) {v : Value} (hv : C0[o]? = some v) : w.cell? ⟨mb, o, none⟩ = some v := by
  obtain ⟨C', hC, _, _, hU⟩ := h
  rw [hC.cell, hU o ho]; exact hv

set_option maxRecDepth 100000 in
set_option maxHeartbeats 1000000 in
theorem begin_mod (B mb o : Nat) (C0 : Array Value) (G : Nat → Prop) (w : World) (h : Mod mb C0 G w) (h4 : 4 ≤ o) (hn : o + 514 ≤ 1851) :
    Calls Tryz.prog 16 #[.pointer (some ⟨mb, o, none⟩)] w fun e w' => e = .returned (.tuple #[]) ∧ ModOut B mb C0 (fun j => G j ∨ (o ≤ j ∧ j < o + 514)) w w' := by
  obtain ⟨v0, c0⟩ := h.cell o (by omega)
  obtain ⟨v1, c1⟩ := h.cell (o + 1) (by omega)
  have f0 := h.frozen o
  have f1 := h.frozen (o + 1)
  have HM := hid h
  clear h
  go_enter Tryz.func16, Tryz.ntmps16
  go_wp2
  have hm0 : Mod mb C0 (fun j => G j ∨ j = o ∨ j = o + 1) ((w.setCell ⟨mb, o, none⟩ (.int .u16 1024)).setCell ⟨mb, o + 1, none⟩ (.int .u16 1024)) :=
    ((HM.out.set o h4 (by omega)).set (o + 1) (by omega) (by omega)).mono (fun j hj => by rcases hj with hj | hj | hj; exact Or.inl (Or.inl hj); exact Or.inl (Or.inr hj); exact Or.inr hj)
  have hk0 : Kept B (· = mb) w ((w.setCell ⟨mb, o, none⟩ (.int .u16 1024)).setCell ⟨mb, o + 1, none⟩ (.int .u16 1024)) := ((Kept.refl B (· = mb) w).setCell (Or.inr rfl) _).setCell (Or.inr rfl) _
  have H0 := hid (And.intro hm0 hk0)
  clear hm0 hk0 c0 c1 f0 f1
  go_loopg [9] 16 (fun k i wr => k ≤ 16 ∧ i = .int .i64 (16 - k) ∧ ModOut B mb C0 (fun j => G j ∨ j = o ∨ j = o + 1 ∨ (o + 2 ≤ j ∧ j < o + 2 + 8 * (16 - k)) ∨ (o + 130 ≤ j ∧ j < o + 130 + 8 * (16 - k))) w wr)
  case atStart => exact ⟨by omega, rfl, H0.out.1.mono (fun j hj => by rcases hj with hj | hj | hj | hj | hj; exact Or.inl hj; exact Or.inr (Or.inl hj); exact Or.inr (Or.inr hj); omega; omega), by simp, H0.out.2⟩
  case round =>
    obtain ⟨hk, rfl, hM, hsz, hK⟩ := hrel
    obtain ⟨i, hi⟩ : ∃ i : Nat, i = 16 - gk := ⟨_, rfl⟩
    have e : (16 : Int) - (gk : Int) = (i : Int) := by omega
    rw [← hi] at hM
    rw [e]
    by_cases h0 : gk = 0
    · have hlt : ¬ ((i : Int) < 16) := by omega
      have H := hid (And.intro hM (And.intro hsz (And.intro hK (And.intro hi h0))))
      clear hM hsz hK e hi h0
      go_wp2_with fail
      refine (fill_mod B mb (o + 258) 256 C0 _ _ H.out.1 (by omega) (by omega)).mono ?_
      rintro e w1 ⟨rfl, hM1, hsz1, hK1⟩
      go_wp2
      go_end0
      refine ⟨rfl, hM1.mono (fun j hj => ?_), by rw [hsz1]; exact H.out.2.1, H.out.2.2.1.trans hK1⟩
      have := H.out.2.2.2
      rcases hj with hj | hj
      · exact Or.inl (Or.inl hj)
      · by_cases a1 : j = o
        · exact Or.inl (Or.inr (Or.inl a1))
        by_cases a2 : j = o + 1
        · exact Or.inl (Or.inr (Or.inr (Or.inl a2)))
        by_cases a3 : j < o + 130
        · exact Or.inl (Or.inr (Or.inr (Or.inr (Or.inl (by omega)))))
        by_cases a4 : j < o + 258
        · exact Or.inl (Or.inr (Or.inr (Or.inr (Or.inr (by omega)))))
        exact Or.inr (by omega)
    · have hlt : (i : Int) < 16 := by omega
      have hlt' : i < 16 := by omega
      have H := hid (And.intro hM (And.intro hsz (And.intro hK (And.intro hi e))))
      clear hM hsz hK e hi
      go_wp2_with fail
      refine (fill_mod B mb (o + 2 + i * 8) 8 C0 _ _ H.out.1 (by omega) (by omega)).mono ?_
      rintro e w1 ⟨rfl, hM1⟩
      have H1 := hid hM1
      clear hM1
      go_wp2_with fail
      refine (fill_mod B mb (o + 130 + i * 8) 8 C0 _ _ H1.out.1 (by omega) (by omega)).mono ?_
      rintro e w2 ⟨rfl, hM2⟩
      have H2 := hid hM2
      clear hM2
      go_wp2
      go_roundg (gk - 1)
      case measure => omega
      case rel =>
        have E := H.out.2.2.2
        refine ⟨by omega, by rw [show (16 : Int) - ((gk - 1 : Nat) : Int) = (i : Int) + 1 by omega], H2.out.1.mono (fun j hj => ?_), by rw [H2.out.2.1, H1.out.2.1]; exact H.out.2.1, (H.out.2.2.1.trans H1.out.2.2).trans H2.out.2.2⟩
        rcases hj with hj | hj | hj | hj | hj
        · exact Or.inl (Or.inl (Or.inl hj))
        · exact Or.inl (Or.inl (Or.inr (Or.inl hj)))
        · exact Or.inl (Or.inl (Or.inr (Or.inr (Or.inl hj))))
        · by_cases a : j < o + 2 + 8 * i
          · exact Or.inl (Or.inl (Or.inr (Or.inr (Or.inr (Or.inl (by omega))))))
          · exact Or.inl (Or.inr (by omega))
        · by_cases a : j < o + 130 + 8 * i
          · exact Or.inl (Or.inl (Or.inr (Or.inr (Or.inr (Or.inr (by omega))))))
          · exact Or.inr (by omega)

end Go.Proofs.YtnkemepodpkhnaaGreatFmt
