/-
  PROVED: small laws on worlds that the walks of FnLzmaHead lean on: a world that is kept below a block but for some blocks, a block that is known whole, and its cells. Conditions: none.
-/
import Derived.Test.YtnkemepodpkhnaaGreatFmtProg
import Derived.WalkKit
import Derived.ProofKit
import Derived.WalkLawsBesides
import Derived.WalkSpells
import Derived.WalkSmall
namespace Go.Proofs.YtnkemepodpkhnaaGreatFmt
open Go.ChangeShapes Go.WideShapes Go.ChangeAt Go.RowKit

theorem hid {p : Prop} (h : p) : Hid p := h

/-- Below block b, but for the blocks K, the world w' is as w was; no block has gone. -/
structure Kept (b : Nat) (K : Nat → Prop) (w w' : World) : Prop where
  os : w'.os = w.os
  tape : w'.tape = w.tape
  output : w'.output = w.output
  size : w.heap.size ≤ w'.heap.size
  block : ∀ k, k < b → ¬ K k → w'.heap[k]? = w.heap[k]?

theorem Kept.refl (b : Nat) (K : Nat → Prop) (w : World) : Kept b K w w := ⟨rfl, rfl, rfl, Nat.le_refl _, fun _ _ _ => rfl⟩
theorem Kept.trans {b : Nat} {K : Nat → Prop} {x y z : World} (h : Kept b K x y) (k : Kept b K y z) : Kept b K x z :=
  ⟨k.os.trans h.os, k.tape.trans h.tape, k.output.trans h.output, Nat.le_trans h.size k.size, fun i hi hk => (k.block i hi hk).trans (h.block i hi hk)⟩
theorem Kept.mono {b b' : Nat} {K K' : Nat → Prop} {w w' : World} (h : Kept b K w w') (hb : b' ≤ b) (hK : ∀ k, K k → K' k) : Kept b' K' w w' :=
  ⟨h.os, h.tape, h.output, h.size, fun k hk hn => h.block k (Nat.lt_of_lt_of_le hk hb) (fun e => hn (hK k e))⟩
theorem Kept.drew {b : Nat} {K : Nat → Prop} {a w : World} (h : Kept b K a w) : Kept b K a w.drew := ⟨h.os, h.tape, h.output, h.size, h.block⟩
theorem Kept.drewN {b : Nat} {K : Nat → Prop} {a w : World} (h : Kept b K a w) (n : Nat) : Kept b K a (w.drewN n) := ⟨h.os, h.tape, h.output, h.size, h.block⟩
theorem Kept.alloc {b : Nat} {K : Nat → Prop} {a w : World} (h : Kept b K a w) (hB : b ≤ w.heap.size) (o : Obj) : Kept b K a (w.alloc o) :=
  h.trans ⟨rfl, rfl, rfl, by simp, fun k hk _ => Below.heap_alloc _ _ _ (by omega)⟩
theorem Kept.setCell {b : Nat} {K : Nat → Prop} {a w : World} (h : Kept b K a w) {p : Addr} (hp : b ≤ p.block ∨ K p.block) (u : Value) : Kept b K a (w.setCell p u) :=
  h.trans ⟨rfl, rfl, rfl, by simp [World.setCell], fun k hk hn => Below.heap_setCell _ _ _ _ (fun e => by subst e; rcases hp with hp | hp; omega; exact hn hp)⟩
theorem Kept.grown {b : Nat} {K : Nat → Prop} {a w w' : World} {row : Option Nat} (h : Kept b K a w) (hg : w.grownBy w' row) (hB : b ≤ w.heap.size) (hr : ∀ k, row = some k → b ≤ k ∨ K k) : Kept b K a w' :=
  h.trans ⟨hg.os, hg.tape, hg.output, hg.size, fun k hk hn => hg.block k (by omega) (fun e => by rcases hr k e.symm with h | h; omega; exact hn h)⟩
theorem Kept.below {b : Nat} {K : Nat → Prop} {w w' : World} (h : Kept b K w w') {B : Nat} (hb : B ≤ b) (hK : ∀ k, K k → B ≤ k) : Below B w w' :=
  ⟨h.os, h.tape, h.output, h.size, fun k hk => h.block k (by omega) (fun e => by have := hK k e; omega)⟩
theorem Kept.of_below {b : Nat} {K : Nat → Prop} {w w' : World} (h : Below b w w') : Kept b K w w' := ⟨h.os, h.tape, h.output, h.size, fun k hk _ => h.block k hk⟩

/-- Block k is a block of cells that may all be written. -/
def Blk (w : World) (k : Nat) (C : Array Value) (t : TypeId) : Prop := w.heap[k]? = some (.cells C t (0, 0))

theorem Blk.lt {w : World} {k : Nat} {C : Array Value} {t : TypeId} (h : Blk w k C t) : k < w.heap.size := by
  unfold Blk at h
  rcases Nat.lt_or_ge k w.heap.size with g | g
  · exact g
  · rw [Array.getElem?_eq_none g] at h; cases h
theorem Blk.cell {w : World} {k : Nat} {C : Array Value} {t : TypeId} (h : Blk w k C t) (o : Nat) : w.cell? ⟨k, o, none⟩ = C[o]? := by
  unfold Blk at h; simp [World.cell?, h]
theorem Blk.frozen {w : World} {k : Nat} {C : Array Value} {t : TypeId} (h : Blk w k C t) (o : Nat) : w.frozen? ⟨k, o, none⟩ = false := by
  unfold Blk at h; simp [World.frozen?, h]
theorem Blk.new (w : World) (C : Array Value) (t : TypeId) : Blk (w.alloc (.cells C t)) w.heap.size C t := by
  unfold Blk; exact heap_alloc_new w _
theorem Blk.alloc {w : World} {k : Nat} {C : Array Value} {t : TypeId} (h : Blk w k C t) (o : Obj) : Blk (w.alloc o) k C t := by
  have := h.lt
  unfold Blk at *; rw [Below.heap_alloc _ _ _ this]; exact h
theorem Blk.drew {w : World} {k : Nat} {C : Array Value} {t : TypeId} (h : Blk w k C t) : Blk w.drew k C t := h
theorem Blk.drewN {w : World} {k : Nat} {C : Array Value} {t : TypeId} (h : Blk w k C t) (n : Nat) : Blk (w.drewN n) k C t := h
theorem Blk.set {w : World} {k : Nat} {C : Array Value} {t : TypeId} (h : Blk w k C t) (o : Nat) (v : Value) : Blk (w.setCell ⟨k, o, none⟩ v) k (C.setIfInBounds o v) t := by
  unfold Blk at *
  simp [World.setCell, Array.getElem?_modify, h]
theorem Blk.set_other {w : World} {k : Nat} {C : Array Value} {t : TypeId} (h : Blk w k C t) (a : Addr) (ha : a.block ≠ k) (v : Value) : Blk (w.setCell a v) k C t := by
  unfold Blk at *
  rw [Below.heap_setCell _ _ _ _ (fun e => ha e.symm)]; exact h
theorem Blk.kept {w w' : World} {k b : Nat} {K : Nat → Prop} {C : Array Value} {t : TypeId} (h : Blk w k C t) (hk : Kept b K w w') (hb : k < b) (hn : ¬ K k) : Blk w' k C t := by
  unfold Blk at *; rw [hk.block k hb hn]; exact h
theorem Blk.grown {w w' : World} {k : Nat} {row : Option Nat} {C : Array Value} {t : TypeId} (h : Blk w k C t) (hg : w.grownBy w' row) (hn : some k ≠ row) : Blk w' k C t := by
  have := h.lt
  unfold Blk at *; rw [hg.block k this hn]; exact h
theorem Blk.below {w w' : World} {k b : Nat} {C : Array Value} {t : TypeId} (h : Blk w k C t) (hk : Below b w w') (hb : k < b) : Blk w' k C t := by
  unfold Blk at *; rw [hk.block k hb]; exact h

/-- The cells C' are C but for the places from lo up to hi. -/
def Upd (lo hi : Nat) (C C' : Array Value) : Prop := C'.size = C.size ∧ ∀ j, j < lo ∨ hi ≤ j → C'[j]? = C[j]?
theorem Upd.refl (lo hi : Nat) (C : Array Value) : Upd lo hi C C := ⟨rfl, fun _ _ => rfl⟩
theorem Upd.trans {lo hi : Nat} {A B C : Array Value} (h : Upd lo hi A B) (k : Upd lo hi B C) : Upd lo hi A C :=
  ⟨k.1.trans h.1, fun j hj => (k.2 j hj).trans (h.2 j hj)⟩
theorem Upd.mono {lo hi lo' hi' : Nat} {A B : Array Value} (h : Upd lo hi A B) (hl : lo' ≤ lo) (hh : hi ≤ hi') : Upd lo' hi' A B :=
  ⟨h.1, fun j hj => h.2 j (by omega)⟩
theorem Upd.set (C : Array Value) (o : Nat) (v : Value) : Upd o (o + 1) C (C.setIfInBounds o v) :=
  ⟨by simp, fun j hj => by rw [Array.getElem?_setIfInBounds, if_neg (by omega)]⟩
end Go.Proofs.YtnkemepodpkhnaaGreatFmt
