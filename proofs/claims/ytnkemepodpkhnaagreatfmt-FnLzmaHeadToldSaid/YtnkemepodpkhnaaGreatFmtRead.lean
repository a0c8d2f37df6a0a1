/-
  PROVED: a reader of bytes hands its first thirteen bytes to a full read. Conditions: the reader stands at its beginning and the buffer holds thirteen bytes.
-/
import Derived.Test.YtnkemepodpkhnaaGreatFmtUnmarshal
import Derived.RegionTactic
import Derived.BigRegion
import Derived.Deep.AppendLies
import Derived.Deep.LoopGhost
import Derived.OwnWalk
import Derived.Deep.RegionWith
import Derived.Deep.QuietTactic
import Derived.BigQuiet
import Derived.Laws.IdiomCopy
namespace Go.Proofs.YtnkemepodpkhnaaGreatFmt
open Go.ChangeShapes Go.WideShapes Go.ChangeAt Go.RowKit
theorem under25 : Tryz.prog.underlying 25 = some (.slice 5) := by kernel_rfl
theorem size5 : (Tryz.prog.info? 5).map (·.size) = some 1 := by kernel_rfl

/-- The first bytes, as cells. -/
def firsts (L : List Int) : List Value := (List.range 13).map fun j => .int .u8 (L.getD j 0)
theorem firsts_len (L : List Int) : (firsts L).length = 13 := by simp [firsts]
theorem firsts_at (L : List Int) (j : Nat) (hj : j < 13) : (firsts L)[j]'(by rw [firsts_len]; exact hj) = .int .u8 (L.getD j 0) := by simp [firsts]

theorem heap_setCells (b : Nat) : ∀ (vs : List Value) (o : Nat) (w : World) (k : Nat), k ≠ b → (w.setCells b o vs).heap[k]? = w.heap[k]?
  | [], _, _, _, _ => rfl
  | v :: vs, o, w, k, h => by
    show ((w.setCell ⟨b, o, none⟩ v).setCells b (o + 1) vs).heap[k]? = _
    rw [heap_setCells b vs _ _ k h, Below.heap_setCell _ _ _ _ h]
theorem kept_setCells (B : Nat) (K : Nat → Prop) (b : Nat) (hb : K b) : ∀ (vs : List Value) (o : Nat) (w : World), Kept B K w (w.setCells b o vs) ∧ (w.setCells b o vs).heap.size = w.heap.size
  | [], _, w => ⟨Kept.refl _ _ _, rfl⟩
  | v :: vs, o, w => by
    have h := kept_setCells B K b hb vs (o + 1) (w.setCell ⟨b, o, none⟩ v)
    exact ⟨((Kept.refl B K w).setCell (p := ⟨b, o, none⟩) (Or.inr hb) v).trans h.1, by rw [show (w.setCells b o (v :: vs)) = ((w.setCell ⟨b, o, none⟩ v).setCells b (o + 1) vs) from rfl, h.2]; simp [World.setCell]⟩

/-- Thirteen bytes are copied. -/
theorem copy_head (g cap pb : Nat) (L : List Int) (x : World) (hs : ∀ j, j < 13 → x.cell? ⟨g, j, none⟩ = some (.int .u8 (L.getD j 0))) (hc : ∀ j, j < 13 → (x.cell? ⟨pb, j, none⟩).isSome = true) (hf : ∀ j, j < 13 → x.frozen? ⟨pb, j, none⟩ = false) :
    (Builtin.copy_ #[25, 25] 3 #[.slice (some ⟨pb, 0, none⟩) 13 13, .slice (some ⟨g, 0, none⟩) 23 cap]).run Tryz.prog x = .ok (.int .i64 13) (x.setCells pb 0 (firsts L)) := by
  have ea : ∀ i, (⟨g, 0, none⟩ : Addr).add i = ⟨g, 0 + i, none⟩ := fun i => by unfold Addr.add; split <;> simp_all
  have h := run_copy_cells (P := Tryz.prog) x 25 25 3 5 pb 0 13 13 ⟨g, 0, none⟩ 23 cap (firsts L) under25 size5 (by rw [firsts_len]; rfl)
    (fun j v hv => by
      rw [ea, Nat.zero_add]
      rcases Nat.lt_or_ge j 13 with hj | hj
      · rw [List.getElem?_eq_getElem (by rw [firsts_len]; exact hj), firsts_at L j hj] at hv
        cases hv
        exact hs j hj
      · rw [List.getElem?_eq_none (by rw [firsts_len]; exact hj)] at hv
        cases hv)
    (fun j hj => by rw [firsts_len] at hj; rw [Nat.zero_add]; exact hc j hj)
    (fun j hj => by rw [firsts_len] at hj; rw [Nat.zero_add]; exact hf j hj)
    (fun v hv => by
      simp [firsts] at hv
      obtain ⟨j, _, rfl⟩ := hv
      rfl)
  rw [firsts_len] at h
  exact h

def HeadOut (B rb g cap pb : Nat) (L : List Int) (w w' : World) : Prop :=
  Rd w' rb g cap L 13 ∧ (∀ j, j < 13 → w'.cell? ⟨pb, j, none⟩ = some (.int .u8 (L.getD j 0))) ∧ Kept B (fun k => k = rb ∨ k = pb) w w' ∧ w'.heap.size = w.heap.size

set_option maxRecDepth 100000 in
set_option maxHeartbeats 1000000 in
theorem readHead (B rb g cap pb : Nat) (L : List Int) (M : Array Value) (w : World) (hR : Rd w rb g cap L 0) (hM : Blk w pb M 5) (hs : M.size = 13) (h1 : pb ≠ rb) (h2 : pb ≠ g) :
    Calls Tryz.prog 122 #[.pointer (some ⟨rb, 0, none⟩), .slice (some ⟨pb, 0, none⟩) 13 13] w fun e w' => e = .returned (.tuple #[.int .i64 13, .nilIface]) ∧ HeadOut B rb g cap pb L w w' := by
  obtain ⟨⟨pr, hB⟩, hc, hne, hcap⟩ := hR
  have c0 : w.cell? ⟨rb, 0, none⟩ = some (.slice (some ⟨g, 0, none⟩) 23 cap) := by rw [hB.cell]; rfl
  have c1 : w.cell? ⟨rb, 1, none⟩ = some (.int .i64 0) := by rw [hB.cell]; rfl
  have c2 : w.cell? ⟨rb, 2, none⟩ = some (.int .i64 pr) := by rw [hB.cell]; rfl
  have f1 := hB.frozen 1
  have f2 := hB.frozen 2
  have h1' : rb ≠ pb := fun e => h1 e.symm
  have hne' : rb ≠ g := fun e => hne e.symm
  have H := hid (And.intro hB (And.intro hc (And.intro hcap (And.intro hM hs))))
  clear hB hc hM hs
  go_enter Tryz.func122, Tryz.ntmps122
  go_wp2_with fail
  go_quiet (fail)
  go_wp2_with fail
  obtain ⟨x, hx⟩ : ∃ x, x = (w.drewN nq).setCell ⟨rb, 2, none⟩ (.int .i64 (-1)) := ⟨_, rfl⟩
  rw [← hx]
  have hBx : Blk x rb #[.slice (some ⟨g, 0, none⟩) 23 cap, .int .i64 0, .int .i64 (-1)] 117 := by
    rw [hx]
    have h := (H.out.1.drewN nq).set 2 (.int .i64 (-1))
    simpa using h
  have hMx : Blk x pb M 5 := by rw [hx]; exact (H.out.2.2.2.1.drewN nq).set_other _ h1' _
  have hcx : ∀ j, j < 23 → x.cell? ⟨g, j, none⟩ = some (.int .u8 (L.getD j 0)) := fun j hj => by
    rw [hx, World.cell?_setCell_other _ _ _ _ (by intro e; exact hne' (congrArg Addr.block e))]
    exact H.out.2.1 j hj
  have hKx : Kept B (fun k => k = rb ∨ k = pb) w x ∧ x.heap.size = w.heap.size := by
    rw [hx]
    exact ⟨((Kept.refl B (fun k => k = rb ∨ k = pb) w).drewN nq).setCell (p := ⟨rb, 2, none⟩) (Or.inr (Or.inl rfl)) _, by simp [World.setCell, World.drewN]⟩
  clear hx c0 c1 c2 f1 f2
  obtain ⟨y, hy⟩ : ∃ y, y = x.drew.setCells pb 0 (firsts L) := ⟨_, rfl⟩
  have hcopy := copy_head g cap pb L x.drew (fun j hj => hcx j (by omega)) (fun j hj => by rw [Blk.cell hMx.drew, Array.getElem?_eq_getElem (by rw [H.out.2.2.2.2]; exact hj)]; rfl) (fun j _ => Blk.frozen hMx.drew j)
  rw [← hy] at hcopy
  have c0 : x.cell? ⟨rb, 0, none⟩ = some (.slice (some ⟨g, 0, none⟩) 23 cap) := by rw [hBx.cell]; rfl
  have c1 : x.cell? ⟨rb, 1, none⟩ = some (.int .i64 0) := by rw [hBx.cell]; rfl
  have hBy : Blk y rb #[.slice (some ⟨g, 0, none⟩) 23 cap, .int .i64 0, .int .i64 (-1)] 117 := by
    unfold Blk; rw [hy, heap_setCells _ _ _ _ _ h1']; exact hBx
  have hcy : ∀ j, j < 23 → y.cell? ⟨g, j, none⟩ = some (.int .u8 (L.getD j 0)) := fun j hj => by
    rw [World.cell?_of_block (w := x) (by rw [hy, heap_setCells _ _ _ _ _ (fun e => h2 e.symm)]; rfl)]; exact hcx j hj
  have hpy : ∀ j, j < 13 → y.cell? ⟨pb, j, none⟩ = some (.int .u8 (L.getD j 0)) := fun j hj => by
    have h := World.cell?_setCells_in pb (firsts L) 0 x.drew (fun j hj => by rw [firsts_len] at hj; rw [Nat.zero_add, Blk.cell hMx.drew, Array.getElem?_eq_getElem (by rw [H.out.2.2.2.2]; exact hj)]; rfl) j (by rw [firsts_len]; exact hj)
    rw [Nat.zero_add, ← hy, firsts_at L j hj] at h
    exact h
  have hKy : Kept B (fun k => k = rb ∨ k = pb) w y ∧ y.heap.size = w.heap.size := by
    have h := kept_setCells B (fun k => k = rb ∨ k = pb) pb (Or.inr rfl) (firsts L) 0 x.drew
    rw [← hy] at h
    exact ⟨hKx.1.drew.trans h.1, h.2.trans hKx.2⟩
  have d1 : y.cell? ⟨rb, 1, none⟩ = some (.int .i64 0) := by rw [hBy.cell]; rfl
  have g1 := hBy.frozen 1
  have HY := hid (And.intro hBy (And.intro hcy (And.intro hpy hKy)))
  clear hBx hMx hcx hKx hy hBy hcy hpy hKy
  go_region
  all_goals go_wp2
  all_goals go_ret2
  all_goals
    refine ⟨rfl, ⟨⟨-1, ?_⟩, fun j hj => ?_, hne, H.out.2.2.1⟩, fun j hj => ?_, ?_, ?_⟩
    · have h := HY.out.1.set 1 (.int .i64 13)
      simpa using h
    · rw [World.cell?_setCell_other _ _ _ _ (by intro e; exact hne' (congrArg Addr.block e))]
      exact HY.out.2.1 j hj
    · rw [World.cell?_setCell_other _ _ _ _ (by intro e; exact h1' (congrArg Addr.block e))]
      exact HY.out.2.2.1 j hj
    · exact HY.out.2.2.2.1.setCell (p := ⟨rb, 1, none⟩) (Or.inr (Or.inl rfl)) _
    · simpa [World.setCell] using HY.out.2.2.2.2

set_option maxRecDepth 100000 in
set_option maxHeartbeats 2000000 in
theorem readAtLeast (B rb g cap pb : Nat) (L : List Int) (M : Array Value) (w : World) (hR : Rd w rb g cap L 0) (hM : Blk w pb M 5) (hs : M.size = 13) (h1 : pb ≠ rb) (h2 : pb ≠ g) :
    Calls Tryz.prog 39 #[.iface 76 (.pointer (some ⟨rb, 0, none⟩)), .slice (some ⟨pb, 0, none⟩) 13 13, .int .i64 13] w fun e w' => e = .returned (.tuple #[.int .i64 13, .nilIface]) ∧ HeadOut B rb g cap pb L w w' := by
  have n1 := nil_read
  have n2 := method_read
  have HI := hid (And.intro hR (And.intro hM (And.intro hs (And.intro h1 h2))))
  clear hR hM hs h1 h2
  go_enter Tryz.func39, Tryz.ntmps39
  go_wp2
  go_loopg [6, 7] 1 (fun k n e wr => (k = 1 ∧ n = .int .i64 0 ∧ e = .nilIface ∧ wr = w) ∨ (k = 0 ∧ n = .int .i64 13 ∧ e = .nilIface ∧ HeadOut B rb g cap pb L w wr))
  case atStart => exact Or.inl ⟨rfl, rfl, rfl, rfl⟩
  case round =>
    rcases hrel with ⟨rfl, rfl, rfl, rfl⟩ | ⟨rfl, rfl, rfl, hO⟩
    · go_wp2_with fail
      go_region_with (
        go_at_call 122
        go_loud (refine (readHead B rb g cap pb L M wr.drew HI.out.1 HI.out.2.1 HI.out.2.2.1 HI.out.2.2.2.1 HI.out.2.2.2.2).mono ?_)
        rintro e w' ⟨rfl, hO⟩
        have HO := hid hO
        clear hO)
      all_goals
        go_wp2
        go_roundg 0
        case measure => omega
        case rel => exact Or.inr ⟨rfl, rfl, rfl, HO.out.1, HO.out.2.1, ⟨HO.out.2.2.1.os, HO.out.2.2.1.tape, HO.out.2.2.1.output, HO.out.2.2.1.size, HO.out.2.2.1.block⟩, HO.out.2.2.2⟩
    · have HO := hid hO
      clear hO
      go_wp2
      go_ret2
      exact ⟨rfl, HO.out⟩

set_option maxRecDepth 100000 in
theorem readFull (B rb g cap pb : Nat) (L : List Int) (M : Array Value) (w : World) (hR : Rd w rb g cap L 0) (hM : Blk w pb M 5) (hs : M.size = 13) (h1 : pb ≠ rb) (h2 : pb ≠ g) :
    Calls Tryz.prog 27 #[.iface 76 (.pointer (some ⟨rb, 0, none⟩)), .slice (some ⟨pb, 0, none⟩) 13 13] w fun e w' => e = .returned (.tuple #[.int .i64 13, .nilIface]) ∧ HeadOut B rb g cap pb L w w' := by
  go_enter Tryz.func27, Tryz.ntmps27
  go_wp2_with (
    go_at_call 39
    go_loud (refine (readAtLeast B rb g cap pb L M _ hR hM hs h1 h2).mono ?_)
    rintro e w' ⟨rfl, hO⟩)
  go_ret2
  exact ⟨rfl, hO⟩

end Go.Proofs.YtnkemepodpkhnaaGreatFmt
