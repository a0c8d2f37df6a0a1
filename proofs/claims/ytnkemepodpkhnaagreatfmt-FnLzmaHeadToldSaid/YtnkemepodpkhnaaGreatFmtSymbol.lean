/-
  PROVED: what the reference's writer does with the end's symbol, at the beginning: the 42 steps. Conditions: all chances are halves, the state is 0, the last distances are 0, pb is at most 4.
-/
import Derived.Test.YtnkemepodpkhnaaGreatFmtFresh
import Derived.RegionTactic
import Derived.BigRegion
import Derived.Deep.AppendLies
import Derived.Deep.LoopGhost
import Derived.OwnWalk
import Derived.Deep.RegionHeld3
import Derived.Deep.RegionWith
import Derived.Deep.QuietTactic
import Derived.BigQuiet
namespace Go.Proofs.YtnkemepodpkhnaaGreatFmt
open Go.ChangeShapes Go.WideShapes Go.ChangeAt Go.RowKit
theorem place_0 : ∀ k : Fin 5, bits BinOp.and IntKind.i64 0 (wrap64 (wrap64 (2 ^ k.val) - 1)) = 0 := by decide +kernel
theorem St0_out : (St 0).out = [] := rfl

theorem TreeOut.cell {xb b mb lo hi : Nat} {t : TypeId} {C : Array Value} {s : WS} {w w' : World} (h : TreeOut xb b mb lo hi t C s w w') {o : Nat} {v : Value} (hv : C[o]? = some v) (ho : o < lo ∨ hi ≤ o) : w'.cell? ⟨mb, o, none⟩ = some v := by
  obtain ⟨_, ⟨C', hC, hU⟩, _⟩ := h
  rw [hC.cell, hU.2 _ ho]; exact hv
theorem TreeOut.blk {xb b mb lo hi k : Nat} {t t' : TypeId} {C D : Array Value} {s : WS} {w w' : World} (h : TreeOut xb b mb lo hi t C s w w') (hD : Blk w k D t') (hk : k < b) (hx : k ≠ xb) (hm : k ≠ mb) : Blk w' k D t' :=
  hD.kept h.2.2 hk (by omega)
theorem Blk.cell_at {w : World} {k : Nat} {D : Array Value} {t : TypeId} (h : Blk w k D t) (o : Nat) {v : Value} (hv : D[o]? = some v) : w.cell? ⟨k, o, none⟩ = some v := by rw [h.cell]; exact hv

set_option maxRecDepth 100000 in
set_option maxHeartbeats 2000000 in
/-- The end's symbol, at the beginning. -/
theorem symbol_end (xb b mb : Nat) (ov : Value) (C : Array Value) (w : World) (ws : Option Addr) (wc : Nat) (pb : Nat) (hpb : pb ≤ 4) (hW : Wr w xb b ov (St 0)) (hC : Blk w mb C 68)
    (hpbc : C[2]? = some (.int .i64 pb))
    (hp : ∀ j, 4 ≤ j → j < 1851 → C[j]? = some (.int .u16 1024)) (hst : C[1851]? = some (.int .i64 0)) (hre : ∀ j, j < 4 → C[1852 + j]? = some (.int .u32 0)) (_hmb : mb < b) (hne : mb ≠ xb) :
    Calls Tryz.prog 13 #[.pointer (some ⟨mb, 0, none⟩), .iface 51 (.pointer (some ⟨xb, 0, none⟩)), .slice ws 0 wc, .agg #[.int .i64 4, .int .u8 0, .int .i64 0, .int .i64 0, .int .i64 0]] w fun e w' => e = .returned (.agg #[.int .i64 4, .int .u8 0, .int .i64 2, .int .i64 0, .int .i64 0]) ∧ TreeOut xb b mb 4 1856 68 C (St 42) w w' := by
  have c2 : w.cell? ⟨mb, 2, none⟩ = some (.int .i64 pb) := by rw [hC.cell]; exact hpbc
  have cs : w.cell? ⟨mb, 1851, none⟩ = some (.int .i64 0) := by rw [hC.cell]; exact hst
  have dl := hC.lt
  have k0 := place_0 ⟨pb, by omega⟩
  simp only at k0
  have n1 := nil_bit
  have n2 := method_bit
  obtain rfl : ov = .slice none 0 0 := hW.2.2.2.2 St0_out
  have hbs := hW.2.2.2.1
  have hxb := hW.2.2.1
  have hk0 : Kept b (fun k => k = xb ∨ k = mb) w (((w.alloc (opBox 4 0)).alloc (opBox 0 0)).drew) := (((Kept.refl b (fun k => k = xb ∨ k = mb) w).alloc hbs _).alloc (by simp; omega) _).drew
  have hW2 : Wr (((w.alloc (opBox 4 0)).alloc (opBox 0 0)).drew) xb (w.heap.size + 2) (.slice none 0 0) (St 0) :=
    hW.rebase St0_out (by show ((w.alloc _).alloc _).heap[xb]? = _; rw [Below.heap_alloc _ _ _ (by simp; omega), Below.heap_alloc _ _ _ (by omega)]) (by omega) (by simp)
  have hC2 : Blk (((w.alloc (opBox 4 0)).alloc (opBox 0 0)).drew) mb C 68 := (((hC.alloc _).alloc _).drew)
  have hR2 : Blk (((w.alloc (opBox 4 0)).alloc (opBox 0 0)).drew) (w.heap.size + 1) #[.int .i64 0, .int .u8 0, .int .i64 0, .int .i64 0, .int .i64 0] 34 := by
    have h1 := (Blk.new (w.alloc (opBox 4 0)) #[.int .i64 0, .int .u8 0, .int .i64 0, .int .i64 0, .int .i64 0] 34).drew
    simpa [opBox] using h1
  have hA2 : Blk (((w.alloc (opBox 4 0)).alloc (opBox 0 0)).drew) w.heap.size #[.int .i64 4, .int .u8 0, .int .i64 0, .int .i64 0, .int .i64 0] 34 := by
    have h1 := ((Blk.new w #[.int .i64 4, .int .u8 0, .int .i64 0, .int .i64 0, .int .i64 0] 34).alloc (opBox 0 0)).drew
    simpa [opBox] using h1
  have HI := hid (And.intro hW2 (And.intro hC2 (And.intro hp (And.intro hst (And.intro hre (And.intro hR2 (And.intro hA2 hk0)))))))
  clear hW hC hp hst hre hW2 hC2 hR2 hk0 hA2
  go_enter Tryz.func13, Tryz.ntmps13
  go_wp2_with fail
  go_region_held3 (fun w' => w'.cell? ⟨mb, 1851, none⟩ = some (.int .i64 0) ∧ w'.cell? ⟨w.heap.size, 0, none⟩ = some (.int .i64 4)) (first | go_keep | exact ⟨hT.cell HI.out.2.2.2.1 (by omega), (hT.blk HI.out.2.2.2.2.2.2.1 (by omega) (by omega) (by omega)).cell_at 0 rfl⟩) (first | (go_at_call 20; go_loud (refine (btoi_any _ _).mono ?_); rintro e w' ⟨rfl, rfl⟩) | (go_at_call 117; go_loud (refine (bit_at 0 xb (w.heap.size + 2) mb 4 68 (.slice none 0 0) 1 C (((w.alloc (opBox 4 0)).alloc (opBox 0 0)).drew) (by omega) rfl HI.out.1 HI.out.2.1 (HI.out.2.2.1 4 (by omega) (by omega)) (by omega) hne (Or.inr rfl)).mono ?_); rintro e w1 ⟨rfl, hT⟩))
  all_goals
    have d1 := hT.cell HI.out.2.2.2.1 (by omega)
    have d2 := (hT.blk HI.out.2.2.2.2.2.2.1 (by omega) (by omega) (by omega)).cell_at 0 rfl
    have hbox := hT.blk HI.out.2.2.2.2.2.2.1 (by omega) (by omega) (by omega)
    have hres := hT.blk HI.out.2.2.2.2.2.1 (by omega) (by omega) (by omega)
    obtain ⟨⟨ov1, hW1⟩, ⟨C1, hC1, hU1⟩, hK1⟩ := hT
    have hst1 : C1[1851]? = some (.int .i64 0) := by rw [hU1.2 _ (by omega)]; exact HI.out.2.2.2.1
    have HT := hid (And.intro hW1 (And.intro hC1 (And.intro hU1 (And.intro hK1 (And.intro hbox (And.intro hres hst1))))))
    clear hW1 hC1 hU1 hK1 hbox hres hst1
    go_wp2_with fail
    go_region_held3 (fun w' => w'.cell? ⟨mb, 1851, none⟩ = some (.int .i64 0) ∧ w'.cell? ⟨w.heap.size, 0, none⟩ = some (.int .i64 4)) (first | go_keep | exact ⟨hT2.cell HT.out.2.2.2.2.2.2 (by omega), (hT2.blk HT.out.2.2.2.2.1 (by omega) (by omega) (by omega)).cell_at 0 rfl⟩) (first | (go_at_call 20; go_loud (refine (btoi_any _ _).mono ?_); rintro e w' ⟨rfl, rfl⟩) | (go_at_call 117; go_loud (refine (bit_at 1 xb (w.heap.size + 2) mb 196 68 ov1 0 C1 w1.drew (by omega) rfl HT.out.1 HT.out.2.1 (by rw [HT.out.2.2.1.2 _ (by omega)]; exact HI.out.2.2.1 196 (by omega) (by omega)) (by omega) hne (Or.inl rfl)).mono ?_); rintro e w2 ⟨rfl, hT2⟩))
    all_goals
      have hbox := hT2.blk HT.out.2.2.2.2.1 (by omega) (by omega) (by omega)
      have hres := hT2.blk HT.out.2.2.2.2.2.1 (by omega) (by omega) (by omega)
      obtain ⟨⟨ov2, hW2⟩, ⟨C2, hC2, hU2⟩, hK2⟩ := hT2
      have e0 := hbox.cell_at 0 (v := .int .i64 4) rfl
      have e1 := hbox.cell_at 1 (v := .int .u8 0) rfl
      have e2 := hbox.cell_at 2 (v := .int .i64 0) rfl
      have e3 := hbox.cell_at 3 (v := .int .i64 0) rfl
      have e4 := hbox.cell_at 4 (v := .int .i64 0) rfl
      have hC02 : Upd 4 200 C C2 := (HT.out.2.2.1.mono (by omega) (by omega)).trans (hU2.mono (by omega) (by omega))
      have HP : Hid ((∀ j, 436 ≤ j → j < 1337 → C2[j]? = some (.int .u16 1024)) ∧ C2[1851]? = some (.int .i64 0) ∧ (∀ j, j < 4 → C2[1852 + j]? = some (.int .u32 0))) :=
        ⟨fun j h1 h2 => by rw [hC02.2 _ (by omega)]; exact HI.out.2.2.1 _ (by omega) (by omega), by rw [hC02.2 _ (by omega)]; exact HI.out.2.2.2.1, fun j hj => by rw [hC02.2 _ (by omega)]; exact HI.out.2.2.2.2.1 j hj⟩
      have H2 := hid (And.intro hW2 (And.intro hC2 (And.intro hC02 (And.intro hK2 hres))))
      clear hW2 hC2 hC02 hK2 hres hU2 hbox
      go_wp2_with (
        go_at_call 22
        go_loud (refine (fresh_end xb (w.heap.size + 2) mb ov2 C2 _ H2.out.1 H2.out.2.1 HP.out.1 HP.out.2.1 HP.out.2.2 (by omega) hne).mono ?_)
        rintro e w3 ⟨rfl, hT3⟩
        have hb3 := hT3.blk H2.out.2.2.2.2 (by omega) (by omega) (by omega)
        have b0 := hb3.cell_at 0 (v := .int .i64 0) rfl
        have b1 := hb3.cell_at 1 (v := .int .u8 0) rfl
        have b2 := hb3.cell_at 2 (v := .int .i64 0) rfl
        have b3 := hb3.cell_at 3 (v := .int .i64 0) rfl
        have b4 := hb3.cell_at 4 (v := .int .i64 0) rfl
        have g0 := hb3.frozen 0
        have g1 := hb3.frozen 1
        have g2 := hb3.frozen 2
        have g3 := hb3.frozen 3
        have g4 := hb3.frozen 4
        have H3 := hid hT3
        clear hT3 hb3)
      have ho : Out2 xb (w.heap.size + 2) b mb 4 1856 68 C (St 42) w w3 := by
        obtain ⟨hw3, ⟨C3, hC3, hU3⟩, hK3⟩ := H3.out
        exact ⟨hw3, ⟨C3, hC3, (H2.out.2.2.1.mono (by omega) (by omega)).trans (hU3.mono (by omega) (by omega))⟩,
          ((HI.out.2.2.2.2.2.2.2.trans (HT.out.2.2.2.1.mono (by omega) (fun _ h => h))).trans (H2.out.2.2.2.1.undrew.mono (by omega) (fun _ h => h))).trans (hK3.mono (by omega) (fun _ h => h))⟩
      refine bodyPost_ret (v := .agg #[.int .i64 4, .int .u8 0, .int .i64 2, .int .i64 0, .int .i64 0]) (by simp [results, Tryz.results13, go_sem, b0, b1, b2, b3, b4]) rfl ⟨rfl, ?_⟩
      refine Out2.lower (B := w.heap.size + 2) ?_ (by omega) hxb
      repeat (first
        | (with_reducible exact ho)
        | (with_reducible apply Out2.drew)
        | (with_reducible refine Out2.setIn ?_ _ (by omega) (by omega) hne (by omega) _)
        | (with_reducible refine Out2.setBox ?_ _ ?_ ?_ ?_ ?_ _ <;> first | (show _ ≠ _; show w.heap.size + 1 ≠ _; omega) | (show b ≤ w.heap.size + 1; omega) | (show w.heap.size + 1 < _; omega) | skip))

end Go.Proofs.YtnkemepodpkhnaaGreatFmt
