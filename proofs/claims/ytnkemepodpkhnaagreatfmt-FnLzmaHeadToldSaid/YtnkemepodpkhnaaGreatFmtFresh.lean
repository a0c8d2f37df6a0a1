/-
  PROVED: what the reference's writer does with the end's length and distance behind the first two steps: steps 2 to 41. Conditions: the chances that are met are halves, the state is 0, the last distances are 0.
-/
import Derived.Test.YtnkemepodpkhnaaGreatFmtTreeA
import Derived.Test.YtnkemepodpkhnaaGreatFmtDist
import Derived.RegionTactic
import Derived.BigRegion
import Derived.Deep.AppendLies
import Derived.Deep.LoopGhost
import Derived.OwnWalk
import Derived.Deep.RegionWith
import Derived.Deep.QuietTactic
import Derived.BigQuiet
namespace Go.Proofs.YtnkemepodpkhnaaGreatFmt
open Go.ChangeShapes Go.WideShapes Go.ChangeAt Go.RowKit
set_option maxRecDepth 100000 in
set_option maxHeartbeats 1000000 in
theorem length_end (xb b mb : Nat) (ov : Value) (C : Array Value) (w : World) (hW : Wr w xb b ov (St 2))
    (hC : Blk w mb C 68) (hp0 : C[823]? = some (.int .u16 1024)) (hp : ∀ j, j < 8 → C[825 + j]? = some (.int .u16 1024)) (hmb : mb < b) (hne : mb ≠ xb) :
    Calls Tryz.prog 24 #[.pointer (some ⟨mb, 823, none⟩), .iface 51 (.pointer (some ⟨xb, 0, none⟩)), .int .i64 0, .int .i64 0] w fun e w' => e = .returned (.int .i64 0) ∧ TreeOut xb b mb 823 833 68 C (St 6) w w' := by
  have n1 := nil_bit
  have n2 := method_bit
  have HI := hid (And.intro hW (And.intro hC (And.intro hp0 hp)))
  clear hW hC hp hp0
  go_enter Tryz.func24, Tryz.ntmps24
  go_wp2_with fail
  go_region_with (first | (go_at_call 20; go_loud (refine (btoi_any _ _).mono ?_); rintro e w' ⟨rfl, rfl⟩) | (go_at_call 117; go_loud (refine (bit_at 2 xb b mb 823 68 ov 0 C w.drew (by omega) rfl HI.out.1 HI.out.2.1 HI.out.2.2.1 hmb hne (Or.inl rfl)).mono ?_); rintro e w1 ⟨rfl, hT⟩))
  all_goals
    obtain ⟨⟨ov1, hW1⟩, ⟨C1, hC1, hU1⟩, hK1⟩ := hT
    have HT := hid (And.intro hW1 (And.intro hC1 (And.intro hU1 hK1)))
    clear hW1 hC1 hU1 hK1
    have HP : Hid (∀ j, j < 8 → C1[825 + j]? = some (.int .u16 1024)) := fun j hj => by rw [HT.out.2.2.1.2 _ (by omega)]; exact HI.out.2.2.2 j hj
    go_wp2_with (go_at_call 37; go_loud (refine (tree3 xb b mb 825 68 ov1 C1 _ HT.out.1 HT.out.2.1 HP.out hmb hne).mono ?_); rintro e w2 ⟨rfl, hT2⟩)
    go_ret
    obtain ⟨hW2, ⟨C2, hC2, hU2⟩, hK2⟩ := hT2
    exact ⟨rfl, hW2, ⟨C2, hC2, (HT.out.2.2.1.mono (by omega) (by omega)).trans (hU2.mono (by omega) (by omega))⟩, HT.out.2.2.2.undrew.trans hK2⟩

/-- The model's next state. -/
theorem next_any (mb : Nat) (n : Int) (w : World) (C : Array Value) (hB : Blk w mb C 68) (hp : C[1851]? = some (.int .i64 0)) :
    Calls Tryz.prog 23 #[.pointer (some ⟨mb, 0, none⟩), .int .i64 n, .int .i64 10] w fun e w' => e = .returned (.tuple #[]) ∧ w.setCell ⟨mb, 1851, none⟩ (.int .i64 n) = w' := by
  have hc : w.cell? ⟨mb, 1851, none⟩ = some (.int .i64 0) := by rw [hB.cell]; exact hp
  have hf := hB.frozen 1851
  clear hB hp
  go_enter Tryz.func23, Tryz.ntmps23
  go_wp2
  go_end0
  exact ⟨rfl, rfl⟩

theorem St2_out : (St 2).out = [] := by decide

theorem Wr.rebase {w w2 : World} {xb b b2 : Nat} {s : WS} (h : Wr w xb b (.slice none 0 0) s) (ho : s.out = []) (hB : w2.heap[xb]? = w.heap[xb]?) (h2 : xb < b2) (h3 : b2 ≤ w2.heap.size) : Wr w2 xb b2 (.slice none 0 0) s := by
  refine ⟨?_, ?_, h2, h3, h.2.2.2.2⟩
  · have := h.1
    unfold Blk at *; rw [hB]; exact this
  · rw [ho]; exact World.ownsRow_nil _ _ _ _
theorem Wr.lower {w : World} {xb b b2 : Nat} {ov : Value} {s : WS} (h : Wr w xb b2 ov s) (hb : b ≤ b2) (h2 : xb < b) : Wr w xb b ov s := by
  obtain ⟨h1, ⟨h3, h4⟩, h5, h6, h7⟩ := h
  refine ⟨h1, ⟨h3, ?_⟩, h2, by omega, h7⟩
  rcases h4 with h4 | ⟨g, cap, cur, e1, e2, r⟩
  · exact .inl h4
  · exact .inr ⟨g, cap, cur, e1, by omega, r⟩
theorem Wr.setOther {w : World} {xb b : Nat} {ov : Value} {s : WS} (h : Wr w xb b ov s) (a : Addr) (h1 : a.block ≠ xb) (h2 : a.block < b) (v : Value) : Wr (w.setCell a v) xb b ov s :=
  ⟨h.1.set_other a h1 v, ownsRow_setCell_below h.2.1 h2 v, h.2.2.1, by simpa using h.2.2.2.1, h.2.2.2.2⟩
theorem Wr.drew {w : World} {xb b : Nat} {ov : Value} {s : WS} (h : Wr w xb b ov s) : Wr w.drew xb b ov s := h
theorem wrap_0 : IntKind.i64.wrap 0 = 0 := by decide

/-- The same with a base of its own for the writer's row. -/
def Out2 (xb B b mb lo hi : Nat) (t : TypeId) (C : Array Value) (s : WS) (w w' : World) : Prop :=
  (∃ ov', Wr w' xb B ov' s) ∧ (∃ C', Blk w' mb C' t ∧ Upd lo hi C C') ∧ Kept b (fun k => k = xb ∨ k = mb) w w'
theorem Out2.setIn {xb B b mb lo hi : Nat} {t : TypeId} {C : Array Value} {s : WS} {w w' : World} (h : Out2 xb B b mb lo hi t C s w w') (o : Nat) (h1 : lo ≤ o) (h2 : o < hi) (hne : mb ≠ xb) (hmb : mb < B) (v : Value) :
    Out2 xb B b mb lo hi t C s w (w'.setCell ⟨mb, o, none⟩ v) := by
  obtain ⟨⟨ov, hW⟩, ⟨C', hC, hU⟩, hK⟩ := h
  exact ⟨⟨ov, hW.setOther _ hne hmb v⟩, ⟨_, hC.set o v, hU.trans ((Upd.set C' o v).mono h1 h2)⟩, hK.setCell (Or.inr (Or.inr rfl)) v⟩
theorem Out2.setBox {xb B b mb lo hi : Nat} {t : TypeId} {C : Array Value} {s : WS} {w w' : World} (h : Out2 xb B b mb lo hi t C s w w') (a : Addr) (h1 : b ≤ a.block) (h2 : a.block < B) (hx : a.block ≠ xb) (hm : a.block ≠ mb) (v : Value) :
    Out2 xb B b mb lo hi t C s w (w'.setCell a v) := by
  obtain ⟨⟨ov, hW⟩, ⟨C', hC, hU⟩, hK⟩ := h
  exact ⟨⟨ov, hW.setOther _ hx h2 v⟩, ⟨_, hC.set_other a hm v, hU⟩, hK.setCell (Or.inl h1) v⟩
theorem Out2.drew {xb B b mb lo hi : Nat} {t : TypeId} {C : Array Value} {s : WS} {w w' : World} (h : Out2 xb B b mb lo hi t C s w w') : Out2 xb B b mb lo hi t C s w w'.drew := by
  obtain ⟨⟨ov, hW⟩, ⟨C', hC, hU⟩, hK⟩ := h
  exact ⟨⟨ov, hW⟩, ⟨_, hC, hU⟩, hK.drew⟩
theorem Out2.lower {xb B b mb lo hi : Nat} {t : TypeId} {C : Array Value} {s : WS} {w w' : World} (h : Out2 xb B b mb lo hi t C s w w') (hb : b ≤ B) (hx : xb < b) : TreeOut xb b mb lo hi t C s w w' := by
  obtain ⟨⟨ov, hW⟩, ⟨C', hC, hU⟩, hK⟩ := h
  exact ⟨⟨ov, hW.lower hb hx⟩, ⟨_, hC, hU⟩, hK⟩

theorem info46 : (Tryz.prog.info? 46).map (·.size) = some 1 := by kernel_rfl
/-- The last distances move up by one. -/
theorem copy_reps (mb : Nat) (w : World) (r0 : w.cell? ⟨mb, 1852, none⟩ = some (.int .u32 0)) (r1 : w.cell? ⟨mb, 1853, none⟩ = some (.int .u32 0)) (r2 : w.cell? ⟨mb, 1854, none⟩ = some (.int .u32 0)) (r3 : w.cell? ⟨mb, 1855, none⟩ = some (.int .u32 0))
    (f1 : w.frozen? ⟨mb, 1853, none⟩ = false) (f2 : w.frozen? ⟨mb, 1854, none⟩ = false) (f3 : w.frozen? ⟨mb, 1855, none⟩ = false) :
    (Builtin.copy_ #[96, 96] 3 #[.slice (some ⟨mb, 1853, none⟩) 3 3, .slice (some ⟨mb, 1852, none⟩) 3 4]).run Tryz.prog w.drew = .ok (.int .i64 3) ((((w.setCell ⟨mb, 1853, none⟩ (.int .u32 0)).setCell ⟨mb, 1854, none⟩ (.int .u32 0)).setCell ⟨mb, 1855, none⟩ (.int .u32 0)).drew) := by
  have h := run_copy_cells (P := Tryz.prog) w.drew 96 96 3 46 mb 1853 3 3 ⟨mb, 1852, none⟩ 3 4 [.int .u32 0, .int .u32 0, .int .u32 0] Tryz.underlying96 info46 rfl
    (fun j v hv => by
      have ea : ∀ i, (⟨mb, 1852, none⟩ : Addr).add i = ⟨mb, 1852 + i, none⟩ := fun i => by unfold Addr.add; split <;> simp_all
      rw [ea]
      rcases j with _ | _ | _ | j
      · simp at hv; subst hv; exact r0
      · simp at hv; subst hv; exact r1
      · simp at hv; subst hv; exact r2
      · simp at hv)
    (fun j hj => by
      rcases j with _ | _ | _ | j
      · show (w.cell? ⟨mb, 1853, none⟩).isSome = true; rw [r1]; rfl
      · show (w.cell? ⟨mb, 1854, none⟩).isSome = true; rw [r2]; rfl
      · show (w.cell? ⟨mb, 1855, none⟩).isSome = true; rw [r3]; rfl
      · simp at hj; omega)
    (fun j hj => by
      rcases j with _ | _ | _ | j
      · exact f1
      · exact f2
      · exact f3
      · simp at hj; omega)
    (fun v hv => by simp at hv; subst hv; rfl)
  exact h

/-- The result's and the argument's boxes. -/
def opBox (k l : Int) : Obj := .cells #[.int .i64 k, .int .u8 0, .int .i64 l, .int .i64 0, .int .i64 0] 34

set_option maxRecDepth 100000 in
set_option maxHeartbeats 2000000 in
/-- The end's symbol behind its first two steps. -/
theorem fresh_end (xb b mb : Nat) (ov : Value) (C : Array Value) (w : World) (hW : Wr w xb b ov (St 2)) (hC : Blk w mb C 68)
    (hp : ∀ j, 436 ≤ j → j < 1337 → C[j]? = some (.int .u16 1024)) (hst : C[1851]? = some (.int .i64 0)) (hre : ∀ j, j < 4 → C[1852 + j]? = some (.int .u32 0)) (hmb : mb < b) (hne : mb ≠ xb) :
    Calls Tryz.prog 22 #[.pointer (some ⟨mb, 0, none⟩), .iface 51 (.pointer (some ⟨xb, 0, none⟩)), .int .i64 0, .agg #[.int .i64 4, .int .u8 0, .int .i64 0, .int .i64 0, .int .i64 0]] w fun e w' => e = .returned (.agg #[.int .i64 4, .int .u8 0, .int .i64 2, .int .i64 0, .int .i64 0]) ∧ TreeOut xb b mb 436 1856 68 C (St 42) w w' := by
  obtain rfl : ov = .slice none 0 0 := hW.2.2.2.2 St2_out
  have hbs := hW.2.2.2.1
  have hxb := hW.2.2.1
  have kw := wrap_0
  have hk0 : Kept b (fun k => k = xb ∨ k = mb) w (((w.alloc (opBox 4 2)).alloc (opBox 0 0)).drew) := (((Kept.refl b (fun k => k = xb ∨ k = mb) w).alloc hbs _).alloc (by simp; omega) _).drew
  have hW2 : Wr (((w.alloc (opBox 4 2)).alloc (opBox 0 0)).drew) xb (w.heap.size + 2) (.slice none 0 0) (St 2) :=
    hW.rebase St2_out (by show ((w.alloc _).alloc _).heap[xb]? = _; rw [Below.heap_alloc _ _ _ (by simp; omega), Below.heap_alloc _ _ _ (by omega)]) (by omega) (by simp)
  have hC2 : Blk (((w.alloc (opBox 4 2)).alloc (opBox 0 0)).drew) mb C 68 := (((hC.alloc _).alloc _).drew)
  have hR2 : Blk (((w.alloc (opBox 4 2)).alloc (opBox 0 0)).drew) (w.heap.size + 1) #[.int .i64 0, .int .u8 0, .int .i64 0, .int .i64 0, .int .i64 0] 34 := by
    have h1 := (Blk.new (w.alloc (opBox 4 2)) #[.int .i64 0, .int .u8 0, .int .i64 0, .int .i64 0, .int .i64 0] 34).drew
    simpa [opBox] using h1
  have HI := hid (And.intro hW2 (And.intro hC2 (And.intro hp (And.intro hst (And.intro hre (And.intro hR2 hk0))))))
  clear hW hC hp hst hre hW2 hC2 hR2 hk0
  go_enter Tryz.func22, Tryz.ntmps22
  go_wp2_with fail
  go_region_with (go_at_call 24; go_loud (refine (length_end xb (w.heap.size + 2) mb (.slice none 0 0) C (((w.alloc (opBox 4 2)).alloc (opBox 0 0)).drew) HI.out.1 HI.out.2.1 (HI.out.2.2.1 823 (by omega) (by omega)) (fun j hj => HI.out.2.2.1 _ (by omega) (by omega)) (by omega) hne).mono ?_); rintro e w1 ⟨rfl, hT⟩)
  obtain ⟨⟨ov1, hW1⟩, ⟨C1, hC1, hU1⟩, hK1⟩ := hT
  have HT := hid (And.intro hW1 (And.intro hC1 (And.intro hU1 hK1)))
  clear hW1 hC1 hU1 hK1
  have HS : Hid (C1[1851]? = some (.int .i64 0)) := by show _ = _; rw [HT.out.2.2.1.2 _ (by omega)]; exact HI.out.2.2.2.1
  have HP : Hid (∀ j, j < 64 → (C1.setIfInBounds 1851 (.int .i64 7))[436 + j]? = some (.int .u16 1024)) := fun j hj => by
    rw [Array.getElem?_setIfInBounds, if_neg (by omega), HT.out.2.2.1.2 _ (by omega)]; exact HI.out.2.2.1 _ (by omega) (by omega)
  have HP2 : Hid (∀ j, j < 16 → (C1.setIfInBounds 1851 (.int .i64 7))[807 + j]? = some (.int .u16 1024)) := fun j hj => by
    rw [Array.getElem?_setIfInBounds, if_neg (by omega), HT.out.2.2.1.2 _ (by omega)]; exact HI.out.2.2.1 _ (by omega) (by omega)
  go_wp2_with (first
    | (go_at_call 23; go_loud (refine (next_any mb 7 _ C1 HT.out.2.1 HS.out).mono ?_); rintro e w2 ⟨rfl, rfl⟩)
    | (go_at_call 36; go_loud (refine (distance_end xb (w.heap.size + 2) mb ov1 (C1.setIfInBounds 1851 (.int .i64 7)) _ (HT.out.1.setOther ⟨mb, 1851, none⟩ hne (by show mb < _; omega) _) (HT.out.2.1.set 1851 _) HP.out HP2.out (by omega) hne).mono ?_); rintro e w3 ⟨rfl, hT3⟩))
  obtain ⟨⟨ov3, hW3⟩, ⟨C3, hC3, hU3⟩, hK3⟩ := hT3
  have hreps : ∀ j, j < 4 → C3[1852 + j]? = some (.int .u32 0) := fun j hj => by
    rw [hU3.2 _ (by omega), Array.getElem?_setIfInBounds, if_neg (by omega), HT.out.2.2.1.2 _ (by omega)]; exact HI.out.2.2.2.2.1 j hj
  have r0 : w3.cell? ⟨mb, 1852, none⟩ = some (.int .u32 0) := by rw [hC3.cell]; exact hreps 0 (by omega)
  have r1 : w3.cell? ⟨mb, 1853, none⟩ = some (.int .u32 0) := by rw [hC3.cell]; exact hreps 1 (by omega)
  have r2 : w3.cell? ⟨mb, 1854, none⟩ = some (.int .u32 0) := by rw [hC3.cell]; exact hreps 2 (by omega)
  have r3 : w3.cell? ⟨mb, 1855, none⟩ = some (.int .u32 0) := by rw [hC3.cell]; exact hreps 3 (by omega)
  have f0 := hC3.frozen 1852
  have f1 := hC3.frozen 1853
  have f2 := hC3.frozen 1854
  have f3 := hC3.frozen 1855
  have hb3 := ((HI.out.2.2.2.2.2.1.kept HT.out.2.2.2 (by omega) (by omega)).set_other ⟨mb, 1851, none⟩ (by show mb ≠ _; omega) (.int .i64 7)).kept hK3 (by omega) (by omega)
  have b0 : w3.cell? ⟨w.heap.size + 1, 0, none⟩ = some (.int .i64 0) := by rw [hb3.cell]; rfl
  have b1 : w3.cell? ⟨w.heap.size + 1, 1, none⟩ = some (.int .u8 0) := by rw [hb3.cell]; rfl
  have b2 : w3.cell? ⟨w.heap.size + 1, 2, none⟩ = some (.int .i64 0) := by rw [hb3.cell]; rfl
  have b3 : w3.cell? ⟨w.heap.size + 1, 3, none⟩ = some (.int .i64 0) := by rw [hb3.cell]; rfl
  have b4 : w3.cell? ⟨w.heap.size + 1, 4, none⟩ = some (.int .i64 0) := by rw [hb3.cell]; rfl
  have g0 := hb3.frozen 0
  have g1 := hb3.frozen 1
  have g2 := hb3.frozen 2
  have g3 := hb3.frozen 3
  have g4 := hb3.frozen 4
  have hmn : mb ≠ w.heap.size + 1 := by omega
  have hnm : w.heap.size + 1 ≠ mb := by omega
  have hcp := copy_reps mb w3 r0 r1 r2 r3 f1 f2 f3
  have H3 := hid (And.intro hW3 (And.intro hC3 (And.intro hU3 hK3)))
  clear hW3 hC3 hU3 hK3 hreps hb3
  have ho : Out2 xb (w.heap.size + 2) b mb 436 1856 68 C (St 42) w w3 :=
    ⟨⟨ov3, H3.out.1⟩, ⟨C3, H3.out.2.1, ((HT.out.2.2.1.mono (by omega) (by omega)).trans ((Upd.set C1 1851 (.int .i64 7)).mono (by omega) (by omega))).trans (H3.out.2.2.1.mono (by omega) (by omega))⟩,
      ((HI.out.2.2.2.2.2.2.trans (HT.out.2.2.2.mono (by omega) (fun _ h => h))).setCell (Or.inr (Or.inr rfl)) _).trans (H3.out.2.2.2.mono (by omega) (fun _ h => h))⟩
  have HO := hid ho
  clear ho
  go_region
  all_goals go_wp2
  all_goals
    refine bodyPost_ret (v := .agg #[.int .i64 4, .int .u8 0, .int .i64 2, .int .i64 0, .int .i64 0]) (by simp [results, Tryz.results22, go_sem, b0, b1, b2, b3, b4]) rfl ⟨rfl, ?_⟩
    refine Out2.lower (B := w.heap.size + 2) ?_ (by omega) hxb
    repeat (first
      | (with_reducible exact HO.out)
      | (with_reducible apply Out2.drew)
      | (with_reducible refine Out2.setIn ?_ _ (by omega) (by omega) hne (by omega) _)
      | (with_reducible refine Out2.setBox ?_ _ ?_ ?_ ?_ ?_ _ <;> first | (show _ ≠ _; show w.heap.size + 1 ≠ _; omega) | (show b ≤ w.heap.size + 1; omega) | (show w.heap.size + 1 < _; omega) | skip))

end Go.Proofs.YtnkemepodpkhnaaGreatFmt
