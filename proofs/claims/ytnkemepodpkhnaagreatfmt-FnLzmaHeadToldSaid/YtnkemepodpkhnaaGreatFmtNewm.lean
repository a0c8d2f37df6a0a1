/-
  PROVED: a new model of the reference's: all chances are halves, the state and the last distances are 0. Conditions: lc is at most 8, lp at most 4.
-/
import Derived.Test.YtnkemepodpkhnaaGreatFmtFill
import Derived.RegionTactic
import Derived.BigRegion
import Derived.Deep.AppendLies
import Derived.Deep.LoopGhost
import Derived.OwnWalk
import Derived.Deep.RegionWith
import Derived.Deep.QuietTactic
import Derived.BigQuiet
namespace Go.Proofs.YtnkemepodpkhnaaGreatFmt
open Go.ChangeShapes Go.WideShapes Go.ChangeAt Go.RowKit
/-- The model's cells as they are built. -/
noncomputable def C0of (lc lp pb : Nat) (bb n : Nat) : Array Value :=
  (((Tryz.zeroCells68.setIfInBounds 0 (.int .i64 lc)).setIfInBounds 1 (.int .i64 lp)).setIfInBounds 2 (.int .i64 pb)).setIfInBounds 3 (.slice (some ⟨bb, 0, none⟩) n n)
theorem C0of_facts (lc lp pb bb n : Nat) : (C0of lc lp pb bb n).size = 1856 ∧ (C0of lc lp pb bb n)[2]? = some (.int .i64 pb) ∧ (C0of lc lp pb bb n)[3]? = some (.slice (some ⟨bb, 0, none⟩) n n) ∧ (C0of lc lp pb bb n)[1851]? = some (.int .i64 0) ∧ ∀ j, j < 4 → (C0of lc lp pb bb n)[1852 + j]? = some (.int .u32 0) := by
  obtain ⟨h1, h2, h3, h4, h5, h6⟩ := zc68
  unfold C0of
  refine ⟨by simp [h1], ?_, ?_, ?_, fun j hj => ?_⟩
  · rw [Array.getElem?_setIfInBounds, if_neg (by omega), Array.getElem?_setIfInBounds, if_pos rfl, if_pos (by simp [h1])]
  · rw [Array.getElem?_setIfInBounds, if_pos rfl, if_pos (by simp [h1])]
  · rw [Array.getElem?_setIfInBounds, if_neg (by omega), Array.getElem?_setIfInBounds, if_neg (by omega), Array.getElem?_setIfInBounds, if_neg (by omega), Array.getElem?_setIfInBounds, if_neg (by omega)]; exact h2
  · rw [Array.getElem?_setIfInBounds, if_neg (by omega), Array.getElem?_setIfInBounds, if_neg (by omega), Array.getElem?_setIfInBounds, if_neg (by omega), Array.getElem?_setIfInBounds, if_neg (by omega)]
    rcases (show j = 0 ∨ j = 1 ∨ j = 2 ∨ j = 3 by omega) with rfl | rfl | rfl | rfl
    · exact h3
    · exact h4
    · exact h5
    · exact h6

theorem pow_n : ∀ k : Fin 13, wrap64 (2 ^ k.val) = ((2 ^ k.val : Nat) : Int) ∧ 2 ^ k.val ≤ 4096 := by decide +kernel

/-- A new model: its chances are halves, its state and its last distances are 0. -/
def ModelMade (mb pb : Nat) (w w' : World) : Prop :=
  (∃ C, Blk w' mb C 68 ∧ C[2]? = some (.int .i64 pb) ∧ (∀ j, 4 ≤ j → j < 1851 → C[j]? = some (.int .u16 1024)) ∧ C[1851]? = some (.int .i64 0) ∧ ∀ j, j < 4 → C[1852 + j]? = some (.int .u32 0)) ∧ Below w.heap.size w w' ∧ mb < w'.heap.size

set_option maxRecDepth 100000 in
set_option maxHeartbeats 2000000 in
theorem newModel (lc lp pb : Nat) (w : World) (h1 : lc ≤ 8) (h2 : lp ≤ 4) : Calls Tryz.prog 9 #[.int .i64 lc, .int .i64 lp, .int .i64 pb] w fun e w' => e = .returned (.pointer (some ⟨w.heap.size + 1, 0, none⟩)) ∧ ModelMade (w.heap.size + 1) pb w w' := by
  obtain ⟨hp, hn⟩ := pow_n ⟨lc + lp, by omega⟩
  simp only at hp hn
  obtain ⟨n, hnn⟩ : ∃ n : Nat, n = 2 ^ (lc + lp) := ⟨_, rfl⟩
  rw [← hnn] at hp hn
  clear hnn
  obtain ⟨M, hM, hmk⟩ := make_any 54 72 768 1536 Tryz.underlying54 info72 n (by omega) (by omega)
  have F := hid (C0of_facts lc lp pb w.heap.size n)
  have hb0 : Blk ((w.alloc (.cells M 72)).alloc (.cells (C0of lc lp pb w.heap.size n) 68)) (w.heap.size + 1) (C0of lc lp pb w.heap.size n) 68 := by
    have := Blk.new (w.alloc (.cells M 72)) (C0of lc lp pb w.heap.size n) 68
    simpa using this
  have hb1 : Blk ((w.alloc (.cells M 72)).alloc (.cells (C0of lc lp pb w.heap.size n) 68)) w.heap.size M 72 := (Blk.new w M 72).alloc _
  have hk0 : Below w.heap.size w ((w.alloc (.cells M 72)).alloc (.cells (C0of lc lp pb w.heap.size n) 68)) := ((Below.refl _ _).alloc (Nat.le_refl _) _).alloc (by simp) _
  have HI := hid (And.intro hb0 (And.intro hb1 (And.intro hk0 hM)))
  clear hb0 hb1 hk0 hM
  go_enter Tryz.func9, Tryz.ntmps9
  go_wp2_with fail
  rw [hp]
  clear hp
  go_loopg [26] n (fun k i wr => k ≤ n ∧ i = .int .i64 (n - k) ∧ (∃ M', Blk wr w.heap.size M' 72 ∧ M'.size = n * 768) ∧ Blk wr (w.heap.size + 1) (C0of lc lp pb w.heap.size n) 68 ∧ wr.heap.size = w.heap.size + 2 ∧ Below w.heap.size w wr)
  case atStart => exact ⟨by omega, by simp, ⟨M, HI.out.2.1, HI.out.2.2.2⟩, HI.out.1, by simp, HI.out.2.2.1⟩
  case round =>
    obtain ⟨hk, rfl, ⟨M', hM', hsM⟩, hC, hsz, hK⟩ := hrel
    obtain ⟨j, hj⟩ : ∃ j : Nat, j = n - gk := ⟨_, rfl⟩
    have e : (n : Int) - (gk : Int) = (j : Int) := by omega
    rw [e]
    have c3 : wr.cell? ⟨w.heap.size + 1, 3, none⟩ = some (.slice (some ⟨w.heap.size, 0, none⟩) n n) := by rw [Blk.cell hC]; exact F.out.2.2.1
    by_cases h0 : gk = 0
    · have hlt : ¬ ((j : Int) < (n : Int)) := by omega
      have hm0 : Mod (w.heap.size + 1) (C0of lc lp pb w.heap.size n) (fun _ => False) wr := ⟨_, hC, F.out.1, fun _ h => h.elim, fun _ _ => rfl⟩
      have H := hid (And.intro hm0 (And.intro hsz hK))
      clear hM' hsM hC hsz hK e hj h0 c3 hm0
      go_wp2_with fail
      go_loopg [38] 12 (fun k i wr => k ≤ 12 ∧ i = .int .i64 (12 - k) ∧ Mod (w.heap.size + 1) (C0of lc lp pb w.heap.size n) (fun j => (4 ≤ j ∧ j < 4 + 16 * (12 - k)) ∨ (244 ≤ j ∧ j < 244 + 16 * (12 - k))) wr ∧ wr.heap.size = w.heap.size + 2 ∧ Below w.heap.size w wr)
      case atStart => exact ⟨by omega, rfl, H.out.1.mono (fun j hj => by rcases hj with hj | hj <;> omega), H.out.2.1, H.out.2.2⟩
      case round =>
        clear H
        obtain ⟨hk, rfl, hM, hsz, hK⟩ := hrel
        obtain ⟨i, hi⟩ : ∃ i : Nat, i = 12 - gk := ⟨_, rfl⟩
        have e : (12 : Int) - (gk : Int) = (i : Int) := by omega
        rw [← hi] at hM
        rw [e]
        by_cases h0 : gk = 0
        · have hlt : ¬ ((i : Int) < 12) := by omega
          obtain rfl : i = 12 := by omega
          have H := hid (And.intro hM (And.intro hsz hK))
          clear hM hsz hK e hi h0
          go_wp2_with fail
          refine (fill_mod w.heap.size (w.heap.size + 1) 196 12 _ _ _ H.out.1 (by omega) (by omega)).mono ?_
          rintro e w0 ⟨rfl, hM0⟩
          have HA0 := hid hM0
          clear hM0
          go_wp2_with fail
          refine (fill_mod w.heap.size (w.heap.size + 1) 208 12 _ _ _ HA0.out.1 (by omega) (by omega)).mono ?_
          rintro e w1 ⟨rfl, hM1⟩
          have HA1 := hid hM1
          clear hM1
          go_wp2_with fail
          refine (fill_mod w.heap.size (w.heap.size + 1) 220 12 _ _ _ HA1.out.1 (by omega) (by omega)).mono ?_
          rintro e w2 ⟨rfl, hM2⟩
          have HA2 := hid hM2
          clear hM2
          go_wp2_with fail
          refine (fill_mod w.heap.size (w.heap.size + 1) 232 12 _ _ _ HA2.out.1 (by omega) (by omega)).mono ?_
          rintro e w3 ⟨rfl, hM3⟩
          have HA3 := hid hM3
          clear hM3
          have hb3 : Mod (w.heap.size + 1) (C0of lc lp pb w.heap.size n) (fun j => 4 ≤ j ∧ j < 436) w3 ∧ w3.heap.size = w.heap.size + 2 ∧ Below w.heap.size w w3 := by
            refine ⟨HA3.out.1.mono (fun j hj => ?_), by rw [HA3.out.2.1, HA2.out.2.1, HA1.out.2.1, HA0.out.2.1]; exact H.out.2.1, ?_⟩
            · by_cases a1 : 232 ≤ j ∧ j < 244
              · exact Or.inr (by omega)
              by_cases a2 : 220 ≤ j ∧ j < 232
              · exact Or.inl (Or.inr (by omega))
              by_cases a3 : 208 ≤ j ∧ j < 220
              · exact Or.inl (Or.inl (Or.inr (by omega)))
              by_cases a4 : 196 ≤ j ∧ j < 208
              · exact Or.inl (Or.inl (Or.inl (Or.inr (by omega))))
              exact Or.inl (Or.inl (Or.inl (Or.inl (by omega))))
            · exact (((H.out.2.2.trans (HA0.out.2.2.below (Nat.le_refl _) (fun k hk => by subst hk; omega))).trans (HA1.out.2.2.below (Nat.le_refl _) (fun k hk => by subst hk; omega))).trans (HA2.out.2.2.below (Nat.le_refl _) (fun k hk => by subst hk; omega))).trans (HA3.out.2.2.below (Nat.le_refl _) (fun k hk => by subst hk; omega))
          have HB := hid hb3
          clear hb3 HA0 HA1 HA2 HA3 H
          go_wp2_with fail
          go_loopg [76] 4 (fun k i wr => k ≤ 4 ∧ i = .int .i64 (4 - k) ∧ Mod (w.heap.size + 1) (C0of lc lp pb w.heap.size n) (fun j => 4 ≤ j ∧ j < 436 + 64 * (4 - k)) wr ∧ wr.heap.size = w.heap.size + 2 ∧ Below w.heap.size w wr)
          case atStart => exact ⟨by omega, rfl, HB.out.1.mono (fun j hj => by omega), HB.out.2.1, HB.out.2.2⟩
          case round =>
            clear HB
            obtain ⟨hk, rfl, hM, hsz, hK⟩ := hrel
            obtain ⟨i, hi⟩ : ∃ i : Nat, i = 4 - gk := ⟨_, rfl⟩
            have e : (4 : Int) - (gk : Int) = (i : Int) := by omega
            rw [← hi] at hM
            rw [e]
            by_cases h0 : gk = 0
            · have hlt : ¬ ((i : Int) < 4) := by omega
              obtain rfl : i = 4 := by omega
              have H := hid (And.intro hM (And.intro hsz hK))
              clear hM hsz hK e hi h0
              go_wp2_with fail
              refine (fill_mod w.heap.size (w.heap.size + 1) 692 115 _ _ _ H.out.1 (by omega) (by omega)).mono ?_
              rintro e v0 ⟨rfl, hM0⟩
              have HA0 := hid hM0
              clear hM0
              go_wp2_with fail
              refine (fill_mod w.heap.size (w.heap.size + 1) 807 16 _ _ _ HA0.out.1 (by omega) (by omega)).mono ?_
              rintro e v1 ⟨rfl, hM1⟩
              have HA1 := hid hM1
              clear hM1
              go_wp2_with fail
              refine (begin_mod w.heap.size (w.heap.size + 1) 823 _ _ _ HA1.out.1 (by omega) (by omega)).mono ?_
              rintro e v2 ⟨rfl, hM2⟩
              have HA2 := hid hM2
              clear hM2
              go_wp2_with fail
              refine (begin_mod w.heap.size (w.heap.size + 1) 1337 _ _ _ HA2.out.1 (by omega) (by omega)).mono ?_
              rintro e v3 ⟨rfl, hM3⟩
              have HA3 := hid hM3
              clear hM3
              go_wp2
              go_ret
              obtain ⟨C, hC, hsC, hG, hU⟩ := HA3.out.1
              refine ⟨rfl, ⟨C, hC, by rw [hU 2 (by omega)]; exact F.out.2.1, fun j h4 h5 => hG j ?_, by rw [hU 1851 (by omega)]; exact F.out.2.2.2.1, fun j hj => by rw [hU _ (by omega)]; exact F.out.2.2.2.2 j hj⟩, ?_, ?_⟩
              · by_cases a1 : 1337 ≤ j
                · exact Or.inr (by omega)
                by_cases a2 : 823 ≤ j
                · exact Or.inl (Or.inr (by omega))
                by_cases a3 : 807 ≤ j
                · exact Or.inl (Or.inl (Or.inr (by omega)))
                by_cases a4 : 692 ≤ j
                · exact Or.inl (Or.inl (Or.inl (Or.inr (by omega))))
                exact Or.inl (Or.inl (Or.inl (Or.inl (by omega))))
              · exact (((H.out.2.2.trans (HA0.out.2.2.below (Nat.le_refl _) (fun k hk => by subst hk; omega))).trans (HA1.out.2.2.below (Nat.le_refl _) (fun k hk => by subst hk; omega))).trans (HA2.out.2.2.below (Nat.le_refl _) (fun k hk => by subst hk; omega))).trans (HA3.out.2.2.below (Nat.le_refl _) (fun k hk => by subst hk; omega))
              · rw [HA3.out.2.1, HA2.out.2.1, HA1.out.2.1, HA0.out.2.1, H.out.2.1]; omega
            · have hlt : (i : Int) < 4 := by omega
              have hlt' : i < 4 := by omega
              have H := hid (And.intro hM (And.intro hsz (And.intro hK (And.intro hi e))))
              clear hM hsz hK e hi
              go_wp2_with fail
              refine (fill_mod w.heap.size (w.heap.size + 1) (436 + i * 64) 64 _ _ _ H.out.1 (by omega) (by omega)).mono ?_
              rintro e w4 ⟨rfl, hM4⟩
              have HA4 := hid hM4
              clear hM4
              go_wp2
              go_roundg (gk - 1)
              case measure => omega
              case rel =>
                have E := H.out.2.2.2
                refine ⟨by omega, by rw [show (4 : Int) - ((gk - 1 : Nat) : Int) = (i : Int) + 1 by omega], HA4.out.1.mono (fun j hj => ?_), by rw [HA4.out.2.1]; exact H.out.2.1, H.out.2.2.1.trans (HA4.out.2.2.below (Nat.le_refl _) (fun k hk => by subst hk; omega))⟩
                by_cases a : 436 + i * 64 ≤ j
                · exact Or.inr (by omega)
                · exact Or.inl (by omega)
        · have hlt : (i : Int) < 12 := by omega
          have hlt' : i < 12 := by omega
          have H := hid (And.intro hM (And.intro hsz (And.intro hK (And.intro hi e))))
          clear hM hsz hK e hi
          go_wp2_with fail
          refine (fill_mod w.heap.size (w.heap.size + 1) (4 + i * 16) 16 _ _ _ H.out.1 (by omega) (by omega)).mono ?_
          rintro e w4 ⟨rfl, hM4⟩
          have HA4 := hid hM4
          clear hM4
          go_wp2_with fail
          refine (fill_mod w.heap.size (w.heap.size + 1) (244 + i * 16) 16 _ _ _ HA4.out.1 (by omega) (by omega)).mono ?_
          rintro e w5 ⟨rfl, hM5⟩
          have HA5 := hid hM5
          clear hM5
          go_wp2
          go_roundg (gk - 1)
          case measure => omega
          case rel =>
            have E := H.out.2.2.2
            refine ⟨by omega, by rw [show (12 : Int) - ((gk - 1 : Nat) : Int) = (i : Int) + 1 by omega], HA5.out.1.mono (fun j hj => ?_), by rw [HA5.out.2.1, HA4.out.2.1]; exact H.out.2.1, (H.out.2.2.1.trans (HA4.out.2.2.below (Nat.le_refl _) (fun k hk => by subst hk; omega))).trans (HA5.out.2.2.below (Nat.le_refl _) (fun k hk => by subst hk; omega))⟩
            rcases hj with hj | hj
            · by_cases a : j < 4 + 16 * i
              · exact Or.inl (Or.inl (Or.inl (by omega)))
              · exact Or.inl (Or.inr (by omega))
            · by_cases a : j < 244 + 16 * i
              · exact Or.inl (Or.inl (Or.inr (by omega)))
              · exact Or.inr (by omega)
    · have hlt : (j : Int) < (n : Int) := by omega
      have hlt' : j < n := by omega
      have H := hid (And.intro hM' (And.intro hsM (And.intro hC (And.intro hsz (And.intro hK (And.intro hj e))))))
      clear hM' hsM hC hsz hK hj e
      go_wp2_with fail
      refine (fill_any (w.heap.size + 2) w.heap.size (j * 768) 768 768 72 M' wr H.out.1 (by rw [H.out.2.1]; omega) (by omega)).mono ?_
      rintro e w1 ⟨rfl, ⟨D, hD, hUD, _⟩, hsz1, hK1⟩
      have HA := hid (And.intro hD (And.intro hUD (And.intro hsz1 hK1)))
      clear hD hUD hsz1 hK1
      go_wp2
      go_roundg (gk - 1)
      case measure => omega
      case rel =>
        have E := H.out.2.2.2.2.2
        refine ⟨by omega, by rw [show (n : Int) - ((gk - 1 : Nat) : Int) = (j : Int) + 1 by omega], ⟨D, HA.out.1, by rw [HA.out.2.1.1]; exact H.out.2.1⟩, Blk.kept H.out.2.2.1 HA.out.2.2.2 (by omega) (by omega), by rw [HA.out.2.2.1]; exact H.out.2.2.2.1, H.out.2.2.2.2.1.trans (HA.out.2.2.2.below (by omega) (fun k hk => by subst hk; omega))⟩

end Go.Proofs.YtnkemepodpkhnaaGreatFmt
