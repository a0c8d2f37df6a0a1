/-
  PROVED: a new state of the package's is made without a fault, and nothing that was there turns. Conditions: lc at most 8, lp and pb at most 4.
-/
import Derived.Test.YtnkemepodpkhnaaGreatFmtCodecs
import Derived.RegionTactic
import Derived.BigRegion
import Derived.Deep.AppendLies
import Derived.Deep.LoopGhost
import Derived.OwnWalk
import Derived.Deep.MidRow
import Derived.Deep.RegionWith
import Derived.Deep.QuietTactic
import Derived.BigQuiet
namespace Go.Proofs.YtnkemepodpkhnaaGreatFmt
open Go.ChangeShapes Go.WideShapes Go.ChangeAt Go.RowKit
theorem bits_of : ∀ j : Fin 10, (4 + (j.val : Int)) / 2 - 1 = (((4 + j.val) / 2 - 1 : Nat) : Int) := by decide +kernel

set_option maxRecDepth 100000 in
set_option maxHeartbeats 1000000 in
theorem distInit (sb o : Nat) (w : World) (C : Array Value) (hC : Blk w sb C 156) (hs : C.size = 608) (hn : o + 30 ≤ 608) :
    Calls Tryz.prog 54 #[.pointer (some ⟨sb, o, none⟩)] w fun e w' => e = .returned (.tuple #[]) ∧ SOut sb w w' := by
  have H0 := hid (SOut.start hC hs)
  clear hC hs
  go_enter Tryz.func54, Tryz.ntmps54
  go_wp2_with fail
  go_loopg [6] 4 (fun q i wr => q ≤ 4 ∧ i = .int .i64 (4 - q) ∧ SOut sb w wr)
  case atStart => exact ⟨by omega, rfl, H0.out⟩
  case round =>
    clear H0
    obtain ⟨hk, rfl, hS⟩ := hrel
    obtain ⟨j, hj⟩ : ∃ j : Nat, j = 4 - gk := ⟨_, rfl⟩
    have e : (4 : Int) - (gk : Int) = (j : Int) := by omega
    rw [e]
    by_cases h0 : gk = 0
    · have hlt : ¬ ((j : Int) < 4) := by omega
      obtain rfl : j = 4 := by omega
      have H := hid hS
      clear hS e hj h0
      go_wp2_with fail
      go_loopg [16] 10 (fun q i wr => q ≤ 10 ∧ i = .int .i64 (10 - q) ∧ SOut sb w wr)
      case atStart => exact ⟨by omega, rfl, H.out⟩
      case round =>
        clear H
        obtain ⟨hk, rfl, hS⟩ := hrel
        obtain ⟨j, hj⟩ : ∃ j : Nat, j = 10 - gk := ⟨_, rfl⟩
        have e : (10 : Int) - (gk : Int) = (j : Int) := by omega
        rw [e]
        by_cases h0 : gk = 0
        · have hlt : ¬ ((j : Int) < 10) := by omega
          obtain rfl : j = 10 := by omega
          have H := hid hS
          clear hS e hj h0
          go_wp2_with (
            go_at_call 57
            go_loud (refine (treeReverse 4 _ (by omega) (by omega)).mono ?_)
            rintro e w1 ⟨⟨g, n, rfl⟩, hB⟩
            have S1 := H.out.below hB
            obtain ⟨⟨v0, c0⟩, f0⟩ := S1.cell (o + 28) (by omega)
            obtain ⟨⟨v1, c1⟩, f1⟩ := S1.cell (o + 28 + 1) (by omega)
            have HS1 := hid S1
            clear S1 hB)
          go_end0
          exact ⟨rfl, (HS1.out.set _ _).set _ _⟩
        · have hlt : (j : Int) < 10 := by omega
          have hlt' : j < 10 := by omega
          obtain ⟨q, hq⟩ : ∃ q : Nat, q = (4 + j) / 2 - 1 := ⟨_, rfl⟩
          have hbits : (4 + (j : Int)) / 2 - 1 = (q : Int) := by rw [hq]; exact bits_of ⟨j, hlt'⟩
          have H := hid (And.intro hS (And.intro hj (And.intro e hq)))
          have hq1 : 1 ≤ q := by omega
          have hq8 : q ≤ 8 := by omega
          clear hS hj e hq
          go_wp2_with fail
          go_region_with (
            go_at_call 57
            go_loud (refine (treeReverse q _ hq1 hq8).mono ?_)
            rintro e w1 ⟨⟨g, n, rfl⟩, hB⟩
            have S1 := (H.out.1.drew).below hB
            obtain ⟨⟨v0, c0⟩, f0⟩ := S1.cell (o + 8 + j * 2) (by omega)
            obtain ⟨⟨v1, c1⟩, f1⟩ := S1.cell (o + 8 + j * 2 + 1) (by omega)
            have HS1 := hid S1
            clear S1 hB)
          all_goals
            go_wp2
            go_roundg (gk - 1)
            case measure => omega
            case rel =>
              have E := H.out.2
              exact ⟨by omega, by rw [show (10 : Int) - ((gk - 1 : Nat) : Int) = (j : Int) + 1 by omega], (HS1.out.set _ _).set _ _⟩
    · have hlt : (j : Int) < 4 := by omega
      have hlt' : j < 4 := by omega
      have H := hid (And.intro hS (And.intro hj e))
      clear hS hj e
      go_wp2_with fail
      go_region_with (
        go_at_call 56
        go_loud (refine (treeCodec 6 _ (by omega) (by omega)).mono ?_)
        rintro e w1 ⟨⟨g, n, rfl⟩, hB⟩
        have S1 := (H.out.1.drew).below hB
        obtain ⟨⟨v0, c0⟩, f0⟩ := S1.cell (o + j * 2) (by omega)
        obtain ⟨⟨v1, c1⟩, f1⟩ := S1.cell (o + j * 2 + 1) (by omega)
        have HS1 := hid S1
        clear S1 hB)
      all_goals
        go_wp2
        go_roundg (gk - 1)
        case measure => omega
        case rel =>
          have E := H.out.2
          exact ⟨by omega, by rw [show (4 : Int) - ((gk - 1 : Nat) : Int) = (j : Int) + 1 by omega], (HS1.out.set _ _).set _ _⟩

theorem pow_l : ∀ k : Fin 13, wrap64 (768 * 2 ^ k.val) = ((768 * 2 ^ k.val : Nat) : Int) ∧ 768 * 2 ^ k.val ≤ 3145728 := by decide +kernel

set_option maxRecDepth 100000 in
set_option maxHeartbeats 1000000 in
theorem litInit (sb lc lp : Nat) (w : World) (C : Array Value) (hC : Blk w sb C 156) (hs : C.size = 608) (h1 : lc ≤ 8) (h2 : lp ≤ 4) :
    Calls Tryz.prog 52 #[.pointer (some ⟨sb, 436, none⟩), .int .i64 lc, .int .i64 lp] w fun e w' => e = .returned (.tuple #[]) ∧ SOut sb w w' := by
  obtain ⟨hp, hn⟩ := pow_l ⟨lc + lp, by omega⟩
  simp only at hp hn
  obtain ⟨n, hnn⟩ : ∃ n : Nat, n = 768 * 2 ^ (lc + lp) := ⟨_, rfl⟩
  rw [← hnn] at hp hn
  clear hnn
  obtain ⟨M, hM, hmk⟩ := make_any 139 136 1 2 Tryz.underlying139 info136 n (by omega) (by omega)
  have d1 : decide ((lc : Int) ≤ 8) = true := by simp; omega
  have d2 : decide ((0 : Int) ≤ (lc : Int)) = true := by simp
  have d3 : decide ((lp : Int) ≤ 4) = true := by simp; omega
  have d4 : decide ((0 : Int) ≤ (lp : Int)) = true := by simp
  have d5 : (lc : Int) ≤ 8 := by omega
  have d6 : (lp : Int) ≤ 4 := by omega
  obtain ⟨⟨v0, c0⟩, f0⟩ := (SOut.start hC hs).cell 436 (by omega)
  have dl := hC.lt
  have hb0 : Blk ((w.setCell ⟨sb, 436, none⟩ (.slice (some ⟨w.heap.size, 0, none⟩) n n)).alloc (.cells M 136)) sb (C.setIfInBounds 436 (.slice (some ⟨w.heap.size, 0, none⟩) n n)) 156 := (hC.set 436 _).alloc _
  have hc0 : (C.setIfInBounds 436 (.slice (some ⟨w.heap.size, 0, none⟩) n n))[436]? = some (.slice (some ⟨w.heap.size, 0, none⟩) n n) := by rw [Array.getElem?_setIfInBounds, if_pos rfl, if_pos (by omega)]
  have hm0 : Blk ((w.setCell ⟨sb, 436, none⟩ (.slice (some ⟨w.heap.size, 0, none⟩) n n)).alloc (.cells M 136)) w.heap.size M 136 := by
    have := Blk.new (w.setCell ⟨sb, 436, none⟩ (.slice (some ⟨w.heap.size, 0, none⟩) n n)) M 136
    simpa using this
  have hk0 : Kept w.heap.size (· = sb) w ((w.setCell ⟨sb, 436, none⟩ (.slice (some ⟨w.heap.size, 0, none⟩) n n)).alloc (.cells M 136)) := ((Kept.refl w.heap.size (· = sb) w).setCell (p := ⟨sb, 436, none⟩) (Or.inr rfl) _).alloc (by simp) _
  have HI := hid (And.intro hb0 (And.intro hc0 (And.intro hm0 (And.intro hk0 (And.intro hM hs)))))
  clear hb0 hc0 hm0 hk0 hM hC hs
  go_enter Tryz.func52, Tryz.ntmps52
  go_wp2_with fail
  rw [hp]
  clear hp
  go_loopg [39] n (fun q i wr => q ≤ n ∧ i = .int .i64 (n - q) ∧ (∃ M', Blk wr w.heap.size M' 136 ∧ M'.size = n * 1) ∧ (∃ C', Blk wr sb C' 156 ∧ C'.size = 608 ∧ C'[436]? = some (.slice (some ⟨w.heap.size, 0, none⟩) n n)) ∧ Kept w.heap.size (· = sb) w wr)
  case atStart => exact ⟨by omega, by simp, ⟨M, HI.out.2.2.1, HI.out.2.2.2.2.1⟩, ⟨_, HI.out.1, by simpa using HI.out.2.2.2.2.2, HI.out.2.1⟩, HI.out.2.2.2.1⟩
  case round =>
    obtain ⟨hk, rfl, ⟨M', hM', hsM⟩, ⟨C', hC', hsC, h436⟩, hK⟩ := hrel
    obtain ⟨j, hj⟩ : ∃ j : Nat, j = n - gk := ⟨_, rfl⟩
    have e : (n : Int) - (gk : Int) = (j : Int) := by omega
    rw [e]
    have t0 : wr.cell? ⟨sb, 436, none⟩ = some (.slice (some ⟨w.heap.size, 0, none⟩) n n) := by rw [Blk.cell hC']; exact h436
    clear c0 f0
    by_cases h0 : gk = 0
    · have hlt : ¬ ((j : Int) < (n : Int)) := by omega
      have H := hid (And.intro hC' (And.intro hsC hK))
      clear hM' hsM hC' hsC h436 hK hj e h0
      go_wp2
      go_end0
      exact ⟨rfl, ⟨C', H.out.1, H.out.2.1⟩, H.out.2.2⟩
    · have hlt : (j : Int) < (n : Int) := by omega
      have hlt' : j < n := by omega
      have hs : j < M'.size := by omega
      have hcell : wr.cell? ⟨w.heap.size, j, none⟩ = some M'[j] := by rw [Blk.cell hM']; exact Array.getElem?_eq_getElem hs
      have hfz := Blk.frozen hM' j
      obtain ⟨cv, hcv⟩ : ∃ cv, cv = M'[j] := ⟨_, rfl⟩
      rw [← hcv] at hcell
      clear hcv
      have H := hid (And.intro hM' (And.intro hsM (And.intro hC' (And.intro hsC (And.intro h436 (And.intro hK (And.intro hj e)))))))
      clear hM' hsM hC' hsC h436 hK hj e hs
      go_wp2
      go_roundg (gk - 1)
      case measure => omega
      case rel =>
        have E := H.out.2.2.2.2.2.2
        exact ⟨by omega, by rw [show (n : Int) - ((gk - 1 : Nat) : Int) = (j : Int) + 1 by omega], ⟨_, Blk.set H.out.1 j _, by simpa using H.out.2.1⟩, ⟨C', Blk.set_other H.out.2.2.1 _ (by show w.heap.size ≠ sb; omega) _, H.out.2.2.2.1, H.out.2.2.2.2.1⟩, H.out.2.2.2.2.2.1.setCell (Or.inl (by simp)) _⟩
theorem info156 : (Tryz.prog.info? 156).map (·.size) = some 608 := by kernel_rfl
theorem SOut.setCells {sb : Nat} {a b : World} (h : SOut sb a b) : ∀ (vs : List Value) (o : Nat), SOut sb a (b.setCells sb o vs) := by
  intro vs
  induction vs generalizing b with
  | nil => intro o; exact h
  | cons v r ih => intro o; exact ih (h.set o v) (o + 1)

theorem pow_u : ∀ k : Fin 5, IntKind.u32.wrap (2 ^ k.val) = ((2 ^ k.val : Nat) : Int) ∧ 1 ≤ 2 ^ k.val ∧ 2 ^ k.val ≤ 16 := by decide +kernel
theorem zc156 : Tryz.zeroCells156.size = 608 := Tryz.zeroCells156_size
theorem zc156_one : Tryz.zeroCells156.all (·.oneCell') = true := by kernel_rfl

theorem all_set {C : Array Value} (h : C.all (·.oneCell') = true) (i : Nat) (v : Value) (hv : v.oneCell' = true) : (C.setIfInBounds i v).all (·.oneCell') = true := by
  refine Array.all_eq_true_iff_forall_mem.2 (fun x hx => ?_)
  rcases Array.mem_or_eq_of_mem_setIfInBounds hx with hx | hx
  · exact Array.all_eq_true_iff_forall_mem.1 h x hx
  · subst hx; exact hv
theorem cell_setCells_far (w : World) (b o : Nat) (vs : List Value) (x : Addr) (hx : x.block ≠ b) : (w.setCells b o vs).cell? x = w.cell? x :=
  World.cell?_setCells_out b vs o w x (fun h _ => absurd h hx)

/-- The state so far, and the local copy of lc and lp. -/
def RS (sb k lc lp : Nat) (w w' : World) : Prop := SOut sb w w' ∧ w'.cell? ⟨k, 0, none⟩ = some (.int .i64 lc) ∧ w'.cell? ⟨k, 1, none⟩ = some (.int .i64 lp)
theorem RS.step {sb k lc lp : Nat} {w a b : World} (h : RS sb k lc lp w a) (s : SOut sb a b) (hk : k ≠ sb) : RS sb k lc lp w b := by
  obtain ⟨h1, h2, h3⟩ := h
  have hlt := World.block_lt_of_cell? a _ h2
  have he : b.heap[k]? = a.heap[k]? := s.2.block k hlt hk
  exact ⟨h1.trans s, by rw [World.cell?_of_block (w := a) he]; exact h2, by rw [World.cell?_of_block (w := a) he]; exact h3⟩
theorem init_S (sb o n : Nat) {w0 w : World} (h : SOut sb w0 w) (hn : o + n ≤ 608) :
    Calls Tryz.prog 51 #[.slice (some ⟨sb, o, none⟩) n n] w fun e w' => e = .returned (.tuple #[]) ∧ SOut sb w w' := by
  obtain ⟨⟨C, hC, hs⟩, _⟩ := h
  exact init_s sb o n w C hC hs hn
theorem lit_S (sb lc lp : Nat) {w0 w : World} (h : SOut sb w0 w) (h1 : lc ≤ 8) (h2 : lp ≤ 4) :
    Calls Tryz.prog 52 #[.pointer (some ⟨sb, 436, none⟩), .int .i64 lc, .int .i64 lp] w fun e w' => e = .returned (.tuple #[]) ∧ SOut sb w w' := by
  obtain ⟨⟨C, hC, hs⟩, _⟩ := h
  exact litInit sb lc lp w C hC hs h1 h2
theorem length_S (sb o : Nat) {w0 w : World} (h : SOut sb w0 w) (hn : o + 68 ≤ 608) :
    Calls Tryz.prog 53 #[.pointer (some ⟨sb, o, none⟩)] w fun e w' => e = .returned (.tuple #[]) ∧ SOut sb w w' := by
  obtain ⟨⟨C, hC, hs⟩, _⟩ := h
  exact lengthInit sb o w C hC hs hn
theorem dist_S (sb o : Nat) {w0 w : World} (h : SOut sb w0 w) (hn : o + 30 ≤ 608) :
    Calls Tryz.prog 54 #[.pointer (some ⟨sb, o, none⟩)] w fun e w' => e = .returned (.tuple #[]) ∧ SOut sb w w' := by
  obtain ⟨⟨C, hC, hs⟩, _⟩ := h
  exact distInit sb o w C hC hs hn

set_option maxRecDepth 100000 in
set_option maxHeartbeats 1000000 in
theorem reset_any (sb lc lp pb : Nat) (w : World) (C : Array Value) (hC : Blk w sb C 156) (hs : C.size = 608) (h1 : lc ≤ 8) (h2 : lp ≤ 4) (h3 : pb ≤ 4)
    (p0 : C[605]? = some (.int .i64 lc)) (p1 : C[606]? = some (.int .i64 lp)) (p2 : C[607]? = some (.int .i64 pb)) :
    Calls Tryz.prog 45 #[.pointer (some ⟨sb, 0, none⟩)] w fun e w' => e = .returned (.tuple #[]) ∧ SOut sb w w' := by
  have c0 : w.cell? ⟨sb, 605, none⟩ = some (.int .i64 lc) := by rw [hC.cell]; exact p0
  have c1 : w.cell? ⟨sb, 606, none⟩ = some (.int .i64 lp) := by rw [hC.cell]; exact p1
  have c2 : w.cell? ⟨sb, 607, none⟩ = some (.int .i64 pb) := by rw [hC.cell]; exact p2
  have dl := hC.lt
  have H0 := hid (SOut.start hC hs)
  clear hC hs p0 p1 p2
  have hth : (w.alloc (.cells #[.int .i64 lc, .int .i64 lp, .int .i64 pb] 45)).there sb 0 608 := fun j hj => by
    obtain ⟨⟨v, h1⟩, h2⟩ := (H0.out.alloc (.cells #[.int .i64 lc, .int .i64 lp, .int .i64 pb] 45)).cell j hj
    rw [Nat.zero_add]
    exact ⟨by rw [h1]; rfl, h2⟩
  have HT := hid hth
  clear hth
  have n0 : (w.alloc (.cells #[.int .i64 lc, .int .i64 lp, .int .i64 pb] 45)).cell? ⟨w.heap.size, 0, none⟩ = some (.int .i64 lc) := by rw [(Blk.new w _ 45).cell]; rfl
  have n1 : (w.alloc (.cells #[.int .i64 lc, .int .i64 lp, .int .i64 pb] 45)).cell? ⟨w.heap.size, 1, none⟩ = some (.int .i64 lp) := by rw [(Blk.new w _ 45).cell]; rfl
  have HN := hid (And.intro n0 n1)
  clear n0 n1
  go_enter Tryz.func45, Tryz.ntmps45
  go_wp2_with (
    refine wpList_store_mid rfl 156 _ _ rfl sb 0 _ rfl rfl ?_ ?_ ?_ ?_
    · simp only [Array.size_setIfInBounds, zc156]; exact HT.out
    · simp only [Array.size_setIfInBounds, zc156]; exact info156
    · exact all_set (all_set (all_set (all_set zc156_one _ _ rfl) _ _ rfl) _ _ rfl) _ _ rfl
    have S1 := (H0.out.alloc (.cells #[.int .i64 lc, .int .i64 lp, .int .i64 pb] 45)).setCells
    generalize hL : Array.toList _ = L
    clear hL
    have S2 := S1 L 0
    have m0 : ((w.alloc (.cells #[.int .i64 lc, .int .i64 lp, .int .i64 pb] 45)).setCells sb 0 L).cell? ⟨w.heap.size, 0, none⟩ = some (.int .i64 lc) := by rw [cell_setCells_far _ _ _ _ _ (by show w.heap.size ≠ sb; omega)]; exact HN.out.1
    have m1 : ((w.alloc (.cells #[.int .i64 lc, .int .i64 lp, .int .i64 pb] 45)).setCells sb 0 L).cell? ⟨w.heap.size, 1, none⟩ = some (.int .i64 lp) := by rw [cell_setCells_far _ _ _ _ _ (by show w.heap.size ≠ sb; omega)]; exact HN.out.2
    have hz : (w.alloc (.cells #[.int .i64 lc, .int .i64 lp, .int .i64 pb] 45)).heap.size ≤ ((w.alloc (.cells #[.int .i64 lc, .int .i64 lp, .int .i64 pb] 45)).setCells sb 0 L).heap.size := (((SOut.start (S1 [] 0).1.choose_spec.1 (S1 [] 0).1.choose_spec.2).setCells L 0).2.size)
    clear S1
    generalize hw : World.setCells _ _ _ _ = w1 at *
    clear hw)
  have R0 := hid (show RS sb w.heap.size lc lp w w1 from ⟨S2, m0, m1⟩)
  clear S2 m0 m1 hz
  refine (init_S sb 4 192 R0.out.1 (by omega)).mono ?_
  rintro e a0 ⟨rfl, hS⟩
  have R1 := hid (R0.out.step hS (by omega))
  clear hS
  go_wp2_with fail
  refine (init_S sb 388 12 R1.out.1 (by omega)).mono ?_
  rintro e a1 ⟨rfl, hS⟩
  have R2 := hid (R1.out.step hS (by omega))
  clear hS
  go_wp2_with fail
  refine (init_S sb 400 12 R2.out.1 (by omega)).mono ?_
  rintro e a2 ⟨rfl, hS⟩
  have R3 := hid (R2.out.step hS (by omega))
  clear hS
  go_wp2_with fail
  refine (init_S sb 412 12 R3.out.1 (by omega)).mono ?_
  rintro e a3 ⟨rfl, hS⟩
  have R4 := hid (R3.out.step hS (by omega))
  clear hS
  go_wp2_with fail
  refine (init_S sb 424 12 R4.out.1 (by omega)).mono ?_
  rintro e a4 ⟨rfl, hS⟩
  have R5 := hid (R4.out.step hS (by omega))
  clear hS
  go_wp2_with fail
  refine (init_S sb 196 192 R5.out.1 (by omega)).mono ?_
  rintro e a5 ⟨rfl, hS⟩
  have R6 := hid (R5.out.step hS (by omega))
  clear hS
  go_wp2_with fail
  have m0 := R6.out.2.1
  have m1 := R6.out.2.2
  go_region_with (go_at_call 52; go_loud (refine (lit_S sb lc lp R6.out.1.drew h1 h2).mono ?_); rintro e a6 ⟨rfl, hS⟩)
  all_goals
    have T0 := hid (R6.out.1.drew.trans hS)
    clear hS
    go_wp2_with fail
    refine (length_S sb 437 T0.out (by omega)).mono ?_
    rintro e a7 ⟨rfl, hS⟩
    have T1 := hid (T0.out.trans hS)
    clear hS
    go_wp2_with fail
    refine (length_S sb 505 T1.out (by omega)).mono ?_
    rintro e a8 ⟨rfl, hS⟩
    have T2 := hid (T1.out.trans hS)
    clear hS
    go_wp2_with fail
    refine (dist_S sb 573 T2.out (by omega)).mono ?_
    rintro e a9 ⟨rfl, hS⟩
    have T3 := hid (T2.out.trans hS)
    clear hS
    go_wp2
    go_end0
    exact ⟨rfl, T3.out⟩

theorem zs156 (lc lp pb : Nat) : (((Tryz.zeroCells156.setIfInBounds 605 (.int .i64 lc)).setIfInBounds 606 (.int .i64 lp)).setIfInBounds 607 (.int .i64 pb)).size = 608 ∧
    (((Tryz.zeroCells156.setIfInBounds 605 (.int .i64 lc)).setIfInBounds 606 (.int .i64 lp)).setIfInBounds 607 (.int .i64 pb))[605]? = some (.int .i64 lc) ∧
    (((Tryz.zeroCells156.setIfInBounds 605 (.int .i64 lc)).setIfInBounds 606 (.int .i64 lp)).setIfInBounds 607 (.int .i64 pb))[606]? = some (.int .i64 lp) ∧
    (((Tryz.zeroCells156.setIfInBounds 605 (.int .i64 lc)).setIfInBounds 606 (.int .i64 lp)).setIfInBounds 607 (.int .i64 pb))[607]? = some (.int .i64 pb) := by
  have h := zc156
  refine ⟨by simp [h], ?_, ?_, ?_⟩
  · rw [Array.getElem?_setIfInBounds, if_neg (by omega), Array.getElem?_setIfInBounds, if_neg (by omega), Array.getElem?_setIfInBounds, if_pos rfl, if_pos (by omega)]
  · rw [Array.getElem?_setIfInBounds, if_neg (by omega), Array.getElem?_setIfInBounds, if_pos rfl, if_pos (by simp [h])]
  · rw [Array.getElem?_setIfInBounds, if_pos rfl, if_pos (by simp [h])]

set_option maxRecDepth 100000 in
set_option maxHeartbeats 1000000 in
theorem newState_any (lc lp pb : Nat) (w : World) (h1 : lc ≤ 8) (h2 : lp ≤ 4) (h3 : pb ≤ 4) :
    Calls Tryz.prog 32 #[.agg #[.int .i64 lc, .int .i64 lp, .int .i64 pb]] w fun e w' => e = .returned (.pointer (some ⟨w.heap.size + 1, 0, none⟩)) ∧ Below w.heap.size w w' := by
  obtain ⟨z0, z1, z2, z3⟩ := zs156 lc lp pb
  have HZ := hid (And.intro z0 (And.intro z1 (And.intro z2 z3)))
  clear z0 z1 z2 z3
  go_enter Tryz.func32, Tryz.ntmps32
  go_wp2_with fail
  refine (reset_any (w.heap.size + 1) lc lp pb _ _ ?_ HZ.out.1 h1 h2 h3 HZ.out.2.1 HZ.out.2.2.1 HZ.out.2.2.2).mono ?_
  · have := Blk.new (w.alloc (.cells #[.int .i64 lc, .int .i64 lp, .int .i64 pb] 45)) (((Tryz.zeroCells156.setIfInBounds 605 (.int .i64 lc)).setIfInBounds 606 (.int .i64 lp)).setIfInBounds 607 (.int .i64 pb)) 156
    simpa using this
  rintro e w1 ⟨rfl, hS⟩
  have HS := hid hS
  clear hS
  go_wp2
  go_ret
  exact ⟨rfl, (((Below.refl _ _).alloc (Nat.le_refl _) _).alloc (by simp) _).trans (HS.out.2.below (by simp; omega) (fun k hk => by subst hk; omega))⟩

end Go.Proofs.YtnkemepodpkhnaaGreatFmt
