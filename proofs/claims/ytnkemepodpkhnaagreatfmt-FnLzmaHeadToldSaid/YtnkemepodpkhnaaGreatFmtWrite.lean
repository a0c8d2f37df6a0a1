/-
  PROVED: the reference writes the LZMA stream of no data: its head of thirteen bytes and the end's ten bytes, with or without a size. Conditions: lc at most 8, lp and pb at most 4, the dictionary's size fits 32 bits.
-/
import Derived.Test.YtnkemepodpkhnaaGreatFmtPacked
import Derived.Test.YtnkemepodpkhnaaGreatFmtPut
import Derived.RegionTactic
import Derived.BigRegion
import Derived.Deep.AppendLies
import Derived.Deep.LoopGhost
import Derived.OwnWalk
import Derived.Deep.RegionHeld3
import Derived.Deep.RegionWith
import Derived.Deep.QuietTactic
import Derived.BigQuiet
namespace Go.Proofs.YtnkemepodpkhnaaGreatFmt
open Go.ChangeShapes Go.WideShapes Go.ChangeAt Go.RowKit
theorem info34 : (Tryz.prog.info? 34).map (fun i => (i.zero, i.size, i.bytes)) = some (some (.agg #[.int .i64 0, .int .u8 0, .int .i64 0, .int .i64 0, .int .i64 0]), 5, 40) := by kernel_rfl

/-- The bytes of the stream. -/
def headOf (lc lp pb room : Nat) (sz : Int) : List Int := [(((pb * 5 + lp) * 9 + lc : Nat) : Int)] ++ little room 4 ++ little sz 8
def streamOf (lc lp pb room : Nat) (sz : Int) : List Int := headOf lc lp pb room sz ++ [0, 131, 255, 251, 255, 255, 192, 0, 0, 0]

def WriteOut (lc lp pb room : Nat) (sz : Int) (w : World) (e : Ending) (w' : World) : Prop :=
  ∃ ov, e = .returned ov ∧ w'.ownsRow w.heap.size 5 1 ov 23 ((streamOf lc lp pb room sz).map (Value.int .u8)) ∧ Below w.heap.size w w'

/-- The cells of an own row, for an append. -/
theorem ownsRow_news {w : World} {b e n : Nat} {ov : Value} {xs : List Value} (h : w.ownsRow b e 1 ov n xs) (hn : 0 < n) : ∃ g cap, ov = .slice (some ⟨g, 0, none⟩) n cap ∧ b ≤ g ∧ ∀ j u, xs[j]? = some u → w.cell? ((⟨g, 0, none⟩ : Addr).add j) = some u := by
  obtain ⟨h1, h2⟩ := h
  rcases h2 with ⟨_, h2⟩ | ⟨g, cap, cur, e1, e2, e3, e4, e5, e6, e7⟩
  · omega
  · refine ⟨g, cap, e1, e2, fun j u hu => ?_⟩
    have ea : (⟨g, 0, none⟩ : Addr).add j = ⟨g, j, none⟩ := by unfold Addr.add; split <;> simp_all
    rw [ea, cell_of_row w g j cur e (0, 0) e3]
    rw [← e7, List.getElem?_take] at hu
    split at hu
    · simpa using hu
    · cases hu

theorem ownsRow_keep {w w' : World} {b e sz n : Nat} {ov : Value} {xs : List Value} (h : w.ownsRow b e sz ov n xs) (hk : ∀ k, k < w.heap.size → ov.ownBlock = some k → w'.heap[k]? = w.heap[k]?) : w'.ownsRow b e sz ov n xs := by
  have hlt := h.lt
  obtain ⟨h1, h2⟩ := h
  refine ⟨h1, ?_⟩
  rcases h2 with h2 | ⟨g, cap, cur, e1, e2, e3, r⟩
  · exact .inl h2
  · refine .inr ⟨g, cap, cur, e1, e2, ?_, r⟩
    subst e1
    rw [hk g (hlt g rfl).2 rfl]; exact e3
theorem ownsRow_lower {w : World} {b b' e sz n : Nat} {ov : Value} {xs : List Value} (h : w.ownsRow b e sz ov n xs) (hb : b' ≤ b) : w.ownsRow b' e sz ov n xs := by
  obtain ⟨h1, h2⟩ := h
  refine ⟨h1, ?_⟩
  rcases h2 with h2 | ⟨g, cap, cur, e1, e2, r⟩
  · exact .inl h2
  · exact .inr ⟨g, cap, cur, e1, by omega, r⟩
theorem Below.of_kept {b m : Nat} {w w' : World} (h : Kept b (· = m) w w') {B : Nat} (hb : B ≤ b) (hm : B ≤ m) : Below B w w' := h.below hb (fun k hk => by subst hk; exact hm)
/-- A block known whole as an own row of bytes. -/
theorem ownsRow_blk {w : World} {k : Nat} {C : Array Value} (h : Blk w k C 5) (hm : C.size ≤ 1000) : w.ownsRow k 5 1 (.slice (some ⟨k, 0, none⟩) C.size C.size) C.size C.toList :=
  ⟨by simp, .inr ⟨k, C.size, C, rfl, Nat.le_refl _, h, Nat.le_refl _, by unfold maxLen; omega, by simp, by rw [List.take_of_length_le (by simp)]⟩⟩
theorem little_length (n : Int) (m : Nat) : (little n m).length = m := by simp [little]

set_option maxRecDepth 100000 in
set_option maxHeartbeats 2000000 in
theorem writeLzma_sized (lc lp pb room size : Nat) (w : World) (h1 : lc ≤ 8) (h2 : lp ≤ 4) (h3 : pb ≤ 4) (h4 : room ≤ 4294967295) (h5 : size ≤ 1000000) :
    Calls Tryz.prog 5 #[.int .i64 lc, .int .i64 lp, .int .i64 pb, .int .i64 room, .int .i64 size, .bool true, .slice none 0 0, .bool true] w (WriteOut lc lp pb room size w) := by
  obtain ⟨i0, hi0, hz0, hz1, hz2⟩ := info_parts info34
  have hn0 : Blk ((w.alloc (.cells #[] 34)).alloc (.cells #[.int .i64 4, .int .u8 0, .int .i64 0, .int .i64 0, .int .i64 0] 34)) (w.heap.size + 1) #[.int .i64 4, .int .u8 0, .int .i64 0, .int .i64 0, .int .i64 0] 34 := by
    have := Blk.new (w.alloc (.cells #[] 34)) #[.int .i64 4, .int .u8 0, .int .i64 0, .int .i64 0, .int .i64 0] 34
    simpa using this
  have HN := hid hn0
  clear hn0
  go_enter Tryz.func5, Tryz.ntmps5
  go_wp2_with (
    at_builtin
    (refine wpList_append_lies _ (by rfl) _ _ _ (by rfl) w.heap.size 34 i0 _ 5 40 Tryz.underlying32 hi0 hz0 hz1 hz2 rfl (by omega) _ 0 [] (by rfl) (((World.ownsRow_made w #[] 0 (Nat.le_refl _) (by unfold maxLen; omega) rfl)).alloc _) ⟨w.heap.size + 1, 0, none⟩ 1 1 [.int .i64 4, .int .u8 0, .int .i64 0, .int .i64 0, .int .i64 0] (by rfl) (by rfl) (World.news_of_block HN.out) (by simp [Value.oneCell']) (by omega) (by unfold maxLen; omega) (by omega) (by simp; omega) (w.heap.size + 2) (by simp) ?_)
    intro g cap w1 hown1 hgrow hat hlt2)
  have hsz1 := hgrow.size
  have hb1 : Below w.heap.size w w1 := (((Below.refl _ _).alloc (Nat.le_refl _) _).alloc (by simp) _).grown hgrow (by simp; omega) (fun k hk => by simp [Value.ownBlock] at hk; omega)
  obtain ⟨D, hD, hd⟩ : ∃ D, Blk w1 g D 34 ∧ D[0]? = some (.int .i64 4) ∧ D[1]? = some (.int .u8 0) ∧ D[2]? = some (.int .i64 0) ∧ D[3]? = some (.int .i64 0) ∧ D[4]? = some (.int .i64 0) := by
    rcases hown1.2 with ⟨h', _⟩ | ⟨g', cap', cur, e1, e2, e3, e4, e5, e6, e7⟩
    · cases h'
    · simp only [Value.slice.injEq, Option.some.injEq, Addr.mk.injEq, and_true, true_and] at e1
      obtain ⟨rfl, rfl⟩ := e1
      have hj : ∀ (j : Nat) (v : Value), ([.int .i64 4, .int .u8 0, .int .i64 0, .int .i64 0, .int .i64 0] : List Value)[j]? = some v → cur[j]? = some v := fun j v hv => by
        have h := congrArg (fun l : List Value => l[j]?) e7
        simp only [List.nil_append] at h
        rw [hv, List.getElem?_take] at h
        split at h
        · simpa using h
        · cases h
      exact ⟨cur, e3, hj 0 _ rfl, hj 1 _ rfl, hj 2 _ rfl, hj 3 _ rfl, hj 4 _ rfl⟩
  simp at hsz1
  have H1 := hid (And.intro hb1 (And.intro hD hd))
  clear hb1 hD hd hown1 hgrow hat
  obtain ⟨j0, hj0, hy0, hy1, hy2⟩ := info_parts info5
  have hc1 : Blk (w1.alloc (.cells #[.int .u8 ((pb * 5 + lp) * 9 + lc)] 5)) w1.heap.size #[.int .u8 ((pb * 5 + lp) * 9 + lc)] 5 := Blk.new _ _ _
  have HC := hid hc1
  clear hc1
  refine (put_any room 4 _ (by omega) (by omega) (by omega)).mono ?_
  rintro e w2 ⟨ov2, rfl, hO2, hB2⟩
  obtain ⟨g2, cap2, rfl, hg2, hn2⟩ := ownsRow_news hO2 (by omega)
  simp only [World.size_alloc] at hO2 hB2 hg2
  have hs2 := hB2.size
  simp only [World.size_alloc] at hs2
  have hr2 : w2.ownsRow w1.heap.size 5 1 (.slice (some ⟨w1.heap.size, 0, none⟩) 1 1) 1 [.int .u8 ((pb * 5 + lp) * 9 + lc)] := ownsRow_blk (HC.out.below hB2 (by omega)) (by simp)
  have hl4 : ((little room 4).map (Value.int .u8)).length = 4 * 1 := by simp [little_length]
  have h14 : ∀ u ∈ (little room 4).map (Value.int .u8), u.oneCell' = true := fun u hu => by
    obtain ⟨x, _, rfl⟩ := List.mem_map.1 hu; rfl
  have H2 := hid (And.intro hO2 (And.intro hB2 (And.intro hr2 (And.intro hn2 (And.intro hl4 h14)))))
  clear hO2 hB2 hr2 hn2 hl4 h14
  go_wp2_with (
    at_builtin
    (refine wpList_append_lies _ (by rfl) _ _ _ (by rfl) w1.heap.size 5 j0 _ 1 1 Tryz.underlying25 hj0 hy0 hy1 hy2 rfl (by omega) _ 1 [.int .u8 ((pb * 5 + lp) * 9 + lc)] (by rfl) H2.out.2.2.1 ⟨g2, 0, none⟩ 4 cap2 ((little room 4).map (Value.int .u8)) (by rfl) H2.out.2.2.2.2.1 H2.out.2.2.2.1 H2.out.2.2.2.2.2 (by omega) (by unfold maxLen; omega) (by omega) (by omega) w2.heap.size rfl ?_)
    intro g3 cap3 w3 hown3 hgrow3 hat3 hlt3)
  have hg1 := H1.out.2.1.lt
  have hs3 := hgrow3.size
  have hg3 := (hown3.lt g3 rfl).1
  have hb3 : Below w.heap.size w w3 := ((((H1.out.1.alloc (by omega) _).trans (H2.out.2.1.mono (by omega)))).grown hgrow3 (by omega) (fun k hk => by simp [Value.ownBlock] at hk; omega))
  have hd3 : Blk w3 g D 34 := (((H1.out.2.1.alloc _).below H2.out.2.1 (by omega)).grown hgrow3 (by simp [Value.ownBlock]; omega))
  have H3 := hid (And.intro hown3 (And.intro hb3 hd3))
  clear hown3 hb3 hd3 hgrow3 hat3
  refine (put_any size 8 w3 (by omega) (by omega) (by omega)).mono ?_
  rintro e w4 ⟨ov4, rfl, hO4, hB4⟩
  obtain ⟨g4, cap4, rfl, hg4, hn4⟩ := ownsRow_news hO4 (by omega)
  have hs4 := hB4.size
  have hr4 := ownsRow_keep H3.out.1 (w' := w4) (fun k hk _ => hB4.block k hk)
  have hl8 : ((little size 8).map (Value.int .u8)).length = 8 * 1 := by simp [little_length]
  have h18 : ∀ u ∈ (little size 8).map (Value.int .u8), u.oneCell' = true := fun u hu => by
    obtain ⟨x, _, rfl⟩ := List.mem_map.1 hu; rfl
  have H4 := hid (And.intro hB4 (And.intro hr4 (And.intro hn4 (And.intro hl8 h18))))
  clear hB4 hr4 hn4 hl8 h18 hO4
  go_wp2_with (
    at_builtin
    (refine wpList_append_lies _ (by rfl) _ _ _ (by rfl) w1.heap.size 5 j0 _ 1 1 Tryz.underlying25 hj0 hy0 hy1 hy2 rfl (by omega) _ 5 _ (by rfl) H4.out.2.1 ⟨g4, 0, none⟩ 8 cap4 ((little size 8).map (Value.int .u8)) (by rfl) H4.out.2.2.2.1 H4.out.2.2.1 H4.out.2.2.2.2 (by omega) (by unfold maxLen; omega) (by omega) (by omega) w4.heap.size rfl ?_)
    intro g5 cap5 w5 hown5 hgrow5 hat5 hlt5)
  have hs5 := hgrow5.size
  have hg5 := (hown5.lt g5 rfl).1
  have hb5 : Below w.heap.size w w5 := (H3.out.2.1.trans (H4.out.1.mono (by omega))).grown hgrow5 (by omega) (fun k hk => by simp [Value.ownBlock] at hk; omega)
  have hd5 : Blk w5 g D 34 := (H3.out.2.2.below H4.out.1 (by omega)).grown hgrow5 (by simp [Value.ownBlock]; omega)
  have H5 := hid (And.intro hown5 (And.intro hb5 hd5))
  clear hown5 hb5 hd5 hgrow5 hat5
  refine (newModel lc lp pb w5 h1 h2).mono ?_
  rintro e w6 ⟨rfl, ⟨C, hC6, hpb6, hch6, hst6, hre6⟩, hB6, hm6⟩
  have hs6 := hB6.size
  have H6 := hid (And.intro hC6 (And.intro hpb6 (And.intro hch6 (And.intro hst6 (And.intro hre6 hB6)))))
  clear hC6 hpb6 hch6 hst6 hre6 hB6
  go_wp2_with fail
  refine (packed_end (w5.heap.size + 1) g cap C D 34 pb w6 h3 H6.out.1 H6.out.2.1 H6.out.2.2.1 H6.out.2.2.2.1 H6.out.2.2.2.2.1 (H5.out.2.2.below H6.out.2.2.2.2.2 (by omega)) H1.out.2.2 (by omega)).mono ?_
  rintro e w7 ⟨ov7, rfl, hO7, hK7⟩
  obtain ⟨g7, cap7, rfl, hg7, hn7⟩ := ownsRow_news hO7 (by omega)
  have hs7 := hK7.size
  have hr7 := ownsRow_keep H5.out.1 (w' := w7) (fun k hk _ => by rw [hK7.block k (by omega) (by omega)]; exact H6.out.2.2.2.2.2.block k hk)
  have h17 : ∀ u ∈ ([0, 131, 255, 251, 255, 255, 192, 0, 0, 0] : List Int).map (Value.int .u8), u.oneCell' = true := fun u hu => by
    obtain ⟨x, _, rfl⟩ := List.mem_map.1 hu; rfl
  have H7 := hid (And.intro hK7 (And.intro hr7 (And.intro hn7 h17)))
  clear hK7 hr7 hn7 hO7 h17
  go_wp2_with (
    at_builtin
    (refine wpList_append_lies _ (by rfl) _ _ _ (by rfl) w1.heap.size 5 j0 _ 1 1 Tryz.underlying25 hj0 hy0 hy1 hy2 rfl (by omega) _ 13 _ (by rfl) H7.out.2.1 ⟨g7, 0, none⟩ 10 cap7 (([0, 131, 255, 251, 255, 255, 192, 0, 0, 0] : List Int).map (Value.int .u8)) (by rfl) rfl H7.out.2.2.1 H7.out.2.2.2 (by omega) (by unfold maxLen; omega) (by omega) (by omega) w7.heap.size rfl ?_)
    intro g8 cap8 w8 hown8 hgrow8 hat8 hlt8)
  go_ret
  refine ⟨_, rfl, ?_, ?_⟩
  · have h := ownsRow_lower hown8 (b' := w.heap.size) (by omega)
    have e : (((pb * 5 + lp) * 9 + lc : Nat) : Int) = ((pb : Int) * 5 + lp) * 9 + lc := by omega
    simp only [streamOf, headOf, e, List.map_append, List.append_assoc, List.map_cons, List.map_nil] at h ⊢
    exact h
  · exact ((H5.out.2.1.trans (H6.out.2.2.2.2.2.mono (by omega))).trans (Below.of_kept H7.out.1 (by omega) (by omega))).grown hgrow8 (by omega) (fun k hk => by simp [Value.ownBlock] at hk; omega)

set_option maxRecDepth 100000 in
set_option maxHeartbeats 2000000 in
theorem writeLzma_open (lc lp pb room size : Nat) (w : World) (h1 : lc ≤ 8) (h2 : lp ≤ 4) (h3 : pb ≤ 4) (h4 : room ≤ 4294967295) (_h5 : size ≤ 1000000) :
    Calls Tryz.prog 5 #[.int .i64 lc, .int .i64 lp, .int .i64 pb, .int .i64 room, .int .i64 size, .bool false, .slice none 0 0, .bool true] w (WriteOut lc lp pb room (-1) w) := by
  obtain ⟨i0, hi0, hz0, hz1, hz2⟩ := info_parts info34
  have hn0 : Blk ((w.alloc (.cells #[] 34)).alloc (.cells #[.int .i64 4, .int .u8 0, .int .i64 0, .int .i64 0, .int .i64 0] 34)) (w.heap.size + 1) #[.int .i64 4, .int .u8 0, .int .i64 0, .int .i64 0, .int .i64 0] 34 := by
    have := Blk.new (w.alloc (.cells #[] 34)) #[.int .i64 4, .int .u8 0, .int .i64 0, .int .i64 0, .int .i64 0] 34
    simpa using this
  have HN := hid hn0
  clear hn0
  go_enter Tryz.func5, Tryz.ntmps5
  go_wp2_with (
    at_builtin
    (refine wpList_append_lies _ (by rfl) _ _ _ (by rfl) w.heap.size 34 i0 _ 5 40 Tryz.underlying32 hi0 hz0 hz1 hz2 rfl (by omega) _ 0 [] (by rfl) (((World.ownsRow_made w #[] 0 (Nat.le_refl _) (by unfold maxLen; omega) rfl)).alloc _) ⟨w.heap.size + 1, 0, none⟩ 1 1 [.int .i64 4, .int .u8 0, .int .i64 0, .int .i64 0, .int .i64 0] (by rfl) (by rfl) (World.news_of_block HN.out) (by simp [Value.oneCell']) (by omega) (by unfold maxLen; omega) (by omega) (by simp; omega) (w.heap.size + 2) (by simp) ?_)
    intro g cap w1 hown1 hgrow hat hlt2)
  have hsz1 := hgrow.size
  have hb1 : Below w.heap.size w w1 := (((Below.refl _ _).alloc (Nat.le_refl _) _).alloc (by simp) _).grown hgrow (by simp; omega) (fun k hk => by simp [Value.ownBlock] at hk; omega)
  obtain ⟨D, hD, hd⟩ : ∃ D, Blk w1 g D 34 ∧ D[0]? = some (.int .i64 4) ∧ D[1]? = some (.int .u8 0) ∧ D[2]? = some (.int .i64 0) ∧ D[3]? = some (.int .i64 0) ∧ D[4]? = some (.int .i64 0) := by
    rcases hown1.2 with ⟨h', _⟩ | ⟨g', cap', cur, e1, e2, e3, e4, e5, e6, e7⟩
    · cases h'
    · simp only [Value.slice.injEq, Option.some.injEq, Addr.mk.injEq, and_true, true_and] at e1
      obtain ⟨rfl, rfl⟩ := e1
      have hj : ∀ (j : Nat) (v : Value), ([.int .i64 4, .int .u8 0, .int .i64 0, .int .i64 0, .int .i64 0] : List Value)[j]? = some v → cur[j]? = some v := fun j v hv => by
        have h := congrArg (fun l : List Value => l[j]?) e7
        simp only [List.nil_append] at h
        rw [hv, List.getElem?_take] at h
        split at h
        · simpa using h
        · cases h
      exact ⟨cur, e3, hj 0 _ rfl, hj 1 _ rfl, hj 2 _ rfl, hj 3 _ rfl, hj 4 _ rfl⟩
  simp at hsz1
  have H1 := hid (And.intro hb1 (And.intro hD hd))
  clear hb1 hD hd hown1 hgrow hat
  obtain ⟨j0, hj0, hy0, hy1, hy2⟩ := info_parts info5
  have hc1 : Blk (w1.alloc (.cells #[.int .u8 ((pb * 5 + lp) * 9 + lc)] 5)) w1.heap.size #[.int .u8 ((pb * 5 + lp) * 9 + lc)] 5 := Blk.new _ _ _
  have HC := hid hc1
  clear hc1
  refine (put_any room 4 _ (by omega) (by omega) (by omega)).mono ?_
  rintro e w2 ⟨ov2, rfl, hO2, hB2⟩
  obtain ⟨g2, cap2, rfl, hg2, hn2⟩ := ownsRow_news hO2 (by omega)
  simp only [World.size_alloc] at hO2 hB2 hg2
  have hs2 := hB2.size
  simp only [World.size_alloc] at hs2
  have hr2 : w2.ownsRow w1.heap.size 5 1 (.slice (some ⟨w1.heap.size, 0, none⟩) 1 1) 1 [.int .u8 ((pb * 5 + lp) * 9 + lc)] := ownsRow_blk (HC.out.below hB2 (by omega)) (by simp)
  have hl4 : ((little room 4).map (Value.int .u8)).length = 4 * 1 := by simp [little_length]
  have h14 : ∀ u ∈ (little room 4).map (Value.int .u8), u.oneCell' = true := fun u hu => by
    obtain ⟨x, _, rfl⟩ := List.mem_map.1 hu; rfl
  have H2 := hid (And.intro hO2 (And.intro hB2 (And.intro hr2 (And.intro hn2 (And.intro hl4 h14)))))
  clear hO2 hB2 hr2 hn2 hl4 h14
  go_wp2_with (
    at_builtin
    (refine wpList_append_lies _ (by rfl) _ _ _ (by rfl) w1.heap.size 5 j0 _ 1 1 Tryz.underlying25 hj0 hy0 hy1 hy2 rfl (by omega) _ 1 [.int .u8 ((pb * 5 + lp) * 9 + lc)] (by rfl) H2.out.2.2.1 ⟨g2, 0, none⟩ 4 cap2 ((little room 4).map (Value.int .u8)) (by rfl) H2.out.2.2.2.2.1 H2.out.2.2.2.1 H2.out.2.2.2.2.2 (by omega) (by unfold maxLen; omega) (by omega) (by omega) w2.heap.size rfl ?_)
    intro g3 cap3 w3 hown3 hgrow3 hat3 hlt3)
  have hg1 := H1.out.2.1.lt
  have hs3 := hgrow3.size
  have hg3 := (hown3.lt g3 rfl).1
  have hb3 : Below w.heap.size w w3 := ((((H1.out.1.alloc (by omega) _).trans (H2.out.2.1.mono (by omega)))).grown hgrow3 (by omega) (fun k hk => by simp [Value.ownBlock] at hk; omega))
  have hd3 : Blk w3 g D 34 := (((H1.out.2.1.alloc _).below H2.out.2.1 (by omega)).grown hgrow3 (by simp [Value.ownBlock]; omega))
  have H3 := hid (And.intro hown3 (And.intro hb3 hd3))
  clear hown3 hb3 hd3 hgrow3 hat3
  refine (put_any (-1) 8 w3 (by omega) (by omega) (by omega)).mono ?_
  rintro e w4 ⟨ov4, rfl, hO4, hB4⟩
  obtain ⟨g4, cap4, rfl, hg4, hn4⟩ := ownsRow_news hO4 (by omega)
  have hs4 := hB4.size
  have hr4 := ownsRow_keep H3.out.1 (w' := w4) (fun k hk _ => hB4.block k hk)
  have hl8 : ((little (-1) 8).map (Value.int .u8)).length = 8 * 1 := by simp [little_length]
  have h18 : ∀ u ∈ (little (-1) 8).map (Value.int .u8), u.oneCell' = true := fun u hu => by
    obtain ⟨x, _, rfl⟩ := List.mem_map.1 hu; rfl
  have H4 := hid (And.intro hB4 (And.intro hr4 (And.intro hn4 (And.intro hl8 h18))))
  clear hB4 hr4 hn4 hl8 h18 hO4
  go_wp2_with (
    at_builtin
    (refine wpList_append_lies _ (by rfl) _ _ _ (by rfl) w1.heap.size 5 j0 _ 1 1 Tryz.underlying25 hj0 hy0 hy1 hy2 rfl (by omega) _ 5 _ (by rfl) H4.out.2.1 ⟨g4, 0, none⟩ 8 cap4 ((little (-1) 8).map (Value.int .u8)) (by rfl) H4.out.2.2.2.1 H4.out.2.2.1 H4.out.2.2.2.2 (by omega) (by unfold maxLen; omega) (by omega) (by omega) w4.heap.size rfl ?_)
    intro g5 cap5 w5 hown5 hgrow5 hat5 hlt5)
  have hs5 := hgrow5.size
  have hg5 := (hown5.lt g5 rfl).1
  have hb5 : Below w.heap.size w w5 := (H3.out.2.1.trans (H4.out.1.mono (by omega))).grown hgrow5 (by omega) (fun k hk => by simp [Value.ownBlock] at hk; omega)
  have hd5 : Blk w5 g D 34 := (H3.out.2.2.below H4.out.1 (by omega)).grown hgrow5 (by simp [Value.ownBlock]; omega)
  have H5 := hid (And.intro hown5 (And.intro hb5 hd5))
  clear hown5 hb5 hd5 hgrow5 hat5
  refine (newModel lc lp pb w5 h1 h2).mono ?_
  rintro e w6 ⟨rfl, ⟨C, hC6, hpb6, hch6, hst6, hre6⟩, hB6, hm6⟩
  have hs6 := hB6.size
  have H6 := hid (And.intro hC6 (And.intro hpb6 (And.intro hch6 (And.intro hst6 (And.intro hre6 hB6)))))
  clear hC6 hpb6 hch6 hst6 hre6 hB6
  go_wp2_with fail
  refine (packed_end (w5.heap.size + 1) g cap C D 34 pb w6 h3 H6.out.1 H6.out.2.1 H6.out.2.2.1 H6.out.2.2.2.1 H6.out.2.2.2.2.1 (H5.out.2.2.below H6.out.2.2.2.2.2 (by omega)) H1.out.2.2 (by omega)).mono ?_
  rintro e w7 ⟨ov7, rfl, hO7, hK7⟩
  obtain ⟨g7, cap7, rfl, hg7, hn7⟩ := ownsRow_news hO7 (by omega)
  have hs7 := hK7.size
  have hr7 := ownsRow_keep H5.out.1 (w' := w7) (fun k hk _ => by rw [hK7.block k (by omega) (by omega)]; exact H6.out.2.2.2.2.2.block k hk)
  have h17 : ∀ u ∈ ([0, 131, 255, 251, 255, 255, 192, 0, 0, 0] : List Int).map (Value.int .u8), u.oneCell' = true := fun u hu => by
    obtain ⟨x, _, rfl⟩ := List.mem_map.1 hu; rfl
  have H7 := hid (And.intro hK7 (And.intro hr7 (And.intro hn7 h17)))
  clear hK7 hr7 hn7 hO7 h17
  go_wp2_with (
    at_builtin
    (refine wpList_append_lies _ (by rfl) _ _ _ (by rfl) w1.heap.size 5 j0 _ 1 1 Tryz.underlying25 hj0 hy0 hy1 hy2 rfl (by omega) _ 13 _ (by rfl) H7.out.2.1 ⟨g7, 0, none⟩ 10 cap7 (([0, 131, 255, 251, 255, 255, 192, 0, 0, 0] : List Int).map (Value.int .u8)) (by rfl) rfl H7.out.2.2.1 H7.out.2.2.2 (by omega) (by unfold maxLen; omega) (by omega) (by omega) w7.heap.size rfl ?_)
    intro g8 cap8 w8 hown8 hgrow8 hat8 hlt8)
  go_ret
  refine ⟨_, rfl, ?_, ?_⟩
  · have h := ownsRow_lower hown8 (b' := w.heap.size) (by omega)
    have e : (((pb * 5 + lp) * 9 + lc : Nat) : Int) = ((pb : Int) * 5 + lp) * 9 + lc := by omega
    simp only [streamOf, headOf, e, List.map_append, List.append_assoc, List.map_cons, List.map_nil] at h ⊢
    exact h
  · exact ((H5.out.2.1.trans (H6.out.2.2.2.2.2.mono (by omega))).trans (Below.of_kept H7.out.1 (by omega) (by omega))).grown hgrow8 (by omega) (fun k hk => by simp [Value.ownBlock] at hk; omega)

end Go.Proofs.YtnkemepodpkhnaaGreatFmt
