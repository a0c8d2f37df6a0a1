/-
  PROVED: the reference's put gives so many bytes of a number, the lowest first. Conditions: at most eight bytes.
-/
import Derived.Test.YtnkemepodpkhnaaGreatFmtWriter
import Derived.RegionTactic
import Derived.BigRegion
import Derived.Deep.AppendLies
import Derived.Deep.LoopGhost
import Derived.OwnWalk
import Derived.Deep.RegionWith
import Derived.Deep.QuietTactic
import Derived.BigQuiet
namespace Go.Proofs.YtnkemepodpkhnaaGreatFmt
open Go.ChangeShapes Go.WideShapes Go.ChangeAt Go.RowKit
/-- So many bytes of a number, the lowest first. -/
def little (n : Int) (m : Nat) : List Int := (List.range m).map fun k => n / 2 ^ (8 * k) % 256

def PutOut (n : Int) (m : Nat) (w : World) (e : Ending) (w' : World) : Prop :=
  ∃ ov, e = .returned ov ∧ w'.ownsRow w.heap.size 5 1 ov m ((little n m).map (Value.int .u8)) ∧ Below w.heap.size w w'

set_option maxRecDepth 100000 in
set_option maxHeartbeats 1000000 in
theorem put_any (n : Int) (m : Nat) (w : World) (_h1 : -9223372036854775808 ≤ n) (_h2 : n ≤ 9223372036854775807) (hm : m ≤ 8) :
    Calls Tryz.prog 7 #[.int .i64 n, .int .i64 m] w (PutOut n m w) := by
  obtain ⟨i0, hi0, hz0, hz1, hz2⟩ := info_parts info5
  go_enter Tryz.func7, Tryz.ntmps7
  go_wp2_with fail
  go_loopg [5, 9] m (fun k s i wr => ∃ ov, k ≤ m ∧ s = ov ∧ i = .int .i64 (m - k) ∧ wr.ownsRow w.heap.size 5 1 ov (m - k) ((little n (m - k)).map (Value.int .u8)) ∧ Below w.heap.size w wr)
  case atStart =>
    refine ⟨_, by omega, rfl, by simp, ?_, (Below.refl _ _).alloc (Nat.le_refl _) _⟩
    rw [Nat.sub_self]
    exact World.ownsRow_made w #[] 0 (Nat.le_refl _) (by unfold maxLen; omega) rfl
  case round =>
    obtain ⟨ov, hk, rfl, rfl, hown, hB⟩ := hrel
    obtain ⟨j, hj⟩ : ∃ j : Nat, j = m - gk := ⟨_, rfl⟩
    have e : (m : Int) - (gk : Int) = (j : Int) := by omega
    rw [← hj] at hown
    rw [e]
    have hbs := hB.size
    by_cases h0 : gk = 0
    · obtain rfl : j = m := by omega
      have hlt : ¬ ((j : Int) < (j : Int)) := by omega
      have H := hid (And.intro hown hB)
      clear hown hB e hj h0
      go_wp2_with fail
      go_ret
      exact ⟨_, rfl, H.out.1, H.out.2⟩
    · have hlt : (j : Int) < (m : Int) := by omega
      have hj8 : j < 8 := by omega
      have H := hid (And.intro hB (And.intro hj e))
      clear hB hj e
      have hl : (little n j).length = j := by simp [little]
      go_wp2_with (
        at_builtin
        go_must (refine wpList_append_lies _ (by rfl) _ _ _ (by rfl) w.heap.size 5 i0 _ 1 1 Tryz.underlying25 hi0 hz0 hz1 hz2 rfl (by omega) _ j ((little n j).map (Value.int .u8)) (by rfl) (hown.alloc _) ⟨wr.heap.size, 0, none⟩ 1 1 [.int .u8 (n / 2 ^ (8 * j) % 256)] (by rfl) (by rfl) (World.news_of_block (heap_alloc_new wr _)) (by simp [Value.oneCell']) (by omega) (by unfold maxLen; omega) (by omega) (by simp; omega) (wr.heap.size + 1) (by simp) ?_)
        intro g cap w1 hown1 hgrow hat hlt2)
      go_roundg (gk - 1)
      case measure => omega
      case rel =>
        have E := H.out.2
        refine ⟨_, by omega, rfl, by rw [show (m : Int) - ((gk - 1 : Nat) : Int) = (j : Int) + 1 by omega], ?_, (H.out.1.alloc (by omega) _).grown hgrow (by simp; omega) (fun k hk => (hown.lt k hk).1)⟩
        rw [show m - (gk - 1) = j + 1 by omega]
        have e2 : little n (j + 1) = little n j ++ [n / 2 ^ (8 * j) % 256] := by simp [little, List.range_succ]
        rw [e2, List.map_append]
        exact hown1

end Go.Proofs.YtnkemepodpkhnaaGreatFmt
