/-
  PROVED: the 42 steps by which the reference's writer writes the end's symbol, each told by the pure state. Conditions: the chance's cell holds a half.
-/
import Derived.Test.YtnkemepodpkhnaaGreatFmtBits
import Derived.RegionTactic
import Derived.BigRegion
import Derived.Deep.AppendLies
import Derived.Deep.LoopGhost
import Derived.OwnWalk
import Derived.Deep.RegionWith
import Derived.Deep.QuietTactic
import Derived.BigQuiet
namespace Go.Proofs.YtnkemepodpkhnaaGreatFmt
open Go.ChangeShapes Go.WideShapes Go.ChangeAt Go.RowKit
/-- The kinds of the 42 steps of the end's symbol: a bit of a chance, or a plain one. -/
def kind (n : Nat) : Option Int := if 12 ≤ n ∧ n < 38 then none else if n = 0 ∨ 6 ≤ n then some 1 else some 0
/-- The writer behind n steps. -/
def St : Nat → WS
  | 0 => WS0
  | n + 1 => match kind n with | some v => (St n).bit v | none => (St n).plain

instance (s : WS) : Decidable s.Ok := by unfold WS.Ok; infer_instance
theorem St_ok : ∀ n, n ≤ 42 → (St n).Ok := by decide +kernel
def midAt (n : Nat) : WS := match kind n with | some v => (St n).mid v | none => (St n).mid1
theorem St_mid : ∀ n, n < 42 → (midAt n).Ok := by decide +kernel
theorem mid_bit {n : Nat} {v : Int} (h : kind n = some v) : midAt n = (St n).mid v := by simp only [midAt, h]
theorem mid_plain {n : Nat} (h : kind n = none) : midAt n = (St n).mid1 := by simp only [midAt, h]
theorem St_bit {n : Nat} {v : Int} (h : kind n = some v) : St (n + 1) = (St n).bit v := by simp only [St, h]
theorem St_plain {n : Nat} (h : kind n = none) : St (n + 1) = (St n).plain := by simp only [St, h]

theorem nil_bit (a : Addr) (w : World) : (nilAhead 360 51 (.pointer (some a)) "loop.example/pub-g03423/spec.bit").run Tryz.prog w = .ok (some false) w := by kernel_rfl
theorem method_bit (a : Addr) (w : World) : (method 360 51 (.pointer (some a)) "loop.example/pub-g03423/spec.bit").run Tryz.prog w = .ok (117, .pointer (some a)) w := by kernel_rfl

def TreeOut (xb b mb lo hi : Nat) (t : TypeId) (C : Array Value) (s : WS) (w w' : World) : Prop :=
  (∃ ov', Wr w' xb b ov' s) ∧ (∃ C', Blk w' mb C' t ∧ Upd lo hi C C') ∧ Kept b (fun k => k = xb ∨ k = mb) w w'

theorem bit_at (n : Nat) (xb b mb o : Nat) (t : TypeId) (ov : Value) (v : Int) (C : Array Value) (w : World) (hn : n < 42) (hk : kind n = some v) (hW : Wr w xb b ov (St n))
    (hC : Blk w mb C t) (hp : C[o]? = some (.int .u16 1024)) (hmb : mb < b) (hne : mb ≠ xb) (hv : v = 0 ∨ v = 1) :
    Calls Tryz.prog 117 #[.pointer (some ⟨xb, 0, none⟩), .pointer (some ⟨mb, o, none⟩), .int .i64 v] w fun e w' => e = .returned (.int .i64 v) ∧ TreeOut xb b mb o (o + 1) t C (St (n + 1)) w w' := by
  have h1 := St_mid n hn
  rw [mid_bit hk] at h1
  refine (bit_any xb b mb o t ov (St n) v C w hW (St_ok n (by omega)) h1 hC hp hmb hne hv).mono fun e w' ⟨he, hw, ⟨x, hx⟩, hkk⟩ => ⟨he, ?_, ⟨_, hx, Upd.set C o x⟩, hkk⟩
  rw [St_bit hk]; exact hw

theorem plain_at (n : Nat) (xb b : Nat) (ov : Value) (w : World) (hn : n < 42) (hk : kind n = none) (hW : Wr w xb b ov (St n)) :
    Calls Tryz.prog 118 #[.pointer (some ⟨xb, 0, none⟩), .int .i64 1] w fun e w' => e = .returned (.int .i64 1) ∧ WOut xb b (St (n + 1)) w w' := by
  have h1 := St_mid n hn
  rw [mid_plain hk] at h1
  refine (plain_one xb b ov (St n) w hW (St_ok n (by omega)) h1).mono fun e w' ⟨he, hw⟩ => ⟨he, ?_⟩
  rw [St_plain hk]; exact hw


end Go.Proofs.YtnkemepodpkhnaaGreatFmt
