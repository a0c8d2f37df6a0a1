/-
  PROVED: the package's header of an LZMA stream unmarshals to the fields that its bytes hold. Conditions: the properties byte is below 225 and the size is at most a million or unknown.
-/
import Derived.Test.YtnkemepodpkhnaaGreatFmtDict
import Derived.Laws.BitsAllLaws
import Derived.RegionTactic
import Derived.BigRegion
import Derived.Deep.AppendLies
import Derived.Deep.LoopGhost
import Derived.OwnWalk
import Derived.Deep.RegionWith
import Derived.Deep.QuietTactic
import Derived.BigQuiet
namespace Go.Proofs.YtnkemepodpkhnaaGreatFmt
open Go.ChangeShapes Go.WideShapes Go.ChangeAt Go.RowKit
theorem or_add (a b i : Nat) (hb : b < 2 ^ i) : 2 ^ i * a ||| b = 2 ^ i * a + b := (Nat.two_pow_add_eq_or_of_lt hb a).symm

theorem le32 (r0 r1 r2 r3 : Nat) (h0 : r0 < 256) (h1 : r1 < 256) (h2 : r2 < 256) (h3 : r3 < 256) :
    bits BinOp.or IntKind.u32 (bits BinOp.or IntKind.u32 (bits BinOp.or IntKind.u32 ((r3 : Int) * 16777216) ((r2 : Int) * 65536)) ((r1 : Int) * 256)) (r0 : Int) = ((r3 * 16777216 + r2 * 65536 + r1 * 256 + r0 : Nat) : Int) := by
  have e1 : (r3 : Int) * 16777216 = ((r3 * 16777216 : Nat) : Int) := by omega
  have e2 : (r2 : Int) * 65536 = ((r2 * 65536 : Nat) : Int) := by omega
  have e3 : (r1 : Int) * 256 = ((r1 * 256 : Nat) : Int) := by omega
  have a1 : r3 * 16777216 ||| r2 * 65536 = r3 * 16777216 + r2 * 65536 := by
    have := or_add r3 (r2 * 65536) 24 (by omega)
    rwa [show 2 ^ 24 * r3 = r3 * 16777216 by omega] at this
  have a2 : (r3 * 16777216 + r2 * 65536) ||| r1 * 256 = r3 * 16777216 + r2 * 65536 + r1 * 256 := by
    have := or_add (r3 * 256 + r2) (r1 * 256) 16 (by omega)
    rwa [show 2 ^ 16 * (r3 * 256 + r2) = r3 * 16777216 + r2 * 65536 by omega] at this
  have a3 : (r3 * 16777216 + r2 * 65536 + r1 * 256) ||| r0 = r3 * 16777216 + r2 * 65536 + r1 * 256 + r0 := by
    have := or_add (r3 * 65536 + r2 * 256 + r1) r0 8 (by omega)
    rwa [show 2 ^ 8 * (r3 * 65536 + r2 * 256 + r1) = r3 * 16777216 + r2 * 65536 + r1 * 256 by omega] at this
  rw [e1, e2, e3, u32_or_nat _ _ (by omega) (by omega), a1, u32_or_nat _ _ (by omega) (by omega), a2, u32_or_nat _ _ (by omega) (by omega), a3]

set_option maxRecDepth 100000 in
set_option maxHeartbeats 1000000 in
theorem uint32LE (pb cap r0 r1 r2 r3 : Nat) (w : World) (h0 : r0 < 256) (h1 : r1 < 256) (h2 : r2 < 256) (h3 : r3 < 256)
    (c0 : w.cell? ⟨pb, 1, none⟩ = some (.int .u8 r0)) (c1 : w.cell? ⟨pb, 2, none⟩ = some (.int .u8 r1)) (c2 : w.cell? ⟨pb, 3, none⟩ = some (.int .u8 r2)) (c3 : w.cell? ⟨pb, 4, none⟩ = some (.int .u8 r3)) :
    Calls Tryz.prog 41 #[.slice (some ⟨pb, 1, none⟩) 12 cap] w fun e w' => e = .returned (.int .u32 (r3 * 16777216 + r2 * 65536 + r1 * 256 + r0 : Nat)) ∧ w = w' := by
  have HL := hid (le32 r0 r1 r2 r3 h0 h1 h2 h3)
  have i0 : (r0 : Int) < 256 := by omega
  have i1 : (r1 : Int) < 256 := by omega
  have i2 : (r2 : Int) < 256 := by omega
  have i3 : (r3 : Int) < 256 := by omega
  go_enter Tryz.func41, Tryz.ntmps41
  go_wp2
  go_ret
  rw [← HL.out]
  exact ⟨rfl, rfl⟩

theorem le64 (r0 r1 r2 r3 r4 r5 r6 r7 : Nat) (h0 : r0 < 256) (h1 : r1 < 256) (h2 : r2 < 256) (h3 : r3 < 256) (h4 : r4 < 256) (h5 : r5 < 256) (h6 : r6 < 256) (h7 : r7 < 256) :
    bits BinOp.or IntKind.u64 (bits BinOp.or IntKind.u64 (bits BinOp.or IntKind.u64 (bits BinOp.or IntKind.u64 (bits BinOp.or IntKind.u64 (bits BinOp.or IntKind.u64 (bits BinOp.or IntKind.u64 ((r7 : Int) * 72057594037927936) ((r6 : Int) * 281474976710656)) ((r5 : Int) * 1099511627776)) ((r4 : Int) * 4294967296)) ((r3 : Int) * 16777216)) ((r2 : Int) * 65536)) ((r1 : Int) * 256)) (r0 : Int) = ((r7 * 72057594037927936 + r6 * 281474976710656 + r5 * 1099511627776 + r4 * 4294967296 + r3 * 16777216 + r2 * 65536 + r1 * 256 + r0 : Nat) : Int) := by
  have e7 : (r7 : Int) * 72057594037927936 = ((r7 * 72057594037927936 : Nat) : Int) := by omega
  have e6 : (r6 : Int) * 281474976710656 = ((r6 * 281474976710656 : Nat) : Int) := by omega
  have e5 : (r5 : Int) * 1099511627776 = ((r5 * 1099511627776 : Nat) : Int) := by omega
  have e4 : (r4 : Int) * 4294967296 = ((r4 * 4294967296 : Nat) : Int) := by omega
  have e3 : (r3 : Int) * 16777216 = ((r3 * 16777216 : Nat) : Int) := by omega
  have e2 : (r2 : Int) * 65536 = ((r2 * 65536 : Nat) : Int) := by omega
  have e1 : (r1 : Int) * 256 = ((r1 * 256 : Nat) : Int) := by omega
  have a6 : (r7 * 72057594037927936) ||| r6 * 281474976710656 = r7 * 72057594037927936 + r6 * 281474976710656 := by
    have := or_add (r7) (r6 * 281474976710656) 56 (by omega)
    rwa [show 2 ^ 56 * (r7) = r7 * 72057594037927936 by omega] at this
  have a5 : (r7 * 72057594037927936 + r6 * 281474976710656) ||| r5 * 1099511627776 = r7 * 72057594037927936 + r6 * 281474976710656 + r5 * 1099511627776 := by
    have := or_add (r7 * 256 + r6) (r5 * 1099511627776) 48 (by omega)
    rwa [show 2 ^ 48 * (r7 * 256 + r6) = r7 * 72057594037927936 + r6 * 281474976710656 by omega] at this
  have a4 : (r7 * 72057594037927936 + r6 * 281474976710656 + r5 * 1099511627776) ||| r4 * 4294967296 = r7 * 72057594037927936 + r6 * 281474976710656 + r5 * 1099511627776 + r4 * 4294967296 := by
    have := or_add (r7 * 65536 + r6 * 256 + r5) (r4 * 4294967296) 40 (by omega)
    rwa [show 2 ^ 40 * (r7 * 65536 + r6 * 256 + r5) = r7 * 72057594037927936 + r6 * 281474976710656 + r5 * 1099511627776 by omega] at this
  have a3 : (r7 * 72057594037927936 + r6 * 281474976710656 + r5 * 1099511627776 + r4 * 4294967296) ||| r3 * 16777216 = r7 * 72057594037927936 + r6 * 281474976710656 + r5 * 1099511627776 + r4 * 4294967296 + r3 * 16777216 := by
    have := or_add (r7 * 16777216 + r6 * 65536 + r5 * 256 + r4) (r3 * 16777216) 32 (by omega)
    rwa [show 2 ^ 32 * (r7 * 16777216 + r6 * 65536 + r5 * 256 + r4) = r7 * 72057594037927936 + r6 * 281474976710656 + r5 * 1099511627776 + r4 * 4294967296 by omega] at this
  have a2 : (r7 * 72057594037927936 + r6 * 281474976710656 + r5 * 1099511627776 + r4 * 4294967296 + r3 * 16777216) ||| r2 * 65536 = r7 * 72057594037927936 + r6 * 281474976710656 + r5 * 1099511627776 + r4 * 4294967296 + r3 * 16777216 + r2 * 65536 := by
    have := or_add (r7 * 4294967296 + r6 * 16777216 + r5 * 65536 + r4 * 256 + r3) (r2 * 65536) 24 (by omega)
    rwa [show 2 ^ 24 * (r7 * 4294967296 + r6 * 16777216 + r5 * 65536 + r4 * 256 + r3) = r7 * 72057594037927936 + r6 * 281474976710656 + r5 * 1099511627776 + r4 * 4294967296 + r3 * 16777216 by omega] at this
  have a1 : (r7 * 72057594037927936 + r6 * 281474976710656 + r5 * 1099511627776 + r4 * 4294967296 + r3 * 16777216 + r2 * 65536) ||| r1 * 256 = r7 * 72057594037927936 + r6 * 281474976710656 + r5 * 1099511627776 + r4 * 4294967296 + r3 * 16777216 + r2 * 65536 + r1 * 256 := by
    have := or_add (r7 * 1099511627776 + r6 * 4294967296 + r5 * 16777216 + r4 * 65536 + r3 * 256 + r2) (r1 * 256) 16 (by omega)
    rwa [show 2 ^ 16 * (r7 * 1099511627776 + r6 * 4294967296 + r5 * 16777216 + r4 * 65536 + r3 * 256 + r2) = r7 * 72057594037927936 + r6 * 281474976710656 + r5 * 1099511627776 + r4 * 4294967296 + r3 * 16777216 + r2 * 65536 by omega] at this
  have a0 : (r7 * 72057594037927936 + r6 * 281474976710656 + r5 * 1099511627776 + r4 * 4294967296 + r3 * 16777216 + r2 * 65536 + r1 * 256) ||| r0 = r7 * 72057594037927936 + r6 * 281474976710656 + r5 * 1099511627776 + r4 * 4294967296 + r3 * 16777216 + r2 * 65536 + r1 * 256 + r0 := by
    have := or_add (r7 * 281474976710656 + r6 * 1099511627776 + r5 * 4294967296 + r4 * 16777216 + r3 * 65536 + r2 * 256 + r1) (r0) 8 (by omega)
    rwa [show 2 ^ 8 * (r7 * 281474976710656 + r6 * 1099511627776 + r5 * 4294967296 + r4 * 16777216 + r3 * 65536 + r2 * 256 + r1) = r7 * 72057594037927936 + r6 * 281474976710656 + r5 * 1099511627776 + r4 * 4294967296 + r3 * 16777216 + r2 * 65536 + r1 * 256 by omega] at this
  rw [e7, e6, e5, e4, e3, e2, e1, u64_or_nat _ _ (by omega) (by omega), a6, u64_or_nat _ _ (by omega) (by omega), a5, u64_or_nat _ _ (by omega) (by omega), a4, u64_or_nat _ _ (by omega) (by omega), a3, u64_or_nat _ _ (by omega) (by omega), a2, u64_or_nat _ _ (by omega) (by omega), a1, u64_or_nat _ _ (by omega) (by omega), a0]

set_option maxRecDepth 100000 in
set_option maxHeartbeats 2000000 in
theorem uint64LE (pb cap r0 r1 r2 r3 r4 r5 r6 r7 : Nat) (w : World) (h0 : r0 < 256) (h1 : r1 < 256) (h2 : r2 < 256) (h3 : r3 < 256) (h4 : r4 < 256) (h5 : r5 < 256) (h6 : r6 < 256) (h7 : r7 < 256) (c0 : w.cell? ⟨pb, 5, none⟩ = some (.int .u8 r0)) (c1 : w.cell? ⟨pb, 6, none⟩ = some (.int .u8 r1)) (c2 : w.cell? ⟨pb, 7, none⟩ = some (.int .u8 r2)) (c3 : w.cell? ⟨pb, 8, none⟩ = some (.int .u8 r3)) (c4 : w.cell? ⟨pb, 9, none⟩ = some (.int .u8 r4)) (c5 : w.cell? ⟨pb, 10, none⟩ = some (.int .u8 r5)) (c6 : w.cell? ⟨pb, 11, none⟩ = some (.int .u8 r6)) (c7 : w.cell? ⟨pb, 12, none⟩ = some (.int .u8 r7)) :
    Calls Tryz.prog 42 #[.slice (some ⟨pb, 5, none⟩) 8 cap] w fun e w' => e = .returned (.int .u64 (r7 * 72057594037927936 + r6 * 281474976710656 + r5 * 1099511627776 + r4 * 4294967296 + r3 * 16777216 + r2 * 65536 + r1 * 256 + r0 : Nat)) ∧ w = w' := by
  have HL := hid (le64 r0 r1 r2 r3 r4 r5 r6 r7 h0 h1 h2 h3 h4 h5 h6 h7)
  have i0 : (r0 : Int) < 256 := by omega
  have i1 : (r1 : Int) < 256 := by omega
  have i2 : (r2 : Int) < 256 := by omega
  have i3 : (r3 : Int) < 256 := by omega
  have i4 : (r4 : Int) < 256 := by omega
  have i5 : (r5 : Int) < 256 := by omega
  have i6 : (r6 : Int) < 256 := by omega
  have i7 : (r7 : Int) < 256 := by omega
  go_enter Tryz.func42, Tryz.ntmps42
  go_wp2
  go_ret
  rw [← HL.out]
  exact ⟨rfl, rfl⟩

set_option maxRecDepth 100000 in
theorem propsCode (lc lp pb c : Nat) (w : World) (h1 : lc < 9) (h2 : lp < 5) (h3 : pb < 5) (hc : c = (pb * 5 + lp) * 9 + lc) :
    Calls Tryz.prog 40 #[.int .u8 c] w fun e w' => e = .returned (.tuple #[.agg #[.int .i64 lc, .int .i64 lp, .int .i64 pb], .nilIface]) ∧ w.alloc (.cells #[.int .i64 lc, .int .i64 lp, .int .i64 pb] 45) = w' := by
  have e1 : (c : Int) % 9 = lc := by omega
  have e2 : (c : Int) / 9 % 5 = lp := by omega
  have e3 : (c : Int) / 9 / 5 % 5 = pb := by omega
  have hlt : (c : Int) < 225 := by omega
  clear hc
  go_enter Tryz.func40, Tryz.ntmps40
  go_wp2
  exact bodyPost_ret (v := .tuple #[.agg #[.int .i64 lc, .int .i64 lp, .int .i64 pb], .nilIface]) (by simp [results, Tryz.results40, go_sem]) rfl ⟨rfl, rfl⟩

theorem heap_set_far {w w0 : World} {a : Addr} {v : Value} {k : Nat} (h : w.heap[k]? = w0.heap[k]?) (hk : k ≠ a.block) : (w.setCell a v).heap[k]? = w0.heap[k]? := by
  rw [Below.heap_setCell _ _ _ _ hk]; exact h
theorem heap_alloc_far {w w0 : World} {o : Obj} {k : Nat} (h : w.heap[k]? = w0.heap[k]?) (hk : k < w.heap.size) : (w.alloc o).heap[k]? = w0.heap[k]? := by
  rw [Below.heap_alloc _ _ _ hk]; exact h

/-- The thirteen bytes of a head, in block pbk. -/
def HeadAt (w : World) (pbk : Nat) (c r0 r1 r2 r3 s0 s1 s2 s3 s4 s5 s6 s7 : Nat) : Prop :=
  w.cell? ⟨pbk, 0, none⟩ = some (.int .u8 c) ∧ (w.cell? ⟨pbk, 1, none⟩ = some (.int .u8 r0) ∧ w.cell? ⟨pbk, 2, none⟩ = some (.int .u8 r1) ∧ w.cell? ⟨pbk, 3, none⟩ = some (.int .u8 r2) ∧ w.cell? ⟨pbk, 4, none⟩ = some (.int .u8 r3)) ∧
  (w.cell? ⟨pbk, 5, none⟩ = some (.int .u8 s0) ∧ w.cell? ⟨pbk, 6, none⟩ = some (.int .u8 s1) ∧ w.cell? ⟨pbk, 7, none⟩ = some (.int .u8 s2) ∧ w.cell? ⟨pbk, 8, none⟩ = some (.int .u8 s3) ∧
   w.cell? ⟨pbk, 9, none⟩ = some (.int .u8 s4) ∧ w.cell? ⟨pbk, 10, none⟩ = some (.int .u8 s5) ∧ w.cell? ⟨pbk, 11, none⟩ = some (.int .u8 s6) ∧ w.cell? ⟨pbk, 12, none⟩ = some (.int .u8 s7)) ∧
  (r0 < 256 ∧ r1 < 256 ∧ r2 < 256 ∧ r3 < 256) ∧ (s0 < 256 ∧ s1 < 256 ∧ s2 < 256 ∧ s3 < 256 ∧ s4 < 256 ∧ s5 < 256 ∧ s6 < 256 ∧ s7 < 256)

theorem le4_at {w0 w : World} {pbk c r0 r1 r2 r3 s0 s1 s2 s3 s4 s5 s6 s7 : Nat} (cap : Nat) (h : HeadAt w0 pbk c r0 r1 r2 r3 s0 s1 s2 s3 s4 s5 s6 s7) (he : w.heap[pbk]? = w0.heap[pbk]?) (dict : Nat) (hd : r3 * 16777216 + r2 * 65536 + r1 * 256 + r0 = dict) :
    Calls Tryz.prog 41 #[.slice (some ⟨pbk, 1, none⟩) 12 cap] w fun e w' => e = .returned (.int .u32 dict) ∧ w = w' := by
  obtain ⟨_, ⟨h1, h2, h3, h4⟩, _, ⟨b0, b1, b2, b3⟩, _⟩ := h
  have hx : ∀ o, w.cell? ⟨pbk, o, none⟩ = w0.cell? ⟨pbk, o, none⟩ := fun o => World.cell?_of_block (w := w0) he
  rw [← hd]
  exact uint32LE pbk cap r0 r1 r2 r3 w b0 b1 b2 b3 (by rw [hx]; exact h1) (by rw [hx]; exact h2) (by rw [hx]; exact h3) (by rw [hx]; exact h4)
theorem le8_at {w0 w : World} {pbk c r0 r1 r2 r3 s0 s1 s2 s3 s4 s5 s6 s7 : Nat} (cap : Nat) (h : HeadAt w0 pbk c r0 r1 r2 r3 s0 s1 s2 s3 s4 s5 s6 s7) (he : w.heap[pbk]? = w0.heap[pbk]?) (S : Nat)
    (hd : s7 * 72057594037927936 + s6 * 281474976710656 + s5 * 1099511627776 + s4 * 4294967296 + s3 * 16777216 + s2 * 65536 + s1 * 256 + s0 = S) :
    Calls Tryz.prog 42 #[.slice (some ⟨pbk, 5, none⟩) 8 cap] w fun e w' => e = .returned (.int .u64 S) ∧ w = w' := by
  obtain ⟨_, _, ⟨h1, h2, h3, h4, h5, h6, h7, h8⟩, _, ⟨b0, b1, b2, b3, b4, b5, b6, b7⟩⟩ := h
  have hx : ∀ o, w.cell? ⟨pbk, o, none⟩ = w0.cell? ⟨pbk, o, none⟩ := fun o => World.cell?_of_block (w := w0) he
  rw [← hd]
  exact uint64LE pbk cap s0 s1 s2 s3 s4 s5 s6 s7 w b0 b1 b2 b3 b4 b5 b6 b7 (by rw [hx]; exact h1) (by rw [hx]; exact h2) (by rw [hx]; exact h3) (by rw [hx]; exact h4) (by rw [hx]; exact h5) (by rw [hx]; exact h6) (by rw [hx]; exact h7) (by rw [hx]; exact h8)

def UmOut (hb lc lp pb dict : Nat) (size : Int) (rv q6 q7 q8 q9 q10 q11 : Value) (w : World) (e : Ending) (w' : World) : Prop :=
  e = .returned .nilIface ∧ Blk w' hb #[rv, .int .i64 lc, .int .i64 lp, .int .i64 pb, .int .u32 dict, .int .i64 size, q6, q7, q8, q9, q10, q11] 83 ∧ Kept w.heap.size (· = hb) w w'

set_option maxRecDepth 100000 in
set_option maxHeartbeats 2000000 in
theorem unmarshal_sized (hb pbk cap lc lp pb r0 r1 r2 r3 s0 s1 s2 s3 s4 s5 s6 s7 dict S c : Nat) (w : World) (rv : Value) (q6 q7 q8 q9 q10 q11 : Value)
    (h1 : lc < 9) (h2 : lp < 5) (h3 : pb < 5) (hc : c = (pb * 5 + lp) * 9 + lc) (hH : HeadAt w pbk c r0 r1 r2 r3 s0 s1 s2 s3 s4 s5 s6 s7)
    (hcap : 13 ≤ cap) (hB : Blk w hb #[rv, .int .i64 0, .int .i64 0, .int .i64 0, .int .u32 0, .int .i64 0, q6, q7, q8, q9, q10, q11] 83) (hne : hb ≠ pbk)
    (hdict : r3 * 16777216 + r2 * 65536 + r1 * 256 + r0 = dict) (hd0 : dict ≤ 1000000)
    (hS : s7 * 72057594037927936 + s6 * 281474976710656 + s5 * 1099511627776 + s4 * 4294967296 + s3 * 16777216 + s2 * 65536 + s1 * 256 + s0 = S) (hSb : S ≤ 1000000) :
    Calls Tryz.prog 29 #[.pointer (some ⟨hb, 1, none⟩), .slice (some ⟨pbk, 0, none⟩) 13 cap] w (UmOut hb lc lp pb dict S rv q6 q7 q8 q9 q10 q11 w) := by
  have c0 := hH.1
  have lp0 : pbk < w.heap.size := World.block_lt_of_cell? w _ c0
  have lh := hB.lt
  have t1 : w.cell? ⟨hb, 1, none⟩ = some (.int .i64 0) := by rw [hB.cell]; rfl
  have t2 : w.cell? ⟨hb, 2, none⟩ = some (.int .i64 0) := by rw [hB.cell]; rfl
  have t3 : w.cell? ⟨hb, 3, none⟩ = some (.int .i64 0) := by rw [hB.cell]; rfl
  have t4 : w.cell? ⟨hb, 4, none⟩ = some (.int .u32 0) := by rw [hB.cell]; rfl
  have t5 : w.cell? ⟨hb, 5, none⟩ = some (.int .i64 0) := by rw [hB.cell]; rfl
  have f1 := hB.frozen 1
  have f2 := hB.frozen 2
  have f3 := hB.frozen 3
  have f4 := hB.frozen 4
  have f5 := hB.frozen 5
  have hcapI : (13 : Int) ≤ (cap : Int) := by omega
  have hne' : pbk ≠ hb := fun e => hne e.symm
  have H := hid (And.intro hB (And.intro hH (And.intro hc (And.intro hdict hS))))
  clear hB hH hc hdict hS
  go_enter Tryz.func29, Tryz.ntmps29
  go_wp2_with (
    go_at_call 40
    go_loud (refine (propsCode lc lp pb c _ h1 h2 h3 H.out.2.2.1).mono ?_)
    rintro e w' ⟨rfl, rfl⟩)
  refine (le4_at _ H.out.2.1 (heap_alloc_far (heap_set_far (heap_set_far (heap_set_far rfl hne') hne') hne') (by simpa using lp0)) dict H.out.2.2.2.1).mono ?_
  rintro e w' ⟨rfl, rfl⟩
  have hdI : (dict : Int) ≤ 1000000 := by omega
  go_wp2_with fail
  refine (le8_at _ H.out.2.1 ?_ S H.out.2.2.2.2).mono ?_
  · repeat (first | (with_reducible refine heap_set_far ?_ hne') | (with_reducible refine heap_alloc_far ?_ (by simpa using lp0)) | (with_reducible rfl))
  rintro e w' ⟨rfl, rfl⟩
  have hs1 : ((S : Int) == 18446744073709551615) = false := by rw [beq_eq_false_iff_ne]; omega
  have hs2 : (S : Int) ≤ 1000000 := by omega
  go_wp2
  go_ret
  refine ⟨rfl, ?_, ?_⟩
  · have h := (((((H.out.1.set 1 (.int .i64 lc)).set 2 (.int .i64 lp)).set 3 (.int .i64 pb)).set 4 (.int .u32 dict)).set 5 (.int .i64 S)).alloc (.cells #[.int .i64 lc, .int .i64 lp, .int .i64 pb] 45)
    simpa using h
  · exact ((((((Kept.refl w.heap.size (· = hb) w).setCell (p := ⟨hb, 1, none⟩) (Or.inr rfl) _).setCell (p := ⟨hb, 2, none⟩) (Or.inr rfl) _).setCell (p := ⟨hb, 3, none⟩) (Or.inr rfl) _).setCell (p := ⟨hb, 4, none⟩) (Or.inr rfl) _).setCell (p := ⟨hb, 5, none⟩) (Or.inr rfl) _).alloc (by simp) _

set_option maxRecDepth 100000 in
set_option maxHeartbeats 2000000 in
theorem unmarshal_open (hb pbk cap lc lp pb r0 r1 r2 r3 s0 s1 s2 s3 s4 s5 s6 s7 dict S c : Nat) (w : World) (rv : Value) (q6 q7 q8 q9 q10 q11 : Value)
    (h1 : lc < 9) (h2 : lp < 5) (h3 : pb < 5) (hc : c = (pb * 5 + lp) * 9 + lc) (hH : HeadAt w pbk c r0 r1 r2 r3 s0 s1 s2 s3 s4 s5 s6 s7)
    (hcap : 13 ≤ cap) (hB : Blk w hb #[rv, .int .i64 0, .int .i64 0, .int .i64 0, .int .u32 0, .int .i64 0, q6, q7, q8, q9, q10, q11] 83) (hne : hb ≠ pbk)
    (hdict : r3 * 16777216 + r2 * 65536 + r1 * 256 + r0 = dict) (hd0 : dict ≤ 1000000)
    (hS : s7 * 72057594037927936 + s6 * 281474976710656 + s5 * 1099511627776 + s4 * 4294967296 + s3 * 16777216 + s2 * 65536 + s1 * 256 + s0 = S) (hSb : S = 18446744073709551615) :
    Calls Tryz.prog 29 #[.pointer (some ⟨hb, 1, none⟩), .slice (some ⟨pbk, 0, none⟩) 13 cap] w (UmOut hb lc lp pb dict (-1) rv q6 q7 q8 q9 q10 q11 w) := by
  have c0 := hH.1
  have lp0 : pbk < w.heap.size := World.block_lt_of_cell? w _ c0
  have lh := hB.lt
  have t1 : w.cell? ⟨hb, 1, none⟩ = some (.int .i64 0) := by rw [hB.cell]; rfl
  have t2 : w.cell? ⟨hb, 2, none⟩ = some (.int .i64 0) := by rw [hB.cell]; rfl
  have t3 : w.cell? ⟨hb, 3, none⟩ = some (.int .i64 0) := by rw [hB.cell]; rfl
  have t4 : w.cell? ⟨hb, 4, none⟩ = some (.int .u32 0) := by rw [hB.cell]; rfl
  have t5 : w.cell? ⟨hb, 5, none⟩ = some (.int .i64 0) := by rw [hB.cell]; rfl
  have f1 := hB.frozen 1
  have f2 := hB.frozen 2
  have f3 := hB.frozen 3
  have f4 := hB.frozen 4
  have f5 := hB.frozen 5
  have hcapI : (13 : Int) ≤ (cap : Int) := by omega
  have hne' : pbk ≠ hb := fun e => hne e.symm
  have H := hid (And.intro hB (And.intro hH (And.intro hc (And.intro hdict hS))))
  clear hB hH hc hdict hS
  go_enter Tryz.func29, Tryz.ntmps29
  go_wp2_with (
    go_at_call 40
    go_loud (refine (propsCode lc lp pb c _ h1 h2 h3 H.out.2.2.1).mono ?_)
    rintro e w' ⟨rfl, rfl⟩)
  refine (le4_at _ H.out.2.1 (heap_alloc_far (heap_set_far (heap_set_far (heap_set_far rfl hne') hne') hne') (by simpa using lp0)) dict H.out.2.2.2.1).mono ?_
  rintro e w' ⟨rfl, rfl⟩
  have hdI : (dict : Int) ≤ 1000000 := by omega
  go_wp2_with fail
  refine (le8_at _ H.out.2.1 ?_ S H.out.2.2.2.2).mono ?_
  · repeat (first | (with_reducible refine heap_set_far ?_ hne') | (with_reducible refine heap_alloc_far ?_ (by simpa using lp0)) | (with_reducible rfl))
  rintro e w' ⟨rfl, rfl⟩
  have hs1 : ((S : Int) == 18446744073709551615) = true := by rw [hSb]; rfl
  clear hSb
  go_wp2
  go_ret
  refine ⟨rfl, ?_, ?_⟩
  · have h := (((((H.out.1.set 1 (.int .i64 lc)).set 2 (.int .i64 lp)).set 3 (.int .i64 pb)).set 4 (.int .u32 dict)).set 5 (.int .i64 (-1))).alloc (.cells #[.int .i64 lc, .int .i64 lp, .int .i64 pb] 45)
    simpa using h
  · exact ((((((Kept.refl w.heap.size (· = hb) w).setCell (p := ⟨hb, 1, none⟩) (Or.inr rfl) _).setCell (p := ⟨hb, 2, none⟩) (Or.inr rfl) _).setCell (p := ⟨hb, 3, none⟩) (Or.inr rfl) _).setCell (p := ⟨hb, 4, none⟩) (Or.inr rfl) _).setCell (p := ⟨hb, 5, none⟩) (Or.inr rfl) _).alloc (by simp) _
end Go.Proofs.YtnkemepodpkhnaaGreatFmt
