/-
  PROVED: for every byte and every size the law FnDict returns true: a byte up to 40 tells the size of a dictionary as the reference has it and no other byte does, and the byte of a size is the least one whose dictionary has that size at least. Conditions: none.
  The frame of this text (the row's step and the builder's call) was written by the kit's proof-skeleton program; the walks and the plain law are ours.
-/
import Derived.Test.YthbfhdehaipdeaaRows
import Derived.WalkKit
import Derived.ProofKit
import Derived.OpenShut
import Derived.Deep.RegionWith
import Derived.WalkLawsBesides
import Derived.WalkSpells
namespace Go.Proofs.Ythbfhdehaipdeaa.fnDict
open Go.ChangeShapes Go.WideShapes Go.ChangeAt Go.RowKit
set_option linter.unusedVariables false      -- a walk need not use every 'w<i>' (that an integer argument fits its kind)

theorem own : ownKnob Try.prog.godebug = none := by kernel_rfl

/-! ### THE WALK -/
theorem hid {p : Prop} (h : p) : Hid p := h

/-- The size of the dictionary of a byte below 40. -/
def dc (c : Nat) : Int := (2 + (c % 2 : Nat) : Int) * 2 ^ (c / 2 + 11)

theorem dc_impl : ∀ c : Fin 41, wrap64 (bits BinOp.or IntKind.i64 2 (bits BinOp.and IntKind.i64 (c.val : Int) 1) * 2 ^ (11 + (c.val : Int) / 2 % 32).toNat) = dc c.val := by decide +kernel
theorem dc_spec : ∀ c : Fin 41, wrap64 (bits BinOp.or IntKind.i64 2 (bits BinOp.and IntKind.i64 (c.val : Int) 1) * 2 ^ ((c.val : Int) / 2 + 11).toNat) = dc c.val := by decide +kernel
theorem dc_mono : ∀ c : Fin 40, dc c.val < dc (c.val + 1) := by decide +kernel
theorem dc_lt {a b : Nat} (h : a < b) (hb : b ≤ 40) : dc a < dc b := by
  induction b with
  | zero => omega
  | succ b ih =>
    have h1 := dc_mono ⟨b, by omega⟩
    by_cases e : a = b
    · subst e; exact h1
    · have := ih (by omega) (by omega); exact Int.lt_trans this h1
theorem dc_le {a b : Nat} (h : a ≤ b) (hb : b ≤ 40) : dc a ≤ dc b := by
  by_cases e : a = b
  · subst e; exact Int.le_refl _
  · exact Int.le_of_lt (dc_lt (by omega) hb)

/-- 'k' is the least byte below 40 whose dictionary has size n at least, or 40. -/
def Least (n : Int) (k : Nat) : Prop := k ≤ 40 ∧ (∀ j, j < k → dc j < n) ∧ (k < 40 → n ≤ dc k)
theorem Least.unique {n : Int} {a b : Nat} (ha : Least n a) (hb : Least n b) : a = b := by
  rcases Nat.lt_trichotomy a b with h | h | h
  · have h1 := hb.2.1 a h; have h2 := ha.2.2 (by have := hb.1; omega); omega
  · exact h
  · have h1 := ha.2.1 b h; have h2 := hb.2.2 (by have := ha.1; omega); omega

theorem f17 (c : Nat) (h1 : c ≤ 40) (w : World) :
    Calls Try.prog 17 #[.int .u8 c] w fun e w' => e = .returned (.int .i64 (dc c)) ∧ w = w' := by
  have h0 : (0 : Int) ≤ (c : Int) := by omega
  have h2 : (c : Int) ≤ 40 := by omega
  have H := hid (dc_impl ⟨c, by omega⟩)
  go_enter Try.func17, Try.ntmps17
  go_wp2
  go_ret
  exact ⟨by rw [← H.out]; rfl, rfl⟩
theorem f9 (c : Nat) (h1 : c < 40) (w : World) :
    Calls Try.prog 9 #[.int .i64 c] w fun e w' => e = .returned (.int .i64 (dc c)) ∧ w = w' := by
  have h0 : (0 : Int) ≤ (c : Int) := by omega
  have h2 : (c : Int) < 40 := by omega
  have hc : ((c : Int) == 40) = false := by rw [beq_eq_false_iff_ne]; omega
  have H := hid (dc_spec ⟨c, by omega⟩)
  go_enter Try.func9, Try.ntmps9
  go_wp2
  go_ret
  exact ⟨by rw [← H.out]; rfl, rfl⟩
theorem f11 (n : Int) (w : World) :
    Calls Try.prog 11 #[.int .i64 n] w fun e w' => (∃ k : Nat, e = .returned (.int .i64 k) ∧ Least n k) ∧ w = w' := by
  go_enter Try.func11, Try.ntmps11
  go_wp2
  go_loop [4] (fun i => ∃ k : Nat, k ≤ 40 ∧ i = .int .i64 k ∧ (∀ j, j < k → dc j < n)) (fun i => 40 - (intOf i).toNat)
  case atStart => exact ⟨0, by omega, rfl, fun j h => by omega⟩
  case round =>
    obtain ⟨k, hk, rfl, hall⟩ := hrel
    have HA := hid hall
    clear hall
    by_cases hlt : k < 40
    · by_cases hd : n ≤ dc k
      · go_wp2_with (go_at_call 9; refine (f9 _ hlt _).mono ?_; rintro e w' ⟨rfl, rfl⟩)
        go_ret
        exact ⟨⟨k, rfl, by omega, HA.out, fun _ => hd⟩, rfl⟩
      · go_wp2_with (go_at_call 9; refine (f9 _ hlt _).mono ?_; rintro e w' ⟨rfl, rfl⟩)
        go_round
        case rel => exact ⟨k + 1, by omega, by go_num, fun j h => by
          by_cases e : j = k
          · subst e; omega
          · exact HA.out j (by omega)⟩
        case measure => simp [intOf]; omega
    · go_wp2
      go_ret
      exact ⟨⟨40, rfl, by omega, fun j h => HA.out j (by omega), fun h => by omega⟩, rfl⟩

theorem f15 (n : Int) (w : World) :
    Calls Try.prog 15 #[.int .i64 n] w fun e w' => (∃ k : Nat, e = .returned (.int .u8 k) ∧ Least n k) ∧ w = w' := by
  go_enter Try.func15, Try.ntmps15
  go_wp2
  go_loop [3, 4] (fun x y => ∃ a b : Nat, a ≤ b ∧ b ≤ 40 ∧ x = .int .u8 a ∧ y = .int .u8 b ∧ (∀ j, j < a → dc j < n) ∧ (b < 40 → n ≤ dc b)) (fun x y => (intOf y).toNat - (intOf x).toNat)
  case atStart => exact ⟨0, 40, by omega, by omega, rfl, rfl, fun j h => by omega, fun h => by omega⟩
  case round =>
    obtain ⟨a, b, hab, hb, rfl, rfl, hlo, hhi⟩ := hrel
    have HA := hid hlo
    have HB := hid hhi
    clear hlo hhi
    by_cases hlt : a < b
    · obtain ⟨c, hc⟩ : ∃ c : Nat, c = a + (b - a) / 2 := ⟨_, rfl⟩
      have HC := hid hc
      have hcb : c < b := by omega
      have hac : a ≤ c := by omega
      have e1 : (a : Int) + ((b : Int) - (a : Int)) / 2 = (c : Int) := by omega
      clear hc
      rcases Int.lt_trichotomy n (dc c) with hd | hd | hd
      · have hne : (n == dc c) = false := by rw [beq_eq_false_iff_ne]; omega
        have hle : n ≤ dc c := by omega
        go_wp2_with (go_at_call 17; refine (f17 c (by omega) _).mono ?_; rintro e w' ⟨rfl, rfl⟩)
        go_round
        case rel => exact ⟨a, c, hac, by omega, rfl, rfl, HA.out, fun _ => hle⟩
        case measure => simp [intOf]; omega
      · have hne : (n == dc c) = true := by rw [beq_iff_eq]; exact hd
        have hle : n ≤ dc c := by omega
        have HD := hid hd
        clear hd
        go_wp2_with (go_at_call 17; refine (f17 c (by omega) _).mono ?_; rintro e w' ⟨rfl, rfl⟩)
        go_ret
        exact ⟨⟨c, rfl, by omega, fun j h => by have := dc_lt (a := j) (b := c) h (by omega); have := HD.out; omega, fun _ => hle⟩, rfl⟩
      · have hle : ¬ n ≤ dc c := by omega
        go_wp2_with (go_at_call 17; refine (f17 c (by omega) _).mono ?_; rintro e w' ⟨rfl, rfl⟩)
        go_round
        case rel => exact ⟨c + 1, b, by omega, hb, by go_num, rfl, fun j h => by have := dc_le (a := j) (b := c) (by omega) (by omega); omega, HB.out⟩
        case measure => simp [intOf]; omega
    · go_wp2
      go_ret
      exact ⟨⟨a, rfl, by omega, HA.out, fun h => by have := HB.out (by omega); have : a = b := by omega
                                                    subst this; assumption⟩, rfl⟩
theorem new_any (s : ByteArray) (w : World) : Calls Try.prog 16 #[.string s] w fun e w' => e = .returned (.iface 46 (.pointer (some ⟨w.heap.size, 0, none⟩))) ∧ w.alloc (.cells #[.string s] 48) = w' := by
  go_enter Try.func16, Try.ntmps16
  go_wp2
  go_ret
  exact ⟨rfl, rfl⟩

theorem least_own (c : Nat) (h : c < 40) : Least (dc c) c := ⟨by omega, fun j hj => dc_lt hj (by omega), fun _ => Int.le_refl _⟩
theorem dc_39 : dc 39 = 3221225472 := by decide
theorem least_top : Least 4294967295 40 := ⟨by omega, fun j hj => by have := dc_le (a := j) (b := 39) (by omega) (by omega); have := dc_39; omega, fun h => by omega⟩
theorem dc_nonneg (c : Nat) : 0 ≤ dc c := by
  unfold dc
  exact Int.mul_nonneg (by omega) (Int.le_of_lt (Int.pow_pos (by decide)))

/-- DecodeDictCap, impl.DictOf, spec.DictOf at a byte below 40, at 40, beyond. -/
theorem f14_lo (c : Nat) (h : c < 40) (w : World) : Calls Try.prog 14 #[.int .u8 c] w fun e w' => e = .returned (.tuple #[.int .i64 (dc c), .nilIface]) ∧ w = w' := by
  have h2 : (c : Int) < 40 := by omega
  go_enter Try.func14, Try.ntmps14
  go_wp2_with (go_at_call 17; refine (f17 c (by omega) _).mono ?_; rintro e w' ⟨rfl, rfl⟩)
  go_ret2
  exact ⟨rfl, rfl⟩
theorem f14_top (w : World) : Calls Try.prog 14 #[.int .u8 40] w fun e w' => e = .returned (.tuple #[.int .i64 4294967295, .nilIface]) ∧ w = w' := by
  go_enter Try.func14, Try.ntmps14
  go_wp2
  go_ret2
  exact ⟨rfl, rfl⟩
theorem f14_hi (c : Int) (h : 40 < c) (w : World) : Calls Try.prog 14 #[.int .u8 c] w fun e w' => (∃ v, e = .returned (.tuple #[.int .i64 0, .iface 46 v])) ∧ Grown w w' := by
  have h2 : (c == 40) = false := by rw [beq_eq_false_iff_ne]; omega
  go_enter Try.func14, Try.ntmps14
  go_wp2_with (go_at_call 16; refine (new_any _ _).mono ?_; rintro e w' ⟨rfl, rfl⟩)
  go_ret2
  exact ⟨⟨_, rfl⟩, (Grown.refl _).alloc _ _⟩
theorem f8_lo (c : Nat) (h : c < 40) (w : World) : Calls Try.prog 8 #[.int .u8 c] w fun e w' => e = .returned (.tuple #[.int .i64 (dc c), .bool true]) ∧ w = w' := by
  go_enter Try.func8, Try.ntmps8
  go_wp2_with (go_at_call 14; refine (f14_lo c h _).mono ?_; rintro e w' ⟨rfl, rfl⟩)
  go_ret2
  exact ⟨rfl, rfl⟩
theorem f8_top (w : World) : Calls Try.prog 8 #[.int .u8 40] w fun e w' => e = .returned (.tuple #[.int .i64 4294967295, .bool true]) ∧ w = w' := by
  go_enter Try.func8, Try.ntmps8
  go_wp2_with (go_at_call 14; refine (f14_top _).mono ?_; rintro e w' ⟨rfl, rfl⟩)
  go_ret2
  exact ⟨rfl, rfl⟩
theorem f8_hi (c : Int) (h : 40 < c) (w : World) : Calls Try.prog 8 #[.int .u8 c] w fun e w' => e = .returned (.tuple #[.int .i64 0, .bool false]) ∧ Grown w w' := by
  go_enter Try.func8, Try.ntmps8
  go_wp2_with (go_at_call 14; refine (f14_hi c h _).mono ?_; rintro e w' ⟨⟨v, rfl⟩, hg⟩)
  go_ret2
  exact ⟨rfl, hg⟩
theorem f9_top (w : World) : Calls Try.prog 9 #[.int .i64 40] w fun e w' => e = .returned (.int .i64 4294967295) ∧ w = w' := by
  go_enter Try.func9, Try.ntmps9
  go_wp2
  go_ret
  exact ⟨rfl, rfl⟩
theorem f9_hi (c : Int) (h : 40 < c) (w : World) : Calls Try.prog 9 #[.int .i64 c] w fun e w' => e = .returned (.int .i64 (-1)) ∧ w = w' := by
  go_enter Try.func9, Try.ntmps9
  go_wp2
  go_ret
  exact ⟨rfl, rfl⟩
theorem f10 (n : Int) (w : World) : Calls Try.prog 10 #[.int .i64 n] w fun e w' => (∃ k : Nat, e = .returned (.int .u8 k) ∧ Least n k) ∧ w = w' := by
  go_enter Try.func10, Try.ntmps10
  go_wp2_with (go_at_call 15; refine (f15 n _).mono ?_; rintro e w' ⟨⟨k, rfl, hk⟩, rfl⟩)
  go_ret
  exact ⟨⟨k, rfl, hk⟩, rfl⟩
theorem f10_at (n : Int) (k : Nat) (h : Least n k) (w : World) : Calls Try.prog 10 #[.int .i64 n] w fun e w' => e = .returned (.int .u8 k) ∧ w = w' :=
  (f10 n w).mono fun _ _ ⟨⟨k', he, hk⟩, hw⟩ => ⟨by rw [he, hk.unique h], hw⟩
theorem f11_at (n : Int) (k : Nat) (h : Least n k) (w : World) : Calls Try.prog 11 #[.int .i64 n] w fun e w' => e = .returned (.int .i64 k) ∧ w = w' :=
  (f11 n w).mono fun _ _ ⟨⟨k', he, hk⟩, hw⟩ => ⟨by rw [he, hk.unique h], hw⟩

/-- Every size has its least byte. -/
theorem least_some (n : Int) : ∃ k, Least n k := by
  by_cases h : ∃ k, k < 40 ∧ n ≤ dc k
  · obtain ⟨k, hk⟩ := h
    induction k using Nat.strongRecOn with
    | ind k ih =>
      by_cases h2 : ∃ j, j < k ∧ n ≤ dc j
      · obtain ⟨j, hj, hn⟩ := h2
        exact ih j hj ⟨by omega, hn⟩
      · exact ⟨k, by omega, fun j hj => by
          by_cases e : n ≤ dc j
          · exact absurd ⟨j, hj, e⟩ h2
          · omega, fun _ => hk.2⟩
  · exact ⟨40, by omega, fun j hj => by
      by_cases e : n ≤ dc j
      · exact absurd ⟨j, hj, e⟩ h
      · omega, fun h => by omega⟩
/-- The law at a byte below 40. -/
theorem walk_lo (c : Nat) (h : c < 40) (n : Int) (w : World) :
    Calls Try.prog 4 #[.int .u8 c, .int .i64 n] w fun e w' => e = .returned (.bool true) ∧ Grown w w' := by
  have hp := dc_nonneg c
  obtain ⟨k, hk⟩ := least_some n
  have HK := hid hk
  have HC := hid (least_own c h)
  have hk40 : k ≤ 40 := hk.1
  clear hk
  go_enter Try.func4, Try.ntmps4
  go_wp2_with (first
    | (go_at_call 8; refine (f8_lo c h _).mono ?_; rintro e w' ⟨rfl, rfl⟩)
    | (go_at_call 9; refine (f9 c h _).mono ?_; rintro e w' ⟨rfl, rfl⟩)
    | (go_at_call 10; refine (f10_at n k HK.out _).mono ?_; rintro e w' ⟨rfl, rfl⟩)
    | (go_at_call 10; refine (f10_at (dc c) c HC.out _).mono ?_; rintro e w' ⟨rfl, rfl⟩)
    | (go_at_call 11; refine (f11_at n k HK.out _).mono ?_; rintro e w' ⟨rfl, rfl⟩))
  go_ret
  exact ⟨rfl, Grown.refl _⟩

/-- The law at the byte 40. -/
theorem walk_top (n : Int) (w : World) :
    Calls Try.prog 4 #[.int .u8 40, .int .i64 n] w fun e w' => e = .returned (.bool true) ∧ Grown w w' := by
  obtain ⟨k, hk⟩ := least_some n
  have HK := hid hk
  have HC := hid least_top
  have hk40 : k ≤ 40 := hk.1
  clear hk
  go_enter Try.func4, Try.ntmps4
  go_wp2_with (first
    | (go_at_call 8; refine (f8_top _).mono ?_; rintro e w' ⟨rfl, rfl⟩)
    | (go_at_call 9; refine (f9_top _).mono ?_; rintro e w' ⟨rfl, rfl⟩)
    | (go_at_call 10; refine (f10_at n k HK.out _).mono ?_; rintro e w' ⟨rfl, rfl⟩)
    | (go_at_call 10; refine (f10_at 4294967295 40 HC.out _).mono ?_; rintro e w' ⟨rfl, rfl⟩)
    | (go_at_call 11; refine (f11_at n k HK.out _).mono ?_; rintro e w' ⟨rfl, rfl⟩))
  go_ret
  exact ⟨rfl, Grown.refl _⟩

/-- The law at a byte above 40. -/
theorem walk_hi (c : Int) (h : 40 < c) (h256 : c < 256) (n : Int) (w : World) :
    Calls Try.prog 4 #[.int .u8 c, .int .i64 n] w fun e w' => e = .returned (.bool true) ∧ Grown w w' := by
  obtain ⟨k, hk⟩ := least_some n
  have HK := hid hk
  have hk40 : k ≤ 40 := hk.1
  clear hk
  go_enter Try.func4, Try.ntmps4
  go_wp2_with (first
    | (go_at_call 8; refine (f8_hi c h _).mono ?_; rintro e w' ⟨rfl, hg⟩)
    | (go_at_call 9; refine (f9_hi c h _).mono ?_; rintro e w' ⟨rfl, rfl⟩)
    | (go_at_call 10; refine (f10_at n k HK.out _).mono ?_; rintro e w' ⟨rfl, rfl⟩)
    | (go_at_call 11; refine (f11_at n k HK.out _).mono ?_; rintro e w' ⟨rfl, rfl⟩))
  go_ret
  exact ⟨rfl, hg⟩

theorem walk (a0 : Int) (a1 : Int) (w0 : (Lit.int .u8 a0).wf = true) (w1 : (Lit.int .i64 a1).wf = true) (w : World) :
    Calls Try.prog 4 #[.int .u8 a0, .int .i64 a1] w fun e w' => e = .returned (.bool true) ∧ Grown w w' := by
  have bd := bounds_u8 w0
  rcases Int.lt_trichotomy a0 40 with h | h | h
  · obtain ⟨c, rfl⟩ : ∃ c : Nat, a0 = c := ⟨a0.toNat, by omega⟩
    exact walk_lo c (by omega) a1 w
  · subst h; exact walk_top a1 w
  · exact walk_hi a0 h (by omega) a1 w

/-! ### THE ROW's STEP: WRITTEN OUT: LEAVE IT -/
set_option maxRecDepth 100000 in
theorem lifted (os : Os) (started : os.Started) (H : Type) (enc : TypeId × Value → H) :
    ReturnsInHanded {} Try.checked os 4 .any (Rows.fnDictSpec.pre6 enc Try.prog Try.f4 Rows.fnDictRow.domain false) (Rows.fnDictSpec.post enc Try.prog Try.f4 false true false false) := by
  refine returnsInHanded_of_change (C := Try.checked) own started (by kernel_rfl) Try.func4
    (ChangeSpec.witness6 (enc := enc) (C := Try.checked) false ⟨#[], #[.int .u8 0, .int .i64 0], []⟩ 8 (by kernel_rfl) (by kernel_rfl) (by kernel_rfl) (by kernel_rfl)) ?_
  intro W base args ds gs before hval0 hW hcnd _
  have hval : ∀ (j : Nat) t v, Try.f4.params[j]? = some t → args[j]? = some v → Value.okWide Try.prog W .any base t v := hval0
  have hW' := hW
  obtain ⟨p, q, hA0, hV, rfl, hfz, hnd⟩ := hW
  have hA : DataW.TrodAll enc Try.prog W 0 (fun _ => true) true Try.f4.params.toList args.toList ds p := hA0
  rw [Try.params4] at hA hval
  obtain ⟨v0, vs0, d0, ds0, p0, q0, hargs, rfl, rfl, h0, r0⟩ := trodAll_cons hA
  obtain ⟨v1, vs1, d1, ds1, p1, q1, rfl, rfl, rfl, h1, r1⟩ := trodAll_cons r0
  obtain ⟨rfl, rfl, rfl⟩ := trodAll_nil r1
  obtain rfl : args = #[v0, v1] := by cases args; simp_all
  obtain ⟨rfl, rfl⟩ := trodVars_none hV
  obtain ⟨a0, rfl, rfl, rfl, w0⟩ := open_int Try.underlying5 (hval 0 5 v0 rfl rfl) h0
  obtain ⟨a1, rfl, rfl, rfl, w1⟩ := open_int Try.underlying2 (hval 1 2 v1 rfl rfl) h1
  clear hA0 hval0
  simp only [List.append_nil] at hW'
  refine (walk a0 a1 w0 w1 W).mono fun e W' ⟨he, hg⟩ => ?_
  subst he
  exact ⟨_, rfl, post_of_same (pa := []) (pv := []) hW' (fun _ _ _ => (trodAll_cons_mk (shut_bool Try.underlying4 _) trodAll_mk0)) (fun sp _ => (trodAll_cons_mk (shut_int Try.underlying5 w0) (trodAll_cons_mk (shut_int Try.underlying2 w1) trodAll_mk0))) (fun _ _ => rfl) rfl
    (hg.frame _) hg.2.1 (ok_one (by kernel_rfl) rfl (okWide_bool_mk Try.underlying4 _))⟩

theorem over : Rows.fnDictRow.holds Try.pinned (OpenSpec.ofChange Rows.fnDictSpec) :=
  OpenClaim.holds_of_wide 4 Try.f4 rfl rfl rfl rfl rfl rfl rfl ⟨rfl, rfl, rfl, rfl, rfl⟩ rfl rfl rfl rfl rfl (by kernel_rfl) Try.func4 (by kernel_rfl)
    (of_decide_eq_true (by kernel_rfl)) (by unfold Func.isWrapper; first | (rw [if_pos (by decide +kernel)]; kernel_rfl) | (rw [if_neg (by decide +kernel)]; exact ⟨rfl, rfl⟩))
    (fun os started H enc _ => lifted os started H enc)

/-- ████ THE STATEMENT ████ -/
theorem proved : Rows.FnDictSaid :=
  over
#print axioms proved
end Go.Proofs.Ythbfhdehaipdeaa.fnDict
