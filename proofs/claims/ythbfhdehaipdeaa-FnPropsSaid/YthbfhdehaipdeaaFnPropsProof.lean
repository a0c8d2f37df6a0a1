/-
  PROVED: for every byte the law FnProps returns true: a byte below 225 tells lc, lp and pb as the reference has them and they tell that byte again, and a byte from 225 on tells none. Conditions: none.
  The frame of this text (the row's step and the builder's call) was written by the kit's proof-skeleton program; the walks are ours.
-/
import Derived.Test.YthbfhdehaipdeaaRows
import Derived.WalkKit
import Derived.ProofKit
import Derived.OpenShut
import Derived.Deep.RegionWith
import Derived.WalkLawsBesides
import Derived.WalkSpells
import Derived.Deep.QuietTactic
import Derived.BigQuiet
namespace Go.Proofs.Ythbfhdehaipdeaa.fnProps
open Go.ChangeShapes Go.WideShapes Go.ChangeAt Go.RowKit
set_option linter.unusedVariables false      -- a walk need not use every 'w<i>' (that an integer argument fits its kind)

theorem own : ownKnob Try.prog.godebug = none := by kernel_rfl

/-! ### STEP 1: THE WALK -/
/-- The third part of a byte below 225: the two ways to write it agree. -/
theorem div_three (c : Int) (h1 : 0 ≤ c) (h2 : c < 225) : c / 9 / 5 % 5 = c / 45 := by omega

theorem grown_drewN {W w' : World} (h : Grown W w') (n : Nat) : Grown W (w'.drewN n) := h

theorem grown_trans {a b c : World} (h : Grown a b) (k : Grown b c) : Grown a c :=
  ⟨World.keptBut_trans h.1 k.1, fun x => (k.2.1 x).trans (h.2.1 x), Nat.le_trans h.2.2 k.2.2⟩

/-- errors.New makes one new block. -/
theorem new_any (s : ByteArray) (w : World) : Calls Try.prog 16 #[.string s] w fun e w' => e = .returned (.iface 46 (.pointer (some ⟨w.heap.size, 0, none⟩))) ∧ w.alloc (.cells #[.string s] 48) = w' := by
  go_enter Try.func16, Try.ntmps16
  go_wp2
  go_ret
  exact ⟨rfl, rfl⟩

/-- PropertiesForCode at a byte below 225. -/
theorem code_lo (c : Int) (h1 : 0 ≤ c) (h2 : c < 225) (w : World) :
    Calls Try.prog 12 #[.int .u8 c] w fun e w' => e = .returned (.tuple #[.agg #[.int .i64 (c % 9), .int .i64 (c / 9 % 5), .int .i64 (c / 45)], .nilIface]) ∧ w.alloc (.cells #[.int .i64 (c % 9), .int .i64 (c / 9 % 5), .int .i64 (c / 45)] 35) = w' := by
  have e1 := div_three c h1 h2
  go_enter Try.func12, Try.ntmps12
  go_wp2
  exact bodyPost_ret (v := .tuple #[.agg #[.int .i64 (c % 9), .int .i64 (c / 9 % 5), .int .i64 (c / 45)], .nilIface]) (by simp [results, Try.results12, go_sem]) rfl ⟨rfl, rfl⟩

/-- PropertiesForCode at a byte from 225 on: an error. -/
theorem code_hi (c : Int) (h1 : 225 ≤ c) (w : World) :
    Calls Try.prog 12 #[.int .u8 c] w fun e w' => (∃ v, e = .returned (.tuple #[.agg #[.int .i64 0, .int .i64 0, .int .i64 0], .iface 46 v])) ∧ Grown w w' := by
  go_enter Try.func12, Try.ntmps12
  go_wp2
  go_region_with (go_at_call 16; refine (new_any _ _).mono ?_; rintro e w' ⟨rfl, rfl⟩)
  all_goals go_wp2
  all_goals exact bodyPost_ret (v := .tuple #[.agg #[.int .i64 0, .int .i64 0, .int .i64 0], .iface 46 (.pointer (some ⟨w.heap.size + 1, 0, none⟩))]) (by simp [results, Try.results12, go_sem]) rfl ⟨⟨_, rfl⟩, (((Grown.refl _).alloc _ _).alloc _ _).drew⟩

/-- impl.PropsOf at a byte below 225. -/
theorem props_lo (c : Int) (h1 : 0 ≤ c) (h2 : c < 225) (w : World) :
    Calls Try.prog 5 #[.int .u8 c] w fun e w' => e = .returned (.tuple #[.int .i64 (c % 9), .int .i64 (c / 9 % 5), .int .i64 (c / 45), .bool true]) ∧ Grown w w' := by
  go_enter Try.func5, Try.ntmps5
  go_wp2_with (go_at_call 12; refine (code_lo _ h1 h2 _).mono ?_; rintro e w' ⟨rfl, rfl⟩)
  go_quiet (fail)
  go_wp2
  exact bodyPost_ret (v := .tuple #[.int .i64 (c % 9), .int .i64 (c / 9 % 5), .int .i64 (c / 45), .bool true]) (by simp [results, Try.results5, go_sem]) rfl ⟨rfl, by repeat (first | exact Grown.refl _ | apply grown_drewN | apply Grown.drew | apply Grown.alloc)⟩

/-- impl.PropsOf at a byte from 225 on. -/
theorem props_hi (c : Int) (h1 : 225 ≤ c) (w : World) :
    Calls Try.prog 5 #[.int .u8 c] w fun e w' => e = .returned (.tuple #[.int .i64 0, .int .i64 0, .int .i64 0, .bool false]) ∧ Grown w w' := by
  go_enter Try.func5, Try.ntmps5
  go_wp2_with (go_at_call 12; refine (code_hi _ h1 _).mono ?_; rintro e w' ⟨⟨v, rfl⟩, hg⟩)
  exact bodyPost_ret (v := .tuple #[.int .i64 0, .int .i64 0, .int .i64 0, .bool false]) (by simp [results, Try.results5, go_sem]) rfl ⟨rfl, by repeat (first | exact hg | apply Grown.drew | apply Grown.alloc)⟩

/-- impl.CodeOf at the three parts of a byte below 225. -/
theorem code_of (c : Int) (h1 : 0 ≤ c) (h2 : c < 225) (w : World) :
    Calls Try.prog 7 #[.int .i64 (c % 9), .int .i64 (c / 9 % 5), .int .i64 (c / 45)] w fun e w' => e = .returned (.tuple #[.int .u8 c, .bool true]) ∧ Grown w w' := by
  have e1 : (c / 45 * 5 + c / 9 % 5) * 9 + c % 9 = c := by omega
  go_enter Try.func7, Try.ntmps7
  go_wp2
  exact bodyPost_ret (v := .tuple #[.int .u8 c, .bool true]) (by simp [results, Try.results7, go_sem]) rfl ⟨rfl, by repeat (first | exact Grown.refl _ | apply grown_drewN | apply Grown.drew | apply Grown.alloc)⟩

/-- spec.Props: the parts of a byte as the reference has them. -/
theorem spec_props (c : Int) (h1 : 0 ≤ c) (h2 : c < 225) (w : World) :
    Calls Try.prog 6 #[.int .i64 c] w fun e w' => e = .returned (.tuple #[.int .i64 (c % 9), .int .i64 (c / 9 % 5), .int .i64 (c / 45)]) ∧ w = w' := by
  go_enter Try.func6, Try.ntmps6
  go_wp2
  exact bodyPost_ret (v := .tuple #[.int .i64 (c % 9), .int .i64 (c / 9 % 5), .int .i64 (c / 45)]) (by simp [results, Try.results6, go_sem]) rfl ⟨rfl, rfl⟩

/-- The law at a byte below 225. -/
theorem walk_lo (a0 : Int) (h1 : 0 ≤ a0) (h2 : a0 < 225) (w : World) :
    Calls Try.prog 3 #[.int .u8 a0] w fun e w' => e = .returned (.bool true) ∧ Grown w w' := by
  have e1 := div_three a0 h1 h2
  go_enter Try.func3, Try.ntmps3
  go_wp2_with (first | (go_at_call 5; refine (props_lo _ h1 h2 _).mono ?_; rintro e w' ⟨rfl, hg⟩) | (go_at_call 6; refine (spec_props _ h1 h2 _).mono ?_; rintro e w' ⟨rfl, rfl⟩) | (go_at_call 7; refine (code_of _ h1 h2 _).mono ?_; rintro e w'' ⟨rfl, hg2⟩))
  go_ret
  exact ⟨rfl, by repeat (first | exact grown_trans hg hg2 | apply Grown.drew | apply Grown.alloc)⟩

/-- The law at a byte from 225 on. -/
theorem walk_hi (a0 : Int) (h1 : 225 ≤ a0) (w : World) :
    Calls Try.prog 3 #[.int .u8 a0] w fun e w' => e = .returned (.bool true) ∧ Grown w w' := by
  go_enter Try.func3, Try.ntmps3
  go_wp2_with (go_at_call 5; refine (props_hi _ h1 _).mono ?_; rintro e w' ⟨rfl, hg⟩)
  go_ret
  exact ⟨rfl, by repeat (first | exact hg | apply Grown.drew | apply Grown.alloc)⟩

theorem walk (a0 : Int) (w0 : (Lit.int .u8 a0).wf = true) (w : World) :
    Calls Try.prog 3 #[.int .u8 a0] w fun e w' => e = .returned (.bool true) ∧ Grown w w' := by
  have bd : 0 ≤ a0 ∧ a0 < 256 := by have := bounds_u8 w0; omega
  by_cases h : a0 < 225
  · exact walk_lo a0 bd.1 h w
  · exact walk_hi a0 (by omega) w

/-! ### THE ROW's STEP: WRITTEN OUT: LEAVE IT -/
set_option maxRecDepth 100000 in
theorem lifted (os : Os) (started : os.Started) (H : Type) (enc : TypeId × Value → H) :
    ReturnsInHanded {} Try.checked os 3 .any (Rows.fnPropsSpec.pre6 enc Try.prog Try.f3 Rows.fnPropsRow.domain false) (Rows.fnPropsSpec.post enc Try.prog Try.f3 false true false false) := by
  refine returnsInHanded_of_change (C := Try.checked) own started (by kernel_rfl) Try.func3
    (ChangeSpec.witness6 (enc := enc) (C := Try.checked) false ⟨#[], #[.int .u8 0], []⟩ 8 (by kernel_rfl) (by kernel_rfl) (by kernel_rfl) (by kernel_rfl)) ?_
  intro W base args ds gs before hval0 hW hcnd _
  have hval : ∀ (j : Nat) t v, Try.f3.params[j]? = some t → args[j]? = some v → Value.okWide Try.prog W .any base t v := hval0
  have hW' := hW
  obtain ⟨p, q, hA0, hV, rfl, hfz, hnd⟩ := hW
  have hA : DataW.TrodAll enc Try.prog W 0 (fun _ => true) true Try.f3.params.toList args.toList ds p := hA0
  rw [Try.params3] at hA hval
  obtain ⟨v0, vs0, d0, ds0, p0, q0, hargs, rfl, rfl, h0, r0⟩ := trodAll_cons hA
  obtain ⟨rfl, rfl, rfl⟩ := trodAll_nil r0
  obtain rfl : args = #[v0] := by cases args; simp_all
  obtain ⟨rfl, rfl⟩ := trodVars_none hV
  obtain ⟨a0, rfl, rfl, rfl, w0⟩ := open_int Try.underlying5 (hval 0 5 v0 rfl rfl) h0
  clear hA0 hval0
  simp only [List.append_nil] at hW'
  refine (walk a0 w0 W).mono fun e W' ⟨he, hg⟩ => ?_
  subst he
  exact ⟨_, rfl, post_of_same (pa := []) (pv := []) hW' (fun _ _ _ => (trodAll_cons_mk (shut_bool Try.underlying4 _) trodAll_mk0)) (fun sp _ => (trodAll_cons_mk (shut_int Try.underlying5 w0) trodAll_mk0)) (fun _ _ => rfl) rfl
    (hg.frame _) hg.2.1 (ok_one (by kernel_rfl) rfl (okWide_bool_mk Try.underlying4 _))⟩

theorem over : Rows.fnPropsRow.holds Try.pinned (OpenSpec.ofChange Rows.fnPropsSpec) :=
  OpenClaim.holds_of_wide 3 Try.f3 rfl rfl rfl rfl rfl rfl rfl ⟨rfl, rfl, rfl, rfl, rfl⟩ rfl rfl rfl rfl rfl (by kernel_rfl) Try.func3 (by kernel_rfl)
    (of_decide_eq_true (by kernel_rfl)) (by unfold Func.isWrapper; first | (rw [if_pos (by decide +kernel)]; kernel_rfl) | (rw [if_neg (by decide +kernel)]; exact ⟨rfl, rfl⟩))
    (fun os started H enc _ => lifted os started H enc)

/-- ████ THE STATEMENT ████ -/
theorem proved : Rows.FnPropsSaid :=
  over
#print axioms proved
end Go.Proofs.Ythbfhdehaipdeaa.fnProps
