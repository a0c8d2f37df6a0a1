/-
  PROVED: whatever the properties byte, the dictionary, the size and whether the size is told: the law of an LZMA stream's head answers true: the head that the stream was written with is the head that its reader holds; the arguments read as they did. Conditions: the told and tied card's own (fmt's text told; the three listed variables tied to the program's text).
-/
import Derived.Test.YtnkemepodpkhnaaGreatFmtHead
import Derived.Test.YtnkemepodpkhnaaGreatFmtRows
import Derived.Test.YtnkemepodpkhnaaGreatFmtCards
import Derived.Test.YtnkemepodpkhnaaGreatFmtTie
import Derived.WalkKit
import Derived.ProofKit
import Derived.OpenShut
import Derived.LaidMore
import Derived.SevenTiedAt
import Derived.Stop.Joined
import Derived.Stop.JoinedTold
import Derived.Deep.DeepWitnessRef
import Derived.SizedLaws
namespace Go.Proofs.YtnkemepodpkhnaaGreatFmt
open Go.ChangeShapes Go.WideShapes Go.ChangeAt Go.RowKit
open Go.Extern.Stop Go.Stop Go.Extern
theorem ownTryz : ownKnob Tryz.prog.godebug = none := by kernel_rfl
theorem laidOutTryz : laidOutB Tryz.pinned.checked.prog = true := by kernel_rfl
theorem stopsTryz : Tryz.pinned.checked.prog.stops = ["fmt.Sprintf, its operands' methods called", "fmt.errorf, its operands' methods called"] := by kernel_rfl
theorem stopKnobsTryz : Tryz.pinned.checked.prog.stopKnobs = [] := by kernel_rfl
theorem quietTryz (os : Os) : Stop.quiet Tryz.pinned.checked.prog os := by
  intro k hk
  rw [stopKnobsTryz] at hk
  cases hk

/-- The heap of the door's own run meets what the row lists. -/
theorem door_met (os : Os) (args : Array Value) : laidMetH Tryz.prog Rows.fnLzmaHeadRow.laid ((World.doorLaid Tryz.prog 166 os).forCall (fun _ _ => 0) ⟨#[], args, []⟩).memory := by
  rw [MakeChecks.laidMetH_plain _ _ _ (by kernel_rfl)]
  exact laidMet_of_run' 8 (by kernel_rfl) (by kernel_rfl)

theorem witness_row (os : Os) {H : Type} (enc : TypeId × Value → H) :
    (OpenSpec.ofChange Rows.fnLzmaHeadSpec).preRow enc Tryz.prog Tryz.f3 Rows.fnLzmaHeadRow.domain false Rows.fnLzmaHeadRow.laid ((World.doorLaid Tryz.prog 166 os).forCall (fun _ _ => 0) ⟨#[], #[.int .u8 0, .int .u16 0, .int .u16 0, .bool false], []⟩).memory #[.int .u8 0, .int .u16 0, .int .u16 0, .bool false] := by
  have hw : (DataW.whole enc Tryz.prog ((World.doorLaid Tryz.prog 166 os).forCall (fun _ _ => 0) ⟨#[], #[.int .u8 0, .int .u16 0, .int .u16 0, .bool false], []⟩).memory Tryz.f3.params.toList (OpenSpec.ofChange Rows.fnLzmaHeadSpec).vars false #[Value.int .u8 0, .int .u16 0, .int .u16 0, .bool false].toList 8).map (fun x => (x.1, x.2.1)) =
      some ([.lit (.int .u8 0), .lit (.int .u16 0), .lit (.int .u16 0), .lit (.bool false)], []) := by kernel_rfl
  obtain ⟨⟨x1, x2, x3⟩, hx, hx1⟩ := Option.map_eq_some_iff.1 hw
  simp only [Prod.mk.injEq] at hx1
  obtain ⟨rfl, rfl⟩ := hx1
  exact OpenSpec.preRow_of_cond 8 hx (by kernel_rfl) (fun k hk => by cases hk) (by kernel_rfl) (door_met os _)

set_option maxRecDepth 100000 in
theorem lifted (os : Os) (started : os.Started) (H : Type) (enc : TypeId × Value → H) :
    ReturnsInTold none {} Tryz.checked os 3 .any Input.okWide ((OpenSpec.ofChange Rows.fnLzmaHeadSpec).preRow enc Tryz.prog Tryz.f3 Rows.fnLzmaHeadRow.domain false Rows.fnLzmaHeadRow.laid)
      (fun F => ((OpenSpec.ofChange Rows.fnLzmaHeadSpec).at F).post enc Tryz.prog Tryz.f3 false true false false) (aloneAtReturn Tryz.prog) nothingAlways := by
  refine returnsInTold_of_row (C := Tryz.checked) (s := OpenSpec.ofChange Rows.fnLzmaHeadSpec) (by kernel_rfl) ownTryz started (by kernel_rfl) Tryz.func3
    (OpenSpec.witness_stopped_atRef (enc := enc) (C := Tryz.checked) false (World.doorLaid Tryz.prog 166 os) #[.int .u8 0, .int .u16 0, .int .u16 0, .bool false] rfl (by kernel_rfl) (by kernel_rfl) (by kernel_rfl) (witness_row os enc)) ?_
  intro F W base args ds gs before _ _ hval0 hW _ _ _ _ _
  have hval : ∀ (j : Nat) t v, Tryz.f3.params[j]? = some t → args[j]? = some v → Value.okWide Tryz.prog W .any base t v := hval0
  have hW' := hW
  obtain ⟨p, q, hA0, hV0, rfl, _, _⟩ := hW
  have hA : DataW.TrodAll enc Tryz.prog W 0 (fun _ => true) true Tryz.f3.params.toList args.toList ds p := hA0
  rw [Tryz.params3] at hA hval
  obtain ⟨v0, vs0, d0, ds0, p0, q0, hargs, rfl, rfl, h0, r0⟩ := trodAll_cons hA
  obtain ⟨v1, vs1, d1, ds1, p1, q1, rfl, rfl, rfl, h1, r1⟩ := trodAll_cons r0
  obtain ⟨v2, vs2, d2, ds2, p2, q2, rfl, rfl, rfl, h2, r2⟩ := trodAll_cons r1
  obtain ⟨v3, vs3, d3, ds3, p3, q3, rfl, rfl, rfl, h3, r3⟩ := trodAll_cons r2
  obtain ⟨rfl, rfl, rfl⟩ := trodAll_nil r3
  obtain rfl : args = #[v0, v1, v2, v3] := by cases args; simp_all
  obtain ⟨rfl, rfl⟩ := trodVars_none hV0
  obtain ⟨a0, rfl, rfl, rfl, w0⟩ := open_int Tryz.underlying5 (hval 0 5 v0 rfl rfl) h0
  obtain ⟨a1, rfl, rfl, rfl, w1⟩ := open_int Tryz.underlying22 (hval 1 22 v1 rfl rfl) h1
  obtain ⟨a2, rfl, rfl, rfl, w2⟩ := open_int Tryz.underlying22 (hval 2 22 v2 rfl rfl) h2
  obtain ⟨a3, rfl, rfl, rfl⟩ := open_bool Tryz.underlying4 (hval 3 4 v3 rfl rfl) h3
  clear hA0 hval0
  simp only [List.append_nil] at hW'
  have b0 : 0 ≤ a0 ∧ a0 < 256 := by
    have h := w0
    simp [Lit.wf, show IntKind.u8.min = 0 from rfl, show IntKind.u8.max = 255 from rfl] at h
    omega
  have b1 : 0 ≤ a1 ∧ a1 < 65536 := by
    have h := w1
    simp [Lit.wf, show IntKind.u16.min = 0 from rfl, show IntKind.u16.max = 65535 from rfl] at h
    omega
  have b2 : 0 ≤ a2 ∧ a2 < 65536 := by
    have h := w2
    simp [Lit.wf, show IntKind.u16.min = 0 from rfl, show IntKind.u16.max = 65535 from rfl] at h
    omega
  obtain ⟨n0, rfl⟩ := Int.eq_ofNat_of_zero_le b0.1
  obtain ⟨n1, rfl⟩ := Int.eq_ofNat_of_zero_le b1.1
  obtain ⟨n2, rfl⟩ := Int.eq_ofNat_of_zero_le b2.1
  refine (law_any n0 n1 n2 a3 W (by omega) (by omega) (by omega)).mono ?_
  rintro e W' ⟨rfl, hB⟩
  refine ⟨_, rfl, _, _, _, [], [], [], hW', ?_, ?_, ?_, hB.frame _, fun h => by cases h⟩
  · exact trodAll_cons_mk (shut_bool Tryz.underlying4 _) trodAll_mk0
  · exact trodAll_cons_mk (shut_int Tryz.underlying5 w0) (trodAll_cons_mk (shut_int Tryz.underlying22 w1) (trodAll_cons_mk (shut_int Tryz.underlying22 w2) (trodAll_cons_mk (shut_bool Tryz.underlying4 _) trodAll_mk0)))
  · rfl

/-- THE STATEMENT. -/
theorem fnLzmaHead_told : Rows.FnLzmaHeadToldSaid :=
  Claim7.holds_of_told_tied_any_at .later 3 Tryz.f3 "fmt.Sprintf, its operands' methods called" ["fmt.errorf, its operands' methods called"] [] (true, "ab0b82aa37bf928fde5e0ddb62cf3d347c15cbe1e0fd3b8fa3a739a4be0016a8") true false [.sentinel, .sentinel, .sentinel] true
    (by kernel_rfl) rfl rfl rfl laidOutTryz (by kernel_rfl) rfl ⟨rfl, rfl, rfl, rfl, rfl, rfl, rfl⟩ rfl rfl (by kernel_rfl) (by kernel_rfl) Tryz.func3 (by kernel_rfl)
    (of_decide_eq_true (by kernel_rfl)) (of_decide_eq_true (by kernel_rfl)) stopsTryz.symm rfl stopKnobsTryz.symm (by kernel_rfl)
    (by kernel_rfl) (by kernel_rfl) (by kernel_rfl) (by kernel_rfl) (by kernel_rfl) (by kernel_rfl) (by kernel_rfl) (by kernel_rfl) (by kernel_rfl) rfl (by kernel_rfl) rfl rfl
    rfl rfl
    rfl (by kernel_rfl) (by kernel_rfl) (by kernel_rfl) (by decide) (by kernel_rfl) fnLzmaHead_row_tie
    (OpenClaim.moreEntering_of (by kernel_rfl) (by kernel_rfl) (by kernel_rfl) (by kernel_rfl) (by kernel_rfl) (by kernel_rfl) (by kernel_rfl) (by kernel_rfl) (by kernel_rfl) (by kernel_rfl))
    ⟨_, WideRow.started_initial, quietTryz _⟩
    (fun os started _ H enc _ => lifted os started H enc)
#print axioms fnLzmaHead_told
end Go.Proofs.YtnkemepodpkhnaaGreatFmt
