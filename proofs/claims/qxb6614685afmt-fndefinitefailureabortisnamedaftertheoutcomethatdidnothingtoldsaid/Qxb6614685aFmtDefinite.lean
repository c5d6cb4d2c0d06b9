/-
  Seat b6614685aF. The proof of 'Rows.FnDefiniteFailureAbortIsNamedAfterTheOutcomeThatDidNothingToldSaid': the told and tied card. The road never comes to fmt: no text of fmt is used.
-/
import Derived.Test.Qxb6614685aFmtLaid
import Derived.Test.Qxb6614685aFmtTie
import Derived.Test.Qxb6614685aFmtCards
import Derived.SevenTiedAt
import Derived.OpenShut
namespace Go.Proofs.Qxb6614685aFmt.Definite
open Go.ChangeShapes Go.WideShapes Go.ChangeAt Go.RowKit Go.Proofs.Qxb6614685aFmt.Names
open Go.Extern.Stop Go.Stop Go.Extern

theorem u8_of_wf {x : Int} (h : (Lit.int .u8 x).wf = true) : 0 ≤ x := by
  simp [Lit.wf, IntKind.min, IntKind.max, IntKind.signed, IntKind.bits] at h
  omega

set_option maxRecDepth 1000000 in
theorem witness_row (os : Os) {H : Type} (enc : TypeId × Value → H) :
    (OpenSpec.ofChange Rows.fnDefiniteFailureAbortIsNamedAfterTheOutcomeThatDidNothingSpec).preRow enc Tryf.prog Tryf.f5 Rows.fnDefiniteFailureAbortIsNamedAfterTheOutcomeThatDidNothingRow.domain false Rows.fnDefiniteFailureAbortIsNamedAfterTheOutcomeThatDidNothingRow.laid
      ((World.doorLaid Tryf.prog 400 os).forCall (fun _ _ => 0) ⟨#[], #[.int .u8 0, .int .u8 0], []⟩).memory #[.int .u8 0, .int .u8 0] := by
  have hw : (DataW.whole enc Tryf.prog ((World.doorLaid Tryf.prog 400 os).forCall (fun _ _ => 0) ⟨#[], #[.int .u8 0, .int .u8 0], []⟩).memory Tryf.f5.params.toList (OpenSpec.ofChange Rows.fnDefiniteFailureAbortIsNamedAfterTheOutcomeThatDidNothingSpec).vars false #[Value.int .u8 0, Value.int .u8 0].toList 8).map (fun x => (x.1, x.2.1)) =
      some ([.lit (.int .u8 0), .lit (.int .u8 0)], [Rows.laid_example_com_amends_amends_internal_saga_abortReasonNames, Rows.laid_example_com_amends_amends_internal_saga_outcomeNames]) := by kernel_rfl
  obtain ⟨⟨x1, x2, x3⟩, hx, hx1⟩ := Option.map_eq_some_iff.1 hw
  simp only [Prod.mk.injEq] at hx1
  obtain ⟨rfl, rfl⟩ := hx1
  exact OpenSpec.preRow_of_cond 8 hx (by kernel_rfl) (fun k hk => by cases hk) (by kernel_rfl) (door_both os _)

set_option maxRecDepth 100000 in
theorem lifted (os : Os) (started : os.Started) (H : Type) (enc : TypeId × Value → H) :
    ReturnsInTold none {} Tryf.checked os 5 .any Input.okWide ((OpenSpec.ofChange Rows.fnDefiniteFailureAbortIsNamedAfterTheOutcomeThatDidNothingSpec).preRow enc Tryf.prog Tryf.f5 Rows.fnDefiniteFailureAbortIsNamedAfterTheOutcomeThatDidNothingRow.domain false Rows.fnDefiniteFailureAbortIsNamedAfterTheOutcomeThatDidNothingRow.laid)
      (fun F => ((OpenSpec.ofChange Rows.fnDefiniteFailureAbortIsNamedAfterTheOutcomeThatDidNothingSpec).at F).post enc Tryf.prog Tryf.f5 false true false false) (aloneAtReturn Tryf.prog) nothingAlways := by
  refine returnsInTold_of_row (C := Tryf.checked) (s := OpenSpec.ofChange Rows.fnDefiniteFailureAbortIsNamedAfterTheOutcomeThatDidNothingSpec) (by kernel_rfl) own started (by kernel_rfl) Tryf.func5
    (OpenSpec.witness_stopped_atRef (enc := enc) (C := Tryf.checked) false (World.doorLaid Tryf.prog 400 os) #[.int .u8 0, .int .u8 0] rfl (by kernel_rfl) (by kernel_rfl) (by kernel_rfl) (witness_row os enc)) ?_
  intro F W base args ds gs before _ hF hval0 hW _ _ _ hL _
  have hval : ∀ (j : Nat) t v, Tryf.f5.params[j]? = some t → args[j]? = some v → Value.okWide Tryf.prog W .any base t v := hval0
  have hW' := hW
  obtain ⟨p, q, hA0, hV, rfl, hfz, hnd⟩ := hW
  have hA : DataW.TrodAll enc Tryf.prog W 0 (fun _ => true) true Tryf.f5.params.toList args.toList ds p := hA0
  rw [Tryf.params5] at hA hval
  obtain ⟨v0, v1, d0, d1, p0, p1, rfl, rfl, rfl, h0, h1⟩ := trodAll_two hA
  obtain ⟨a0, rfl, rfl, rfl, w0⟩ := open_int Tryf.underlying5 (hval 0 5 v0 rfl rfl) h0
  obtain ⟨a1, rfl, rfl, rfl, w1⟩ := open_int Tryf.underlying5 (hval 1 5 v1 rfl rfl) h1
  clear hA0 hval0
  obtain ⟨⟨b, off, cap, hab⟩, b', off', cap', hoc⟩ := both_of hL
  obtain ⟨g, g', rfl⟩ : ∃ g g', gs = [g, g'] := by
    obtain ⟨_, _, _, _, d, _, _, _, _, _, d', _, hg, _⟩ := trodVars_two hV
    exact ⟨d, d', hg⟩
  have hV2 := vars_stay (Below.refl W.heap.size W) (fun n hn g t h1 h2 => by
    simp only [Rows.fnDefiniteFailureAbortIsNamedAfterTheOutcomeThatDidNothingSpec, OpenSpec.ofChange, List.mem_cons, List.not_mem_nil, or_false] at hn
    rcases hn with rfl | rfl
    · obtain rfl : g = 1 := Option.some.inj (h1.symm.trans (by kernel_rfl))
      exact Option.some.inj (h2.symm.trans (by kernel_rfl))
    · obtain rfl : g = 0 := Option.some.inj (h1.symm.trans (by kernel_rfl))
      exact Option.some.inj (h2.symm.trans (by kernel_rfl))) hV
  refine (definite_walk a0 a1 (u8_of_wf w0) (u8_of_wf w1) W b off cap b' off' cap' hab hoc).mono fun e W' ⟨he, hw⟩ => ?_
  subst he; subst hw
  exact ⟨_, rfl, _, _, _, [], [], _, hW', trodAll_mk1 (shut_bool Tryf.underlying4 _), trodAll_mk2 (shut_int Tryf.underlying5 w0) (shut_int Tryf.underlying5 w1), hV2, World.keptBut_refl _ _, fun h => by cases h⟩

theorem laidOut' : laidOutB Tryf.pinned.checked.prog = true := laidOut
theorem stopKnobs : Tryf.pinned.checked.prog.stopKnobs = [] := by kernel_rfl
theorem quiet (os : Os) : Stop.quiet Tryf.pinned.checked.prog os := by
  intro k hk
  rw [stopKnobs] at hk
  cases hk

theorem proved : Rows.FnDefiniteFailureAbortIsNamedAfterTheOutcomeThatDidNothingToldSaid :=
  Claim7.holds_of_told_tied_any_at .later 5 Tryf.f5 "fmt.Sprintf" [] [] _ _ _ _ _ (by kernel_rfl) rfl rfl rfl laidOut' (by kernel_rfl) rfl ⟨rfl, rfl, rfl, rfl, rfl, rfl, rfl⟩ rfl rfl (by kernel_rfl) (by kernel_rfl) Tryf.func5 (by kernel_rfl)
    (of_decide_eq_true (by kernel_rfl)) (of_decide_eq_true (by kernel_rfl)) (by kernel_rfl) rfl stopKnobs.symm (by kernel_rfl)
    (by kernel_rfl) (by kernel_rfl) (by kernel_rfl) (by kernel_rfl) (by kernel_rfl) (by kernel_rfl) (by kernel_rfl) (by kernel_rfl) (by kernel_rfl) rfl (by kernel_rfl) rfl rfl
    rfl rfl
    rfl (by kernel_rfl) (by kernel_rfl) (by kernel_rfl) (by decide) (by kernel_rfl) fnDefiniteFailureAbortIsNamedAfterTheOutcomeThatDidNothing_row_tie
    (OpenClaim.moreEntering_of (by kernel_rfl) (by kernel_rfl) (by kernel_rfl) (by kernel_rfl) (by kernel_rfl) (by kernel_rfl) (by kernel_rfl) (by kernel_rfl) (by kernel_rfl) (by kernel_rfl))
    ⟨_, WideRow.started_initial, quiet _⟩
    (fun os started _ H enc _ => lifted os started H enc)
#print axioms proved
end Go.Proofs.Qxb6614685aFmt.Definite
