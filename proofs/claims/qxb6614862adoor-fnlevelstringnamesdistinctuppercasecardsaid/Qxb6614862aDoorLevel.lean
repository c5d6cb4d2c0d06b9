/-
  Seat b6614862aD. The proof of 'Rows.FnLevelStringNamesDistinctUpperCaseCardSaid': the row, then the tied card.
-/
import Derived.Test.Qxb6614862aDoorNames
import Derived.Test.Qxb6614862aDoorTie
import Derived.Test.Qxb6614862aDoorCards
import Derived.ProofKit
import Derived.LaidMore
import Derived.MakeChecks
import Derived.OpenShut
import Derived.Stop.Joined
import Derived.SevenTiedAt
namespace Go.Proofs.Qxb6614862aDoor.Level
open Go.ChangeShapes Go.WideShapes Go.ChangeAt Go.RowKit Go.Proofs.Qxb6614862aDoor.Names

theorem own : ownKnob Tryd.prog.godebug = none := by kernel_rfl
theorem laidOut : laidOutB Tryd.prog = true := by kernel_rfl
theorem cells9 : Tryd.prog.cellsOf 9 = 1 := by kernel_rfl
theorem cells39 : Tryd.prog.cellsOf 39 = 6 := by kernel_rfl

/-- An array of strings that reads as listed holds those strings, cell for cell. -/
theorem row_of {H : Type} {enc : TypeId × Value → H} {W : World} {n : String} {g fuel : Nat} {cs : Array Value} {sp : Nat → Bool} {held : Bool} {ds : List (DataW H)} {p : List MemPlace}
    (hg : Tryd.prog.globalNamed n = some g) (hv : W.var? Tryd.prog n = some cs) (hd : DataW.trod enc Tryd.prog W 0 sp held fuel 39 cs.toList = some (.agg ds, p)) :
    ∀ i s, ds[i]? = some (.lit (.string s)) → W.cell? ⟨g, i, none⟩ = some (.string ⟨s.toArray⟩) := by
  obtain ⟨xs, m, rfl, hx, hlen, hn, hel⟩ := DataW.trod_array Tryd.underlying39 hd
  simp only [Prod.mk.injEq, DataW.agg.injEq] at hx
  obtain ⟨rfl, _⟩ := hx
  intro i s hi
  have hlt : i < 6 := by
    have := (List.getElem?_eq_some_iff.1 hi).1
    simp at this
    omega
  rw [cells39] at hlen
  have he := hel i hlt
  rw [cells9, Nat.mul_one] at he
  rw [List.getElem?_map] at hi
  cases hy : xs[i]? with
  | none => simp [hy] at hi
  | some y =>
    rw [hy] at he hi
    simp only [Option.map_some, Option.some.injEq] at hi
    have hil : i < cs.toList.length := by omega
    have e1 : (cs.toList.drop i).take 1 = [cs.toList[i]] := by
      rw [List.drop_eq_getElem_cons hil]
      simp
    rw [e1] at he
    obtain ⟨s', e2, e3, _⟩ := DataW.trod_string Tryd.underlying9 he
    have e4 : cs.toList[i] = .string s' := by simpa using e2
    rw [e3] at hi
    simp only [DataW.lit.injEq, Lit.string.injEq] at hi
    subst hi
    have := World.var?_cell hg hv i
    rw [this]
    have hia : i < cs.size := by simpa using hil
    rw [Array.getElem?_eq_getElem hia]
    simp only [Array.getElem_toList] at e4
    rw [e4]

theorem of_laid {W : World} (h : laidMetH Tryd.prog Rows.fnLevelStringNamesDistinctUpperCaseRow.laid W) : Laid W := by
  rw [MakeChecks.laidMetH_plain _ _ _ (by kernel_rfl)] at h
  obtain ⟨ps, ⟨g0, t0, cs0, f0, p0, q0, hg0, ht0, hv0, hd0, _⟩, _, _⟩ := h
  obtain rfl : g0 = 0 := Option.some.inj (hg0.symm.trans (by kernel_rfl))
  obtain rfl : t0 = 39 := Option.some.inj (ht0.symm.trans (by kernel_rfl))
  have hel := row_of hg0 hv0 hd0
  intro i hi
  rcases (by omega : i = 0 ∨ i = 1 ∨ i = 2 ∨ i = 3 ∨ i = 4 ∨ i = 5) with rfl | rfl | rfl | rfl | rfl | rfl
  · exact hel 0 _ rfl
  · exact hel 1 _ rfl
  · exact hel 2 _ rfl
  · exact hel 3 _ rfl
  · exact hel 4 _ rfl
  · exact hel 5 _ rfl

/-- The listed variable reads behind the call as it did, if below the heap's old size nothing has turned. -/
theorem vars_stay {H : Type} {enc : TypeId × Value → H} {W W' : World} (hb : Below W.heap.size W W') : ∀ {ns : List String} {gs : List (DataW H)} {ps : List MemPlace},
    (∀ n ∈ ns, ∀ g t, Tryd.prog.globalNamed n = some g → (Tryd.prog.globals[g]?).map (·.type) = some t → t = 39) → DataW.TrodVars enc Tryd.prog W (fun _ => true) ns gs ps → DataW.TrodVars enc Tryd.prog W' (fun b => decide (b < W.heap.size)) ns gs ps
  | [], [], _, _, h => h
  | n :: ns, d :: ds, ps, hr, ⟨g, t, cs, fuel, p, q, h1, h2, h3, h4, hs, e⟩ => by
    obtain rfl := hr n (by simp) g t h1 h2
    have hlt : ∀ x ∈ p, x.block < W.heap.size := DataW.trod_lt fuel _ _ _ h4
    have hrd : Tryd.prog.readableRec 39 = true := by kernel_rfl
    have h4' := DataW.trod_stays (kids_book laidOut hrd) (book_sized hrd) (fun h => by cases h) ⟨of_decide_eq_true (by kernel_rfl), book_self 39⟩ h4 (fun x hx => hb.same (hlt x hx)) (sp' := fun b => decide (b < W.heap.size)) (fun x hx => by simpa using hlt x hx)
    have hgl : g < W.heap.size := by
      rcases Nat.lt_or_ge g W.heap.size with h | h
      · exact h
      · simp [World.var?, h1, Array.getElem?_eq_none h] at h3
    exact ⟨g, 39, cs, fuel, p, q, h1, h2, var?_below hb h1 hgl h3, h4', vars_stay hb (fun n hn => hr n (by simp [hn])) hs, e⟩
  | [], _ :: _, _, _, h => h.elim
  | _ :: _, [], _, _, h => h.elim

/-- The door's own heap meets the condition. -/
theorem door_met (os : Os) (args : Array Value) : laidMetH Tryd.prog Rows.fnLevelStringNamesDistinctUpperCaseRow.laid ((World.doorLaid Tryd.prog 400 os).forCall (fun _ _ => 0) ⟨#[], args, []⟩).memory :=
  laidMetH_of_parts3 (fuel := 8) (laidMet_of_run' 8 (by kernel_rfl) (by kernel_rfl)) (by kernel_rfl) (by kernel_rfl)

set_option maxRecDepth 100000 in
theorem lifted (os : Os) (started : os.Started) (H : Type) (enc : TypeId × Value → H) :
    ReturnsInHanded {} Tryd.checked os 3 .any (fun w args => (Rows.fnLevelStringNamesDistinctUpperCaseSpec.pre enc Tryd.prog Tryd.f3 [] false w args ∧ laidMetH Tryd.prog Rows.fnLevelStringNamesDistinctUpperCaseRow.laid w) ∧ sizedMet enc Tryd.prog Tryd.f3 (OpenSpec.ofChange Rows.fnLevelStringNamesDistinctUpperCaseSpec) false w args)
      (Rows.fnLevelStringNamesDistinctUpperCaseSpec.post enc Tryd.prog Tryd.f3 false true false false) := by
  refine returnsInHanded_of_change_and (C := Tryd.checked) (X := fun w _ => laidMetH Tryd.prog Rows.fnLevelStringNamesDistinctUpperCaseRow.laid w) (fun _ _ _ hh h => h.of_heap hh) own started (by kernel_rfl) Tryd.func3
    (ChangeSpec.witness_shaped (enc := enc) (C := Tryd.checked) (os := os) (X := fun w _ => laidMetH Tryd.prog Rows.fnLevelStringNamesDistinctUpperCaseRow.laid w) false (World.doorLaid Tryd.prog 400 os) #[.int .i64 0, .int .i64 0] 8 rfl (World.shaped_of_RefB (by kernel_rfl) (by kernel_rfl)) (by kernel_rfl) (by kernel_rfl) (by kernel_rfl) (door_met os _)) ?_
  intro W base args ds gs before hval0 hW _ _ hL _
  have hval : ∀ (j : Nat) t v, Tryd.f3.params[j]? = some t → args[j]? = some v → Value.okWide Tryd.prog W .any base t v := hval0
  have hW' := hW
  obtain ⟨p, q, hA0, hV, rfl, hfz, hnd⟩ := hW
  have hA : DataW.TrodAll enc Tryd.prog W 0 (fun _ => true) true Tryd.f3.params.toList args.toList ds p := hA0
  rw [Tryd.params3] at hA hval
  obtain ⟨v0, v1, d0, d1, p0, p1, rfl, rfl, rfl, h0, h1⟩ := trodAll_two hA
  obtain ⟨a0, rfl, rfl, rfl, w0⟩ := open_int Tryd.underlying3 (hval 0 3 v0 rfl rfl) h0
  obtain ⟨a1, rfl, rfl, rfl, w1⟩ := open_int Tryd.underlying3 (hval 1 3 v1 rfl rfl) h1
  clear hA0 hval0
  obtain ⟨g, rfl⟩ : ∃ g, gs = [g] := by
    obtain ⟨_, _, _, _, d, _, hg, _⟩ := trodVars_one hV
    exact ⟨d, hg⟩
  have hV2 := vars_stay (Below.refl W.heap.size W) (fun n hn g t h1 h2 => by
    simp only [Rows.fnLevelStringNamesDistinctUpperCaseSpec, List.mem_singleton] at hn
    subst hn
    obtain rfl : g = 0 := Option.some.inj (h1.symm.trans (by kernel_rfl))
    exact Option.some.inj (h2.symm.trans (by kernel_rfl))) hV
  refine (law_walk a0 a1 W (of_laid hL)).mono fun e W' ⟨he, hw⟩ => ?_
  subst he; subst hw
  exact ⟨_, rfl, _, _, _, [], [], _, hW', trodAll_mk1 (shut_bool Tryd.underlying4 _), trodAll_mk2 (shut_int Tryd.underlying3 w0) (shut_int Tryd.underlying3 w1), hV2, World.keptBut_refl _ _, fun h => by cases h⟩

theorem row_holds : Rows.FnLevelStringNamesDistinctUpperCaseSaid :=
  OpenClaim.holds_of_wide 3 Tryd.f3 rfl rfl rfl rfl rfl rfl rfl ⟨rfl, rfl, rfl, rfl, rfl⟩ rfl rfl rfl rfl rfl (by kernel_rfl) Tryd.func3 (by kernel_rfl)
    (of_decide_eq_true (by kernel_rfl)) (by unfold Func.isWrapper; first | (rw [if_pos (by decide +kernel)]; kernel_rfl) | (rw [if_neg (by decide +kernel)]; exact ⟨rfl, rfl⟩))
    (fun os started H enc _ => lifted os started H enc)

theorem proved : Rows.FnLevelStringNamesDistinctUpperCaseCardSaid :=
  Claim7.holds_tied_plain_at .later [] [.widerDeep] true _ false
    row_holds (fun _ h => by cases h) (by kernel_rfl) (fun _ h => by cases h) fnLevelStringNamesDistinctUpperCase_row_tie rfl ⟨rfl, rfl⟩ (by kernel_rfl) rfl
    (fun f fn hf hfn => by
      obtain rfl : f = 3 := Option.some.inj (hf.symm.trans (by kernel_rfl))
      obtain rfl : fn = Tryd.f3 := (Option.some.inj (Tryd.func3.symm.trans hfn)).symm
      exact ⟨by kernel_rfl, fun j t ht => by
        rw [Tryd.params3] at ht
        have hm : t ∈ [3, 3] := by simpa using Array.mem_of_getElem? ht
        have hall : ([3, 3].all fun u => !Tryd.prog.wantsStandIn u) = true := by kernel_rfl
        exact (show Tryd.prog.wantsStandIn t = false by simpa using List.all_eq_true.1 hall t hm)⟩)
    (by kernel_rfl)
#print axioms proved
end Go.Proofs.Qxb6614862aDoor.Level
