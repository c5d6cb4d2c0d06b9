/-
  Seat b6614685aF. From 'laid' to the cells; the listed variables read again behind the call; the heap of the witness.
-/
import Derived.Test.Qxb6614685aFmtNames
import Derived.Stop.Joined
import Derived.Stop.JoinedTold
import Derived.Deep.DeepWitnessRef
namespace Go.Proofs.Qxb6614685aFmt.Names
open Go.ChangeShapes Go.WideShapes Go.ChangeAt Go.RowKit

theorem own : ownKnob Tryf.prog.godebug = none := by kernel_rfl
theorem laidOut : laidOutB Tryf.prog = true := by kernel_rfl
theorem cells9 : Tryf.prog.cellsOf 9 = 1 := by kernel_rfl

/-- A listed variable that is a slice of strings without spare: its cell, and its strings' cells. -/
theorem row_of {H : Type} {enc : TypeId × Value → H} {W : World} {n : String} {g fuel : Nat} {cs : Array Value} {sp : Nat → Bool} {held : Bool} {ds : List (DataW H)} {p : List MemPlace}
    (hg : Tryf.prog.globalNamed n = some g) (hv : W.var? Tryf.prog n = some cs) (hd : DataW.trod enc Tryf.prog W 0 sp held fuel 29 cs.toList = some (.slice ds [], p)) (h0 : ∃ s, ds[0]? = some (.lit (.string s))) :
    ∃ b off cap, W.cell? ⟨g, 0, none⟩ = some (.slice (some ⟨b, off, none⟩) ds.length cap) ∧ ∀ i s, ds[i]? = some (.lit (.string s)) → W.cell? ⟨b, off + i, none⟩ = some (.string ⟨s.toArray⟩) := by
  obtain ⟨a, cap, hcs, _, hel⟩ := open_row Tryf.underlying29 cells9 hd
  have each : ∀ i s, ds[i]? = some (.lit (.string s)) → W.cell? (a.add i) = some (.string ⟨s.toArray⟩) := by
    intro i s hi
    obtain ⟨v, m, q, hc, ht⟩ := hel i _ hi
    obtain ⟨s', e1, e2, _⟩ := DataW.trod_string Tryf.underlying9 ht
    simp at e1 e2
    obtain ⟨e2, _⟩ := e2
    subst e1 e2
    rw [hc]
  have hc0 : W.cell? ⟨g, 0, none⟩ = some (.slice (some a) ds.length cap) := by
    have := World.var?_cell hg hv 0
    rw [Array.eq_one_of_toList hcs] at this
    simpa using this
  obtain ⟨s0, h0⟩ := h0
  obtain ⟨b, off, spot⟩ := a
  have hspot : spot = none := by simpa [Addr.add] using World.cell?_spot (each 0 s0 h0)
  subst hspot
  exact ⟨b, off, cap, hc0, fun i s hi => by rw [← add_plain]; exact each i s hi⟩

theorem abort_of {W : World} (h : laidMetH Tryf.prog Rows.fnAbortReasonNamesAreDistinctRow.laid W) : ∃ b off cap, Abort W b off cap := by
  rw [MakeChecks.laidMetH_plain _ _ _ (by kernel_rfl)] at h
  obtain ⟨ps, ⟨g0, t0, cs0, f0, p0, q0, hg0, ht0, hv0, hd0, _⟩, _, _⟩ := h
  obtain rfl : g0 = 1 := Option.some.inj (hg0.symm.trans (by kernel_rfl))
  obtain rfl : t0 = 29 := Option.some.inj (ht0.symm.trans (by kernel_rfl))
  obtain ⟨b, off, cap, hc, hel⟩ := row_of hg0 hv0 hd0 ⟨_, rfl⟩
  exact ⟨b, off, cap, hc, hel 0 _ rfl, hel 1 _ rfl, hel 2 _ rfl, hel 3 _ rfl⟩

theorem both_of {W : World} (h : laidMetH Tryf.prog Rows.fnDefiniteFailureAbortIsNamedAfterTheOutcomeThatDidNothingRow.laid W) :
    (∃ b off cap, Abort W b off cap) ∧ ∃ b off cap, Outc W b off cap := by
  rw [MakeChecks.laidMetH_plain _ _ _ (by kernel_rfl)] at h
  obtain ⟨ps, ⟨g0, t0, cs0, f0, p0, q0, hg0, ht0, hv0, hd0, ⟨g1, t1, cs1, f1, p1, q1, hg1, ht1, hv1, hd1, _⟩, _⟩, _, _⟩ := h
  obtain rfl : g0 = 0 := Option.some.inj (hg0.symm.trans (by kernel_rfl))
  obtain rfl : t0 = 29 := Option.some.inj (ht0.symm.trans (by kernel_rfl))
  obtain rfl : g1 = 1 := Option.some.inj (hg1.symm.trans (by kernel_rfl))
  obtain rfl : t1 = 29 := Option.some.inj (ht1.symm.trans (by kernel_rfl))
  obtain ⟨b, off, cap, hc, hel⟩ := row_of hg0 hv0 hd0 ⟨_, rfl⟩
  obtain ⟨b', off', cap', hc', hel'⟩ := row_of hg1 hv1 hd1 ⟨_, rfl⟩
  exact ⟨⟨b', off', cap', hc', hel' 0 _ rfl, hel' 1 _ rfl, hel' 2 _ rfl, hel' 3 _ rfl⟩, b, off, cap, hc, hel 0 _ rfl, hel 1 _ rfl, hel 2 _ rfl⟩

/-- The listed variables read behind the call as they did, if below the heap's old size nothing has turned. -/
theorem vars_stay {H : Type} {enc : TypeId × Value → H} {W W' : World} (hb : Below W.heap.size W W') : ∀ {ns : List String} {gs : List (DataW H)} {ps : List MemPlace},
    (∀ n ∈ ns, ∀ g t, Tryf.prog.globalNamed n = some g → (Tryf.prog.globals[g]?).map (·.type) = some t → t = 29) → DataW.TrodVars enc Tryf.prog W (fun _ => true) ns gs ps → DataW.TrodVars enc Tryf.prog W' (fun b => decide (b < W.heap.size)) ns gs ps
  | [], [], _, _, h => h
  | n :: ns, d :: ds, ps, hr, ⟨g, t, cs, fuel, p, q, h1, h2, h3, h4, hs, e⟩ => by
    obtain rfl := hr n (by simp) g t h1 h2
    have hlt : ∀ x ∈ p, x.block < W.heap.size := DataW.trod_lt fuel _ _ _ h4
    have hrd : Tryf.prog.readableRec 29 = true := by kernel_rfl
    have h4' := DataW.trod_stays (kids_book laidOut hrd) (book_sized hrd) (fun h => by cases h) ⟨of_decide_eq_true (by kernel_rfl), book_self 29⟩ h4 (fun x hx => hb.same (hlt x hx)) (sp' := fun b => decide (b < W.heap.size)) (fun x hx => by simpa using hlt x hx)
    have hgl : g < W.heap.size := by
      rcases Nat.lt_or_ge g W.heap.size with h | h
      · exact h
      · simp [World.var?, h1, Array.getElem?_eq_none h] at h3
    exact ⟨g, 29, cs, fuel, p, q, h1, h2, var?_below hb h1 hgl h3, h4', vars_stay hb (fun n hn => hr n (by simp [hn])) hs, e⟩
  | [], _ :: _, _, _, h => h.elim
  | _ :: _, [], _, _, h => h.elim

/-- The door's own heap meets the condition. -/
theorem door_abort (os : Os) (args : Array Value) : laidMetH Tryf.prog Rows.fnAbortReasonNamesAreDistinctRow.laid ((World.doorLaid Tryf.prog 400 os).forCall (fun _ _ => 0) ⟨#[], args, []⟩).memory :=
  laidMetH_of_parts3 (fuel := 8) (laidMet_of_run' 8 (by kernel_rfl) (by kernel_rfl)) (by kernel_rfl) (by kernel_rfl)
theorem door_both (os : Os) (args : Array Value) : laidMetH Tryf.prog Rows.fnDefiniteFailureAbortIsNamedAfterTheOutcomeThatDidNothingRow.laid ((World.doorLaid Tryf.prog 400 os).forCall (fun _ _ => 0) ⟨#[], args, []⟩).memory :=
  laidMetH_of_parts3 (fuel := 8) (laidMet_of_run' 8 (by kernel_rfl) (by kernel_rfl)) (by kernel_rfl) (by kernel_rfl)
end Go.Proofs.Qxb6614685aFmt.Names
