/-
  Seat b6615490aD. From 'laid' to the table; the heap of the witness.
-/
import Derived.Test.Qxb6615490aDoorShelf
import Derived.ProofKit
import Derived.LaidMore
import Derived.MakeChecks
import Derived.Lib.LaidTab
import Derived.Lib.AppendIntMem
import Derived.Stop.Joined
namespace Go.Proofs.Qxb6615490aDoor.Pts
open Go.ChangeShapes Go.WideShapes Go.ChangeAt Go.RowKit

theorem own : ownKnob Tryd.prog.godebug = none := by kernel_rfl
theorem cells26 : Tryd.prog.cellsOf 26 = 1 := by kernel_rfl
theorem cells45 : Tryd.prog.cellsOf 45 = 20 := by kernel_rfl
theorem pow_datum : (Rows.laid_internal_strconv_uint64pow10 : DataW Unit) = Lib.tabData .u64 Lib.pow10Tab := by kernel_rfl

theorem tab_of {W : World} (h : laidMetH Tryd.prog Rows.fnPointsStringSignAndValueRow.laid W) : Lib.TabBelow Tryd.prog W.heap.size W powName .u64 Lib.pow10Tab := by
  rw [MakeChecks.laidMetH_plain _ _ _ (by kernel_rfl)] at h
  obtain ⟨ps, ⟨g0, t0, cs0, f0, p0, q0, hg0, ht0, hv0, hd0, ⟨g1, t1, cs1, f1, p1, q1, hg1, ht1, hv1, hd1, ⟨g2, t2, cs2, f2, p2, q2, hg2, ht2, hv2, hd2, _⟩, _⟩, _⟩, _, _⟩ := h
  obtain rfl : g2 = 0 := Option.some.inj (hg2.symm.trans (by kernel_rfl))
  obtain rfl : t2 = 45 := Option.some.inj (ht2.symm.trans (by kernel_rfl))
  rw [pow_datum] at hd2
  have e := Lib.cells_of_tab Tryd.underlying45 Tryd.underlying26 cells26 cells45 hd2
  have hv : W.var? Tryd.prog powName = some cs2 := hv2
  refine Lib.tabBelow_of_tabIs ?_
  unfold Lib.TabIs
  rw [hv, ← e]

/-- The door's own heap meets the condition. -/
theorem door_met (os : Os) (args : Array Value) : laidMetH Tryd.prog Rows.fnPointsStringSignAndValueRow.laid ((World.doorLaid Tryd.prog 400 os).forCall (fun _ _ => 0) ⟨#[], args, []⟩).memory :=
  laidMetH_of_parts3 (fuel := 66) (laidMet_of_run' 66 (by kernel_rfl) (by kernel_rfl)) (by kernel_rfl) (by kernel_rfl)
end Go.Proofs.Qxb6615490aDoor.Pts
