/-
  Seat b6615490aD. The walk of FnPointsStringSignAndValue (3).
-/
import Derived.Test.Qxb6615490aDoorJoin
namespace Go.Proofs.Qxb6615490aDoor.Pts
open Go.RowKit

theorem tab_up {B B' : Nat} {w w1 : World} (h : Lib.TabBelow Tryd.prog B w powName .u64 Lib.pow10Tab) (hb : Below B w w1) (hB : B ≤ B') : Lib.TabBelow Tryd.prog B' w1 powName .u64 Lib.pow10Tab :=
  fun w' h' => h.on hb w' (h'.mono hB)

theorem cat_minus (l : List UInt8) : (({ data := #[45] } : ByteArray) ++ { data := l.toArray }).toList = 45 :: l := by
  rw [ByteArray.toList_eq]
  simp

theorem mag_short (u : Nat) (hu : u ≤ 9223372036854775808) : ¬ 9223372036854775807 < 1 + (mag u).length := by
  have h1 := mag_length u
  have h2 := Lib.nDigits_le20 (u / 100) (by omega)
  omega

set_option maxHeartbeats 1000000 in
set_option maxRecDepth 100000 in
theorem sign_pos (u : Nat) (h1 : 1 ≤ u) (hu : u ≤ 9223372036854775807) (w : World) (htab : Lib.TabBelow Tryd.prog w.heap.size w powName .u64 Lib.pow10Tab) :
    Calls Tryd.prog 3 #[.int .i64 (u : Int)] w fun e w' => e = .returned (.bool true) ∧ Below w.heap.size w w' := by
  have hmin : ((u : Int) == -9223372036854775808) = false := beq_eq_false_iff_ne.2 (by omega)
  have hneg : ¬ (u : Int) < 0 := by omega
  have hpos : 0 < (u : Int) := by omega
  go_enter Tryd.func3, Tryd.ntmps3
  go_wp2_with fail
  refine (string_any u (by omega) (by omega) _ htab).mono ?_
  rintro e w1 ⟨rfl, hb1⟩
  rw [txt_nonneg]
  go_wp2_with fail
  refine (parts_mag u (by omega) _).mono ?_
  rintro e w2 ⟨rfl, rfl⟩
  go_wp2_with fail
  refine (value_mag u (by omega) _).mono ?_
  rintro e w3 ⟨rfl, q, rfl⟩
  go_wp2_with fail
  refine (magnitude u (by omega) (by omega) _).mono ?_
  rintro e w4 ⟨rfl, rfl⟩
  rw [Int.natAbs_natCast]
  go_wp2_with fail
  have hb2 : Below w.heap.size w (w2.drewN q) := below_drewN hb1 q
  refine (string_any (-(u : Int)) (by omega) (by omega) _ (tab_up htab hb2 hb2.size)).mono ?_
  rintro e w5 ⟨rfl, hb5⟩
  rw [txt_neg u h1]
  have hcat := cat_minus (mag u)
  have hlim := mag_short u (by omega)
  go_wp2_with fail
  go_ret
  exact ⟨rfl, hb2.trans (hb5.mono hb2.size)⟩

set_option maxHeartbeats 1000000 in
set_option maxRecDepth 100000 in
theorem sign_zero (w : World) (htab : Lib.TabBelow Tryd.prog w.heap.size w powName .u64 Lib.pow10Tab) :
    Calls Tryd.prog 3 #[.int .i64 0] w fun e w' => e = .returned (.bool true) ∧ Below w.heap.size w w' := by
  go_enter Tryd.func3, Tryd.ntmps3
  go_wp2_with fail
  refine (string_any 0 (by omega) (by omega) _ htab).mono ?_
  rintro e w1 ⟨rfl, hb1⟩
  rw [show txt 0 = mag 0 from txt_nonneg 0]
  go_wp2_with fail
  refine (parts_mag 0 (by omega) _).mono ?_
  rintro e w2 ⟨rfl, rfl⟩
  go_wp2_with fail
  refine (value_mag 0 (by omega) _).mono ?_
  rintro e w3 ⟨rfl, q, rfl⟩
  go_wp2_with fail
  refine (magnitude 0 (by omega) (by omega) _).mono ?_
  rintro e w4 ⟨rfl, rfl⟩
  go_wp2_with fail
  have hb2 : Below w.heap.size w (w2.drewN q) := below_drewN hb1 q
  refine (string_any 0 (by omega) (by omega) _ (tab_up htab hb2 hb2.size)).mono ?_
  rintro e w5 ⟨rfl, hb5⟩
  rw [show txt 0 = mag 0 from txt_nonneg 0]
  go_wp2_with fail
  go_ret
  exact ⟨rfl, hb2.trans (hb5.mono hb2.size)⟩

set_option maxHeartbeats 1000000 in
set_option maxRecDepth 100000 in
theorem sign_min (w : World) (htab : Lib.TabBelow Tryd.prog w.heap.size w powName .u64 Lib.pow10Tab) :
    Calls Tryd.prog 3 #[.int .i64 (-9223372036854775808)] w fun e w' => e = .returned (.bool true) ∧ Below w.heap.size w w' := by
  go_enter Tryd.func3, Tryd.ntmps3
  go_wp2_with fail
  refine (string_any (-9223372036854775808) (by omega) (by omega) _ htab).mono ?_
  rintro e w1 ⟨rfl, hb1⟩
  rw [show txt (-9223372036854775808) = 45 :: mag 9223372036854775808 from txt_neg 9223372036854775808 (by omega)]
  go_wp2_with fail
  refine (parts_minus 9223372036854775808 (by omega) (by omega) _).mono ?_
  rintro e w2 ⟨rfl, rfl⟩
  go_wp2_with fail
  refine (value_mag 9223372036854775808 (by omega) _).mono ?_
  rintro e w3 ⟨rfl, q, rfl⟩
  go_wp2_with fail
  refine (mag_neg 9223372036854775808 (by omega) (by omega) _).mono ?_
  rintro e w4 ⟨rfl, rfl⟩
  go_wp2_with fail
  go_ret
  exact ⟨rfl, below_drewN hb1 q⟩

set_option maxHeartbeats 1000000 in
set_option maxRecDepth 100000 in
theorem sign_neg (u : Nat) (h1 : 1 ≤ u) (hu : u ≤ 9223372036854775807) (w : World) (htab : Lib.TabBelow Tryd.prog w.heap.size w powName .u64 Lib.pow10Tab) :
    Calls Tryd.prog 3 #[.int .i64 (-(u : Int))] w fun e w' => e = .returned (.bool true) ∧ Below w.heap.size w w' := by
  have hmin : (-(u : Int) == -9223372036854775808) = false := beq_eq_false_iff_ne.2 (by omega)
  have hu0 : 0 < u := by omega
  have hneg : -(u : Int) < 0 := by omega
  have hpos : ¬ 0 < -(u : Int) := by omega
  go_enter Tryd.func3, Tryd.ntmps3
  go_wp2_with fail
  refine (string_any (-(u : Int)) (by omega) (by omega) _ htab).mono ?_
  rintro e w1 ⟨rfl, hb1⟩
  rw [txt_neg u h1]
  go_wp2_with fail
  refine (parts_minus u h1 (by omega) _).mono ?_
  rintro e w2 ⟨rfl, rfl⟩
  go_wp2_with fail
  refine (value_mag u (by omega) _).mono ?_
  rintro e w3 ⟨rfl, q, rfl⟩
  go_wp2_with fail
  refine (magnitude (-(u : Int)) (by omega) (by omega) _).mono ?_
  rintro e w4 ⟨rfl, rfl⟩
  rw [Int.natAbs_neg, Int.natAbs_natCast]
  go_wp2_with fail
  have hb2 : Below w.heap.size w (w2.drewN q) := below_drewN hb1 q
  refine (string_any (u : Int) (by omega) (by omega) _ (tab_up htab hb2 hb2.size)).mono ?_
  rintro e w5 ⟨rfl, hb5⟩
  rw [txt_nonneg]
  have hcat := cat_minus (mag u)
  have hlim := mag_short u (by omega)
  go_wp2_with fail
  go_ret
  exact ⟨rfl, hb2.trans (hb5.mono hb2.size)⟩

theorem sign_walk (n : Int) (h0 : -9223372036854775808 ≤ n) (h1 : n ≤ 9223372036854775807) (w : World) (htab : Lib.TabBelow Tryd.prog w.heap.size w powName .u64 Lib.pow10Tab) :
    Calls Tryd.prog 3 #[.int .i64 n] w fun e w' => e = .returned (.bool true) ∧ Below w.heap.size w w' := by
  by_cases hn : n < 0
  · obtain ⟨u, rfl⟩ : ∃ u : Nat, n = -(u : Int) := ⟨n.natAbs, by omega⟩
    by_cases hu : u ≤ 9223372036854775807
    · exact sign_neg u (by omega) hu w htab
    · obtain rfl : u = 9223372036854775808 := by omega
      exact sign_min w htab
  · obtain ⟨u, rfl⟩ : ∃ u : Nat, n = (u : Int) := ⟨n.toNat, by omega⟩
    rcases Nat.eq_zero_or_pos u with rfl | hu
    · exact sign_zero w htab
    · exact sign_pos u hu (by omega) w htab
end Go.Proofs.Qxb6615490aDoor.Pts
