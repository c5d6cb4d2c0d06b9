/-
  Seat b6615490aD. hundredthsText (10) and Points.String (5): the text.
-/
import Derived.Test.Qxb6615490aDoorShelf
import Derived.WalkKit
import Derived.WalkSpells
import Derived.WalkLawsBesides
import Derived.Laws.BytesArg
import Derived.Lib.ItoaLen
namespace Go.Proofs.Qxb6615490aDoor.Pts
open Go.RowKit

/-- The text of m hundredths, without its sign. -/
def mag (m : Nat) : List UInt8 := Lib.decDigits (m / 100) ++ [46, UInt8.ofNat (48 + m / 10 % 10), UInt8.ofNat (48 + m % 10)]
/-- The text. -/
def txt (n : Int) : List UInt8 := if n < 0 then 45 :: mag n.natAbs else mag n.natAbs

theorem strOf_bytes (l : List UInt8) : strOfNums (l.map fun b => (b.toNat : Int)) = ⟨l.toArray⟩ := by
  simp only [strOfNums, List.map_map]
  congr 2
  have : ((fun n : Int => UInt8.ofNat n.toNat) ∘ fun b : UInt8 => (b.toNat : Int)) = id := by funext b; simp
  rw [this, List.map_id]

/-- 'string(text)'. -/
theorem convert_own (w : World) {B n : Nat} {v : Value} {l : List UInt8} (h : w.ownsRow B 5 1 v n (Lib.byteCells l)) : (convert 35 9 v).run Tryd.prog w = .ok (.string ⟨l.toArray⟩) w := by
  obtain ⟨hl, ⟨rfl, rfl⟩ | ⟨g, cap, cur, rfl, _, hg, _, _, _, ht⟩⟩ := h
  · have : l = [] := by simpa [Lib.byteCells] using hl
    subst this
    exact run_convert_bytes_nil w 35 5 Tryd.underlying35 Tryd.underlying5 0 0 9 Tryd.underlying9
  · have hn : l.length = n := by simpa [Lib.byteCells] using hl
    rw [← strOf_bytes]
    refine run_convert_bytes_arg w 35 5 Tryd.underlying35 Tryd.underlying5 g 0 n cap (l.map fun b => (b.toNat : Int)) (by simpa using hn) (fun i hi => ?_) 9 Tryd.underlying9
    rw [Nat.zero_add, cell_of_row w g i cur 5 (0, 0) hg]
    have e : cur[i]? = (Lib.byteCells l)[i]? := by
      rw [← ht, List.getElem?_take, if_pos (by omega)]
      simp
    rw [e]
    simp [Lib.byteCells, List.getD, List.getElem?_eq_getElem (show i < l.length by omega)]

set_option maxHeartbeats 1000000 in
set_option maxRecDepth 100000 in
theorem appendUint13 (B n u : Nat) (hu64 : u < 18446744073709551616) (sv : Value) (xs : List Value) (w : World) (hown : w.ownsRow B 5 1 sv n xs) (hBw : B ≤ w.heap.size) (hlim : n + 20 ≤ 140737488355328) (htab : Lib.TabIs Tryd.prog w powName .u64 Lib.pow10Tab) :
    Calls Tryd.prog 13 #[sv, .int .u64 u, .int .i64 10] w fun e w' => ∃ v', e = .returned v' ∧ w'.ownsRow B 5 1 v' (n + (Lib.decDigits u).length) (xs ++ Lib.byteCells (Lib.decDigits u)) ∧ Below B w w' := by
  go_enter Tryd.func13, Tryd.ntmps13
  go_wp2_with fail
  refine (appendUint B n u hu64 sv xs _ hown hBw hlim htab).mono ?_
  rintro e w1 ⟨v', rfl, ho, hb, _⟩
  go_wp2
  go_ret
  exact ⟨v', rfl, ho, hb⟩

theorem tail_cells (m : Nat) : Lib.byteCells (mag m) = Lib.byteCells (Lib.decDigits (m / 100)) ++ [Value.int .u8 46, Value.int .u8 (48 + (m : Int) / 10 % 10), Value.int .u8 (48 + (m : Int) % 10)] := by
  have e1 : (((48 + m / 10 % 10) % 256 : Nat) : Int) = 48 + (m : Int) / 10 % 10 := by omega
  have e2 : (((48 + m % 10) % 256 : Nat) : Int) = 48 + (m : Int) % 10 := by omega
  simp only [mag, Lib.byteCells, List.map_append, List.map_cons, List.map_nil, UInt8.toNat_ofNat', e1, e2]
  rfl

set_option maxHeartbeats 1000000 in
set_option maxRecDepth 100000 in
theorem text_pos (u : Nat) (hu : u < 9223372036854775808) (w : World) (htab : Lib.TabBelow Tryd.prog w.heap.size w powName .u64 Lib.pow10Tab) :
    Calls Tryd.prog 10 #[.int .i64 (u : Int)] w fun e w' => e = .returned (.string ⟨(mag u).toArray⟩) ∧ Below w.heap.size w w' := by
  obtain ⟨i0, hi, hz0, hz1, hz2⟩ := info_parts (P := Tryd.prog) (e := 5) (z := .int .u8 0) (size := 1) (bytes := 1) (by kernel_rfl)
  have hlen : (Lib.decDigits (u / 100)).length ≤ 20 := by rw [Lib.decDigits_length]; exact Lib.nDigits_le20 _ (by omega)
  go_enter Tryd.func10, Tryd.ntmps10
  go_wp2_with (at_make; refine wpList_make_own _ rfl _ _ 35 rfl w.heap.size 5 i0 (.int .u8 0) 1 Tryd.underlying35 hi hz0 hz1 .i64 .i64 21 21 rfl rfl rfl (by rw [hz2]; decide) (by unfold maxLen; decide) (Nat.le_refl _) ?_; intro w1 hown1 hg1)
  have hb1 : Below w.heap.size w w1 := (Below.refl _ _).grown hg1 (Nat.le_refl _) (fun k hk => by cases hk)
  rw [show ((u : Int) / 100) = ((u / 100 : Nat) : Int) from by omega]
  refine (appendUint13 w.heap.size 0 (u / 100) (by omega) _ _ _ hown1 hb1.size (by omega) (htab _ hb1)).mono ?_
  rintro e w2 ⟨v2, rfl, hown2, hb2⟩
  have hs2 : w.heap.size ≤ w2.heap.size := Nat.le_trans hb1.size hb2.size
  go_wp2_with (at_builtin; refine wpList_append_own _ rfl _ _ 35 rfl w.heap.size 5 i0 (.int .u8 0) 1 1 Tryd.underlying35 hi hz0 hz1 hz2 rfl (by decide) _ _ _ rfl (hown2.alloc _) ⟨w2.heap.size, 0, none⟩ 3 3 [Value.int .u8 46, Value.int .u8 (48 + (u : Int) / 10 % 10), Value.int .u8 (48 + (u : Int) % 10)] rfl rfl ?c1 ?c2 ?c3 ?c4 ?c5 ?_)
  case c1 =>
    intro j v hj
    match j, hj with
    | 0, hj => simp at hj; subst hj; simp [Addr.add]
    | 1, hj => simp at hj; subst hj; simp [Addr.add]
    | 2, hj => simp at hj; subst hj; simp [Addr.add]
  case c2 => intro v hv; simp at hv; rcases hv with rfl | rfl | rfl <;> rfl
  case c3 => unfold maxLen; omega
  case c4 => omega
  case c5 => simp; omega
  intro v3 w3 hown3 hg3 _
  rw [← tail_cells] at hown3
  have hcv := convert_own w3 hown3
  go_wp2
  go_ret
  refine ⟨rfl, ?_⟩
  exact ((hb1.trans hb2).alloc hs2 _).grown hg3 (by simp; omega) (fun k hk => (hown2.lt k hk).1)

set_option maxHeartbeats 1000000 in
set_option maxRecDepth 100000 in
theorem text_neg (u : Nat) (h1 : 1 ≤ u) (hu : u ≤ 9223372036854775808) (w : World) (htab : Lib.TabBelow Tryd.prog w.heap.size w powName .u64 Lib.pow10Tab) :
    Calls Tryd.prog 10 #[.int .i64 (-(u : Int))] w fun e w' => e = .returned (.string ⟨(45 :: mag u).toArray⟩) ∧ Below w.heap.size w w' := by
  obtain ⟨i0, hi, hz0, hz1, hz2⟩ := info_parts (P := Tryd.prog) (e := 5) (z := .int .u8 0) (size := 1) (bytes := 1) (by kernel_rfl)
  have hlen : (Lib.decDigits (u / 100)).length ≤ 20 := by rw [Lib.decDigits_length]; exact Lib.nDigits_le20 _ (by omega)
  have hwr : IntKind.u64.wrap (-IntKind.u64.wrap (-(u : Int))) = (u : Int) := by rw [IntKind.wrap_u64, IntKind.wrap_u64]; omega
  have hneg : -(u : Int) < 0 := by omega
  go_enter Tryd.func10, Tryd.ntmps10
  go_wp2_with (first
    | (at_make; refine wpList_make_own _ rfl _ _ 35 rfl w.heap.size 5 i0 (.int .u8 0) 1 Tryd.underlying35 hi hz0 hz1 .i64 .i64 21 21 rfl rfl rfl (by rw [hz2]; decide) (by unfold maxLen; decide) (Nat.le_refl _) ?_; intro w1 hown1 hg1)
    | (at_builtin; refine wpList_append_own _ rfl _ _ 35 rfl w.heap.size 5 i0 (.int .u8 0) 1 1 Tryd.underlying35 hi hz0 hz1 hz2 rfl (by decide) _ _ _ rfl (hown1.alloc _) ⟨w1.heap.size, 0, none⟩ 1 1 [Value.int .u8 45] rfl rfl ?d1 ?d2 ?d3 ?d4 ?d5 ?_))
  case d1 =>
    intro j v hj
    match j, hj with
    | 0, hj => simp at hj; subst hj; simp [Addr.add]
  case d2 => intro v hv; simp at hv; subst hv; rfl
  case d3 => unfold maxLen; omega
  case d4 => omega
  case d5 => simp; have := hg1.size; omega
  have hb1 : Below w.heap.size w w1 := (Below.refl _ _).grown hg1 (Nat.le_refl _) (fun k hk => by cases hk)
  have hs1 := hb1.size
  intro v1 w1' hown1' hg1' _
  have hb1' : Below w.heap.size w w1' := (hb1.alloc hs1 _).grown hg1' (by simp; omega) (fun k hk => (hown1.lt k hk).1)
  go_wp2_with fail
  rw [show ((u : Int) / 100) = ((u / 100 : Nat) : Int) from by omega]
  refine (appendUint13 w.heap.size 1 (u / 100) (by omega) _ _ _ hown1' hb1'.size (by omega) (htab _ hb1')).mono ?_
  rintro e w2 ⟨v2, rfl, hown2, hb2⟩
  have hs2 : w.heap.size ≤ w2.heap.size := Nat.le_trans hb1'.size hb2.size
  go_wp2_with (at_builtin; refine wpList_append_own _ rfl _ _ 35 rfl w.heap.size 5 i0 (.int .u8 0) 1 1 Tryd.underlying35 hi hz0 hz1 hz2 rfl (by decide) _ _ _ rfl (hown2.alloc _) ⟨w2.heap.size, 0, none⟩ 3 3 [Value.int .u8 46, Value.int .u8 (48 + (u : Int) / 10 % 10), Value.int .u8 (48 + (u : Int) % 10)] rfl rfl ?c1 ?c2 ?c3 ?c4 ?c5 ?_)
  case c1 =>
    intro j v hj
    match j, hj with
    | 0, hj => simp at hj; subst hj; simp [Addr.add]
    | 1, hj => simp at hj; subst hj; simp [Addr.add]
    | 2, hj => simp at hj; subst hj; simp [Addr.add]
  case c2 => intro v hv; simp at hv; rcases hv with rfl | rfl | rfl <;> rfl
  case c3 => unfold maxLen; omega
  case c4 => omega
  case c5 => simp; omega
  intro v3 w3 hown3 hg3 _
  have hown4 : w3.ownsRow w.heap.size 5 1 v3 (1 + (Lib.decDigits (u / 100)).length + 3) (Lib.byteCells (45 :: mag u)) := by
    have e : Lib.byteCells (45 :: mag u) = Value.int .u8 45 :: Lib.byteCells (mag u) := rfl
    rw [e, tail_cells]
    simpa using hown3
  have hcv := convert_own w3 hown4
  go_wp2
  go_ret
  refine ⟨rfl, ?_⟩
  exact ((hb1'.trans hb2).alloc hs2 _).grown hg3 (by simp; omega) (fun k hk => (hown2.lt k hk).1)

theorem txt_nonneg (u : Nat) : txt (u : Int) = mag u := by unfold txt; rw [if_neg (by omega)]; rfl
theorem txt_neg (u : Nat) (h : 1 ≤ u) : txt (-(u : Int)) = 45 :: mag u := by unfold txt; rw [if_pos (by omega)]; simp

set_option maxHeartbeats 1000000 in
set_option maxRecDepth 100000 in
/-- Points.String. -/
theorem string_any (n : Int) (h0 : -9223372036854775808 ≤ n) (h1 : n ≤ 9223372036854775807) (w : World) (htab : Lib.TabBelow Tryd.prog w.heap.size w powName .u64 Lib.pow10Tab) :
    Calls Tryd.prog 5 #[.int .i64 n] w fun e w' => e = .returned (.string ⟨(txt n).toArray⟩) ∧ Below w.heap.size w w' := by
  by_cases hn : n < 0
  · obtain ⟨u, rfl⟩ : ∃ u : Nat, n = -(u : Int) := ⟨n.natAbs, by omega⟩
    rw [txt_neg u (by omega)]
    go_enter Tryd.func5, Tryd.ntmps5
    go_wp2_with fail
    refine (text_neg u (by omega) (by omega) _ htab).mono ?_
    rintro e w1 ⟨rfl, hb⟩
    go_wp2
    go_ret
    exact ⟨rfl, hb⟩
  · obtain ⟨u, rfl⟩ : ∃ u : Nat, n = (u : Int) := ⟨n.toNat, by omega⟩
    rw [txt_nonneg u]
    go_enter Tryd.func5, Tryd.ntmps5
    go_wp2_with fail
    refine (text_pos u (by omega) _ htab).mono ?_
    rintro e w1 ⟨rfl, hb⟩
    go_wp2
    go_ret
    exact ⟨rfl, hb⟩
end Go.Proofs.Qxb6615490aDoor.Pts
