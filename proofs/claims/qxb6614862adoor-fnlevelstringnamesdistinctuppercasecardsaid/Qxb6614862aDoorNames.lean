/-
  Seat b6614862aD. The walks: Level.String (5), isUpperWord (6), the law FnLevelStringNamesDistinctUpperCase (3).
-/
import Derived.Test.Qxb6614862aDoorRows
import Derived.WalkKit
import Derived.WalkSpells
import Derived.WalkLawsBesides
namespace Go.Proofs.Qxb6614862aDoor.Names
open Go.RowKit

/-- The level's name. -/
def nm (a : Int) : ByteArray :=
  if a = 0 then ⟨#[68, 69, 66, 85, 71]⟩ else if a = 1 then ⟨#[73, 78, 70, 79]⟩ else if a = 2 then ⟨#[78, 79, 84, 73, 67, 69]⟩ else
  if a = 3 then ⟨#[87, 65, 82, 78, 73, 78, 71]⟩ else if a = 4 then ⟨#[69, 82, 82, 79, 82]⟩ else ⟨#[67, 82, 73, 84, 73, 67, 65, 76]⟩

/-- Variable 0 holds the names. -/
def Laid (w : World) : Prop := ∀ i : Nat, i < 6 → w.cell? ⟨0, i, none⟩ = some (.string (nm i))

/-- A word of capital letters. -/
def Upper (s : ByteArray) : Prop := s.size ≤ 8 ∧ 0 < s.size ∧ ∀ k (h : k < s.size), 65 ≤ (s[k]).toNat ∧ (s[k]).toNat ≤ 90

theorem up0 : Upper ⟨#[68, 69, 66, 85, 71]⟩ := by unfold Upper; decide
theorem up1 : Upper ⟨#[73, 78, 70, 79]⟩ := by unfold Upper; decide
theorem up2 : Upper ⟨#[78, 79, 84, 73, 67, 69]⟩ := by unfold Upper; decide
theorem up3 : Upper ⟨#[87, 65, 82, 78, 73, 78, 71]⟩ := by unfold Upper; decide
theorem up4 : Upper ⟨#[69, 82, 82, 79, 82]⟩ := by unfold Upper; decide
theorem up5 : Upper ⟨#[67, 82, 73, 84, 73, 67, 65, 76]⟩ := by unfold Upper; decide

theorem nm_upper (a : Int) : Upper (nm a) := by
  unfold nm
  split
  · exact up0
  split
  · exact up1
  split
  · exact up2
  split
  · exact up3
  split
  · exact up4
  · exact up5

theorem nm_eq (a b : Int) (h0 : 0 ≤ a) (h1 : a ≤ 5) (k0 : 0 ≤ b) (k1 : b ≤ 5) : ((nm a).toList == (nm b).toList) = (a == b) := by
  rcases (by omega : a = 0 ∨ a = 1 ∨ a = 2 ∨ a = 3 ∨ a = 4 ∨ a = 5) with rfl | rfl | rfl | rfl | rfl | rfl
  all_goals
    rcases (by omega : b = 0 ∨ b = 1 ∨ b = 2 ∨ b = 3 ∨ b = 4 ∨ b = 5) with rfl | rfl | rfl | rfl | rfl | rfl
    all_goals decide +kernel

set_option maxHeartbeats 1000000 in
set_option maxRecDepth 100000 in
theorem str (a : Int) (h0 : 0 ≤ a) (h1 : a ≤ 5) (w : World) (h : Laid w) : Calls Tryd.prog 5 #[.int .i64 a] w fun e w' => e = .returned (.string (nm a)) ∧ w' = w := by
  obtain ⟨n, rfl⟩ := Int.eq_ofNat_of_zero_le h0
  have hc := h n (by omega)
  have hn : (n : Int) < 6 := by omega
  clear h
  go_enter Tryd.func5, Tryd.ntmps5
  go_wp2
  go_ret
  exact ⟨rfl, rfl⟩

set_option maxHeartbeats 1000000 in
set_option maxRecDepth 100000 in
theorem upper (s : ByteArray) (h : Upper s) (w : World) : Calls Tryd.prog 6 #[.string s] w fun e w' => e = .returned (.bool true) ∧ w' = w := by
  obtain ⟨hs, hp, ha⟩ := h
  have HA : Hid (∀ k (h : k < s.size), 65 ≤ (s[k]).toNat ∧ (s[k]).toNat ≤ 90) := ha
  clear ha
  have hp0 : ((s.size : Int) == 0) = false := beq_eq_false_iff_ne.2 (by omega)
  go_enter Tryd.func6, Tryd.ntmps6
  go_wp2
  go_loop [3] (fun i => ∃ k : Nat, k ≤ s.size ∧ i = .int .i64 k) (fun i => s.size - (intOf i).toNat)
  case atStart => exact ⟨0, Nat.zero_le _, rfl⟩
  case round =>
    obtain ⟨k, hk, rfl⟩ := hrel
    by_cases hlt : k < s.size
    · have hb := HA.out k hlt
      have hb1 : ¬ ((s[k]).toNat : Int) < 65 := by omega
      have hb2 : ¬ 90 < ((s[k]).toNat : Int) := by omega
      clear hb
      go_wp2
      go_round
      case rel => exact ⟨k + 1, by omega, by go_num⟩
      case measure => simp [intOf]; omega
    · go_wp2
      go_ret
      exact ⟨rfl, rfl⟩

set_option maxHeartbeats 1000000 in
set_option maxRecDepth 100000 in
theorem law_walk (a b : Int) (w : World) (h : Laid w) : Calls Tryd.prog 3 #[.int .i64 a, .int .i64 b] w fun e w' => e = .returned (.bool true) ∧ w' = w := by
  by_cases c0 : a < 0
  · go_enter Tryd.func3, Tryd.ntmps3
    go_wp2
    go_ret
    exact ⟨rfl, rfl⟩
  by_cases c1 : 5 < a
  · go_enter Tryd.func3, Tryd.ntmps3
    go_wp2
    go_ret
    exact ⟨rfl, rfl⟩
  by_cases c2 : b < 0
  · go_enter Tryd.func3, Tryd.ntmps3
    go_wp2
    go_ret
    exact ⟨rfl, rfl⟩
  by_cases c3 : 5 < b
  · go_enter Tryd.func3, Tryd.ntmps3
    go_wp2
    go_ret
    exact ⟨rfl, rfl⟩
  have H : Hid (Laid w) := h
  have heq := nm_eq a b (by omega) (by omega) (by omega) (by omega)
  clear h
  go_enter Tryd.func3, Tryd.ntmps3
  go_wp2_with fail
  refine (str a (by omega) (by omega) _ H.out).mono ?_
  rintro e w1 ⟨rfl, rfl⟩
  go_wp2_with fail
  refine (str b (by omega) (by omega) _ H.out).mono ?_
  rintro e w1 ⟨rfl, rfl⟩
  go_wp2_with fail
  refine (upper _ (nm_upper a) _).mono ?_
  rintro e w1 ⟨rfl, rfl⟩
  go_wp2_with fail
  refine (upper _ (nm_upper b) _).mono ?_
  rintro e w1 ⟨rfl, rfl⟩
  go_wp2_with fail
  go_ret
  exact ⟨rfl, rfl⟩
end Go.Proofs.Qxb6614862aDoor.Names
