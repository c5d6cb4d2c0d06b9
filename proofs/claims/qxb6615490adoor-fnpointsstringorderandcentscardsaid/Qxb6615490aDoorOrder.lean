/-
  Seat b6615490aD. cmpDecimal (9) and the walk of FnPointsStringOrderAndCents (4).
-/
import Derived.Test.Qxb6615490aDoorSign
namespace Go.Proofs.Qxb6615490aDoor.Pts
open Go.RowKit

theorem cmpI_self (x : Int) : cmpI x x = 0 := (cmpI_eq rfl).symm
theorem cmpI_cases (x y : Int) : (x < y ∧ cmpI x y = -1) ∨ (y < x ∧ cmpI x y = 1) ∨ (x = y ∧ cmpI x y = 0) := by
  rcases Int.lt_trichotomy x y with h | h | h
  · exact .inl ⟨h, (cmpI_lt h).symm⟩
  · exact .inr (.inr ⟨h, (cmpI_eq h).symm⟩)
  · exact .inr (.inl ⟨h, (cmpI_gt h).symm⟩)

theorem join_same (u v : Nat) (h : u / 100 = v / 100) : cmpI ((u % 100 : Nat) : Int) ((v % 100 : Nat) : Int) = cmpI u v := by
  rcases cmpI_cases ((u % 100 : Nat) : Int) ((v % 100 : Nat) : Int) with ⟨a, b⟩ | ⟨a, b⟩ | ⟨a, b⟩
  · rw [b]; exact cmpI_lt (by omega)
  · rw [b]; exact cmpI_gt (by omega)
  · rw [b]; exact cmpI_eq (by omega)
theorem join_whole (u v : Nat) (h : u / 100 ≠ v / 100) : cmpI ((u / 100 : Nat) : Int) ((v / 100 : Nat) : Int) = cmpI u v := by
  rcases cmpI_cases ((u / 100 : Nat) : Int) ((v / 100 : Nat) : Int) with ⟨a, b⟩ | ⟨a, b⟩ | ⟨a, b⟩
  · rw [b]; exact cmpI_lt (by omega)
  · rw [b]; exact cmpI_gt (by omega)
  · omega
theorem whole_ne (u v : Nat) (h : u / 100 ≠ v / 100) : (cmpI ((u / 100 : Nat) : Int) ((v / 100 : Nat) : Int) == 0) = false := by
  rcases cmpI_cases ((u / 100 : Nat) : Int) ((v / 100 : Nat) : Int) with ⟨a, b⟩ | ⟨a, b⟩ | ⟨a, b⟩
  · rw [b]; rfl
  · rw [b]; rfl
  · omega
theorem cmpI_bd (x y : Int) : -1 ≤ cmpI x y ∧ cmpI x y ≤ 1 := by
  rcases cmpI_cases x y with ⟨a, b⟩ | ⟨a, b⟩ | ⟨a, b⟩ <;> omega
theorem cmpI_minus (u v : Int) : -cmpI u v = cmpI (-u) (-v) := by
  rcases cmpI_cases u v with ⟨a, b⟩ | ⟨a, b⟩ | ⟨a, b⟩
  · rw [b]; exact cmpI_gt (by omega)
  · rw [b]; exact cmpI_lt (by omega)
  · rw [b]; exact cmpI_eq (by omega)

set_option maxHeartbeats 1000000 in
set_option maxRecDepth 100000 in
theorem dec_pos (u v : Nat) (hu : u ≤ 9223372036854775808) (hv : v ≤ 9223372036854775808) (w : World) :
    Calls Tryd.prog 9 #[.string ⟨(mag u).toArray⟩, .string ⟨(mag v).toArray⟩] w fun e w' => e = .returned (.int .i64 (cmpI u v)) ∧ ∃ k, w' = w.drewN k := by
  by_cases h : u / 100 = v / 100
  · go_enter Tryd.func9, Tryd.ntmps9
    go_wp2_with fail
    refine (parts_mag u hu _).mono ?_
    rintro e w1 ⟨rfl, rfl⟩
    go_wp2_with fail
    refine (parts_mag v hv _).mono ?_
    rintro e w1 ⟨rfl, rfl⟩
    go_wp2_with fail
    refine (cmp_whole u v hu _).mono ?_
    rintro e w2 ⟨rfl, q, rfl⟩
    rw [show cmpI ((u / 100 : Nat) : Int) ((v / 100 : Nat) : Int) = 0 from by rw [h]; exact cmpI_self _]
    go_wp2_with fail
    refine (cmp_frac u v _).mono ?_
    rintro e w3 ⟨rfl, q', rfl⟩
    rw [join_same u v h]
    go_wp2_with fail
    go_ret
    exact ⟨rfl, _, rfl⟩
  · have hne := whole_ne u v h
    go_enter Tryd.func9, Tryd.ntmps9
    go_wp2_with fail
    refine (parts_mag u hu _).mono ?_
    rintro e w1 ⟨rfl, rfl⟩
    go_wp2_with fail
    refine (parts_mag v hv _).mono ?_
    rintro e w1 ⟨rfl, rfl⟩
    go_wp2_with fail
    refine (cmp_whole u v hu _).mono ?_
    rintro e w2 ⟨rfl, q, rfl⟩
    rw [join_whole u v h] at hne ⊢
    go_wp2_with fail
    go_ret
    exact ⟨rfl, _, rfl⟩

set_option maxHeartbeats 1000000 in
set_option maxRecDepth 100000 in
theorem dec_neg (u v : Nat) (h1 : 1 ≤ u) (k1 : 1 ≤ v) (hu : u ≤ 9223372036854775808) (hv : v ≤ 9223372036854775808) (w : World) :
    Calls Tryd.prog 9 #[.string ⟨(45 :: mag u).toArray⟩, .string ⟨(45 :: mag v).toArray⟩] w fun e w' => e = .returned (.int .i64 (cmpI (-(u : Int)) (-(v : Int)))) ∧ ∃ k, w' = w.drewN k := by
  have hbd := cmpI_bd u v
  have hb1 := hbd.1
  have hb2 := hbd.2
  have HM : Hid (-cmpI u v = cmpI (-(u : Int)) (-(v : Int))) := cmpI_minus u v
  clear hbd
  by_cases h : u / 100 = v / 100
  · go_enter Tryd.func9, Tryd.ntmps9
    go_wp2_with fail
    refine (parts_minus u h1 hu _).mono ?_
    rintro e w1 ⟨rfl, rfl⟩
    go_wp2_with fail
    refine (parts_minus v k1 hv _).mono ?_
    rintro e w1 ⟨rfl, rfl⟩
    go_wp2_with fail
    refine (cmp_whole u v hu _).mono ?_
    rintro e w2 ⟨rfl, q, rfl⟩
    rw [show cmpI ((u / 100 : Nat) : Int) ((v / 100 : Nat) : Int) = 0 from by rw [h]; exact cmpI_self _]
    go_wp2_with fail
    refine (cmp_frac u v _).mono ?_
    rintro e w3 ⟨rfl, q', rfl⟩
    rw [join_same u v h]
    go_wp2_with fail
    go_ret
    exact ⟨ret_int HM.out, _, rfl⟩
  · have hne := whole_ne u v h
    go_enter Tryd.func9, Tryd.ntmps9
    go_wp2_with fail
    refine (parts_minus u h1 hu _).mono ?_
    rintro e w1 ⟨rfl, rfl⟩
    go_wp2_with fail
    refine (parts_minus v k1 hv _).mono ?_
    rintro e w1 ⟨rfl, rfl⟩
    go_wp2_with fail
    refine (cmp_whole u v hu _).mono ?_
    rintro e w2 ⟨rfl, q, rfl⟩
    rw [join_whole u v h] at hne ⊢
    go_wp2_with fail
    go_ret
    exact ⟨ret_int HM.out, _, rfl⟩

set_option maxHeartbeats 1000000 in
set_option maxRecDepth 100000 in
theorem dec_np (u v : Nat) (h1 : 1 ≤ u) (hu : u ≤ 9223372036854775808) (hv : v ≤ 9223372036854775808) (w : World) :
    Calls Tryd.prog 9 #[.string ⟨(45 :: mag u).toArray⟩, .string ⟨(mag v).toArray⟩] w fun e w' => e = .returned (.int .i64 (-1)) ∧ w' = w := by
  go_enter Tryd.func9, Tryd.ntmps9
  go_wp2_with fail
  refine (parts_minus u h1 hu _).mono ?_
  rintro e w1 ⟨rfl, rfl⟩
  go_wp2_with fail
  refine (parts_mag v hv _).mono ?_
  rintro e w1 ⟨rfl, rfl⟩
  go_wp2_with fail
  go_ret
  exact ⟨rfl, rfl⟩

set_option maxHeartbeats 1000000 in
set_option maxRecDepth 100000 in
theorem dec_pn (u v : Nat) (k1 : 1 ≤ v) (hu : u ≤ 9223372036854775808) (hv : v ≤ 9223372036854775808) (w : World) :
    Calls Tryd.prog 9 #[.string ⟨(mag u).toArray⟩, .string ⟨(45 :: mag v).toArray⟩] w fun e w' => e = .returned (.int .i64 1) ∧ w' = w := by
  go_enter Tryd.func9, Tryd.ntmps9
  go_wp2_with fail
  refine (parts_mag u hu _).mono ?_
  rintro e w1 ⟨rfl, rfl⟩
  go_wp2_with fail
  refine (parts_minus v k1 hv _).mono ?_
  rintro e w1 ⟨rfl, rfl⟩
  go_wp2_with fail
  go_ret
  exact ⟨rfl, rfl⟩

/-- cmpDecimal at two texts. -/
theorem dec_any (p q : Int) (p0 : -9223372036854775808 ≤ p) (p1 : p ≤ 9223372036854775807) (q0 : -9223372036854775808 ≤ q) (q1 : q ≤ 9223372036854775807) (w : World) :
    Calls Tryd.prog 9 #[.string ⟨(txt p).toArray⟩, .string ⟨(txt q).toArray⟩] w fun e w' => e = .returned (.int .i64 (cmpI p q)) ∧ ∃ k, w' = w.drewN k := by
  by_cases hp : p < 0
  · obtain ⟨u, rfl⟩ : ∃ u : Nat, p = -(u : Int) := ⟨p.natAbs, by omega⟩
    rw [txt_neg u (by omega)]
    by_cases hq : q < 0
    · obtain ⟨v, rfl⟩ : ∃ v : Nat, q = -(v : Int) := ⟨q.natAbs, by omega⟩
      rw [txt_neg v (by omega)]
      exact dec_neg u v (by omega) (by omega) (by omega) (by omega) w
    · obtain ⟨v, rfl⟩ : ∃ v : Nat, q = (v : Int) := ⟨q.toNat, by omega⟩
      rw [txt_nonneg]
      refine (dec_np u v (by omega) (by omega) (by omega) w).mono ?_
      rintro e w' ⟨rfl, rfl⟩
      exact ⟨ret_int (cmpI_lt (by omega)), 0, rfl⟩
  · obtain ⟨u, rfl⟩ : ∃ u : Nat, p = (u : Int) := ⟨p.toNat, by omega⟩
    rw [txt_nonneg]
    by_cases hq : q < 0
    · obtain ⟨v, rfl⟩ : ∃ v : Nat, q = -(v : Int) := ⟨q.natAbs, by omega⟩
      rw [txt_neg v (by omega)]
      refine (dec_pn u v (by omega) (by omega) (by omega) w).mono ?_
      rintro e w' ⟨rfl, rfl⟩
      exact ⟨ret_int (cmpI_gt (by omega)), 0, rfl⟩
    · obtain ⟨v, rfl⟩ : ∃ v : Nat, q = (v : Int) := ⟨q.toNat, by omega⟩
      rw [txt_nonneg]
      exact dec_pos u v (by omega) (by omega) w
end Go.Proofs.Qxb6615490aDoor.Pts
