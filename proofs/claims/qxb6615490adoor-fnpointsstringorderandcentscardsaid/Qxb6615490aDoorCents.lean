/-
  Seat b6615490aD. The walk of FnPointsStringOrderAndCents (4).
-/
import Derived.Test.Qxb6615490aDoorOrder
namespace Go.Proofs.Qxb6615490aDoor.Pts
open Go.RowKit

/-- The last three bytes of the text. -/
theorem txt_tail (p : Int) : ∃ k, (txt p).length = k + 4 ∧ ∀ i, i < 3 → (txt p)[k + 1 + i]? = [46, UInt8.ofNat (48 + p.natAbs / 10 % 10), UInt8.ofNat (48 + p.natAbs % 10)][i]? := by
  have hl := mag_length p.natAbs
  have hd := Lib.nDigits_pos (p.natAbs / 100)
  have tail : ∀ i, i < 3 → (mag p.natAbs)[Lib.nDigits (p.natAbs / 100) + i]? = [46, UInt8.ofNat (48 + p.natAbs / 10 % 10), UInt8.ofNat (48 + p.natAbs % 10)][i]? := by
    intro i hi
    rw [List.getElem?_eq_getElem (by omega), mag_tail p.natAbs i hi (by omega)]
    rw [List.getElem?_eq_getElem (by simpa using hi)]
  unfold txt
  split
  · refine ⟨Lib.nDigits (p.natAbs / 100), by rw [List.length_cons]; omega, fun i hi => ?_⟩
    rw [show Lib.nDigits (p.natAbs / 100) + 1 + i = Lib.nDigits (p.natAbs / 100) + i + 1 by omega, List.getElem?_cons_succ]
    exact tail i hi
  · refine ⟨Lib.nDigits (p.natAbs / 100) - 1, by omega, fun i hi => ?_⟩
    rw [show Lib.nDigits (p.natAbs / 100) - 1 + 1 + i = Lib.nDigits (p.natAbs / 100) + i by omega]
    exact tail i hi

theorem txt_short (p : Int) (p0 : -9223372036854775808 ≤ p) (p1 : p ≤ 9223372036854775807) : (txt p).length ≤ 30 := by
  have hl := mag_length p.natAbs
  have h2 := Lib.nDigits_le20 (p.natAbs / 100) (by omega)
  unfold txt
  split
  · rw [List.length_cons]; omega
  · omega

theorem byte_of (l : List UInt8) (s : ByteArray) (hs : s = ⟨l.toArray⟩) (j : Nat) (b : UInt8) (h : l[j]? = some b) (hj : j < s.size) : s[j] = b := by
  subst hs
  obtain ⟨_, e⟩ := List.getElem?_eq_some_iff.1 h
  exact e

set_option maxHeartbeats 1000000 in
set_option maxRecDepth 100000 in
theorem cents_at (want : Int) (p q : Int) (p0 : -9223372036854775808 ≤ p) (p1 : p ≤ 9223372036854775807) (q0 : -9223372036854775808 ≤ q) (q1 : q ≤ 9223372036854775807)
    (hw : (p < q ∧ want = -1) ∨ (q < p ∧ want = 1) ∨ (p = q ∧ want = 0)) (w : World) (htab : Lib.TabBelow Tryd.prog w.heap.size w powName .u64 Lib.pow10Tab) :
    Calls Tryd.prog 4 #[.int .i64 p, .int .i64 q] w fun e w' => e = .returned (.bool true) ∧ Below w.heap.size w w' := by
  obtain ⟨k, hk, htail⟩ := txt_tail p
  have hshort := txt_short p p0 p1
  obtain ⟨s, hs⟩ : ∃ s : ByteArray, s = ⟨(txt p).toArray⟩ := ⟨_, rfl⟩
  have hsz : s.size = k + 4 := by rw [hs]; exact hk
  have hk30 : k ≤ 30 := by omega
  have b0 := byte_of _ s hs (k + 1) _ (htail 0 (by omega)) (by omega)
  have b1 := byte_of _ s hs (k + 2) _ (htail 1 (by omega)) (by omega)
  have b2 := byte_of _ s hs (k + 3) _ (htail 2 (by omega)) (by omega)
  have c0 : ((s[k + 1]'(by omega)).toNat : Int) = 46 := by rw [b0]; rfl
  have c1 : ((s[k + 2]'(by omega)).toNat : Int) = 48 + (p.natAbs : Int) / 10 % 10 := by rw [b1, toNat_digit _ (by omega)]; omega
  have c2 : ((s[k + 3]'(by omega)).toNat : Int) = 48 + (p.natAbs : Int) % 10 := by rw [b2, toNat_digit _ (by omega)]; omega
  have HS : Hid (s = ⟨(txt p).toArray⟩) := hs
  clear hk htail hs b0 b1 b2 hshort
  have hcmp : cmpI p q = want := by
    rcases hw with ⟨a, b⟩ | ⟨a, b⟩ | ⟨a, b⟩
    · rw [b]; exact (cmpI_lt a).symm
    · rw [b]; exact (cmpI_gt a).symm
    · rw [b]; exact (cmpI_eq a).symm
  have HC : Hid (cmpI p q = want) := hcmp
  clear hcmp
  rcases hw with ⟨a, rfl⟩ | ⟨a, rfl⟩ | ⟨rfl, rfl⟩
  · go_enter Tryd.func4, Tryd.ntmps4
    go_wp2_with fail
    refine (string_any p p0 p1 _ htab).mono ?_
    rintro e w1 ⟨rfl, hb1⟩
    rw [← HS.out]
    go_wp2_with fail
    refine (string_any q q0 q1 _ (tab_up htab hb1 hb1.size)).mono ?_
    rintro e w2 ⟨rfl, hb2⟩
    have hb : Below w.heap.size w w2 := hb1.trans (hb2.mono hb1.size)
    go_wp2_with fail
    have hd := dec_any p q p0 p1 q0 q1 w2
    rw [← HS.out, HC.out] at hd
    refine hd.mono ?_
    rintro e w3 ⟨rfl, t, rfl⟩
    clear hd
    go_wp2_with fail
    refine (magnitude p p0 p1 _).mono ?_
    rintro e w4 ⟨rfl, rfl⟩
    go_wp2_with fail
    go_ret
    exact ⟨rfl, below_drewN hb _⟩
  · have a' : ¬ p < q := by omega
    go_enter Tryd.func4, Tryd.ntmps4
    go_wp2_with fail
    refine (string_any p p0 p1 _ htab).mono ?_
    rintro e w1 ⟨rfl, hb1⟩
    rw [← HS.out]
    go_wp2_with fail
    refine (string_any q q0 q1 _ (tab_up htab hb1 hb1.size)).mono ?_
    rintro e w2 ⟨rfl, hb2⟩
    have hb : Below w.heap.size w w2 := hb1.trans (hb2.mono hb1.size)
    go_wp2_with fail
    have hd := dec_any p q p0 p1 q0 q1 w2
    rw [← HS.out, HC.out] at hd
    refine hd.mono ?_
    rintro e w3 ⟨rfl, t, rfl⟩
    clear hd
    go_wp2_with fail
    refine (magnitude p p0 p1 _).mono ?_
    rintro e w4 ⟨rfl, rfl⟩
    go_wp2_with fail
    go_ret
    exact ⟨rfl, below_drewN hb _⟩
  · go_enter Tryd.func4, Tryd.ntmps4
    go_wp2_with fail
    refine (string_any p p0 p1 _ htab).mono ?_
    rintro e w1 ⟨rfl, hb1⟩
    rw [← HS.out]
    go_wp2_with fail
    refine (string_any p p0 p1 _ (tab_up htab hb1 hb1.size)).mono ?_
    rintro e w2 ⟨rfl, hb2⟩
    rw [← HS.out]
    have hb : Below w.heap.size w w2 := hb1.trans (hb2.mono hb1.size)
    go_wp2_with fail
    have hd := dec_any p p p0 p1 p0 p1 w2
    rw [← HS.out, HC.out] at hd
    refine hd.mono ?_
    rintro e w3 ⟨rfl, t, rfl⟩
    clear hd
    go_wp2_with fail
    refine (magnitude p p0 p1 _).mono ?_
    rintro e w4 ⟨rfl, rfl⟩
    go_wp2_with fail
    go_ret
    exact ⟨rfl, below_drewN hb _⟩

theorem cents_walk (p q : Int) (p0 : -9223372036854775808 ≤ p) (p1 : p ≤ 9223372036854775807) (q0 : -9223372036854775808 ≤ q) (q1 : q ≤ 9223372036854775807)
    (w : World) (htab : Lib.TabBelow Tryd.prog w.heap.size w powName .u64 Lib.pow10Tab) :
    Calls Tryd.prog 4 #[.int .i64 p, .int .i64 q] w fun e w' => e = .returned (.bool true) ∧ Below w.heap.size w w' := by
  rcases Int.lt_trichotomy p q with h | h | h
  · exact cents_at (-1) p q p0 p1 q0 q1 (.inl ⟨h, rfl⟩) w htab
  · exact cents_at 0 p q p0 p1 q0 q1 (.inr (.inr ⟨h, rfl⟩)) w htab
  · exact cents_at 1 p q p0 p1 q0 q1 (.inr (.inl ⟨h, rfl⟩)) w htab
end Go.Proofs.Qxb6615490aDoor.Pts
