/-
  Seat b6615490aD. decimalParts (6).
-/
import Derived.Test.Qxb6615490aDoorRows
import Derived.WalkKit
import Derived.WalkSpells
import Derived.WalkLawsBesides
import Derived.Deep.QuietTactic
import Derived.BigQuiet
namespace Go.Proofs.Qxb6615490aDoor.Pts
open Go.RowKit

set_option maxHeartbeats 1000000 in
set_option maxRecDepth 100000 in
/-- decimalParts at a text without a sign: d digits, a point, two digits. -/
theorem parts_pos (s : ByteArray) (d : Nat) (hs : s.size = d + 3) (hd : 1 ≤ d) (hd' : d ≤ 30)
    (dig : ∀ j (h : j < s.size), j < d → 48 ≤ (s[j]).toNat ∧ (s[j]).toNat ≤ 57) (dot : ∀ h : d < s.size, (s[d]).toNat = 46)
    (f1 : ∀ h : d + 1 < s.size, 48 ≤ (s[d + 1]).toNat ∧ (s[d + 1]).toNat ≤ 57) (f2 : ∀ h : d + 2 < s.size, 48 ≤ (s[d + 2]).toNat ∧ (s[d + 2]).toNat ≤ 57)
    (lead : 1 < d → ∀ h : 0 < s.size, (s[0]).toNat ≠ 48) (w : World) :
    Calls Tryd.prog 6 #[.string s] w fun e w' => e = .returned (.tuple #[.bool false, .string (s.extract 0 d), .string (s.extract (d + 1) s.size), .bool true]) ∧ w' = w := by
  have H1 : Hid (∀ j (h : j < s.size), j < d → 48 ≤ (s[j]).toNat ∧ (s[j]).toNat ≤ 57) := dig
  have H2 : Hid (∀ h : d < s.size, (s[d]).toNat = 46) := dot
  have H3 : Hid (∀ h : d + 1 < s.size, 48 ≤ (s[d + 1]).toNat ∧ (s[d + 1]).toNat ≤ 57) := f1
  have H4 : Hid (∀ h : d + 2 < s.size, 48 ≤ (s[d + 2]).toNat ∧ (s[d + 2]).toNat ≤ 57) := f2
  have H5 : Hid (1 < d → ∀ h : 0 < s.size, (s[0]).toNat ≠ 48) := lead
  have HS : Hid (s.size = d + 3) := hs
  have hp : 0 < s.size := by omega
  have h0 := (dig 0 hp (by omega)).1
  have hsz1 : d < s.size := by omega
  have hsz2 : s.size ≤ 40 := by omega
  have hm : (((s[0]).toNat : Int) == 45) = false := beq_eq_false_iff_ne.2 (by omega)
  clear dig dot f1 f2 lead hs h0
  go_enter Tryd.func6, Tryd.ntmps6
  go_wp2
  go_loop [7] (fun i => ∃ k : Nat, k ≤ d ∧ i = .int .i64 k) (fun i => d - (intOf i).toNat)
  case atStart => exact ⟨0, Nat.zero_le _, rfl⟩
  case round =>
    obtain ⟨k, hk, rfl⟩ := hrel
    by_cases hlt : k < d
    · have hks : k < s.size := by omega
      have hb := H1.out k hks hlt
      have hb1 : (48 : Int) ≤ ((s[k]).toNat : Int) := by omega
      have hb2 : ((s[k]).toNat : Int) ≤ 57 := by omega
      clear hb
      go_wp2
      go_round
      case rel => exact ⟨k + 1, by omega, by go_num⟩
      case measure => simp [intOf]; omega
    · obtain rfl : k = d := by omega
      have he : ((s[k]).toNat : Int) = 46 := by have := H2.out hsz1; omega
      have hk0 : ((k : Int) == 0) = false := beq_eq_false_iff_ne.2 (by omega)
      have hl : ((s.size : Int) - (k : Int) != 3) = false := by have := HS.out; simp; omega
      have hz1 : k + 1 < s.size := by have := HS.out; omega
      have hz2 : k + 2 < s.size := by have := HS.out; omega
      have g1 := H3.out hz1
      have g2 := H4.out hz2
      have g1a : (48 : Int) ≤ ((s[k + 1]).toNat : Int) := by omega
      have g1b : ((s[k + 1]).toNat : Int) ≤ 57 := by omega
      have g2a : (48 : Int) ≤ ((s[k + 2]).toNat : Int) := by omega
      have g2b : ((s[k + 2]).toNat : Int) ≤ 57 := by omega
      clear g1 g2 hlt
      by_cases h1 : (1 : Int) < (k : Int)
      · have h48 : (((s[0]).toNat : Int) == 48) = false := beq_eq_false_iff_ne.2 (by have := H5.out (by omega) hp; omega)
        go_wp2
        exact bodyPost_ret (v := .tuple #[.bool false, .string (s.extract 0 k), .string (s.extract (k + 1) s.size), .bool true]) (by simp [results, Tryd.results6, go_sem]) rfl ⟨rfl, rfl⟩
      · go_wp2
        exact bodyPost_ret (v := .tuple #[.bool false, .string (s.extract 0 k), .string (s.extract (k + 1) s.size), .bool true]) (by simp [results, Tryd.results6, go_sem]) rfl ⟨rfl, rfl⟩

set_option maxHeartbeats 2000000 in
set_option maxRecDepth 100000 in
/-- decimalParts behind a minus sign: the digits end at place d, then a point, two digits; not "-0.00". -/
theorem parts_neg (s : ByteArray) (d : Nat) (hs : s.size = d + 3) (hd : 2 ≤ d) (hd' : d ≤ 31) (sgn : ∀ h : 0 < s.size, (s[0]).toNat = 45)
    (dig : ∀ j (h : j < s.size), 1 ≤ j → j < d → 48 ≤ (s[j]).toNat ∧ (s[j]).toNat ≤ 57) (dot : ∀ h : d < s.size, (s[d]).toNat = 46)
    (f1 : ∀ h : d + 1 < s.size, 48 ≤ (s[d + 1]).toNat ∧ (s[d + 1]).toNat ≤ 57) (f2 : ∀ h : d + 2 < s.size, 48 ≤ (s[d + 2]).toNat ∧ (s[d + 2]).toNat ≤ 57)
    (lead : 2 < d → ∀ h : 1 < s.size, (s[1]).toNat ≠ 48) (nz : ((s.extract 1 d).toList == [48] && (s.extract (d + 1) s.size).toList == [48, 48]) = false) (w : World) :
    Calls Tryd.prog 6 #[.string s] w fun e w' => e = .returned (.tuple #[.bool true, .string (s.extract 1 d), .string (s.extract (d + 1) s.size), .bool true]) ∧ w' = w := by
  have H1 : Hid (∀ j (h : j < s.size), 1 ≤ j → j < d → 48 ≤ (s[j]).toNat ∧ (s[j]).toNat ≤ 57) := dig
  have H2 : Hid (∀ h : d < s.size, (s[d]).toNat = 46) := dot
  have H3 : Hid (∀ h : d + 1 < s.size, 48 ≤ (s[d + 1]).toNat ∧ (s[d + 1]).toNat ≤ 57) := f1
  have H4 : Hid (∀ h : d + 2 < s.size, 48 ≤ (s[d + 2]).toNat ∧ (s[d + 2]).toNat ≤ 57) := f2
  have H5 : Hid (2 < d → ∀ h : 1 < s.size, (s[1]).toNat ≠ 48) := lead
  have HN : Hid (((s.extract 1 d).toList == [48] && (s.extract (d + 1) s.size).toList == [48, 48]) = false) := nz
  have HS : Hid (s.size = d + 3) := hs
  have hp : 0 < s.size := by omega
  have hp1 : 1 < s.size := by omega
  have hsz1 : d < s.size := by omega
  have hsz2 : s.size ≤ 40 := by omega
  have hm : ((s[0]).toNat : Int) = 45 := by have := sgn hp; omega
  clear dig dot f1 f2 lead hs sgn nz
  go_enter Tryd.func6, Tryd.ntmps6
  go_wp2
  go_loop [7] (fun i => ∃ k : Nat, 1 ≤ k ∧ k ≤ d ∧ i = .int .i64 k) (fun i => d - (intOf i).toNat)
  case atStart => exact ⟨1, by omega, by omega, rfl⟩
  case round =>
    obtain ⟨k, hk1, hk, rfl⟩ := hrel
    by_cases hlt : k < d
    · have hks : k < s.size := by omega
      have hb := H1.out k hks hk1 hlt
      have hb1 : (48 : Int) ≤ ((s[k]).toNat : Int) := by omega
      have hb2 : ((s[k]).toNat : Int) ≤ 57 := by omega
      clear hb
      go_wp2
      go_round
      case rel => exact ⟨k + 1, by omega, by omega, by go_num⟩
      case measure => simp [intOf]; omega
    · obtain rfl : k = d := by omega
      have he : ((s[k]).toNat : Int) = 46 := by have := H2.out hsz1; omega
      have hk0 : ((k : Int) == 1) = false := beq_eq_false_iff_ne.2 (by omega)
      have hl : ((s.size : Int) - (k : Int) != 3) = false := by have := HS.out; simp; omega
      have hz1 : k + 1 < s.size := by have := HS.out; omega
      have hz2 : k + 2 < s.size := by have := HS.out; omega
      have g1 := H3.out hz1
      have g2 := H4.out hz2
      have g1a : (48 : Int) ≤ ((s[k + 1]).toNat : Int) := by omega
      have g1b : ((s[k + 1]).toNat : Int) ≤ 57 := by omega
      have g2a : (48 : Int) ≤ ((s[k + 2]).toNat : Int) := by omega
      have g2b : ((s[k + 2]).toNat : Int) ≤ 57 := by omega
      clear g1 g2 hlt
      by_cases h1 : (1 : Int) < (k : Int) - 1
      · have h48 : (((s[1]).toNat : Int) == 48) = false := beq_eq_false_iff_ne.2 (by have := H5.out (by omega) hp1; omega)
        cases hw : ((s.extract 1 k).toList == [48]) with
        | false =>
          go_wp2
          exact bodyPost_ret (v := .tuple #[.bool true, .string (s.extract 1 k), .string (s.extract (k + 1) s.size), .bool true]) (by simp [results, Tryd.results6, go_sem]) rfl ⟨rfl, rfl⟩
        | true =>
          have hf : ((s.extract (k + 1) s.size).toList == [48, 48]) = false := by have := HN.out; rw [hw] at this; simpa using this
          go_wp2
          exact bodyPost_ret (v := .tuple #[.bool true, .string (s.extract 1 k), .string (s.extract (k + 1) s.size), .bool true]) (by simp [results, Tryd.results6, go_sem]) rfl ⟨rfl, rfl⟩
      · cases hw : ((s.extract 1 k).toList == [48]) with
        | false =>
          go_wp2
          exact bodyPost_ret (v := .tuple #[.bool true, .string (s.extract 1 k), .string (s.extract (k + 1) s.size), .bool true]) (by simp [results, Tryd.results6, go_sem]) rfl ⟨rfl, rfl⟩
        | true =>
          have hf : ((s.extract (k + 1) s.size).toList == [48, 48]) = false := by have := HN.out; rw [hw] at this; simpa using this
          go_wp2
          exact bodyPost_ret (v := .tuple #[.bool true, .string (s.extract 1 k), .string (s.extract (k + 1) s.size), .bool true]) (by simp [results, Tryd.results6, go_sem]) rfl ⟨rfl, rfl⟩
end Go.Proofs.Qxb6615490aDoor.Pts
