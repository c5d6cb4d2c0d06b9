/-
  Seat b6615490aD. hundredthsValue (7), magnitude (8), cmpDigits (12).
-/
import Derived.Test.Qxb6615490aDoorPlain
import Derived.Test.Qxb6615490aDoorRows
import Derived.WalkKit
import Derived.WalkSpells
import Derived.WalkLawsBesides
import Derived.Deep.QuietTactic
import Derived.BigQuiet
import Derived.Lib.EndianBits
namespace Go.Proofs.Qxb6615490aDoor.Pts
open Go.RowKit

theorem ret_int {k : IntKind} {a b : Int} (h : a = b) : Ending.returned (.int k a) = .returned (.int k b) := by rw [h]

theorem mag_pos (u : Nat) (hu : u < 9223372036854775808) (w : World) : Calls Tryd.prog 8 #[.int .i64 (u : Int)] w fun e w' => e = .returned (.int .u64 (u : Int)) ∧ w' = w := by
  go_enter Tryd.func8, Tryd.ntmps8
  go_wp2
  go_ret
  exact ⟨rfl, rfl⟩

theorem mag_neg (u : Nat) (h1 : 1 ≤ u) (hu : u ≤ 9223372036854775808) (w : World) : Calls Tryd.prog 8 #[.int .i64 (-(u : Int))] w fun e w' => e = .returned (.int .u64 (u : Int)) ∧ w' = w := by
  have hwr : IntKind.u64.wrap (-IntKind.u64.wrap (-(u : Int))) = (u : Int) := by rw [IntKind.wrap_u64, IntKind.wrap_u64]; omega
  have hneg : -(u : Int) < 0 := by omega
  go_enter Tryd.func8, Tryd.ntmps8
  go_wp2
  go_ret
  exact ⟨rfl, rfl⟩

theorem magnitude (n : Int) (h0 : -9223372036854775808 ≤ n) (h1 : n ≤ 9223372036854775807) (w : World) : Calls Tryd.prog 8 #[.int .i64 n] w fun e w' => e = .returned (.int .u64 (n.natAbs : Int)) ∧ w' = w := by
  by_cases hn : n < 0
  · obtain ⟨u, rfl⟩ : ∃ u : Nat, n = -(u : Int) := ⟨n.natAbs, by omega⟩
    rw [Int.natAbs_neg]
    exact mag_neg u (by omega) (by omega) w
  · obtain ⟨u, rfl⟩ : ∃ u : Nat, n = (u : Int) := ⟨n.toNat, by omega⟩
    exact mag_pos u (by omega) w

theorem byte_digit (x : ByteArray) (hx : Digs x.data.toList) (k : Nat) (h : k < x.size) : 48 ≤ (x[k]).toNat ∧ (x[k]).toNat ≤ 57 := by
  have hk : k < x.data.toList.length := by simpa using h
  have e : x.data.toList[k] = x[k] := by rw [Array.getElem_toList]; rfl
  rw [← e]
  exact hx _ (List.getElem_mem hk)

theorem num_byte (x : ByteArray) (k : Nat) (h : k < x.size) : num (x.data.toList.take (k + 1)) = num (x.data.toList.take k) * 10 + ((x[k]).toNat - 48) := by
  have hk : k < x.data.toList.length := by simpa using h
  have e : x.data.toList[k] = x[k] := by rw [Array.getElem_toList]; rfl
  rw [num_take_succ _ _ hk, e]

set_option maxHeartbeats 1000000 in
set_option maxRecDepth 100000 in
theorem value (x F : ByteArray) (hs : x.size ≤ 30) (hx : Digs x.data.toList) (hF0 : 0 < F.size) (hF1 : 1 < F.size) (hF : Digs F.data.toList) (m : Nat) (hm : m ≤ 9223372036854775808)
    (hu : num x.data.toList * 100 + ((F[0]).toNat - 48) * 10 + ((F[1]).toNat - 48) = m) (w : World) :
    Calls Tryd.prog 7 #[.string x, .string F] w fun e w' => e = .returned (.tuple #[.int .u64 (m : Int), .bool true]) ∧ ∃ q, w' = w.drewN q := by
  have HU : Hid (num x.data.toList * 100 + ((F[0]).toNat - 48) * 10 + ((F[1]).toNat - 48) = m) := hu
  have HX : Hid (Digs x.data.toList) := hx
  have g0 := byte_digit F hF 0 hF0
  have g1 := byte_digit F hF 1 hF1
  have g0a : (48 : Int) ≤ ((F[0]).toNat : Int) := by omega
  have g0b : ((F[0]).toNat : Int) ≤ 57 := by omega
  have g1a : (48 : Int) ≤ ((F[1]).toNat : Int) := by omega
  have g1b : ((F[1]).toNat : Int) ≤ 57 := by omega
  have hF1i : (1 : Int) < (F.size : Int) := by omega
  have q0 : IntKind.u8.wrap (((F[0]).toNat : Int) - 48) = ((F[0]).toNat : Int) - 48 := by rw [IntKind.wrap_u8]; omega
  have q1 : IntKind.u64.wrap (((F[0]).toNat : Int) - 48) = ((F[0]).toNat : Int) - 48 := by rw [IntKind.wrap_u64]; omega
  have q2 : IntKind.u64.wrap ((((F[0]).toNat : Int) - 48) * 10) = (((F[0]).toNat : Int) - 48) * 10 := by rw [IntKind.wrap_u64]; omega
  have q3 : IntKind.u8.wrap (((F[1]).toNat : Int) - 48) = ((F[1]).toNat : Int) - 48 := by rw [IntKind.wrap_u8]; omega
  have q4 : IntKind.u64.wrap (((F[1]).toNat : Int) - 48) = ((F[1]).toNat : Int) - 48 := by rw [IntKind.wrap_u64]; omega
  have q5 : IntKind.u64.wrap ((((F[0]).toNat : Int) - 48) * 10 + (((F[1]).toNat : Int) - 48)) = (((F[0]).toNat : Int) - 48) * 10 + (((F[1]).toNat : Int) - 48) := by rw [IntKind.wrap_u64]; omega
  clear hu hx hF g0 g1
  go_enter Tryd.func7, Tryd.ntmps7
  go_wp2
  go_loop [6, 7] (fun v i => ∃ k : Nat, k ≤ x.size ∧ i = .int .i64 k ∧ v = .int .u64 (num (x.data.toList.take k) : Nat)) (fun _ i => x.size - (intOf i).toNat)
  case atStart => exact ⟨0, Nat.zero_le _, rfl, rfl⟩
  case round =>
    obtain ⟨k, hk, rfl, rfl⟩ := hrel
    by_cases hlt : k < x.size
    · have hb := byte_digit x HX.out k hlt
      have hn := num_byte x k hlt
      have hle := num_take_le x.data.toList (k + 1)
      have hb1 : (48 : Int) ≤ ((x[k]).toNat : Int) := by omega
      have hb2 : ((x[k]).toNat : Int) ≤ 57 := by omega
      have hmu := HU.out
      have hfit : (num (x.data.toList.take k) : Int) ≤ (18446744073709551615 - (((x[k]).toNat : Int) - 48)) / 10 := by omega
      have HN : Hid (((num (x.data.toList.take (k + 1)) : Nat) : Int) = (num (x.data.toList.take k) : Int) * 10 + (((x[k]).toNat : Int) - 48)) := show _ = _ by omega
      clear hb hn hle hmu
      go_wp2
      go_round
      case rel => exact ⟨k + 1, by omega, by go_num, by rw [HN.out]⟩
      case measure => simp [intOf]; omega
    · obtain rfl : k = x.size := by omega
      have et : x.data.toList.take x.size = x.data.toList := List.take_of_length_le (by simp)
      have hmu := HU.out
      have hfit : (num (x.data.toList.take x.size) : Int) ≤ (18446744073709551615 - ((((F[0]).toNat : Int) - 48) * 10 + (((F[1]).toNat : Int) - 48))) / 100 := by rw [et]; omega
      have HM : Hid ((num (x.data.toList.take x.size) : Int) * 100 + ((((F[0]).toNat : Int) - 48) * 10 + (((F[1]).toNat : Int) - 48)) = m) := show _ = _ by rw [et]; omega
      clear hmu et
      go_wp2
      go_quiet (fail)
      go_wp2
      go_ret2
      exact ⟨by rw [← HM.out]; rfl, _, rfl⟩

/-- The order of two numbers: -1, 0, 1. -/
def cmpI (x y : Int) : Int := if x < y then -1 else if y < x then 1 else 0
theorem cmpI_lt {x y : Int} (h : x < y) : -1 = cmpI x y := by unfold cmpI; rw [if_pos h]
theorem cmpI_gt {x y : Int} (h : y < x) : 1 = cmpI x y := by unfold cmpI; rw [if_neg (by omega), if_pos h]
theorem cmpI_eq {x y : Int} (h : x = y) : 0 = cmpI x y := by unfold cmpI; rw [if_neg (by omega), if_neg (by omega)]

theorem drewN_more {w w1 : World} (h : ∃ m, w1 = w.drewN m) (n : Nat) : ∃ m, w1.drewN n = w.drewN m := by
  obtain ⟨m, rfl⟩ := h
  exact ⟨m + n, by simp⟩

theorem byte_lt_at (x y : ByteArray) (k : Nat) (hx : Digs x.data.toList) (hy : Digs y.data.toList) (hl : x.size = y.size) (hk : k < x.size) (hk' : k < y.size) (he : x.data.toList.take k = y.data.toList.take k)
    (h : (x[k]).toNat < (y[k]).toNat) : num x.data.toList < num y.data.toList := by
  refine num_lt_at x.data.toList y.data.toList k hx hy (by simpa using hl) (by simpa using hk) he ?_
  rw [Array.getElem_toList, Array.getElem_toList]
  exact h

theorem take_eq_succ (x y : ByteArray) (k : Nat) (hk : k < x.size) (hk' : k < y.size) (he : x.data.toList.take k = y.data.toList.take k) (h : (x[k]).toNat = (y[k]).toNat) : x.data.toList.take (k + 1) = y.data.toList.take (k + 1) := by
  rw [List.take_succ_eq_append_getElem (by simpa using hk), List.take_succ_eq_append_getElem (by simpa using hk'), he, Array.getElem_toList, Array.getElem_toList]
  have : x[k] = y[k] := UInt8.toNat_inj.1 h
  exact congrArg (fun b => y.data.toList.take k ++ [b]) this

set_option maxHeartbeats 1000000 in
set_option maxRecDepth 100000 in
/-- cmpDigits at two rows of digits of one length. -/
theorem cmp_same (x y : ByteArray) (hs : x.size ≤ 30) (hl : x.size = y.size) (hx : Digs x.data.toList) (hy : Digs y.data.toList) (w : World) :
    Calls Tryd.prog 12 #[.string x, .string y] w fun e w' => e = .returned (.int .i64 (cmpI (num x.data.toList) (num y.data.toList))) ∧ ∃ q, w' = w.drewN q := by
  have HL : Hid (x.size = y.size) := hl
  have HX : Hid (Digs x.data.toList) := hx
  have HY : Hid (Digs y.data.toList) := hy
  have hne : ((x.size : Int) != (y.size : Int)) = false := by simp; omega
  clear hl hx hy
  go_enter Tryd.func12, Tryd.ntmps12
  go_wp2
  go_loopw [5] (fun i wr => ∃ k : Nat, k ≤ x.size ∧ i = .int .i64 k ∧ Hid (x.data.toList.take k = y.data.toList.take k) ∧ ∃ q, wr = w.drewN q) (fun i _ => x.size - (intOf i).toNat)
  case atStart => exact ⟨0, Nat.zero_le _, rfl, rfl, 0, rfl⟩
  case round =>
    obtain ⟨k, hk, rfl, HE, q, rfl⟩ := hrel
    by_cases hlt : k < x.size
    · have hlt' : k < y.size := by have := HL.out; omega
      have hi : (k : Int) < (x.size : Int) := by omega
      have hi' : (k : Int) < (y.size : Int) := by omega
      by_cases heq : (x[k]).toNat = (y[k]).toNat
      · have hn : (((x[k]).toNat : Int) != ((y[k]).toNat : Int)) = false := by simp; omega
        have HQ : Hid ((x[k]).toNat = (y[k]).toNat) := heq
        clear heq
        go_wp2
        go_quiet (fail)
        go_wp2
        go_roundw
        case rel => exact ⟨k + 1, by omega, by go_num, take_eq_succ x y k hlt hlt' HE.out HQ.out, _, rfl⟩
        case measure => simp [intOf]; omega
      · have hn : (((x[k]).toNat : Int) != ((y[k]).toNat : Int)) = true := by simp; omega
        by_cases hxy : ((x[k]).toNat : Int) < ((y[k]).toNat : Int)
        · go_wp2
          go_quiet (fail)
          go_wp2
          go_quiet (fail)
          go_wp2
          go_ret
          exact ⟨ret_int (cmpI_lt (by have := byte_lt_at x y k HX.out HY.out HL.out hlt hlt' HE.out (by omega); omega)), drewN_more (drewN_more ⟨_, rfl⟩ _) _⟩
        · go_wp2
          go_quiet (fail)
          go_wp2
          go_quiet (fail)
          go_wp2
          go_ret
          exact ⟨ret_int (cmpI_gt (by have := byte_lt_at y x k HY.out HX.out HL.out.symm hlt' hlt HE.out.symm (by omega); omega)), drewN_more (drewN_more ⟨_, rfl⟩ _) _⟩
    · obtain rfl : k = x.size := by omega
      have hend : x.data.toList = y.data.toList := by
        have := HE.out
        rw [List.take_of_length_le (by simp), List.take_of_length_le (by have := HL.out; simp; omega)] at this
        exact this
      have HD : Hid (x.data.toList = y.data.toList) := hend
      clear hend
      go_wp2
      go_ret
      exact ⟨ret_int (cmpI_eq (by rw [HD.out])), _, rfl⟩

/-- cmpDigits at two lengths. -/
theorem cmp_len (x y : ByteArray) (hl : x.size ≠ y.size) (w : World) :
    Calls Tryd.prog 12 #[.string x, .string y] w fun e w' => e = .returned (.int .i64 (cmpI x.size y.size)) ∧ w' = w := by
  have hne : ((x.size : Int) != (y.size : Int)) = true := by simp; omega
  by_cases h : (x.size : Int) < (y.size : Int)
  · go_enter Tryd.func12, Tryd.ntmps12
    go_wp2
    go_ret
    exact ⟨ret_int (cmpI_lt h), rfl⟩
  · go_enter Tryd.func12, Tryd.ntmps12
    go_wp2
    go_ret
    exact ⟨ret_int (cmpI_gt (by omega)), rfl⟩
end Go.Proofs.Qxb6615490aDoor.Pts
