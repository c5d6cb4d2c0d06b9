/-
  Seat b6615490aD. The contracts at the texts that Points.String gives.
-/
import Derived.Test.Qxb6615490aDoorText
import Derived.Test.Qxb6615490aDoorParts
import Derived.Test.Qxb6615490aDoorValue
import Derived.Lib.Strings
namespace Go.Proofs.Qxb6615490aDoor.Pts
open Go.RowKit
open Go.Lib (decDigits nDigits decDigits_length nDigits_small nDigits_pos nDigits_le20)

theorem ba_ext {x y : ByteArray} (h : x.data.toList = y.data.toList) : x = y := by
  cases x with | mk a => cases y with | mk b => exact congrArg ByteArray.mk (Array.toList_inj.1 h)

theorem extract_mk (l : List UInt8) (a b : Nat) : (⟨l.toArray⟩ : ByteArray).extract a b = ⟨((l.drop a).take (b - a)).toArray⟩ := by
  apply ba_ext
  rw [Lib.extract_data]

/-- The whole part's digits, and the two decimals, of m hundredths. -/
def whole (m : Nat) : ByteArray := ⟨(decDigits (m / 100)).toArray⟩
def frac (m : Nat) : ByteArray := ⟨#[UInt8.ofNat (48 + m / 10 % 10), UInt8.ofNat (48 + m % 10)]⟩

theorem whole_digs (m : Nat) : Digs (whole m).data.toList := digs_decDigits _
theorem whole_size (m : Nat) : (whole m).size = nDigits (m / 100) := by
  show (decDigits (m / 100)).length = _
  exact decDigits_length _
theorem whole_num (m : Nat) : num (whole m).data.toList = m / 100 := num_decDigits _
theorem frac_digs (m : Nat) : Digs (frac m).data.toList := by
  intro b hb
  have hb' : b ∈ [UInt8.ofNat (48 + m / 10 % 10), UInt8.ofNat (48 + m % 10)] := hb
  rcases List.mem_cons.1 hb' with rfl | hb'
  · rw [toNat_digit _ (by omega)]; omega
  · obtain rfl := List.mem_singleton.1 hb'
    rw [toNat_digit _ (by omega)]; omega
theorem frac_size (m : Nat) : (frac m).size = 2 := rfl
theorem frac0 (m : Nat) (h : 0 < (frac m).size) : ((frac m)[0]).toNat = 48 + m / 10 % 10 := toNat_digit _ (by omega)
theorem frac1 (m : Nat) (h : 1 < (frac m).size) : ((frac m)[1]).toNat = 48 + m % 10 := toNat_digit _ (by omega)
theorem frac_num (m : Nat) : num (frac m).data.toList = m % 100 := by
  have e1 := toNat_digit (m / 10 % 10) (by omega)
  have e2 := toNat_digit (m % 10) (by omega)
  show num [UInt8.ofNat (48 + m / 10 % 10), UInt8.ofNat (48 + m % 10)] = _
  simp only [num, List.foldl_cons, List.foldl_nil, e1, e2]
  omega

theorem mag_length (m : Nat) : (mag m).length = nDigits (m / 100) + 3 := by
  unfold mag
  rw [List.length_append, decDigits_length]
  rfl

theorem mag_dig (m j : Nat) (h : j < (mag m).length) (hj : j < nDigits (m / 100)) : 48 ≤ ((mag m)[j]).toNat ∧ ((mag m)[j]).toNat ≤ 57 := by
  have hl : j < (decDigits (m / 100)).length := by rw [decDigits_length]; exact hj
  have e : (mag m)[j] = (decDigits (m / 100))[j] := List.getElem_append_left hl
  rw [e]
  exact digs_decDigits _ _ (List.getElem_mem hl)

theorem mag_tail (m i : Nat) (hi : i < 3) (h : nDigits (m / 100) + i < (mag m).length) : (mag m)[nDigits (m / 100) + i] = [46, UInt8.ofNat (48 + m / 10 % 10), UInt8.ofNat (48 + m % 10)][i] := by
  have e : (mag m)[nDigits (m / 100) + i]? = [46, UInt8.ofNat (48 + m / 10 % 10), UInt8.ofNat (48 + m % 10)][i]? := by
    unfold mag
    rw [List.getElem?_append_right (by rw [decDigits_length]; omega), decDigits_length, Nat.add_sub_cancel_left]
  rw [List.getElem?_eq_getElem h, List.getElem?_eq_getElem (by simpa using hi)] at e
  exact Option.some.inj e

theorem mag_lead (m : Nat) (h1 : 1 < nDigits (m / 100)) (h : 0 < (mag m).length) : ((mag m)[0]).toNat ≠ 48 := by
  have hl := decDigits_length (m / 100)
  have e : (mag m)[0] = (decDigits (m / 100))[0]'(by omega) := List.getElem_append_left (by omega)
  have h10 : 1 ≤ m / 100 := by
    rcases Nat.eq_zero_or_pos (m / 100) with e0 | e0
    · rw [e0, nDigits_small (by decide)] at h1; omega
    · exact e0
  obtain ⟨b, r, e1, hb⟩ := lead_decDigits (m / 100) h10
  rw [e]
  have e2 : (decDigits (m / 100))[0]'(by omega) = b := by simp [e1]
  rw [e2]
  omega

theorem mag_whole (m : Nat) : (mag m).take (nDigits (m / 100)) = decDigits (m / 100) := by
  rw [← decDigits_length]
  unfold mag
  exact List.take_left
theorem mag_frac (m : Nat) : (mag m).drop (nDigits (m / 100) + 1) = [UInt8.ofNat (48 + m / 10 % 10), UInt8.ofNat (48 + m % 10)] := by
  rw [← decDigits_length]
  unfold mag
  rw [← List.drop_drop, List.drop_left]
  rfl

/-- decimalParts at the text of m hundredths. -/
theorem parts_mag (m : Nat) (hm : m ≤ 9223372036854775808) (w : World) :
    Calls Tryd.prog 6 #[.string ⟨(mag m).toArray⟩] w fun e w' => e = .returned (.tuple #[.bool false, .string (whole m), .string (frac m), .bool true]) ∧ w' = w := by
  have hz : (⟨(mag m).toArray⟩ : ByteArray).size = nDigits (m / 100) + 3 := mag_length m
  have hl := mag_length m
  have hd := nDigits_pos (m / 100)
  have hd' := nDigits_le20 (m / 100) (by omega)
  have eW : (⟨(mag m).toArray⟩ : ByteArray).extract 0 (nDigits (m / 100)) = whole m := by rw [extract_mk, List.drop_zero, Nat.sub_zero, mag_whole]; rfl
  have eF : (⟨(mag m).toArray⟩ : ByteArray).extract (nDigits (m / 100) + 1) (⟨(mag m).toArray⟩ : ByteArray).size = frac m := by rw [extract_mk, hz, mag_frac]; exact congrArg (fun l : List UInt8 => (⟨l.toArray⟩ : ByteArray)) (List.take_of_length_le (by simp))
  have h := parts_pos ⟨(mag m).toArray⟩ (nDigits (m / 100)) hz hd (by omega)
    (fun j h hj => mag_dig m j (by rw [hl]; omega) hj)
    (fun h => by
      have := mag_tail m 0 (by omega) (by omega)
      show ((mag m)[nDigits (m / 100)]'(by omega)).toNat = 46
      rw [show (mag m)[nDigits (m / 100)]'(by omega) = 46 from this]; rfl)
    (fun h => by
      have := mag_tail m 1 (by omega) (by omega)
      show 48 ≤ ((mag m)[nDigits (m / 100) + 1]'(by omega)).toNat ∧ ((mag m)[nDigits (m / 100) + 1]'(by omega)).toNat ≤ 57
      rw [this]
      show 48 ≤ (UInt8.ofNat (48 + m / 10 % 10)).toNat ∧ (UInt8.ofNat (48 + m / 10 % 10)).toNat ≤ 57
      rw [toNat_digit _ (by omega)]; omega)
    (fun h => by
      have := mag_tail m 2 (by omega) (by omega)
      show 48 ≤ ((mag m)[nDigits (m / 100) + 2]'(by omega)).toNat ∧ ((mag m)[nDigits (m / 100) + 2]'(by omega)).toNat ≤ 57
      rw [this]
      show 48 ≤ (UInt8.ofNat (48 + m % 10)).toNat ∧ (UInt8.ofNat (48 + m % 10)).toNat ≤ 57
      rw [toNat_digit _ (by omega)]; omega)
    (fun h1 h => mag_lead m h1 (by omega)) w
  rw [eW, eF] at h
  exact h

theorem two_eq (m : Nat) (h1 : 1 ≤ m) : ((whole m).toList == [48] && (frac m).toList == [48, 48]) = false := by
  rw [ByteArray.toList_eq, ByteArray.toList_eq]
  by_cases h : m / 100 = 0
  · have e1 := toNat_digit (m / 10 % 10) (by omega)
    have e2 := toNat_digit (m % 10) (by omega)
    have hf : (frac m).data.toList ≠ [48, 48] := by
      intro e
      have e' : [UInt8.ofNat (48 + m / 10 % 10), UInt8.ofNat (48 + m % 10)] = [48, 48] := e
      simp only [List.cons.injEq, and_true] at e'
      have a1 := congrArg UInt8.toNat e'.1
      have a2 := congrArg UInt8.toNat e'.2
      rw [e1] at a1
      rw [e2] at a2
      simp at a1 a2
      omega
    rw [Bool.and_eq_false_iff]
    exact .inr (beq_eq_false_iff_ne.2 hf)
  · have hw : (whole m).data.toList ≠ [48] := by
      intro e
      have := congrArg num e
      rw [whole_num] at this
      simp [num] at this
      omega
    rw [Bool.and_eq_false_iff]
    exact .inl (beq_eq_false_iff_ne.2 hw)

/-- decimalParts at the text of -m hundredths. -/
theorem parts_minus (m : Nat) (h1 : 1 ≤ m) (hm : m ≤ 9223372036854775808) (w : World) :
    Calls Tryd.prog 6 #[.string ⟨(45 :: mag m).toArray⟩] w fun e w' => e = .returned (.tuple #[.bool true, .string (whole m), .string (frac m), .bool true]) ∧ w' = w := by
  have hl := mag_length m
  have hz : (⟨(45 :: mag m).toArray⟩ : ByteArray).size = nDigits (m / 100) + 1 + 3 := by show (45 :: mag m).length = _; rw [List.length_cons]; omega
  have hd := nDigits_pos (m / 100)
  have hd' := nDigits_le20 (m / 100) (by omega)
  have eW : (⟨(45 :: mag m).toArray⟩ : ByteArray).extract 1 (nDigits (m / 100) + 1) = whole m := by rw [extract_mk, List.drop_one, List.tail_cons, Nat.add_sub_cancel, mag_whole]; rfl
  have eF : (⟨(45 :: mag m).toArray⟩ : ByteArray).extract (nDigits (m / 100) + 1 + 1) (⟨(45 :: mag m).toArray⟩ : ByteArray).size = frac m := by
    rw [extract_mk, hz, List.drop_succ_cons, mag_frac]; exact congrArg (fun l : List UInt8 => (⟨l.toArray⟩ : ByteArray)) (List.take_of_length_le (by simp))
  have h := parts_neg ⟨(45 :: mag m).toArray⟩ (nDigits (m / 100) + 1) hz (by omega) (by omega) (fun _ => rfl)
    (fun j h hj1 hj => by
      obtain ⟨i, rfl⟩ : ∃ i, j = i + 1 := ⟨j - 1, by omega⟩
      exact mag_dig m i (by rw [hl]; omega) (by omega))
    (fun h => by
      have := mag_tail m 0 (by omega) (by omega)
      show ((mag m)[nDigits (m / 100)]'(by omega)).toNat = 46
      rw [show (mag m)[nDigits (m / 100)]'(by omega) = 46 from this]; rfl)
    (fun h => by
      have := mag_tail m 1 (by omega) (by omega)
      show 48 ≤ ((mag m)[nDigits (m / 100) + 1]'(by omega)).toNat ∧ ((mag m)[nDigits (m / 100) + 1]'(by omega)).toNat ≤ 57
      rw [this]
      show 48 ≤ (UInt8.ofNat (48 + m / 10 % 10)).toNat ∧ (UInt8.ofNat (48 + m / 10 % 10)).toNat ≤ 57
      rw [toNat_digit _ (by omega)]; omega)
    (fun h => by
      have := mag_tail m 2 (by omega) (by omega)
      show 48 ≤ ((mag m)[nDigits (m / 100) + 2]'(by omega)).toNat ∧ ((mag m)[nDigits (m / 100) + 2]'(by omega)).toNat ≤ 57
      rw [this]
      show 48 ≤ (UInt8.ofNat (48 + m % 10)).toNat ∧ (UInt8.ofNat (48 + m % 10)).toNat ≤ 57
      rw [toNat_digit _ (by omega)]; omega)
    (fun h2 h => mag_lead m (by omega) (by omega)) (by rw [eW, eF]; exact two_eq m h1) w
  rw [eW, eF] at h
  exact h

theorem whole_le (m : Nat) (hm : m ≤ 9223372036854775808) : (whole m).size ≤ 30 := by
  rw [whole_size]
  have := nDigits_le20 (m / 100) (by omega)
  omega

/-- hundredthsValue at the parts. -/
theorem value_mag (m : Nat) (hm : m ≤ 9223372036854775808) (w : World) :
    Calls Tryd.prog 7 #[.string (whole m), .string (frac m)] w fun e w' => e = .returned (.tuple #[.int .u64 (m : Int), .bool true]) ∧ ∃ q, w' = w.drewN q :=
  value (whole m) (frac m) (whole_le m hm) (whole_digs m) (by rw [frac_size]; decide) (by rw [frac_size]; decide) (frac_digs m) m hm
    (by rw [whole_num, frac0, frac1]; omega) w

/-- cmpDigits at two whole parts. -/
theorem cmp_whole (m n : Nat) (hm : m ≤ 9223372036854775808) (w : World) :
    Calls Tryd.prog 12 #[.string (whole m), .string (whole n)] w fun e w' => e = .returned (.int .i64 (cmpI ((m / 100 : Nat) : Int) ((n / 100 : Nat) : Int))) ∧ ∃ q, w' = w.drewN q := by
  by_cases h : (whole m).size = (whole n).size
  · have := cmp_same (whole m) (whole n) (whole_le m hm) h (whole_digs m) (whole_digs n) w
    rw [whole_num, whole_num] at this
    exact this
  · refine (cmp_len (whole m) (whole n) h w).mono ?_
    rintro e w' ⟨rfl, rfl⟩
    refine ⟨ret_int ?_, 0, rfl⟩
    rw [whole_size, whole_size] at h ⊢
    rcases Nat.lt_or_gt_of_ne h with h' | h'
    · have := lt_of_len h'
      rw [← cmpI_lt (by omega), ← cmpI_lt (by omega)]
    · have := lt_of_len h'
      rw [← cmpI_gt (by omega), ← cmpI_gt (by omega)]

theorem cmp_frac (m n : Nat) (w : World) :
    Calls Tryd.prog 12 #[.string (frac m), .string (frac n)] w fun e w' => e = .returned (.int .i64 (cmpI ((m % 100 : Nat) : Int) ((n % 100 : Nat) : Int))) ∧ ∃ q, w' = w.drewN q := by
  have := cmp_same (frac m) (frac n) (by rw [frac_size]; decide) rfl (frac_digs m) (frac_digs n) w
  rw [frac_num, frac_num] at this
  exact this
end Go.Proofs.Qxb6615490aDoor.Pts
