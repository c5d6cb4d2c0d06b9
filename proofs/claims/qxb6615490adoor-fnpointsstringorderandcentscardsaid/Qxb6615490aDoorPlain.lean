/-
  Seat b6615490aD. The plain laws on digits: no Go in sight.
-/
import Derived.Lib.ItoaLen
namespace Go.Proofs.Qxb6615490aDoor.Pts
open Go.Lib (decDigits nDigits decDigits_length nDigits_small nDigits_big lt_pow_nDigits nDigits_pos nDigits_le20)

/-- The number that a row of digits spells. -/
def num (l : List UInt8) : Nat := l.foldl (fun v b => v * 10 + (b.toNat - 48)) 0
/-- A row of digits. -/
def Digs (l : List UInt8) : Prop := ∀ b ∈ l, 48 ≤ b.toNat ∧ b.toNat ≤ 57

theorem num_snoc (l : List UInt8) (b : UInt8) : num (l ++ [b]) = num l * 10 + (b.toNat - 48) := by simp [num, List.foldl_append]

theorem foldl_num : ∀ (r : List UInt8) (a : Nat), r.foldl (fun v b => v * 10 + (b.toNat - 48)) a = a * 10 ^ r.length + num r
  | [], a => by simp [num]
  | b :: r, a => by
    have h1 := foldl_num r (a * 10 + (b.toNat - 48))
    have h2 := foldl_num r (0 * 10 + (b.toNat - 48))
    simp only [List.foldl_cons, num, List.length_cons, Nat.pow_succ] at h1 h2 ⊢
    rw [h1, h2]
    simp only [Nat.zero_mul, Nat.zero_add, Nat.add_mul]
    rw [Nat.mul_assoc, Nat.mul_comm 10, Nat.add_assoc]

theorem num_append (l r : List UInt8) : num (l ++ r) = num l * 10 ^ r.length + num r := by
  have := foldl_num r (num l)
  rw [← this]
  simp [num, List.foldl_append]

theorem num_cons (b : UInt8) (r : List UInt8) : num (b :: r) = (b.toNat - 48) * 10 ^ r.length + num r := by
  have := num_append [b] r
  simpa [num] using this

theorem num_lt : ∀ (r : List UInt8), Digs r → num r < 10 ^ r.length
  | [], _ => by simp [num]
  | b :: r, h => by
    have h1 := num_lt r (fun c hc => h c (by simp [hc]))
    have h2 := h b (by simp)
    rw [num_cons, List.length_cons, Nat.pow_succ]
    have h3 : (b.toNat - 48) * 10 ^ r.length ≤ 9 * 10 ^ r.length := Nat.mul_le_mul_right _ (by omega)
    omega

theorem toNat_digit (k : Nat) (h : k < 10) : (UInt8.ofNat (48 + k)).toNat = 48 + k := by
  rw [UInt8.toNat_ofNat']
  omega

theorem num_decDigits (u : Nat) : num (decDigits u) = u := by
  induction u using Nat.strongRecOn with
  | _ u ih =>
    rw [decDigits]
    split
    · rename_i h
      simp [num]
      omega
    · rename_i h
      rw [num_snoc, ih (u / 10) (by omega), toNat_digit (u % 10) (by omega)]
      omega

theorem digs_decDigits (u : Nat) : Digs (decDigits u) := by
  induction u using Nat.strongRecOn with
  | _ u ih =>
    rw [decDigits]
    split
    · rename_i h
      intro b hb
      obtain rfl := List.mem_singleton.1 hb
      rw [toNat_digit u h]
      omega
    · rename_i h
      intro b hb
      rw [List.mem_append] at hb
      rcases hb with hb | hb
      · exact ih (u / 10) (by omega) b hb
      · obtain rfl := List.mem_singleton.1 hb
        rw [toNat_digit (u % 10) (by omega)]
        omega

theorem lead_decDigits (u : Nat) (h1 : 1 ≤ u) : ∃ b r, decDigits u = b :: r ∧ 49 ≤ b.toNat := by
  induction u using Nat.strongRecOn with
  | _ u ih =>
    rw [decDigits]
    split
    · rename_i h
      exact ⟨_, [], rfl, by rw [toNat_digit u h]; omega⟩
    · rename_i h
      obtain ⟨b, r, e, hb⟩ := ih (u / 10) (by omega) (by omega)
      exact ⟨b, r ++ [UInt8.ofNat (48 + u % 10)], by rw [e]; rfl, hb⟩

theorem pow_le (u : Nat) (h1 : 1 ≤ u) : 10 ^ (nDigits u - 1) ≤ u := by
  induction u using Nat.strongRecOn with
  | _ u ih =>
    by_cases h : u < 10
    · rw [nDigits_small h]; simpa using h1
    · rw [nDigits_big h]
      have := ih (u / 10) (by omega) (by omega)
      have hp := nDigits_pos (u / 10)
      rw [show nDigits (u / 10) + 1 - 1 = nDigits (u / 10) - 1 + 1 by omega, Nat.pow_succ]
      omega

theorem lt_of_len {u v : Nat} (h : nDigits u < nDigits v) : u < v := by
  have h1 := lt_pow_nDigits u
  have hv : 1 ≤ v := by
    rcases Nat.eq_zero_or_pos v with e | e
    · subst e
      have h0 : nDigits 0 = 1 := nDigits_small (by decide)
      have := nDigits_pos u
      omega
    · exact e
  have h2 := pow_le v hv
  have h3 : 10 ^ nDigits u ≤ 10 ^ (nDigits v - 1) := Nat.pow_le_pow_right (by decide) (by omega)
  omega

/-- Two rows of digits of one length that part at place k. -/
theorem num_lt_at (x y : List UInt8) (k : Nat) (hx : Digs x) (hy : Digs y) (hl : x.length = y.length) (hk : k < x.length) (he : x.take k = y.take k)
    (h : (x[k]).toNat < (y[k]'(by omega)).toNat) : num x < num y := by
  have ex : x = x.take k ++ (x[k] :: x.drop (k + 1)) := by rw [List.getElem_cons_drop, List.take_append_drop]
  have ey : y = y.take k ++ (y[k]'(by omega) :: y.drop (k + 1)) := by rw [List.getElem_cons_drop, List.take_append_drop]
  have hx1 := num_lt (x.drop (k + 1)) (fun b hb => hx b (List.mem_of_mem_drop hb))
  have hxk := hx x[k] (List.getElem_mem _)
  have hyk := hy (y[k]'(by omega)) (List.getElem_mem _)
  rw [ex, ey, num_append, num_append, num_cons, num_cons, he]
  simp only [List.length_cons, List.length_drop, hl] at hx1 ⊢
  have h3 : ((x[k]).toNat - 48 + 1) * 10 ^ (y.length - (k + 1)) ≤ ((y[k]'(by omega)).toNat - 48) * 10 ^ (y.length - (k + 1)) := Nat.mul_le_mul_right _ (by omega)
  rw [Nat.add_mul, Nat.one_mul] at h3
  omega

theorem num_take_le (l : List UInt8) (k : Nat) : num (l.take k) ≤ num l := by
  have h : num l = num (l.take k) * 10 ^ (l.drop k).length + num (l.drop k) := by rw [← num_append, List.take_append_drop]
  have hp : 1 ≤ 10 ^ (l.drop k).length := Nat.one_le_pow _ _ (by decide)
  have := Nat.mul_le_mul_left (num (l.take k)) hp
  omega

theorem num_take_succ (l : List UInt8) (k : Nat) (h : k < l.length) : num (l.take (k + 1)) = num (l.take k) * 10 + ((l[k]).toNat - 48) := by
  rw [List.take_succ_eq_append_getElem h, num_snoc]
end Go.Proofs.Qxb6615490aDoor.Pts
