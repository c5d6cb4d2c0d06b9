/-
  Seat b6614666a. The walk of the law FnTsnChunkValueIsFreshAndIndependentOfType (function 6).
-/
import Derived.Test.Qxb6614666aTsnA
namespace Go.Proofs.Qxb6614666a.Tsn
open Go.RowKit

theorem not8 (x : Int) (h0 : 0 ≤ x) (h1 : x ≤ 255) : bits BinOp.xor IntKind.u8 (if IntKind.u8.signed = true then -1 else IntKind.u8.max) x = 255 - x := by
  obtain ⟨a, rfl⟩ := Int.eq_ofNat_of_zero_le h0
  show IntKind.u8.wrap ((BitVec.ofInt 8 255 ^^^ BitVec.ofInt 8 (a : Int)).toNat : Int) = _
  have e1 : BitVec.ofInt 8 255 = BitVec.allOnes 8 := by decide
  have e2 : (BitVec.ofInt 8 (a : Int)).toNat = a := by rw [BitVec.ofInt_natCast, BitVec.toNat_ofNat]; omega
  rw [e1, BitVec.allOnes_xor, BitVec.toNat_not, e2, IntKind.wrap_u8]
  omega
theorem not32 (x : Int) (h0 : 0 ≤ x) (h1 : x ≤ 4294967295) : bits BinOp.xor IntKind.u32 (if IntKind.u32.signed = true then -1 else IntKind.u32.max) x = 4294967295 - x := by
  obtain ⟨a, rfl⟩ := Int.eq_ofNat_of_zero_le h0
  show IntKind.u32.wrap ((BitVec.ofInt 32 4294967295 ^^^ BitVec.ofInt 32 (a : Int)).toNat : Int) = _
  have e1 : BitVec.ofInt 32 4294967295 = BitVec.allOnes 32 := by decide
  have e2 : (BitVec.ofInt 32 (a : Int)).toNat = a := by rw [BitVec.ofInt_natCast, BitVec.toNat_ofNat]; omega
  rw [e1, BitVec.allOnes_xor, BitVec.toNat_not, e2, IntKind.wrap_u32]
  omega

/-- The byte at place j when the first n have been turned. -/
def nb (n j : Nat) (x : Int) : Int := if j < n then 255 - x else x

set_option maxHeartbeats 2000000 in
set_option maxRecDepth 100000 in
theorem fresh_walk (a0 a1 a2 : Int) (h0 : 0 ≤ a2) (h1 : a2 < 4294967296) (w : World) :
    Calls Try.prog 6 #[.int .u8 a0, .int .u8 a1, .int .u32 a2] w fun e w' => e = .returned (.bool true) ∧ Below w.heap.size w w' := by
  go_enter Try.func6, Try.ntmps6
  go_wp2_with fail
  refine (parts a0 a2 h0 h1 _).mono ?_
  rintro e w1 ⟨g1, cap1, rfl, hg1, hr1, hb1⟩
  go_wp2_with fail
  refine (parts a1 a2 h0 h1 _).mono ?_
  rintro e w2 ⟨g2, cap2, rfl, hg2, hr2, hb2⟩
  have hr1' := hr1.below hb2
  have hne : g1 ≠ g2 := by have := hr1.lt; omega
  have hlt1 := hr1.lt
  have hb : Below w.heap.size w w2 := hb1.trans (hb2.mono hb1.size)
  clear hr1 hb1 hb2 hg2
  obtain ⟨x0, e0⟩ : ∃ x, x = a2 / 16777216 := ⟨_, rfl⟩
  obtain ⟨x1, e1⟩ : ∃ x, x = a2 / 65536 % 256 := ⟨_, rfl⟩
  obtain ⟨x2, e2⟩ : ∃ x, x = a2 / 256 % 256 := ⟨_, rfl⟩
  obtain ⟨x3, e3⟩ : ∃ x, x = a2 % 256 := ⟨_, rfl⟩
  have l0 : 0 ≤ x0 := by omega
  have l1 : 0 ≤ x1 := by omega
  have l2 : 0 ≤ x2 := by omega
  have l3 : 0 ≤ x3 := by omega
  have m0 : x0 ≤ 255 := by omega
  have m1 : x1 ≤ 255 := by omega
  have m2 : x2 ≤ 255 := by omega
  have m3 : x3 ≤ 255 := by omega
  have HX : Hid (x0 * 16777216 + x1 * 65536 + x2 * 256 + x3 = a2) := show _ = _ by omega
  rw [← e0, ← e1, ← e2, ← e3] at hr1' hr2
  clear e0 e1 e2 e3
  go_wp2_with fail
  go_loopw [13] (fun k wr => ∃ n : Nat, n ≤ 4 ∧ k = .int .i64 n ∧ Row4 wr g1 x0 x1 x2 x3 ∧ Row4 wr g2 x0 x1 x2 x3 ∧ Below w.heap.size w wr) (fun k _ => 4 - (intOf k).toNat)
  case atStart => exact ⟨0, by omega, rfl, hr1', hr2, hb⟩
  case round =>
    obtain ⟨n, hn, rfl, r1, r2, hbr⟩ := hrel
    clear hr1' hr2 hb
    by_cases hlt : n < 4
    · have q1 := r1
      have q2 := r2
      obtain ⟨_, c0, c1, c2, c3, _, _, _, _⟩ := r1
      obtain ⟨_, d0, d1, d2, d3, _, _, _, _⟩ := r2
      rcases (by omega : n = 0 ∨ n = 1 ∨ n = 2 ∨ n = 3) with rfl | rfl | rfl | rfl
      all_goals
        go_wp2
        go_quiet (fail)
        go_wp2
        go_roundw
        case rel => exact ⟨_, by decide, rfl, q1.drewN _, q2.drewN _, below_drewN hbr _⟩
        case measure => decide
    · obtain rfl : n = 4 := by omega
      have n0 := not8 x0 l0 m0
      have n1 := not8 x1 l1 m1
      have n2 := not8 x2 l2 m2
      have n3 := not8 x3 l3 m3
      go_wp2
      go_loopw [14] (fun k wr => ∃ n : Nat, n ≤ 4 ∧ k = .int .i64 n ∧ Row4 wr g1 (nb n 0 x0) (nb n 1 x1) (nb n 2 x2) (nb n 3 x3) ∧ Row4 wr g2 x0 x1 x2 x3 ∧ Below w.heap.size w wr) (fun k _ => 4 - (intOf k).toNat)
      case atStart => exact ⟨0, by omega, rfl, r1, r2, hbr⟩
      case round =>
        obtain ⟨n, hn, rfl, r1, r2, hbr⟩ := hrel
        by_cases hlt : n < 4
        · rcases (by omega : n = 0 ∨ n = 1 ∨ n = 2 ∨ n = 3) with rfl | rfl | rfl | rfl
          all_goals
            have hlg := r1.lt
            obtain ⟨_, c0, c1, c2, c3, f0, f1, f2, f3⟩ := r1
            simp [nb] at c0 c1 c2 c3
            go_wp2
            go_roundw
            case rel => exact ⟨_, by decide, rfl, ⟨by simpa [World.setCell] using hlg, by simp [nb, go_sem, *], by simp [nb, go_sem, *], by simp [nb, go_sem, *], by simp [nb, go_sem, *], by simp [go_sem, *], by simp [go_sem, *], by simp [go_sem, *], by simp [go_sem, *]⟩, r2.other hne.symm _, hbr.setCell hg1 _⟩
            case measure => decide
        · obtain rfl : n = 4 := by omega
          simp [nb] at r1
          have HY : Hid ((255 - x0) * 16777216 + (255 - x1) * 65536 + (255 - x2) * 256 + (255 - x3) = 4294967295 - a2) := show _ = _ by have := HX.out; omega
          go_wp2_with fail
          refine (readBE32 g2 cap2 x0 x1 x2 x3 _ r2 l0 m0 l1 m1 l2 m2 l3 m3).mono ?_
          rintro e w3 ⟨rfl, m, rfl⟩
          rw [HX.out]
          go_wp2_with fail
          refine (readBE32 g1 cap1 (255 - x0) (255 - x1) (255 - x2) (255 - x3) _ (r1.drewN m) (by omega) (by omega) (by omega) (by omega) (by omega) (by omega) (by omega) (by omega)).mono ?_
          rintro e w4 ⟨rfl, m', rfl⟩
          rw [HY.out]
          have hn := not32 a2 h0 (by omega)
          go_wp2_with fail
          go_ret
          exact ⟨rfl, below_drewN hbr _⟩
end Go.Proofs.Qxb6614666a.Tsn
