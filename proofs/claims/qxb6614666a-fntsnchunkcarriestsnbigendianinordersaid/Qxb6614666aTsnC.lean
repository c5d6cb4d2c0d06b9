/-
  Seat b6614666a. compareBytes (10), compareU32 (11) and the walk of the law FnTsnChunkCarriesTsnBigEndianInOrder (function 5).
-/
import Derived.Test.Qxb6614666aTsnA
namespace Go.Proofs.Qxb6614666a.Tsn
open Go.RowKit

/-- The order of two numbers: -1, 0, 1. -/
def cmpI (x y : Int) : Int := if x < y then -1 else if y < x then 1 else 0

/-- The number that four bytes spell, the greatest first. -/
def num4 (x : Nat → Int) : Int := x 0 * 16777216 + x 1 * 65536 + x 2 * 256 + x 3

theorem ret_int {k : IntKind} {a b : Int} (h : a = b) : Ending.returned (.int k a) = .returned (.int k b) := by rw [h]

theorem num4_lt (x y : Nat → Int) (hx : ∀ j, 0 ≤ x j ∧ x j ≤ 255) (hy : ∀ j, 0 ≤ y j ∧ y j ≤ 255) (n : Nat) (hn : n < 4) (he : ∀ j, j < n → x j = y j) (h : x n < y n) : num4 x < num4 y := by
  have a0 := hx 0; have a1 := hx 1; have a2 := hx 2; have a3 := hx 3
  have b0 := hy 0; have b1 := hy 1; have b2 := hy 2; have b3 := hy 3
  unfold num4
  rcases (by omega : n = 0 ∨ n = 1 ∨ n = 2 ∨ n = 3) with rfl | rfl | rfl | rfl
  · omega
  · have := he 0 (by omega); omega
  · have := he 0 (by omega); have := he 1 (by omega); omega
  · have := he 0 (by omega); have := he 1 (by omega); have := he 2 (by omega); omega

theorem num4_eq (x y : Nat → Int) (he : ∀ j, j < 4 → x j = y j) : num4 x = num4 y := by
  unfold num4
  rw [he 0 (by omega), he 1 (by omega), he 2 (by omega), he 3 (by omega)]

theorem cmpI_lt {x y : Int} (h : x < y) : -1 = cmpI x y := by unfold cmpI; rw [if_pos h]
theorem cmpI_gt {x y : Int} (h : y < x) : 1 = cmpI x y := by unfold cmpI; rw [if_neg (by omega), if_pos h]
theorem cmpI_eq {x y : Int} (h : x = y) : 0 = cmpI x y := by unfold cmpI; rw [if_neg (by omega), if_neg (by omega)]

theorem drewN_more {w w1 : World} (h : ∃ m, w1 = w.drewN m) (n : Nat) : ∃ m, w1.drewN n = w.drewN m := by
  obtain ⟨m, rfl⟩ := h
  exact ⟨m + n, by simp⟩

theorem compareU32 (x y : Int) (w : World) :
    Calls Try.prog 11 #[.int .u32 x, .int .u32 y] w fun e w' => e = .returned (.int .i64 (cmpI x y)) ∧ w' = w := by
  by_cases h1 : x < y
  · go_enter Try.func11, Try.ntmps11
    go_wp2
    go_ret
    exact ⟨ret_int (cmpI_lt h1), rfl⟩
  by_cases h2 : y < x
  · go_enter Try.func11, Try.ntmps11
    go_wp2
    go_ret
    exact ⟨ret_int (cmpI_gt h2), rfl⟩
  · go_enter Try.func11, Try.ntmps11
    go_wp2
    go_ret
    exact ⟨ret_int (cmpI_eq (by omega)), rfl⟩

theorem Row4.all {w : World} {g : Nat} {x : Nat → Int} (h : Row4 w g (x 0) (x 1) (x 2) (x 3)) : ∀ j, j < 4 → w.cell? ⟨g, j, none⟩ = some (.int .u8 (x j)) := by
  intro j hj
  rcases (by omega : j = 0 ∨ j = 1 ∨ j = 2 ∨ j = 3) with rfl | rfl | rfl | rfl
  · exact h.c0
  · exact h.c1
  · exact h.c2
  · exact h.c3

set_option maxHeartbeats 1000000 in
set_option maxRecDepth 100000 in
theorem compareBytes (g1 g2 cap1 cap2 : Nat) (x y : Nat → Int) (hx : ∀ j, 0 ≤ x j ∧ x j ≤ 255) (hy : ∀ j, 0 ≤ y j ∧ y j ≤ 255) (w : World)
    (hr1 : Row4 w g1 (x 0) (x 1) (x 2) (x 3)) (hr2 : Row4 w g2 (y 0) (y 1) (y 2) (y 3)) :
    Calls Try.prog 10 #[.slice (some ⟨g1, 0, none⟩) 4 cap1, .slice (some ⟨g2, 0, none⟩) 4 cap2] w fun e w' => e = .returned (.int .i64 (cmpI (num4 x) (num4 y))) ∧ ∃ m, w' = w.drewN m := by
  have H1 : Hid (∀ j, j < 4 → w.cell? ⟨g1, j, none⟩ = some (.int .u8 (x j))) := hr1.all
  have H2 : Hid (∀ j, j < 4 → w.cell? ⟨g2, j, none⟩ = some (.int .u8 (y j))) := hr2.all
  have HX : Hid (∀ j, 0 ≤ x j ∧ x j ≤ 255) := hx
  have HY : Hid (∀ j, 0 ≤ y j ∧ y j ≤ 255) := hy
  clear hr1 hr2 hx hy
  go_enter Try.func10, Try.ntmps10
  go_wp2
  go_loopw [6] (fun k wr => ∃ n : Nat, n ≤ 4 ∧ k = .int .i64 n ∧ Hid (∀ j, j < n → x j = y j) ∧ ∃ m, wr = w.drewN m) (fun k _ => 4 - (intOf k).toNat)
  case atStart => exact ⟨0, by omega, rfl, (fun j hj => by omega), 0, rfl⟩
  case round =>
    obtain ⟨n, hn, rfl, HE, m, rfl⟩ := hrel
    by_cases hlt : n < 4
    · have c1 := H1.out n hlt
      have c2 := H2.out n hlt
      have hi : (n : Int) < 4 := by omega
      by_cases hxy : x n < y n
      · go_wp2
        go_quiet (fail)
        go_wp2
        go_ret
        exact ⟨ret_int (cmpI_lt (num4_lt x y HX.out HY.out n hlt HE.out hxy)), drewN_more ⟨_, rfl⟩ _⟩
      by_cases hyx : y n < x n
      · go_wp2
        go_quiet (fail)
        go_wp2
        go_quiet (fail)
        go_wp2
        go_ret
        exact ⟨ret_int (cmpI_gt (num4_lt y x HY.out HX.out n hlt (fun j hj => (HE.out j hj).symm) hyx)), drewN_more (drewN_more ⟨_, rfl⟩ _) _⟩
      · go_wp2
        go_quiet (fail)
        go_wp2
        go_quiet (fail)
        go_wp2
        go_roundw
        case rel => exact ⟨n + 1, by omega, by go_num, (fun j hj => by by_cases h : j = n; (· subst h; omega); (· exact HE.out j (by omega))), _, rfl⟩
        case measure => simp [intOf]; omega
    · obtain rfl : n = 4 := by omega
      go_wp2
      go_ret
      exact ⟨ret_int (cmpI_eq (num4_eq x y HE.out)), _, rfl⟩

/-- The bytes of v. -/
def bytesOf (v : Int) (j : Nat) : Int := if j = 0 then v / 16777216 else if j = 1 then v / 65536 % 256 else if j = 2 then v / 256 % 256 else v % 256

theorem bytesOf_bd (v : Int) (h0 : 0 ≤ v) (h1 : v < 4294967296) (j : Nat) : 0 ≤ bytesOf v j ∧ bytesOf v j ≤ 255 := by
  unfold bytesOf
  split
  · omega
  split
  · omega
  split <;> omega

theorem num4_bytesOf (v : Int) : num4 (bytesOf v) = v := by
  simp [num4, bytesOf]
  omega

set_option maxHeartbeats 2000000 in
set_option maxRecDepth 100000 in
theorem order_walk (t a b : Int) (ha0 : 0 ≤ a) (ha1 : a < 4294967296) (hb0 : 0 ≤ b) (hb1 : b < 4294967296) (w : World) :
    Calls Try.prog 5 #[.int .u8 t, .int .u32 a, .int .u32 b] w fun e w' => e = .returned (.bool true) ∧ Below w.heap.size w w' := by
  go_enter Try.func5, Try.ntmps5
  go_wp2_with fail
  refine (parts t a ha0 ha1 _).mono ?_
  rintro e w1 ⟨g1, cap1, rfl, hg1, hr1, hb1'⟩
  go_wp2_with fail
  refine (parts t b hb0 hb1 _).mono ?_
  rintro e w2 ⟨g2, cap2, rfl, hg2, hr2, hb2⟩
  have hr1' : Row4 w2 g1 (bytesOf a 0) (bytesOf a 1) (bytesOf a 2) (bytesOf a 3) := hr1.below hb2
  have hr2' : Row4 w2 g2 (bytesOf b 0) (bytesOf b 1) (bytesOf b 2) (bytesOf b 3) := hr2
  have hb : Below w.heap.size w w2 := hb1'.trans (hb2.mono hb1'.size)
  have HA : Hid (num4 (bytesOf a) = a) := num4_bytesOf a
  have HB : Hid (num4 (bytesOf b) = b) := num4_bytesOf b
  clear hr1 hb1' hb2 hg2 hr2
  have ba := bytesOf_bd a ha0 ha1
  have bb := bytesOf_bd b hb0 hb1
  go_wp2_with fail
  refine (readBE32 g1 cap1 _ _ _ _ _ hr1' (ba 0).1 (ba 0).2 (ba 1).1 (ba 1).2 (ba 2).1 (ba 2).2 (ba 3).1 (ba 3).2).mono ?_
  rintro e w3 ⟨rfl, m3, rfl⟩
  rw [show bytesOf a 0 * 16777216 + bytesOf a 1 * 65536 + bytesOf a 2 * 256 + bytesOf a 3 = a from HA.out]
  go_wp2_with fail
  refine (readBE32 g2 cap2 _ _ _ _ _ (hr2'.drewN _) (bb 0).1 (bb 0).2 (bb 1).1 (bb 1).2 (bb 2).1 (bb 2).2 (bb 3).1 (bb 3).2).mono ?_
  rintro e w3 ⟨rfl, m4, rfl⟩
  rw [show bytesOf b 0 * 16777216 + bytesOf b 1 * 65536 + bytesOf b 2 * 256 + bytesOf b 3 = b from HB.out]
  go_wp2_with fail
  refine (compareBytes g1 g2 cap1 cap2 (bytesOf a) (bytesOf b) ba bb _ (hr1'.drewN _) (hr2'.drewN _)).mono ?_
  rintro e w3 ⟨rfl, m5, rfl⟩
  rw [HA.out, HB.out]
  go_wp2_with fail
  refine (compareU32 a b _).mono ?_
  rintro e w3 ⟨rfl, rfl⟩
  go_wp2_with fail
  go_ret
  exact ⟨rfl, below_drewN hb _⟩
end Go.Proofs.Qxb6614666a.Tsn
