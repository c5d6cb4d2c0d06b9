/-
  Seat b6614666a. Contracts of the callees: AppendUint32 onto nil (14), tsnChunk (13), ZZtsnChunkParts (8), readBE32 (9).
-/
import Derived.Test.Qxb6614666aRows
import Derived.WalkKit
import Derived.WalkSpells
import Derived.WalkLawsBesides
import Derived.Lib.EndianBits
import Derived.Deep.QuietTactic
import Derived.BigQuiet
namespace Go.Proofs.Qxb6614666a.Tsn
open Go.RowKit

theorem bcell {W w1 : World} (hb : Below W.heap.size W w1) : (∀ b o, b < W.heap.size → w1.cell? ⟨b, o, none⟩ = W.cell? ⟨b, o, none⟩) ∧ (∀ b o, b < W.heap.size → w1.frozen? ⟨b, o, none⟩ = W.frozen? ⟨b, o, none⟩) :=
  ⟨fun b o h => hb.cell (p := ⟨b, o, none⟩) h, fun b o h => hb.frozen (p := ⟨b, o, none⟩) h⟩

/-- Block g of the world w begins with four bytes, which may be written. -/
structure Row4 (w : World) (g : Nat) (b0 b1 b2 b3 : Int) : Prop where
  lt : g < w.heap.size
  c0 : w.cell? ⟨g, 0, none⟩ = some (.int .u8 b0)
  c1 : w.cell? ⟨g, 1, none⟩ = some (.int .u8 b1)
  c2 : w.cell? ⟨g, 2, none⟩ = some (.int .u8 b2)
  c3 : w.cell? ⟨g, 3, none⟩ = some (.int .u8 b3)
  f0 : w.frozen? ⟨g, 0, none⟩ = false
  f1 : w.frozen? ⟨g, 1, none⟩ = false
  f2 : w.frozen? ⟨g, 2, none⟩ = false
  f3 : w.frozen? ⟨g, 3, none⟩ = false

theorem Row4.below {w w' : World} {g : Nat} {b0 b1 b2 b3 : Int} (h : Row4 w g b0 b1 b2 b3) (hb : Below w.heap.size w w') : Row4 w' g b0 b1 b2 b3 := by
  obtain ⟨hc, hf⟩ := bcell hb
  have hl := h.lt
  exact ⟨Nat.lt_of_lt_of_le hl hb.size, (hc g 0 hl).trans h.c0, (hc g 1 hl).trans h.c1, (hc g 2 hl).trans h.c2, (hc g 3 hl).trans h.c3,
    (hf g 0 hl).trans h.f0, (hf g 1 hl).trans h.f1, (hf g 2 hl).trans h.f2, (hf g 3 hl).trans h.f3⟩

theorem Row4.other {w : World} {g : Nat} {b0 b1 b2 b3 : Int} (h : Row4 w g b0 b1 b2 b3) {a : Addr} (ha : g ≠ a.block) (v : Value) : Row4 (w.setCell a v) g b0 b1 b2 b3 := by
  have hh := Below.heap_setCell w a v g ha
  have hc : ∀ o, (w.setCell a v).cell? ⟨g, o, none⟩ = w.cell? ⟨g, o, none⟩ := fun o => World.cell?_of_block (a := ⟨g, o, none⟩) hh
  have hf : ∀ o, (w.setCell a v).frozen? ⟨g, o, none⟩ = w.frozen? ⟨g, o, none⟩ := fun o => World.frozen?_of_block (a := ⟨g, o, none⟩) hh
  exact ⟨by simpa [World.setCell] using h.lt, (hc 0).trans h.c0, (hc 1).trans h.c1, (hc 2).trans h.c2, (hc 3).trans h.c3,
    (hf 0).trans h.f0, (hf 1).trans h.f1, (hf 2).trans h.f2, (hf 3).trans h.f3⟩

theorem Row4.drewN {w : World} {g : Nat} {b0 b1 b2 b3 : Int} (h : Row4 w g b0 b1 b2 b3) (n : Nat) : Row4 (w.drewN n) g b0 b1 b2 b3 :=
  ⟨h.lt, h.c0, h.c1, h.c2, h.c3, h.f0, h.f1, h.f2, h.f3⟩

theorem row4_of_owns {w : World} {B : Nat} {v : Value} {b0 b1 b2 b3 : Int} (h : w.ownsRow B 5 1 v 4 [.int .u8 b0, .int .u8 b1, .int .u8 b2, .int .u8 b3]) :
    ∃ g cap : Nat, v = .slice (some ⟨g, 0, none⟩) 4 cap ∧ B ≤ g ∧ Row4 w g b0 b1 b2 b3 := by
  obtain ⟨_, ⟨_, hn⟩ | ⟨g, cap, cur, rfl, hB, hg, _, _, _, ht⟩⟩ := h
  · omega
  have hlt : g < w.heap.size := (Array.getElem?_eq_some_iff.1 hg).1
  have hcell : ∀ j, w.cell? ⟨g, j, none⟩ = cur[j]? := fun j => cell_of_row w g j cur 5 (0, 0) hg
  have hfz : ∀ j, w.frozen? ⟨g, j, none⟩ = false := fun j => by simp [World.frozen?, hg]
  have hj : ∀ j, j < 4 → cur[j]? = ([.int .u8 b0, .int .u8 b1, .int .u8 b2, .int .u8 b3] : List Value)[j]? := by
    intro j hj
    rw [← ht, List.getElem?_take, if_pos (by omega)]
    simp
  exact ⟨g, cap, rfl, hB, hlt, by rw [hcell, hj 0 (by omega)]; rfl, by rw [hcell, hj 1 (by omega)]; rfl, by rw [hcell, hj 2 (by omega)]; rfl, by rw [hcell, hj 3 (by omega)]; rfl, hfz 0, hfz 1, hfz 2, hfz 3⟩

set_option maxHeartbeats 1000000 in
set_option maxRecDepth 100000 in
theorem append32 (v : Int) (h0 : 0 ≤ v) (h1 : v < 4294967296) (w : World) :
    Calls Try.prog 14 #[.agg #[], .slice none 0 0, .int .u32 v] w fun e w' => ∃ g cap : Nat, e = .returned (.slice (some ⟨g, 0, none⟩) 4 cap) ∧ w.heap.size ≤ g ∧ Row4 w' g (v / 16777216) (v / 65536 % 256) (v / 256 % 256) (v % 256) ∧ Below w.heap.size w w' := by
  have hown := World.ownsRow_nil w w.heap.size 5 1
  obtain ⟨i0, hi, hz0, hz1, hz2⟩ := info_parts (P := Try.prog) (e := 5) (z := .int .u8 0) (size := 1) (bytes := 1) (by kernel_rfl)
  go_enter Try.func14, Try.ntmps14
  go_wp2_with (at_builtin; refine wpList_append_own _ rfl _ _ 25 rfl w.heap.size 5 i0 (.int .u8 0) 1 1 Try.underlying25 hi hz0 hz1 hz2 rfl (by decide) _ _ _ rfl ((hown.alloc _).alloc _) _ 4 4 [Value.int .u8 (v / 16777216), Value.int .u8 (v / 65536 % 256), Value.int .u8 (v / 256 % 256), Value.int .u8 (v % 256)] rfl rfl ?c1 ?c2 ?c3 ?c4 ?c5 ?_)
  case c1 =>
    intro j u hj
    match j, hj with
    | 0, hj => simp at hj; subst hj; simp [Addr.add]
    | 1, hj => simp at hj; subst hj; simp [Addr.add]
    | 2, hj => simp at hj; subst hj; simp [Addr.add]
    | 3, hj => simp at hj; subst hj; simp [Addr.add]
  case c2 => intro u hu; simp at hu; rcases hu with rfl | rfl | rfl | rfl <;> rfl
  case c3 => unfold maxLen; omega
  case c4 => omega
  case c5 => simp; omega
  intro v' w2 hown' hgrow _
  obtain ⟨g, cap, hv, hB, hr⟩ := row4_of_owns hown'
  have HV : Hid (v' = .slice (some ⟨g, 0, none⟩) 4 cap) := hv; clear hv
  go_wp2
  go_ret
  refine ⟨g, cap, by rw [HV.out]; rfl, hB, hr, ?_⟩
  exact ((((Below.refl w.heap.size w).alloc (Nat.le_refl _) _).alloc (by simp) _).grown hgrow (by simp; omega) (fun k hk => (hown.lt k hk).1))


theorem or4 (b0 b1 b2 b3 : Int) (hb0 : 0 ≤ b0) (hb0' : b0 ≤ 255) (hb1 : 0 ≤ b1) (hb1' : b1 ≤ 255) (hb2 : 0 ≤ b2) (hb2' : b2 ≤ 255) (hb3 : 0 ≤ b3) (hb3' : b3 ≤ 255) :
    bits BinOp.or IntKind.u32 (bits BinOp.or IntKind.u32 (bits BinOp.or IntKind.u32 (b0 * 16777216) (b1 * 65536)) (b2 * 256)) b3 = b0 * 16777216 + b1 * 65536 + b2 * 256 + b3 := by
  rw [bits_join .u32 32 (by decide) wraps_u32 24 (b0 * 16777216) (b1 * 65536) (by omega) (by omega) (by omega) (by omega) (by omega) (by omega)]
  rw [bits_join .u32 32 (by decide) wraps_u32 16 (b0 * 16777216 + b1 * 65536) (b2 * 256) (by omega) (by omega) (by omega) (by omega) (by omega) (by omega)]
  rw [bits_join .u32 32 (by decide) wraps_u32 8 (b0 * 16777216 + b1 * 65536 + b2 * 256) b3 (by omega) (by omega) (by omega) (by omega) (by omega) (by omega)]

set_option maxHeartbeats 1000000 in
set_option maxRecDepth 100000 in
theorem tsnChunk (t v : Int) (h0 : 0 ≤ v) (h1 : v < 4294967296) (w : World) :
    Calls Try.prog 13 #[.int .u8 t, .int .u32 v] w fun e w' => ∃ g cap : Nat, e = .returned (.agg #[.int .u8 t, .int .u8 0, .slice (some ⟨g, 0, none⟩) 4 cap]) ∧ w.heap.size ≤ g ∧ Row4 w' g (v / 16777216) (v / 65536 % 256) (v / 256 % 256) (v % 256) ∧ Below w.heap.size w w' := by
  go_enter Try.func13, Try.ntmps13
  go_wp2_with fail
  refine (append32 v h0 h1 _).mono ?_
  rintro e w1 ⟨g, cap, rfl, hg, hr, hb⟩
  obtain ⟨hc, hf⟩ := bcell hb
  have hs := hb.size
  simp at hs hg hc hf
  go_wp2_with fail
  refine bodyPost_ret (v := .agg #[.int .u8 t, .int .u8 0, .slice (some ⟨g, 0, none⟩) 4 cap]) (by simp [results, Try.results13, go_sem, hc]) rfl ⟨g, cap, rfl, by omega, ?_, ?_⟩
  · exact ((hr.other (by simp; omega) _).other (by simp; omega) _).other (by simp; omega) _
  · exact (((((Below.refl _ _).alloc (Nat.le_refl _) _).trans (hb.mono (by simp))).setCell (by simp) _).setCell (by simp) _).setCell (by simp) _

set_option maxHeartbeats 1000000 in
set_option maxRecDepth 100000 in
theorem parts (t v : Int) (h0 : 0 ≤ v) (h1 : v < 4294967296) (w : World) :
    Calls Try.prog 8 #[.int .u8 t, .int .u32 v] w fun e w' => ∃ g cap : Nat, e = .returned (.tuple #[.int .u8 t, .int .u8 0, .slice (some ⟨g, 0, none⟩) 4 cap]) ∧ w.heap.size ≤ g ∧ Row4 w' g (v / 16777216) (v / 65536 % 256) (v / 256 % 256) (v % 256) ∧ Below w.heap.size w w' := by
  go_enter Try.func8, Try.ntmps8
  go_wp2_with fail
  refine (tsnChunk t v h0 h1 _).mono ?_
  rintro e w1 ⟨g, cap, rfl, hg, hr, hb⟩
  obtain ⟨hc, hf⟩ := bcell hb
  have hs := hb.size
  go_wp2_with fail
  go_quiet (fail)
  go_wp2
  go_ret3
  refine ⟨g, cap, rfl, hg, (hr.below ((Below.refl _ _).alloc (Nat.le_refl _) _)).drewN nq, ?_⟩
  exact below_drewN ((hb.alloc hs _)) nq

set_option maxHeartbeats 1000000 in
set_option maxRecDepth 100000 in
theorem readBE32 (g cap : Nat) (b0 b1 b2 b3 : Int) (w : World) (hr : Row4 w g b0 b1 b2 b3) (hb0 : 0 ≤ b0) (hb0' : b0 ≤ 255) (hb1 : 0 ≤ b1) (hb1' : b1 ≤ 255) (hb2 : 0 ≤ b2) (hb2' : b2 ≤ 255) (hb3 : 0 ≤ b3) (hb3' : b3 ≤ 255) :
    Calls Try.prog 9 #[.slice (some ⟨g, 0, none⟩) 4 cap] w fun e w' => e = .returned (.int .u32 (b0 * 16777216 + b1 * 65536 + b2 * 256 + b3)) ∧ ∃ n, w' = w.drewN n := by
  obtain ⟨_, c0, c1, c2, c3, _, _, _, _⟩ := hr
  have H := or4 b0 b1 b2 b3 hb0 hb0' hb1 hb1' hb2 hb2' hb3 hb3'
  go_enter Try.func9, Try.ntmps9
  go_wp2
  go_quiet (fail)
  go_wp2
  go_ret
  exact ⟨rfl, _, rfl⟩
end Go.Proofs.Qxb6614666a.Tsn
