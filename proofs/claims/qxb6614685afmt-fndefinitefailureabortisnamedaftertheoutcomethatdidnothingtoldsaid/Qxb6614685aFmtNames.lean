/-
  Seat b6614685aF. What 'laid' gives the walks, and the walks of the two laws (functions 4 and 5).
-/
import Derived.Test.Qxb6614685aFmtRows
import Derived.WalkKit
import Derived.WalkSpells
import Derived.WalkLawsBesides
import Derived.ProofKit
import Derived.LaidMore
import Derived.MakeChecks
namespace Go.Proofs.Qxb6614685aFmt.Names
open Go.ChangeShapes Go.WideShapes Go.ChangeAt Go.RowKit

def sDef : ByteArray := ⟨#[100, 101, 102, 105, 110, 105, 116, 101, 95, 102, 97, 105, 108, 117, 114, 101]⟩
def sUnkOut : ByteArray := ⟨#[117, 110, 107, 110, 111, 119, 110, 95, 111, 117, 116, 99, 111, 109, 101]⟩
def sAbort : ByteArray := ⟨#[97, 98, 111, 114, 116, 95, 114, 101, 113, 117, 101, 115, 116, 101, 100]⟩
def sDead : ByteArray := ⟨#[100, 101, 97, 100, 108, 105, 110, 101]⟩

/-- The abort reasons' names lie where variable 1 points. -/
def Abort (w : World) (b off cap : Nat) : Prop :=
  w.cell? ⟨1, 0, none⟩ = some (.slice (some ⟨b, off, none⟩) 4 cap) ∧ w.cell? ⟨b, off, none⟩ = some (.string sDef) ∧ w.cell? ⟨b, off + 1, none⟩ = some (.string sUnkOut) ∧
  w.cell? ⟨b, off + 2, none⟩ = some (.string sAbort) ∧ w.cell? ⟨b, off + 3, none⟩ = some (.string sDead)

def sUnk : ByteArray := ⟨#[117, 110, 107, 110, 111, 119, 110]⟩
def sOk : ByteArray := ⟨#[111, 107]⟩

/-- The outcomes' names lie where variable 0 points. -/
def Outc (w : World) (b off cap : Nat) : Prop :=
  w.cell? ⟨0, 0, none⟩ = some (.slice (some ⟨b, off, none⟩) 3 cap) ∧ w.cell? ⟨b, off, none⟩ = some (.string sUnk) ∧ w.cell? ⟨b, off + 1, none⟩ = some (.string sOk) ∧
  w.cell? ⟨b, off + 2, none⟩ = some (.string sDef)

set_option maxHeartbeats 4000000 in
set_option maxRecDepth 100000 in
theorem distinct_walk (a0 a1 : Int) (h0 : 0 ≤ a0) (h1 : 0 ≤ a1) (w : World) (b off cap : Nat) (h : Abort w b off cap) :
    Calls Tryf.prog 4 #[.int .u8 a0, .int .u8 a1] w fun e w' => e = .returned (.bool true) ∧ w' = w := by
  by_cases c0 : 3 < a0
  · go_enter Tryf.func4, Tryf.ntmps4
    go_wp2
    go_ret
    exact ⟨rfl, rfl⟩
  by_cases c1 : 3 < a1
  · go_enter Tryf.func4, Tryf.ntmps4
    go_wp2
    go_ret
    exact ⟨rfl, rfl⟩
  obtain ⟨g1, g2, g3, g4, g5⟩ := h
  simp only [sDef, sUnkOut, sAbort, sDead] at g2 g3 g4 g5
  rcases (by omega : a0 = 0 ∨ a0 = 1 ∨ a0 = 2 ∨ a0 = 3) with rfl | rfl | rfl | rfl
  all_goals
    rcases (by omega : a1 = 0 ∨ a1 = 1 ∨ a1 = 2 ∨ a1 = 3) with rfl | rfl | rfl | rfl
    all_goals
      go_enter Tryf.func4, Tryf.ntmps4
      go_wp2
      go_ret
      exact ⟨rfl, rfl⟩

set_option maxHeartbeats 4000000 in
set_option maxRecDepth 100000 in
theorem definite_walk (a0 a1 : Int) (h0 : 0 ≤ a0) (h1 : 0 ≤ a1) (w : World) (b off cap b' off' cap' : Nat) (h : Abort w b off cap) (h' : Outc w b' off' cap') :
    Calls Tryf.prog 5 #[.int .u8 a0, .int .u8 a1] w fun e w' => e = .returned (.bool true) ∧ w' = w := by
  by_cases c0 : 3 < a0
  · go_enter Tryf.func5, Tryf.ntmps5
    go_wp2
    go_ret
    exact ⟨rfl, rfl⟩
  by_cases c1 : 2 < a1
  · go_enter Tryf.func5, Tryf.ntmps5
    go_wp2
    go_ret
    exact ⟨rfl, rfl⟩
  obtain ⟨g1, g2, g3, g4, g5⟩ := h
  obtain ⟨k1, k2, k3, k4⟩ := h'
  simp only [sDef, sUnkOut, sAbort, sDead] at g2 g3 g4 g5
  simp only [sDef, sUnk, sOk] at k2 k3 k4
  rcases (by omega : a0 = 0 ∨ a0 = 1 ∨ a0 = 2 ∨ a0 = 3) with rfl | rfl | rfl | rfl
  all_goals
    rcases (by omega : a1 = 0 ∨ a1 = 1 ∨ a1 = 2) with rfl | rfl | rfl
    all_goals
      go_enter Tryf.func5, Tryf.ntmps5
      go_wp2
      go_ret
      exact ⟨rfl, rfl⟩
end Go.Proofs.Qxb6614685aFmt.Names
