/-
  Contracts of the four small functions on runes: isBlank, ZZisBlank, zzASCIISpace, zzBreaksLine; and the plain law between them.
-/
import Derived.Test.Qxb6612291aRows
import Derived.WalkKit
import Derived.ProofKit
namespace Go.Proofs.Qxb6612291a
open Go.RowKit

def blankB (r : Int) : Bool := r == 32 || r == 9
def ascB (r : Int) : Bool := r == 9 || r == 10 || r == 11 || r == 12 || r == 13 || r == 32
def brkB (r : Int) : Bool := r == 10 || r == 11 || r == 12 || r == 13

theorem rune_cases (r : Int) : r = 9 ∨ r = 10 ∨ r = 11 ∨ r = 12 ∨ r = 13 ∨ r = 32 ∨
    ((r == 9) = false ∧ (r == 10) = false ∧ (r == 11) = false ∧ (r == 12) = false ∧ (r == 13) = false ∧ (r == 32) = false) := by
  simp only [beq_eq_false_iff_ne]; omega

theorem blank_law (r : Int) : blankB r = (ascB r && !brkB r) := by
  rcases rune_cases r with rfl | rfl | rfl | rfl | rfl | rfl | ⟨h1, h2, h3, h4, h5, h6⟩
  case inr.inr.inr.inr.inr.inr => simp only [blankB, ascB, h1, h2, h3, h4, h5, h6, Bool.or_self, Bool.false_and]
  all_goals rfl

theorem isBlank_any (r : Int) (w : World) :
    Calls Try.prog 20 #[.int .i32 r] w fun e w' => e = .returned (.bool (blankB r)) ∧ w' = w := by
  rcases rune_cases r with rfl | rfl | rfl | rfl | rfl | rfl | ⟨h1, h2, h3, h4, h5, h6⟩
  case inr.inr.inr.inr.inr.inr =>
    have e : blankB r = false := by simp only [blankB, h1, h6, Bool.or_self]
    rw [e]; clear e
    go_enter Try.func20, Try.ntmps20
    go_wp2
    go_ret
    exact ⟨rfl, rfl⟩
  all_goals
    go_enter Try.func20, Try.ntmps20
    go_wp2
    go_ret
    exact ⟨rfl, rfl⟩

theorem zzIsBlank_any (r : Int) (w : World) :
    Calls Try.prog 10 #[.int .i32 r] w fun e w' => e = .returned (.bool (blankB r)) ∧ w' = w := by
  go_enter Try.func10, Try.ntmps10
  go_wp2_with (go_at_call 20; refine (isBlank_any _ _).mono ?_; rintro e w' ⟨rfl, rfl⟩)
  go_ret
  exact ⟨rfl, rfl⟩

theorem asc_any (r : Int) (w : World) :
    Calls Try.prog 8 #[.int .i32 r] w fun e w' => e = .returned (.bool (ascB r)) ∧ w' = w := by
  rcases rune_cases r with rfl | rfl | rfl | rfl | rfl | rfl | ⟨h1, h2, h3, h4, h5, h6⟩
  case inr.inr.inr.inr.inr.inr =>
    have e : ascB r = false := by simp only [ascB, h1, h2, h3, h4, h5, h6, Bool.or_self]
    rw [e]; clear e
    go_enter Try.func8, Try.ntmps8
    go_wp2
    go_ret
    exact ⟨rfl, rfl⟩
  all_goals
    go_enter Try.func8, Try.ntmps8
    go_wp2
    go_ret
    exact ⟨rfl, rfl⟩

theorem brk_any (r : Int) (w : World) :
    Calls Try.prog 9 #[.int .i32 r] w fun e w' => e = .returned (.bool (brkB r)) ∧ w' = w := by
  rcases rune_cases r with rfl | rfl | rfl | rfl | rfl | rfl | ⟨h1, h2, h3, h4, h5, h6⟩
  case inr.inr.inr.inr.inr.inr =>
    have e : brkB r = false := by simp only [brkB, h2, h3, h4, h5, Bool.or_self]
    rw [e]; clear e
    go_enter Try.func9, Try.ntmps9
    go_wp2
    go_ret
    exact ⟨rfl, rfl⟩
  all_goals
    go_enter Try.func9, Try.ntmps9
    go_wp2
    go_ret
    exact ⟨rfl, rfl⟩

#print axioms zzIsBlank_any
#print axioms asc_any
#print axioms brk_any
end Go.Proofs.Qxb6612291a
