/-
  The plain law of the rune count against the byte count: no Go walk in sight.
-/
import Derived.Test.Qxb6612291aBlank
import Derived.Laws.RangeAny
namespace Go.Proofs.Qxb6612291a
open Go.RowKit

/-- How many of the first k bytes are blanks. -/
def cntTo (s : ByteArray) : Nat → Nat
  | 0 => 0
  | k + 1 => cntTo s k + if blankB ((s.get! k).toNat : Int) then 1 else 0

theorem cntTo_le (s : ByteArray) (k : Nat) : cntTo s k ≤ k := by
  induction k with
  | zero => exact Nat.le_refl _
  | succ k ih => unfold cntTo; split <;> omega

theorem blank_high (r : Int) (h : 128 ≤ r) : blankB r = false := by
  unfold blankB
  rw [Bool.or_eq_false_iff, beq_eq_false_iff_ne, beq_eq_false_iff_ne]; omega

theorem cntTo_high (s : ByteArray) (pos n : Nat) (h : ∀ j, j < n → 128 ≤ (s.get! (pos + j)).toNat) : cntTo s (pos + n) = cntTo s pos := by
  induction n with
  | zero => rfl
  | succ n ih =>
    show cntTo s (pos + n) + _ = _
    have hb : blankB ((s.get! (pos + n)).toNat : Int) = false := blank_high _ (by have := h n (by omega); omega)
    rw [ih (fun j hj => h j (by omega))]
    show cntTo s pos + (if blankB ((s.get! (pos + n)).toNat : Int) = true then 1 else 0) = _
    rw [hb]
    rfl

theorem get_at' (s : ByteArray) (pos : Nat) (h : pos < s.size) : s.get! pos = s[pos]'h := get_at s pos h

/-- A rune that opens with a high byte is high, and all its bytes are, and they lie in the string. -/
theorem decode_span (s : ByteArray) (pos : Nat) (h : pos < s.size) (ha : 128 ≤ (s[pos]'h).toNat) :
    pos + (Utf8.decode s pos).2 ≤ s.size ∧ ∀ j, j < (Utf8.decode s pos).2 → 128 ≤ (s.get! (pos + j)).toNat := by
  have hn : ¬ (s[pos]'h).toNat < 128 := by omega
  have h0 : 128 ≤ (s.get! (pos + 0)).toNat := by rw [get_at s pos h]; exact ha
  have one : pos + 1 ≤ s.size ∧ ∀ j, j < 1 → 128 ≤ (s.get! (pos + j)).toNat := by
    refine ⟨by omega, fun j hj => ?_⟩
    obtain rfl : j = 0 := by omega
    exact h0
  simp only [Utf8.decode, get_at s pos h, hn, if_false]
  split
  · rename_i c1
    simp only [Bool.and_eq_true, decide_eq_true_eq, beq_iff_eq] at c1
    split
    · refine ⟨by simp only; omega, fun j hj => ?_⟩
      simp only at hj
      rcases (show j = 0 ∨ j = 1 from by omega) with rfl | rfl
      · exact h0
      · omega
    · exact one
  · split
    · rename_i c1
      simp only [Bool.and_eq_true, decide_eq_true_eq, beq_iff_eq] at c1
      split
      · refine ⟨by simp only; omega, fun j hj => ?_⟩
        simp only at hj
        rcases (show j = 0 ∨ j = 1 ∨ j = 2 from by omega) with rfl | rfl | rfl
        · exact h0
        · omega
        · omega
      · exact one
    · split
      · rename_i c1
        simp only [Bool.and_eq_true, decide_eq_true_eq, beq_iff_eq] at c1
        split
        · refine ⟨by simp only; omega, fun j hj => ?_⟩
          simp only at hj
          rcases (show j = 0 ∨ j = 1 ∨ j = 2 ∨ j = 3 from by omega) with rfl | rfl | rfl | rfl
          · exact h0
          · omega
          · omega
          · omega
        · exact one
      · exact one

/-- One step of the range over the string: the count goes on over just the rune's bytes. -/
theorem cntTo_rune (s : ByteArray) (pos : Nat) (h : pos < s.size) :
    1 ≤ (Utf8.decode s pos).2 ∧ pos + (Utf8.decode s pos).2 ≤ s.size ∧
    cntTo s (pos + (Utf8.decode s pos).2) = cntTo s pos + if blankB ((Utf8.decode s pos).1 : Int) then 1 else 0 := by
  by_cases ha : (s[pos]'h).toNat < 128
  · rw [decode_ascii s pos h ha]
    refine ⟨Nat.le_refl _, by simp only; omega, ?_⟩
    show cntTo s pos + _ = _
    rw [get_at' s pos h]
  · obtain ⟨h1, h2⟩ := decode_high s pos h (by omega)
    obtain ⟨h3, h4⟩ := decode_span s pos h (by omega)
    refine ⟨h2, h3, ?_⟩
    rw [cntTo_high s pos _ h4, blank_high _ (by omega)]
    simp

theorem cntTo_byte (s : ByteArray) (k : Nat) (h : k < s.size) : cntTo s (k + 1) = cntTo s k + if blankB ((s[k]'h).toNat : Int) then 1 else 0 := by
  show cntTo s k + _ = _
  rw [get_at' s k h]

#print axioms cntTo_rune
end Go.Proofs.Qxb6612291a
