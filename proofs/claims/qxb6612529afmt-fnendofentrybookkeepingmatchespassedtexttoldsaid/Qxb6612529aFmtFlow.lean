/-
  The plain law of the flow space: one scan, told by an equation; no Go in sight.
-/
import Derived.Test.Qxb6612529aFmtRows
namespace Go.Proofs.Qxb6612529aFmt

def isBrk (x : Int) : Prop := x = 10 ∨ x = 13
def isBlk (x : Int) : Prop := x = 32 ∨ x = 9
instance (x : Int) : Decidable (isBrk x) := by unfold isBrk; infer_instance
instance (x : Int) : Decidable (isBlk x) := by unfold isBlk; infer_instance

/-- The byte at i, 0 past the end. -/
def byteAt (s : ByteArray) (i : Nat) : Int := if h : i < s.size then ((s[i]'h).toNat : Int) else 0

theorem byteAt_in {s : ByteArray} {i : Nat} (h : i < s.size) : byteAt s i = ((s[i]'h).toNat : Int) := by unfold byteAt; rw [dif_pos h]
theorem byteAt_out {s : ByteArray} {i : Nat} (h : ¬ i < s.size) : byteAt s i = 0 := by unfold byteAt; rw [dif_neg h]

/-- Behind a line break at i. -/
def behind (s : ByteArray) (i : Nat) : Nat := if byteAt s i = 13 ∧ byteAt s (i + 1) = 10 then i + 2 else i + 1

/-- A document marker at q. -/
def marker (s : ByteArray) (q : Nat) : Bool :=
  decide (q + 3 ≤ s.size) && ((byteAt s q == 45 && byteAt s (q + 1) == 45 && byteAt s (q + 2) == 45) || (byteAt s q == 46 && byteAt s (q + 1) == 46 && byteAt s (q + 2) == 46)) &&
    (byteAt s (q + 3) == 0 || byteAt s (q + 3) == 32 || byteAt s (q + 3) == 9 || byteAt s (q + 3) == 10 || byteAt s (q + 3) == 13)

theorem behind_gt (s : ByteArray) (i : Nat) : i < behind s i := by unfold behind; split <;> omega
theorem behind_le (s : ByteArray) (i : Nat) (h : i < s.size) : behind s i ≤ s.size := by
  unfold behind
  split
  · rename_i h2
    by_cases h3 : i + 1 < s.size
    · omega
    · rw [byteAt_out h3] at h2; omega
  · omega

/-- The scan: where the flow space from i ends, with the breaks passed and the last line's start; none at a marker. -/
def flow (s : ByteArray) (i b l : Nat) (c : Bool) : Option (Nat × Nat × Nat) :=
  if i < s.size then
    if isBrk (byteAt s i) then
      if marker s (behind s i) = true then none else flow s (behind s i) (b + 1) (behind s i) false
    else if c = true ∨ isBlk (byteAt s i) then flow s (i + 1) b l c
    else if byteAt s i = 35 then flow s (i + 1) b l true
    else some (i, b, l)
  else some (i, b, l)
termination_by s.size - i
decreasing_by
  · have := behind_gt s i; omega
  · omega
  · omega

theorem flow_end {s : ByteArray} {i b l : Nat} {c : Bool} (h : ¬ i < s.size) : flow s i b l c = some (i, b, l) := by rw [flow, if_neg h]
theorem flow_brk {s : ByteArray} {i b l : Nat} {c : Bool} (h : i < s.size) (hb : isBrk (byteAt s i)) : flow s i b l c = if marker s (behind s i) = true then none else flow s (behind s i) (b + 1) (behind s i) false := by rw [flow, if_pos h, if_pos hb]
theorem flow_on {s : ByteArray} {i b l : Nat} {c : Bool} (h : i < s.size) (hb : ¬ isBrk (byteAt s i)) (hc : c = true ∨ isBlk (byteAt s i)) : flow s i b l c = flow s (i + 1) b l c := by rw [flow, if_pos h, if_neg hb, if_pos hc]
theorem flow_hash {s : ByteArray} {i b l : Nat} (h : i < s.size) (hx : byteAt s i = 35) : flow s i b l false = flow s (i + 1) b l true := by
  rw [flow, if_pos h, if_neg (by rw [hx]; decide), if_neg (by rw [hx]; decide), if_pos hx]
theorem flow_stop {s : ByteArray} {i b l : Nat} (h : i < s.size) (hb : ¬ isBrk (byteAt s i)) (hk : ¬ isBlk (byteAt s i)) (hx : byteAt s i ≠ 35) : flow s i b l false = some (i, b, l) := by
  rw [flow, if_pos h, if_neg hb, if_neg (by simp [hk]), if_neg hx]

/-- The scan goes forward, and counts no more breaks than it passes bytes. -/
theorem flow_bounds {s : ByteArray} : ∀ (d i b l : Nat) (c : Bool) {i' b' l' : Nat}, s.size - i ≤ d → i ≤ s.size → flow s i b l c = some (i', b', l') → i ≤ i' ∧ i' ≤ s.size ∧ b ≤ b' ∧ b' - b ≤ i' - i ∧ (l ≤ i → l' ≤ i')
  | 0, i, b, l, c, i', b', l', hd, hi, h => by
    rw [flow_end (by omega)] at h
    cases h
    omega
  | d + 1, i, b, l, c, i', b', l', hd, hi, h => by
    by_cases hlt : i < s.size
    · by_cases hb : isBrk (byteAt s i)
      · rw [flow_brk hlt hb] at h
        have h1 := behind_gt s i
        have h2 := behind_le s i hlt
        split at h
        · cases h
        · have := flow_bounds d (behind s i) (b + 1) (behind s i) false (by omega) h2 h
          omega
      · by_cases hc : c = true ∨ isBlk (byteAt s i)
        · rw [flow_on hlt hb hc] at h
          have := flow_bounds d (i + 1) b l c (by omega) (by omega) h
          omega
        · obtain ⟨hc1, hc2⟩ := not_or.1 hc
          have hcf : c = false := by simpa using hc1
          subst hcf
          by_cases hx : byteAt s i = 35
          · rw [flow_hash hlt hx] at h
            have := flow_bounds d (i + 1) b l true (by omega) (by omega) h
            omega
          · rw [flow_stop hlt hb hc2 hx] at h
            cases h
            omega
    · rw [flow_end hlt] at h
      cases h
      omega

/-- A blank stretch is passed. -/
theorem flow_blanks {s : ByteArray} {b l : Nat} : ∀ (d p : Nat), p + d ≤ s.size → (∀ j, p ≤ j → j < p + d → isBlk (byteAt s j)) → flow s p b l false = flow s (p + d) b l false
  | 0, p, _, _ => rfl
  | d + 1, p, hd, h => by
    have hp := h p (Nat.le_refl _) (by omega)
    have hnb : ¬ isBrk (byteAt s p) := by unfold isBrk isBlk at *; omega
    rw [flow_on (by omega) hnb (.inr hp), flow_blanks d (p + 1) (by omega) (fun j h1 h2 => h j (by omega) (by omega))]
    congr 1
    omega

/-- Inside a comment: all up to the break is passed. -/
theorem flow_comment {s : ByteArray} {b l : Nat} : ∀ (d p : Nat), p + d ≤ s.size → (∀ j, p ≤ j → j < p + d → ¬ isBrk (byteAt s j)) → flow s p b l true = flow s (p + d) b l true
  | 0, p, _, _ => rfl
  | d + 1, p, hd, h => by
    rw [flow_on (by omega) (h p (Nat.le_refl _) (by omega)) (.inl rfl), flow_comment d (p + 1) (by omega) (fun j h1 h2 => h j (by omega) (by omega))]
    congr 1
    omega

/-- At a break, or at the end, the comment's flag tells nothing. -/
theorem flow_flag {s : ByteArray} {p b l : Nat} (h : ¬ p < s.size ∨ isBrk (byteAt s p)) : flow s p b l true = flow s p b l false := by
  by_cases hp : p < s.size
  · have hb := h.resolve_left (fun h => h hp)
    rw [flow_brk hp hb, flow_brk hp hb]
  · rw [flow_end hp, flow_end hp]

/-- The scan has come to its end just where it stands: then nothing is counted any more. -/
theorem flow_here {s : ByteArray} {i b l b' l' : Nat} {c : Bool} (h : flow s i b l c = some (i, b', l')) : b' = b ∧ l' = l ∧ (i < s.size → ¬ isBrk (byteAt s i) ∧ c = false ∧ ¬ isBlk (byteAt s i) ∧ byteAt s i ≠ 35) := by
  by_cases hlt : i < s.size
  · by_cases hb : isBrk (byteAt s i)
    · rw [flow_brk hlt hb] at h
      have h1 := behind_gt s i
      split at h
      · cases h
      · have := flow_bounds _ _ _ _ _ (Nat.le_refl _) (behind_le s i hlt) h
        omega
    · by_cases hc : c = true ∨ isBlk (byteAt s i)
      · rw [flow_on hlt hb hc] at h
        have := flow_bounds _ _ _ _ _ (Nat.le_refl _) (by omega) h
        omega
      · obtain ⟨hc1, hc2⟩ := not_or.1 hc
        have hcf : c = false := by simpa using hc1
        subst hcf
        by_cases hx : byteAt s i = 35
        · rw [flow_hash hlt hx] at h
          have := flow_bounds _ _ _ _ _ (Nat.le_refl _) (by omega) h
          omega
        · rw [flow_stop hlt hb hc2 hx] at h
          cases h
          exact ⟨rfl, rfl, fun _ => ⟨hb, rfl, hc2, hx⟩⟩
  · rw [flow_end hlt] at h
    cases h
    exact ⟨rfl, rfl, fun h => absurd h hlt⟩

/-- In the midst of \r\n. -/
theorem flow_crlf {s : ByteArray} {i b l : Nat} {c : Bool} (h1 : i + 1 < s.size) (h2 : byteAt s i = 13) (h3 : byteAt s (i + 1) = 10) : flow s i b l c = flow s (i + 1) b l false := by
  have e1 : behind s i = i + 2 := by unfold behind; rw [if_pos ⟨h2, h3⟩]
  have e2 : behind s (i + 1) = i + 2 := by unfold behind; rw [if_neg (by rw [h3]; omega)]
  rw [flow_brk (i := i) (by omega) (.inr h2), flow_brk (i := i + 1) h1 (.inl h3), e1, e2]
end Go.Proofs.Qxb6612529aFmt
