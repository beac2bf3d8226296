/-
  The walk of FnEndOfEntryStopsWhereFlowSpaceEnds, and its told card.
-/
import Derived.Test.Qxb6612529aFmtFrame
import Derived.Test.Qxb6612529aFmtEntry
namespace Go.Proofs.Qxb6612529aFmt
open Go Go.RowKit

theorem stopAt_comma {s : ByteArray} {i : Nat} (h : byteAt s i = 44) : stopAt s i = i + 1 := if_pos h
theorem stopAt_end {s : ByteArray} {i : Nat} (h : byteAt s i ≠ 44) : stopAt s i = i := if_neg h

/-- zzFlowStop's answer, in two: missed, or found. -/
theorem stopOf_cases (s : ByteArray) (pos : Nat) (c : Int) : stopOf s pos c = missed ∨ ∃ i b l, flow s pos 0 0 false = some (i, b, l) ∧ (byteAt s i = 44 ∨ byteAt s i = c) ∧ stopOf s pos c = found (stopAt s i) b l := by
  cases h : flow s pos 0 0 false with
  | none => exact .inl (stopOf_none h)
  | some r =>
    obtain ⟨i, b, l⟩ := r
    by_cases h44 : byteAt s i = 44
    · exact .inr ⟨i, b, l, rfl, .inl h44, by rw [stopOf_comma h h44, stopAt_comma h44]⟩
    · by_cases hc : byteAt s i = c
      · exact .inr ⟨i, b, l, rfl, .inr hc, by rw [stopOf_end h h44 hc, stopAt_end h44]⟩
      · exact .inl (stopOf_miss h h44 hc)

theorem int_bounds64 {n : Int} (h : (Lit.int .i64 n).wf = true) : -9223372036854775808 ≤ n ∧ n ≤ 9223372036854775807 := by
  have := h
  simp [Lit.wf, IntKind.min, IntKind.max, IntKind.signed, IntKind.bits] at this
  omega

set_option maxHeartbeats 4000000 in
set_option maxRecDepth 10000 in
theorem walk4 : Walk4 := by
  intro s pos line ls c w hs h1 h2 h3 h4
  obtain ⟨p1, p2⟩ := int_bounds64 h1
  obtain ⟨l1, l2⟩ := int_bounds64 h2
  obtain ⟨t1, t2⟩ := int_bounds64 h3
  clear h1 h2 h3 h4
  unfold maxLen at hs
  by_cases hbig : (1048576 : Int) < s.size
  · go_enter Tryf.func4, Tryf.ntmps4
    go_wp2_with (go_at_call 10; go_in)
    go_ret
    exact ⟨rfl, Below.refl _ _⟩
  by_cases c1 : pos < 0
  · go_enter Tryf.func4, Tryf.ntmps4
    go_wp2_with (go_at_call 10; go_in)
    go_ret
    exact ⟨rfl, Below.refl _ _⟩
  have d1 : decide (pos < 0) = false := decide_eq_false c1
  by_cases c2 : (s.size : Int) < pos
  · go_enter Tryf.func4, Tryf.ntmps4
    go_wp2_with (go_at_call 10; go_in)
    go_ret
    exact ⟨rfl, Below.refl _ _⟩
  have d2 : decide ((s.size : Int) < pos) = false := decide_eq_false c2
  by_cases c3 : ls < 0
  · go_enter Tryf.func4, Tryf.ntmps4
    go_wp2_with (go_at_call 10; go_in)
    go_ret
    exact ⟨rfl, Below.refl _ _⟩
  have d3 : decide (ls < 0) = false := decide_eq_false c3
  by_cases c4 : pos < ls
  · go_enter Tryf.func4, Tryf.ntmps4
    go_wp2_with (go_at_call 10; go_in)
    go_ret
    exact ⟨rfl, Below.refl _ _⟩
  have d4 : decide (pos < ls) = false := decide_eq_false c4
  by_cases c5 : line < 1
  · go_enter Tryf.func4, Tryf.ntmps4
    go_wp2_with (go_at_call 10; go_in)
    go_ret
    exact ⟨rfl, Below.refl _ _⟩
  have d5 : decide (line < 1) = false := decide_eq_false c5
  obtain ⟨p, rfl⟩ : ∃ p : Nat, pos = (p : Int) := ⟨pos.toNat, by omega⟩
  obtain ⟨l0, rfl⟩ : ∃ l : Nat, ls = (l : Int) := ⟨ls.toNat, by omega⟩
  have hn : s.size ≤ 1048576 := by omega
  have hp : p ≤ s.size := by omega
  rcases stopOf_cases s p c with hst | ⟨i, b, l, hf, hc, hst⟩
  · have HS := hide hst
    clear hst
    go_enter Tryf.func4, Tryf.ntmps4
    go_wp2_with (first
      | (go_at_call 10; go_in)
      | (go_at_call 11; refine (flowStop_any s p c w hn hp).mono ?_; rintro e w1 ⟨rfl, rfl⟩; rw [HS.out]; unfold missed))
    go_ret
    exact ⟨rfl, Below.refl _ _⟩
  · have HS := hide hst
    have HF := hide hf
    have HC := hide hc
    obtain ⟨_, _, _, hb2, hl3⟩ := flow_bounds _ _ _ _ _ (Nat.le_refl _) hp hf
    have hi2 := (flow_bounds _ _ _ _ _ (Nat.le_refl _) hp hf).2.1
    have hl4 := hl3 (Nat.zero_le _)
    have hbb : b ≤ 1048576 := by omega
    have hll : l ≤ 1048576 := by omega
    have hline : 1 ≤ line := by omega
    obtain ⟨st, hst2⟩ : ∃ st, stopAt s i = st := ⟨_, rfl⟩
    have HST := hide hst2
    have hst3 : st ≤ 1048577 := by
      rw [← hst2]
      unfold stopAt
      split <;> omega
    clear hst hf hc hb2 hl3 hi2 hl4 hst2
    obtain ⟨lv, hlv⟩ : ∃ lv, wrap64 (line + (b : Int)) = lv := ⟨_, rfl⟩
    go_enter Tryf.func4, Tryf.ntmps4
    go_wp2_with (first
      | (go_at_call 10; go_in)
      | (go_at_call 11; refine (flowStop_any s p c w hn hp).mono ?_; rintro e w1 ⟨rfl, rfl⟩; rw [HS.out, HST.out]; unfold found)
      | (go_at_call 12; refine (newParser_any s _ _ _ w).mono ?_; rintro e w1 ⟨rfl, v1, v2, hw1⟩; have HP : Hid (Parser w1 w.heap.size s p line l0 ∧ Below w.heap.size w w1) := by (rw [hw1]; exact ⟨parser_new, (Below.refl _ _).alloc (Nat.le_refl _) _⟩)
         clear hw1))
    refine (zzEnd_any w.heap.size s p line l0 i b l c w1 HP.out.1 hn hp hline l2 HF.out HC.out).mono ?_
    rintro e w2 ⟨rfl, r1, r2⟩
    rw [HST.out, hlv] at r1
    by_cases hb0 : b = 0
    · subst hb0
      have hlv2 : lv = line := by rw [← hlv]; unfold wrap64; omega
      have e1 : startOf 0 l l0 = l0 := rfl
      rw [e1, hlv2] at r1
      have R1 := hide r1
      have R2 := hide (HP.out.2.trans r2)
      clear r1 r2 e1 hlv hlv2
      go_wp2_with fail
      refine (state_any w.heap.size s st line l0 w2 R1.out).mono ?_
      rintro e w3 ⟨rfl, q, rfl⟩
      go_wp2
      go_ret
      exact ⟨by simp, R2.out.trans (below_drewN _ _ _)⟩
    · have hd : (0 : Int) < (b : Int) := by omega
      have e1 : startOf b l l0 = l := if_neg hb0
      rw [e1] at r1
      have R1 := hide r1
      have R2 := hide (HP.out.2.trans r2)
      clear r1 r2 e1 hb0
      go_wp2_with fail
      refine (state_any w.heap.size s st lv l w2 R1.out).mono ?_
      rintro e w3 ⟨rfl, q, rfl⟩
      go_wp2
      go_ret
      exact ⟨by simp, R2.out.trans (below_drewN _ _ _)⟩

theorem FnEndOfEntryStopsWhereFlowSpaceEnds_proved : Rows.FnEndOfEntryStopsWhereFlowSpaceEndsToldSaid := card4 walk4
#print axioms FnEndOfEntryStopsWhereFlowSpaceEnds_proved
#print axioms walk4
end Go.Proofs.Qxb6612529aFmt
