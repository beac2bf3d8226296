/-
  skipFlowSpace, endOfEntry, and the thin functions around them.
-/
import Derived.Test.Qxb6612529aFmtMarkB
namespace Go.Proofs.Qxb6612529aFmt
open Go Go.RowKit

/-- The line's start: the last break's, where there was one. -/
def startOf (b l ls : Nat) : Nat := if b = 0 then ls else l

/-- Blanks, then a comment: the scan's answer stays. -/
theorem flow_step {s : ByteArray} {k k1 k2 b l : Nat} {A : Option (Nat × Nat × Nat)} (hf : flow s k b l false = A) (h1 : k ≤ k1) (h1s : k1 ≤ s.size) (hbl : ∀ j, k ≤ j → j < k1 → isBlk (byteAt s j)) (hnb : ¬ isBlk (byteAt s k1))
    (h2 : k1 ≤ k2) (h2s : k2 ≤ s.size) (hno : byteAt s k1 ≠ 35 → k2 = k1) (hyes : byteAt s k1 = 35 → (∀ j, k1 ≤ j → j < k2 → ¬ isBrk (byteAt s j)) ∧ (¬ k2 < s.size ∨ isBrk (byteAt s k2))) :
    flow s k2 b l false = A ∧ (¬ isBrk (byteAt s k2) → A = some (k2, b, l)) := by
  have e1 : flow s k1 b l false = A := by
    have := flow_blanks (s := s) (b := b) (l := l) (k1 - k) k (by omega) (fun j h h' => hbl j h (by omega))
    have e : k + (k1 - k) = k1 := by omega
    rw [e] at this
    rw [← this]
    exact hf
  by_cases hx : byteAt s k1 = 35
  · obtain ⟨y1, y2⟩ := hyes hx
    have hlt : k1 < s.size := by
      apply Classical.byContradiction
      intro hc
      rw [byteAt_out hc] at hx
      omega
    have hgt : k1 + 1 ≤ k2 := by
      apply Classical.byContradiction
      intro hc
      have : k2 = k1 := by omega
      subst this
      rcases y2 with h | h
      · exact h hlt
      · rw [hx] at h; exact absurd h (by decide)
    have e2 : flow s k2 b l false = A := by
      rw [flow_hash hlt hx] at e1
      have := flow_comment (s := s) (b := b) (l := l) (k2 - (k1 + 1)) (k1 + 1) (by omega) (fun j h h' => y1 j (by omega) (by omega))
      have e : k1 + 1 + (k2 - (k1 + 1)) = k2 := by omega
      rw [e, flow_flag y2] at this
      rw [← this]
      exact e1
    refine ⟨e2, fun hb => ?_⟩
    have he : ¬ k2 < s.size := y2.resolve_right hb
    rw [flow_end he] at e2
    exact e2.symm
  · obtain rfl := hno hx
    refine ⟨e1, fun hb => ?_⟩
    by_cases hlt : k2 < s.size
    · rw [flow_stop hlt hb hnb hx] at e1
      exact e1.symm
    · rw [flow_end hlt] at e1
      exact e1.symm

/-- A break, and no marker behind it. -/
theorem flow_next {s : ByteArray} {k b l i b' l' : Nat} (hf : flow s k b l false = some (i, b', l')) (hlt : k < s.size) (hb : isBrk (byteAt s k)) : marker s (behind s k) = false ∧ flow s (behind s k) (b + 1) (behind s k) false = some (i, b', l') := by
  rw [flow_brk hlt hb] at hf
  cases hm : marker s (behind s k) with
  | true => rw [hm] at hf; cases hf
  | false => rw [hm] at hf; exact ⟨rfl, hf⟩

set_option maxHeartbeats 2000000 in
theorem skipFlow_any (P : Nat) (s : ByteArray) (p : Nat) (line : Int) (ls i b l : Nat) (w : World) (h : Parser w P s p line ls) (hn : s.size ≤ 1048576) (hp : p ≤ s.size) (hl1 : 1 ≤ line) (hl2 : line ≤ 9223372036854775807) (hf : flow s p 0 0 false = some (i, b, l)) :
    Calls Tryf.prog 20 #[.pointer (some ⟨P, 0, none⟩)] w fun e w' => e = .returned (.tuple #[]) ∧ Parser w' P s i (wrap64 (line + b)) (startOf b l ls) ∧ Below P w w' := by
  have H : Hid (Parser w P s p (wrap64 (line + (0 : Nat))) (startOf 0 0 ls)) := by
    show Parser w P s p (wrap64 (line + (0 : Nat))) (startOf 0 0 ls)
    have e : wrap64 (line + (0 : Nat)) = line := by unfold wrap64; omega
    rw [e]
    exact h
  have HF := hide hf
  clear h hf hl1 hl2
  go_enter Tryf.func20, Tryf.ntmps20
  go_wp2
  go_loopw [2] (fun _ wr => ∃ k b' l' : Nat, k ≤ s.size ∧ flow s k b' l' false = some (i, b, l) ∧ Parser wr P s k (wrap64 (line + b')) (startOf b' l' ls) ∧ Below P w wr) (fun _ wr => s.size - (match wr.cell? ⟨P, 1, none⟩ with | some v => (intOf v).toNat | none => 0))
  case atStart => exact ⟨p, 0, 0, hp, HF.out, H.out, Below.refl _ _⟩
  case round =>
    clear H HF hp
    obtain ⟨k, b', l', hk, hfl, hP, hB⟩ := hrel
    have HF := hide hfl
    have HP := hide hP
    have HB := hide hB
    clear hfl hP hB
    go_wp2_with fail
    refine (skipBlanks_any P s k _ _ wr HP.out hk hn).mono ?_
    rintro e w1 ⟨rfl, k1, a1, a2, a3, a4, a5, a6⟩
    have A3 := hide a3
    have A4 := hide a4
    have A5 := hide a5
    have A6 := hide a6
    clear a3 a4 a5 a6
    go_wp2_with fail
    refine (skipComment_any P s k1 _ _ w1 A5.out a2 hn).mono ?_
    rintro e w2 ⟨rfl, k2, c1, c2, c3, c4, c5, c6⟩
    have ST := hide (flow_step HF.out a1 a2 A3.out A4.out c1 c2 c3 c4)
    have C5 := hide c5
    have C6 := hide (HB.out.trans (A6.out.trans c6))
    clear c3 c4 c5 c6
    go_wp2_with fail
    refine (peek_any P s k2 _ _ w2 C5.out (by omega)).mono ?_
    rintro e w3 ⟨rfl, q, rfl⟩
    go_wp2_with fail
    refine (break_any _ _).mono ?_
    rintro e w3 ⟨rfl, rfl⟩
    by_cases hb : isBrk (byteAt s k2)
    · have hd : decide (isBrk (byteAt s k2)) = true := decide_eq_true hb
      have hlt : k2 < s.size := by
        apply Classical.byContradiction
        intro hc
        rw [byteAt_out hc] at hb
        exact absurd hb (by decide)
      have NX := hide (flow_next ST.out.1 hlt hb)
      have hq := behind_le s k2 hlt
      have hg := behind_gt s k2
      clear hb
      rw [hd]
      go_wp2_with fail
      refine (lineBreak_any P s k2 _ _ _ (C5.out.drewN q) hlt hn).mono ?_
      rintro e w4 ⟨rfl, r1, r2⟩
      rw [wrap_wrap] at r1
      have R1 := hide r1
      have R2 := hide ((C6.out.trans (below_drewN P w2 q)).trans r2)
      clear r1 r2
      go_wp2_with fail
      refine (atAnyMarker_any P s (behind s k2) _ w4 R1.out hn hq).mono ?_
      rintro e w5 ⟨rfl, q2, rfl⟩
      have hmk : marker s (behind s k2) = false := NX.out.1
      have HM : Hid (wr.cell? ⟨P, 1, none⟩ = some (.int .i64 (k : Int))) := HP.out.pos
      obtain ⟨qq, hqq⟩ : ∃ qq, behind s k2 = qq := ⟨_, rfl⟩
      rw [hqq] at hmk hq hg R1 NX
      rw [hqq, hmk]
      clear hqq hmk
      go_wp2
      go_roundw
      case rel =>
        refine ⟨qq, b' + 1, qq, hq, NX.out.2, ?_, R2.out.trans (below_drewN P w4 q2)⟩
        have e1 : startOf (b' + 1) qq ls = qq := rfl
        have e2 : line + (b' : Int) + 1 = line + ((b' + 1 : Nat) : Int) := by omega
        rw [e1, ← e2]
        exact R1.out.drewN q2
      case measure => rw [(R1.out.drewN q2).pos, HM.out]; simp [intOf]; omega
    · have hd : decide (isBrk (byteAt s k2)) = false := decide_eq_false hb
      have R : Hid (i = k2 ∧ b = b' ∧ l = l') := by
        have := ST.out.2 hb
        simp only [Option.some.injEq, Prod.mk.injEq] at this
        exact this
      clear hb
      rw [hd]
      go_wp2
      refine bodyPost_ret (results_none rfl _ _ _) rfl ?_
      obtain ⟨rfl, rfl, rfl⟩ := R.out
      exact ⟨rfl, C5.out.drewN q, C6.out.trans (below_drewN P w2 q)⟩
end Go.Proofs.Qxb6612529aFmt
