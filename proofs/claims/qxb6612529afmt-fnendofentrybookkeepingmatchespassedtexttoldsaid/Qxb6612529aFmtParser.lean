/-
  The parser's small functions: at, peek, atEnd, column, isBlank, isBreak, isSpace, lineBreak.
-/
import Derived.Test.Qxb6612529aFmtFlow
import Derived.WalkKit
import Derived.ProofKit
import Derived.WalkSpells
import Derived.WalkSmall
import Derived.Outline
import Derived.Deep.QuietTactic
import Derived.BigQuiet
namespace Go.Proofs.Qxb6612529aFmt
open Go Go.RowKit

theorem hide {p : Prop} (h : p) : Hid p := h

/-- What a yamlParser in block P holds. -/
structure Parser (w : World) (P : Nat) (s : ByteArray) (p : Nat) (ln : Int) (ls : Nat) : Prop where
  src : w.cell? ⟨P, 0, none⟩ = some (.string s)
  pos : w.cell? ⟨P, 1, none⟩ = some (.int .i64 (p : Int))
  line : w.cell? ⟨P, 2, none⟩ = some (.int .i64 ln)
  start : w.cell? ⟨P, 3, none⟩ = some (.int .i64 (ls : Int))
  free : ∀ j, w.frozen? ⟨P, j, none⟩ = false

theorem Parser.drewN {w : World} {P : Nat} {s : ByteArray} {p : Nat} {ln : Int} {ls : Nat} (h : Parser w P s p ln ls) (q : Nat) : Parser (w.drewN q) P s p ln ls := ⟨h.src, h.pos, h.line, h.start, h.free⟩

theorem byteAt_bounds (s : ByteArray) (i : Nat) : 0 ≤ byteAt s i ∧ byteAt s i ≤ 255 := by
  by_cases h : i < s.size
  · rw [byteAt_in h]
    have := (s[i]'h).toNat_lt
    omega
  · rw [byteAt_out h]; omega

/-- The byte at a place inside. -/
theorem index_in {s : ByteArray} {k : Nat} (h : k < s.size) {i : Int} (hi : i = (k : Int)) (W : World) : (Instr.index 9 (.string s) (.int .i64 i)).run Tryf.prog W = .ok (.int .u8 (byteAt s k)) W := by
  subst hi
  rw [run_index_string (P := Tryf.prog) W 9 s .i64 k Tryf.underlying9, byteAt_in h]
  simp [h]

theorem at_any (P : Nat) (s : ByteArray) (p : Nat) (ln : Int) (ls i : Nat) (w : World) (h : Parser w P s p ln ls) (hp : p ≤ 1048576) (hi : i ≤ 3) :
    Calls Tryf.prog 28 #[.pointer (some ⟨P, 0, none⟩), .int .i64 (i : Int)] w fun e w' => e = .returned (.int .u8 (byteAt s (p + i))) ∧ ∃ q, w' = w.drewN q := by
  have c0 := h.src
  have c1 := h.pos
  clear h
  by_cases hlt : p + i < s.size
  · have hix := fun W => index_in hlt (i := (p : Int) + (i : Int)) (by omega) W
    obtain ⟨x, hx⟩ : ∃ x, byteAt s (p + i) = x := ⟨_, rfl⟩
    rw [hx] at hix ⊢
    clear hx
    have h1 : ¬ (s.size : Int) ≤ (p : Int) + (i : Int) := by omega
    have h2 : (p : Int) + (i : Int) < (s.size : Int) := by omega
    have h3 : decide ((s.size : Int) ≤ (p : Int) + (i : Int)) = false := decide_eq_false h1
    go_enter Tryf.func28, Tryf.ntmps28
    go_wp2
    go_quiet (fail)
    go_wp2
    go_quiet (fail)
    go_wp2
    go_ret
    exact ⟨rfl, _, World.drewN_drewN _ _ _⟩
  · have hx := byteAt_out hlt
    rw [hx]
    have h1 : (s.size : Int) ≤ (p : Int) + (i : Int) := by omega
    go_enter Tryf.func28, Tryf.ntmps28
    go_wp2
    go_quiet (fail)
    go_wp2
    go_ret
    exact ⟨rfl, _, rfl⟩

theorem peek_any (P : Nat) (s : ByteArray) (p : Nat) (ln : Int) (ls : Nat) (w : World) (h : Parser w P s p ln ls) (hp : p ≤ 1048576) :
    Calls Tryf.prog 21 #[.pointer (some ⟨P, 0, none⟩)] w fun e w' => e = .returned (.int .u8 (byteAt s p)) ∧ ∃ q, w' = w.drewN q := by
  have H := hide h
  clear h
  go_enter Tryf.func21, Tryf.ntmps21
  go_wp2_with fail
  refine (at_any P s p ln ls 0 w H.out hp (by omega)).mono ?_
  rintro e w1 ⟨rfl, q, rfl⟩
  go_wp2
  go_ret
  exact ⟨rfl, q, rfl⟩

theorem blank_any (c : Int) (w : World) : Calls Tryf.prog 29 #[.int .u8 c] w fun e w' => e = .returned (.bool (decide (isBlk c))) ∧ w = w' := by
  have e : decide (isBlk c) = (c == 32 || c == 9) := by rw [Bool.eq_iff_iff, decide_eq_true_iff]; simp [isBlk]
  rw [e]
  clear e
  by_cases h1 : c = 32
  · subst h1
    go_enter Tryf.func29, Tryf.ntmps29
    go_wp2
    go_ret
    exact ⟨rfl, rfl⟩
  · have h2 : (c == 32) = false := by simp [h1]
    go_enter Tryf.func29, Tryf.ntmps29
    go_wp2
    go_ret
    exact ⟨by simp [h1], rfl⟩

theorem break_any (c : Int) (w : World) : Calls Tryf.prog 25 #[.int .u8 c] w fun e w' => e = .returned (.bool (decide (isBrk c))) ∧ w = w' := by
  have e : decide (isBrk c) = (c == 10 || c == 13) := by rw [Bool.eq_iff_iff, decide_eq_true_iff]; simp [isBrk]
  rw [e]
  clear e
  by_cases h1 : c = 10
  · subst h1
    go_enter Tryf.func25, Tryf.ntmps25
    go_wp2
    go_ret
    exact ⟨rfl, rfl⟩
  · have h2 : (c == 10) = false := by simp [h1]
    go_enter Tryf.func25, Tryf.ntmps25
    go_wp2
    go_ret
    exact ⟨by simp [h1], rfl⟩

theorem atEnd_any (P : Nat) (s : ByteArray) (p : Nat) (ln : Int) (ls : Nat) (w : World) (h : Parser w P s p ln ls) :
    Calls Tryf.prog 30 #[.pointer (some ⟨P, 0, none⟩)] w fun e w' => e = .returned (.bool (decide (s.size ≤ p))) ∧ ∃ q, w' = w.drewN q := by
  have c0 := h.src
  have c1 := h.pos
  clear h
  go_enter Tryf.func30, Tryf.ntmps30
  go_wp2
  go_quiet (fail)
  go_wp2
  go_ret
  exact ⟨rfl, _, rfl⟩

theorem column_any (P : Nat) (s : ByteArray) (p : Nat) (ln : Int) (w : World) (h : Parser w P s p ln p) :
    Calls Tryf.prog 32 #[.pointer (some ⟨P, 0, none⟩)] w fun e w' => e = .returned (.int .i64 0) ∧ ∃ q, w' = w.drewN q := by
  have c0 := h.start
  have c1 := h.pos
  clear h
  go_enter Tryf.func32, Tryf.ntmps32
  go_wp2
  go_quiet (fail)
  go_wp2
  go_ret
  exact ⟨by simp, _, rfl⟩

theorem below_drewN (B : Nat) (w : World) (q : Nat) : Below B w (w.drewN q) := ⟨rfl, rfl, rfl, Nat.le_refl _, fun _ _ => rfl⟩

theorem Parser.lt {w : World} {P : Nat} {s : ByteArray} {p : Nat} {ln : Int} {ls : Nat} (h : Parser w P s p ln ls) : P < w.heap.size := World.block_lt_of_cell? _ _ h.src

theorem ne_off {P i j : Nat} (h : i ≠ j) : (⟨P, i, none⟩ : Addr) ≠ ⟨P, j, none⟩ := fun e => h (congrArg Addr.off e)

theorem Parser.set1 {w : World} {P : Nat} {s : ByteArray} {p : Nat} {ln : Int} {ls : Nat} (h : Parser w P s p ln ls) (p' : Nat) : Parser (w.setCell ⟨P, 1, none⟩ (.int .i64 (p' : Int))) P s p' ln ls :=
  ⟨by rw [World.cell?_setCell_other _ _ _ _ (ne_off (by decide))]; exact h.src, World.cell?_setCell_same _ _ _ h.pos, by rw [World.cell?_setCell_other _ _ _ _ (ne_off (by decide))]; exact h.line,
    by rw [World.cell?_setCell_other _ _ _ _ (ne_off (by decide))]; exact h.start, fun j => by rw [World.frozen?_setCell]; exact h.free j⟩
theorem Parser.set2 {w : World} {P : Nat} {s : ByteArray} {p : Nat} {ln : Int} {ls : Nat} (h : Parser w P s p ln ls) (ln' : Int) : Parser (w.setCell ⟨P, 2, none⟩ (.int .i64 ln')) P s p ln' ls :=
  ⟨by rw [World.cell?_setCell_other _ _ _ _ (ne_off (by decide))]; exact h.src, by rw [World.cell?_setCell_other _ _ _ _ (ne_off (by decide))]; exact h.pos, World.cell?_setCell_same _ _ _ h.line,
    by rw [World.cell?_setCell_other _ _ _ _ (ne_off (by decide))]; exact h.start, fun j => by rw [World.frozen?_setCell]; exact h.free j⟩
theorem Parser.set3 {w : World} {P : Nat} {s : ByteArray} {p : Nat} {ln : Int} {ls : Nat} (h : Parser w P s p ln ls) (ls' : Nat) : Parser (w.setCell ⟨P, 3, none⟩ (.int .i64 (ls' : Int))) P s p ln ls' :=
  ⟨by rw [World.cell?_setCell_other _ _ _ _ (ne_off (by decide))]; exact h.src, by rw [World.cell?_setCell_other _ _ _ _ (ne_off (by decide))]; exact h.pos, by rw [World.cell?_setCell_other _ _ _ _ (ne_off (by decide))]; exact h.line,
    World.cell?_setCell_same _ _ _ h.start, fun j => by rw [World.frozen?_setCell]; exact h.free j⟩

set_option maxHeartbeats 1000000 in
/-- skipBlanks: to the first byte that is no blank. -/
theorem skipBlanks_any (P : Nat) (s : ByteArray) (p : Nat) (ln : Int) (ls : Nat) (w : World) (h : Parser w P s p ln ls) (hp : p ≤ s.size) (hn : s.size ≤ 1048576) :
    Calls Tryf.prog 23 #[.pointer (some ⟨P, 0, none⟩)] w fun e w' => e = .returned (.tuple #[]) ∧ ∃ p', p ≤ p' ∧ p' ≤ s.size ∧ (∀ j, p ≤ j → j < p' → isBlk (byteAt s j)) ∧ ¬ isBlk (byteAt s p') ∧ Parser w' P s p' ln ls ∧ Below P w w' := by
  have H := hide h
  clear h
  go_enter Tryf.func23, Tryf.ntmps23
  go_wp2
  go_loopw [2] (fun _ wr => ∃ k, p ≤ k ∧ k ≤ s.size ∧ (∀ j, p ≤ j → j < k → isBlk (byteAt s j)) ∧ Parser wr P s k ln ls ∧ Below P w wr) (fun _ wr => s.size - (match wr.cell? ⟨P, 1, none⟩ with | some v => (intOf v).toNat | none => 0))
  case atStart => exact ⟨p, Nat.le_refl _, hp, fun j h1 h2 => by omega, H.out, Below.refl _ _⟩
  case round =>
    obtain ⟨k, hk1, hk2, hbl, hP, hB⟩ := hrel
    have HP := hide hP
    have HB := hide hB
    have HBL := hide hbl
    clear hbl hP hB H
    go_wp2_with fail
    refine (peek_any P s k ln ls wr HP.out (by omega)).mono ?_
    rintro e w1 ⟨rfl, q, rfl⟩
    go_wp2_with fail
    refine (blank_any _ _).mono ?_
    rintro e w1 ⟨rfl, rfl⟩
    by_cases hb : isBlk (byteAt s k)
    · have hlt : k < s.size := by
        apply Classical.byContradiction
        intro hc
        rw [byteAt_out hc] at hb
        exact absurd hb (by decide)
      have hd : decide (isBlk (byteAt s k)) = true := decide_eq_true hb
      have c1 := HP.out.pos
      have f1 := HP.out.free 1
      have R : Hid (Parser ((wr.drewN q).setCell ⟨P, 1, none⟩ (.int .i64 ((k : Int) + 1))) P s (k + 1) ln ls ∧ Below P w ((wr.drewN q).setCell ⟨P, 1, none⟩ (.int .i64 ((k : Int) + 1)))) :=
        ⟨(HP.out.drewN q).set1 (k + 1), (HB.out.trans (below_drewN P wr q)).setCell (Nat.le_refl _) _⟩
      have BL2 : Hid (∀ j, p ≤ j → j < k + 1 → isBlk (byteAt s j)) := fun j h1 h2 => by
        by_cases e : j = k
        · subst e; exact hb
        · exact HBL.out j h1 (by omega)
      have HM : Hid (wr.cell? ⟨P, 1, none⟩ = some (.int .i64 (k : Int))) := c1
      clear hb
      rw [hd]
      go_wp2
      go_roundw
      case rel => exact ⟨k + 1, by omega, by omega, BL2.out, R.out.1, R.out.2⟩
      case measure => rw [R.out.1.pos, HM.out]; simp [intOf]; omega
    · have hd : decide (isBlk (byteAt s k)) = false := decide_eq_false hb
      have R : Hid (¬ isBlk (byteAt s k) ∧ Parser (wr.drewN q) P s k ln ls ∧ Below P w (wr.drewN q)) := ⟨hb, HP.out.drewN q, HB.out.trans (below_drewN P wr q)⟩
      clear hb
      rw [hd]
      go_wp2
      go_end0
      exact ⟨rfl, k, hk1, hk2, HBL.out, R.out.1, R.out.2.1, R.out.2.2⟩

set_option maxHeartbeats 1000000 in
/-- skipComment: where there is one, to its line's break or the end. -/
theorem skipComment_any (P : Nat) (s : ByteArray) (p : Nat) (ln : Int) (ls : Nat) (w : World) (h : Parser w P s p ln ls) (hp : p ≤ s.size) (hn : s.size ≤ 1048576) :
    Calls Tryf.prog 24 #[.pointer (some ⟨P, 0, none⟩)] w fun e w' => e = .returned (.tuple #[]) ∧ ∃ p', p ≤ p' ∧ p' ≤ s.size ∧ (byteAt s p ≠ 35 → p' = p) ∧ (byteAt s p = 35 → (∀ j, p ≤ j → j < p' → ¬ isBrk (byteAt s j)) ∧ (¬ p' < s.size ∨ isBrk (byteAt s p'))) ∧ Parser w' P s p' ln ls ∧ Below P w w' := by
  have H := hide h
  clear h
  go_enter Tryf.func24, Tryf.ntmps24
  go_wp2_with fail
  refine (peek_any P s p ln ls w H.out (by omega)).mono ?_
  rintro e w1 ⟨rfl, q0, rfl⟩
  obtain ⟨x, hx⟩ : ∃ x, byteAt s p = x := ⟨_, rfl⟩
  rw [hx]
  by_cases h35 : x = 35
  · subst h35
    have HX := hide hx
    clear hx
    go_wp2
    go_loopw [5] (fun _ wr => ∃ k, p ≤ k ∧ k ≤ s.size ∧ (∀ j, p ≤ j → j < k → ¬ isBrk (byteAt s j)) ∧ Parser wr P s k ln ls ∧ Below P w wr) (fun _ wr => s.size - (match wr.cell? ⟨P, 1, none⟩ with | some v => (intOf v).toNat | none => 0))
    case atStart => exact ⟨p, Nat.le_refl _, hp, fun j h1 h2 => by omega, H.out.drewN _, below_drewN _ _ _⟩
    case round =>
      obtain ⟨k, hk1, hk2, hbl, hP, hB⟩ := hrel
      have HP := hide hP
      have HB := hide hB
      have HBL := hide hbl
      clear hbl hP hB H
      go_wp2_with fail
      refine (atEnd_any P s k ln ls wr HP.out).mono ?_
      rintro e w1 ⟨rfl, q, rfl⟩
      by_cases hlt : k < s.size
      · have hd : decide (s.size ≤ k) = false := decide_eq_false (by omega)
        rw [hd]
        go_wp2_with fail
        refine (peek_any P s k ln ls _ (HP.out.drewN q) (by omega)).mono ?_
        rintro e w1 ⟨rfl, q1, rfl⟩
        go_wp2_with fail
        refine (break_any _ _).mono ?_
        rintro e w1 ⟨rfl, rfl⟩
        by_cases hb : isBrk (byteAt s k)
        · have hd2 : decide (isBrk (byteAt s k)) = true := decide_eq_true hb
          have R : Hid (isBrk (byteAt s k) ∧ Parser (wr.drewN (q + q1)) P s k ln ls ∧ Below P w (wr.drewN (q + q1))) := ⟨hb, HP.out.drewN _, HB.out.trans (below_drewN P wr _)⟩
          clear hb
          rw [hd2]
          go_wp2
          go_end0
          exact ⟨rfl, k, hk1, hk2, fun h => absurd HX.out h, fun _ => ⟨HBL.out, .inr R.out.1⟩, R.out.2.1, R.out.2.2⟩
        · have hd2 : decide (isBrk (byteAt s k)) = false := decide_eq_false hb
          have c1 := HP.out.pos
          have f1 := HP.out.free 1
          have R : Hid (Parser ((wr.drewN (q + q1)).setCell ⟨P, 1, none⟩ (.int .i64 ((k : Int) + 1))) P s (k + 1) ln ls ∧ Below P w ((wr.drewN (q + q1)).setCell ⟨P, 1, none⟩ (.int .i64 ((k : Int) + 1)))) :=
            ⟨(HP.out.drewN _).set1 (k + 1), (HB.out.trans (below_drewN P wr _)).setCell (Nat.le_refl _) _⟩
          have BL2 : Hid (∀ j, p ≤ j → j < k + 1 → ¬ isBrk (byteAt s j)) := fun j h1 h2 => by
            by_cases e : j = k
            · subst e; exact hb
            · exact HBL.out j h1 (by omega)
          have HM : Hid (wr.cell? ⟨P, 1, none⟩ = some (.int .i64 (k : Int))) := c1
          clear hb
          rw [hd2]
          go_wp2
          go_roundw
          case rel => exact ⟨k + 1, by omega, by omega, BL2.out, R.out.1, R.out.2⟩
          case measure => rw [R.out.1.pos, HM.out]; simp [intOf]; omega
      · have hd : decide (s.size ≤ k) = true := decide_eq_true (by omega)
        have R : Hid (Parser (wr.drewN q) P s k ln ls ∧ Below P w (wr.drewN q)) := ⟨HP.out.drewN q, HB.out.trans (below_drewN P wr q)⟩
        rw [hd]
        go_wp2
        go_end0
        exact ⟨rfl, k, hk1, hk2, fun h => absurd HX.out h, fun _ => ⟨HBL.out, .inl hlt⟩, R.out.1, R.out.2⟩
  · have hne : (x != 35) = true := by simp [h35]
    have R : Hid (byteAt s p ≠ 35 ∧ Parser (w.drewN q0) P s p ln ls) := ⟨by rw [hx]; exact h35, H.out.drewN q0⟩
    clear hx
    go_wp2
    refine bodyPost_ret (results_none rfl _ _ _) rfl ?_
    exact ⟨rfl, p, Nat.le_refl _, hp, fun _ => rfl, fun h => absurd h R.out.1, R.out.2, below_drewN _ _ _⟩

theorem wrap_wrap (a : Int) : wrap64 (wrap64 a + 1) = wrap64 (a + 1) := by unfold wrap64; omega

set_option maxHeartbeats 1000000 in
/-- lineBreak, at a break. -/
theorem lineBreak_any (P : Nat) (s : ByteArray) (p : Nat) (ln : Int) (ls : Nat) (w : World) (h : Parser w P s p ln ls) (hp : p < s.size) (hn : s.size ≤ 1048576) :
    Calls Tryf.prog 26 #[.pointer (some ⟨P, 0, none⟩)] w fun e w' => e = .returned (.tuple #[]) ∧ Parser w' P s (behind s p) (wrap64 (ln + 1)) (behind s p) ∧ Below P w w' := by
  have H := hide h
  clear h
  go_enter Tryf.func26, Tryf.ntmps26
  go_wp2_with fail
  refine (peek_any P s p ln ls w H.out (by omega)).mono ?_
  rintro e w1 ⟨rfl, q0, rfl⟩
  obtain ⟨x, hx⟩ : ∃ x, byteAt s p = x := ⟨_, rfl⟩
  rw [hx]
  by_cases h13 : x = 13
  · subst h13
    have HX := hide hx
    clear hx
    go_wp2_with fail
    refine (at_any P s p ln ls 1 _ (H.out.drewN q0) (by omega) (by omega)).mono ?_
    rintro e w1 ⟨rfl, q1, rfl⟩
    obtain ⟨y, hy⟩ : ∃ y, byteAt s (p + 1) = y := ⟨_, rfl⟩
    rw [hy]
    by_cases h10 : y = 10
    · subst h10
      have e : behind s p = p + 2 := by unfold behind; rw [if_pos ⟨HX.out, hy⟩]
      have E := hide e
      have c1 := H.out.pos
      have c2 := H.out.line
      have c3 := H.out.start
      have f1 := H.out.free 1
      have f2 := H.out.free 2
      have f3 := H.out.free 3
      have HH := hide (H.out.drewN (q0 + q1))
      clear hy e
      go_wp2
      go_end0
      refine ⟨rfl, ?_, ?_⟩
      · rw [E.out]
        exact (((HH.out.set1 (p + 1)).set1 (p + 2)).set2 _).set3 (p + 2)
      · exact (((below_drewN P w (q0 + q1)).setCell (Nat.le_refl _) _).setCell (Nat.le_refl _) _).setCell (Nat.le_refl _) _ |>.setCell (Nat.le_refl _) _
    · have e : behind s p = p + 1 := by unfold behind; rw [if_neg (by rw [hy]; omega)]
      have E := hide e
      have hne : (y == 10) = false := by simp [h10]
      have c1 := H.out.pos
      have c2 := H.out.line
      have c3 := H.out.start
      have f1 := H.out.free 1
      have f2 := H.out.free 2
      have f3 := H.out.free 3
      have HH := hide (H.out.drewN (q0 + q1))
      clear hy e
      go_wp2
      go_end0
      refine ⟨rfl, ?_, ?_⟩
      · rw [E.out]
        exact ((HH.out.set1 (p + 1)).set2 _).set3 (p + 1)
      · exact (((below_drewN P w (q0 + q1)).setCell (Nat.le_refl _) _).setCell (Nat.le_refl _) _).setCell (Nat.le_refl _) _
  · have e : behind s p = p + 1 := by unfold behind; rw [if_neg (by rw [hx]; omega)]
    have E := hide e
    have hne : (x == 13) = false := by simp [h13]
    have c1 := H.out.pos
    have c2 := H.out.line
    have c3 := H.out.start
    have f1 := H.out.free 1
    have f2 := H.out.free 2
    have f3 := H.out.free 3
    have HH := hide (H.out.drewN q0)
    clear hx e
    go_wp2
    go_end0
    refine ⟨rfl, ?_, ?_⟩
    · rw [E.out]
      exact ((HH.out.set1 (p + 1)).set2 _).set3 (p + 1)
    · exact (((below_drewN P w q0).setCell (Nat.le_refl _) _).setCell (Nat.le_refl _) _).setCell (Nat.le_refl _) _
end Go.Proofs.Qxb6612529aFmt
