/-
  zzFlowStop.
-/
import Derived.Test.Qxb6612529aFmtMark
namespace Go.Proofs.Qxb6612529aFmt
open Go Go.RowKit

theorem results_tmp4 {fn : Func} {t u v x : Tmp} (h : fn.results = #[.tmp t, .tmp u, .tmp v, .tmp x]) (tmps : Array Value) (P : Program) (w : World) :
    (results fn tmps).run P w = .ok (.tuple #[tmps.getD t undef, tmps.getD u undef, tmps.getD v undef, tmps.getD x undef]) w := by
  simp [results, h]

theorem markerAt_of (s : ByteArray) (q : Nat) (v : Int) (hv : v = (q : Int)) (m : Bool) (hm : marker s q = m) (w : World) (hn : s.size ≤ 1048576) (hq : q ≤ s.size) :
    Calls Tryf.prog 17 #[.string s, .int .i64 v] w fun e w' => e = .returned (.bool m) ∧ w = w' := by
  subst hv
  subst hm
  exact markerAt_any s q w hn hq

def missed : Value := .tuple #[.int .i64 0, .int .i64 0, .int .i64 0, .bool false]
def found (i b l : Nat) : Value := .tuple #[.int .i64 (i : Int), .int .i64 (b : Int), .int .i64 (l : Int), .bool true]

/-- What zzFlowStop answers. -/
def stopOf (s : ByteArray) (pos : Nat) (c : Int) : Value :=
  match flow s pos 0 0 false with
  | none => missed
  | some (i, b, l) => if byteAt s i = 44 then found (i + 1) b l else if byteAt s i = c then found i b l else missed

theorem stopOf_none {s : ByteArray} {pos : Nat} {c : Int} (h : flow s pos 0 0 false = none) : stopOf s pos c = missed := by unfold stopOf; rw [h]
theorem stopOf_comma {s : ByteArray} {pos i b l : Nat} {c : Int} (h : flow s pos 0 0 false = some (i, b, l)) (hx : byteAt s i = 44) : stopOf s pos c = found (i + 1) b l := by unfold stopOf; rw [h]; exact if_pos hx
theorem stopOf_end {s : ByteArray} {pos i b l : Nat} {c : Int} (h : flow s pos 0 0 false = some (i, b, l)) (hx : byteAt s i ≠ 44) (hc : byteAt s i = c) : stopOf s pos c = found i b l := by unfold stopOf; rw [h]; exact (if_neg hx).trans (if_pos hc)
theorem stopOf_miss {s : ByteArray} {pos i b l : Nat} {c : Int} (h : flow s pos 0 0 false = some (i, b, l)) (hx : byteAt s i ≠ 44) (hc : byteAt s i ≠ c) : stopOf s pos c = missed := by unfold stopOf; rw [h]; exact (if_neg hx).trans (if_neg hc)

set_option maxHeartbeats 4000000 in
set_option maxRecDepth 10000 in
theorem flowStop_any (s : ByteArray) (pos : Nat) (c : Int) (w : World) (hn : s.size ≤ 1048576) (hp : pos ≤ s.size) :
    Calls Tryf.prog 11 #[.string s, .int .i64 (pos : Int), .int .u8 c] w fun e w' => e = .returned (stopOf s pos c) ∧ w = w' := by
  obtain ⟨A, hA⟩ : ∃ A, flow s pos 0 0 false = A := ⟨_, rfl⟩
  obtain ⟨V, hV⟩ : ∃ V, stopOf s pos c = V := ⟨_, rfl⟩
  rw [hV]
  have HA := hide hA
  have HV := hide hV
  clear hA hV
  go_enter Tryf.func11, Tryf.ntmps11
  go_wp2
  go_loopw [10, 11, 12, 13] (fun iv bv lv cv wr => ∃ (i b l : Nat) (f : Bool), iv = .int .i64 (i : Int) ∧ bv = .int .i64 (b : Int) ∧ lv = .int .i64 (l : Int) ∧ cv = .bool f ∧ i ≤ s.size ∧ b ≤ i ∧ l ≤ s.size ∧ flow s i b l f = A ∧ wr = w) (fun iv _ _ _ _ => s.size - (intOf iv).toNat)
  case atStart => exact ⟨pos, 0, 0, false, rfl, rfl, rfl, rfl, hp, Nat.zero_le _, Nat.zero_le _, HA.out, rfl⟩
  case round =>
    obtain ⟨i, b, l, f, rfl, rfl, rfl, rfl, hi, hb, hl, hfl, rfl⟩ := hrel
    have HF := hide hfl
    clear hfl
    by_cases hlt : i < s.size
    · have ix := fun W => index_in hlt (i := (i : Int)) rfl W
      have hlt' : (i : Int) < (s.size : Int) := by omega
      obtain ⟨x, hx⟩ : ∃ x, byteAt s i = x := ⟨_, rfl⟩
      rw [hx] at ix
      have HX := hide hx
      clear hx
      by_cases x10 : x = 10
      · subst x10
        have HBH : Hid (behind s i = i + 1) := by show behind s i = i + 1; unfold behind; rw [if_neg (by rw [HX.out]; omega)]
        have hq2 : i + 1 ≤ s.size := by have := behind_le s i hlt; rw [HBH.out] at this; exact this
        cases hm : marker s (i + 1) with
        | true =>
          have R : Hid (flow s pos 0 0 false = none) := by
            show flow s pos 0 0 false = none
            rw [HA.out, ← HF.out, flow_brk hlt (by rw [HX.out]; decide), HBH.out, hm]
            rfl
          go_wp2_with (go_at_call 17; refine (markerAt_of s (i + 1) _ (by omega) true hm _ hn hq2).mono ?_; rintro e w1 ⟨rfl, rfl⟩)
          refine bodyPost_ret (results_tmp4 rfl _ _ _) rfl ?_
          exact ⟨by rw [← HV.out, stopOf_none R.out]; rfl, rfl⟩
        | false =>
          have R : Hid (flow s (i + 1) (b + 1) (i + 1) false = A) := by
            show flow s (i + 1) (b + 1) (i + 1) false = A
            rw [← HF.out, flow_brk hlt (by rw [HX.out]; decide), HBH.out, hm]
            rfl
          go_wp2_with (go_at_call 17; refine (markerAt_of s (i + 1) _ (by omega) false hm _ hn hq2).mono ?_; rintro e w1 ⟨rfl, rfl⟩)
          go_roundw
          case rel => exact ⟨i + 1, b + 1, i + 1, false, by go_num, by go_num, by go_num, rfl, hq2, by omega, hq2, R.out, by trivial⟩
          case measure => simp [intOf]; omega
      have g10 : (x == 10) = false := by simp [x10]
      by_cases x13 : x = 13
      · subst x13
        by_cases hlt2 : i + 1 < s.size
        · have ix2 := fun W => index_in hlt2 (i := (i : Int) + 1) (by omega) W
          have hlt2' : (i : Int) + 1 < (s.size : Int) := by omega
          obtain ⟨y, hy⟩ : ∃ y, byteAt s (i + 1) = y := ⟨_, rfl⟩
          rw [hy] at ix2
          by_cases y10 : y = 10
          · subst y10
            have HBH : Hid (behind s i = i + 2) := by show behind s i = i + 2; unfold behind; rw [if_pos ⟨HX.out, hy⟩]
            clear hy
            have hq2 : i + 2 ≤ s.size := by have := behind_le s i hlt; rw [HBH.out] at this; exact this
            cases hm : marker s (i + 2) with
            | true =>
              have R : Hid (flow s pos 0 0 false = none) := by
                show flow s pos 0 0 false = none
                rw [HA.out, ← HF.out, flow_brk hlt (by rw [HX.out]; decide), HBH.out, hm]
                rfl
              go_wp2_with (go_at_call 17; refine (markerAt_of s (i + 2) _ (by omega) true hm _ hn hq2).mono ?_; rintro e w1 ⟨rfl, rfl⟩)
              refine bodyPost_ret (results_tmp4 rfl _ _ _) rfl ?_
              exact ⟨by rw [← HV.out, stopOf_none R.out]; rfl, rfl⟩
            | false =>
              have R : Hid (flow s (i + 2) (b + 1) (i + 2) false = A) := by
                show flow s (i + 2) (b + 1) (i + 2) false = A
                rw [← HF.out, flow_brk hlt (by rw [HX.out]; decide), HBH.out, hm]
                rfl
              go_wp2_with (go_at_call 17; refine (markerAt_of s (i + 2) _ (by omega) false hm _ hn hq2).mono ?_; rintro e w1 ⟨rfl, rfl⟩)
              go_roundw
              case rel => exact ⟨i + 2, b + 1, i + 2, false, by go_num, by go_num, by go_num, rfl, hq2, by omega, hq2, R.out, by trivial⟩
              case measure => simp [intOf]; omega
          · have gy : (y == 10) = false := by simp [y10]
            have HBH : Hid (behind s i = i + 1) := by show behind s i = i + 1; unfold behind; rw [if_neg (by rw [hy]; omega)]
            clear hy
            have hq2 : i + 1 ≤ s.size := by have := behind_le s i hlt; rw [HBH.out] at this; exact this
            cases hm : marker s (i + 1) with
            | true =>
              have R : Hid (flow s pos 0 0 false = none) := by
                show flow s pos 0 0 false = none
                rw [HA.out, ← HF.out, flow_brk hlt (by rw [HX.out]; decide), HBH.out, hm]
                rfl
              go_wp2_with (go_at_call 17; refine (markerAt_of s (i + 1) _ (by omega) true hm _ hn hq2).mono ?_; rintro e w1 ⟨rfl, rfl⟩)
              refine bodyPost_ret (results_tmp4 rfl _ _ _) rfl ?_
              exact ⟨by rw [← HV.out, stopOf_none R.out]; rfl, rfl⟩
            | false =>
              have R : Hid (flow s (i + 1) (b + 1) (i + 1) false = A) := by
                show flow s (i + 1) (b + 1) (i + 1) false = A
                rw [← HF.out, flow_brk hlt (by rw [HX.out]; decide), HBH.out, hm]
                rfl
              go_wp2_with (go_at_call 17; refine (markerAt_of s (i + 1) _ (by omega) false hm _ hn hq2).mono ?_; rintro e w1 ⟨rfl, rfl⟩)
              go_roundw
              case rel => exact ⟨i + 1, b + 1, i + 1, false, by go_num, by go_num, by go_num, rfl, hq2, by omega, hq2, R.out, by trivial⟩
              case measure => simp [intOf]; omega
        · have hlt2' : decide ((i : Int) + 1 < (s.size : Int)) = false := decide_eq_false (by omega)
          have HBH : Hid (behind s i = i + 1) := by show behind s i = i + 1; unfold behind; rw [if_neg (by rw [byteAt_out hlt2]; omega)]
          have hq2 : i + 1 ≤ s.size := by have := behind_le s i hlt; rw [HBH.out] at this; exact this
          cases hm : marker s (i + 1) with
          | true =>
            have R : Hid (flow s pos 0 0 false = none) := by
              show flow s pos 0 0 false = none
              rw [HA.out, ← HF.out, flow_brk hlt (by rw [HX.out]; decide), HBH.out, hm]
              rfl
            go_wp2_with (go_at_call 17; refine (markerAt_of s (i + 1) _ (by omega) true hm _ hn hq2).mono ?_; rintro e w1 ⟨rfl, rfl⟩)
            refine bodyPost_ret (results_tmp4 rfl _ _ _) rfl ?_
            exact ⟨by rw [← HV.out, stopOf_none R.out]; rfl, rfl⟩
          | false =>
            have R : Hid (flow s (i + 1) (b + 1) (i + 1) false = A) := by
              show flow s (i + 1) (b + 1) (i + 1) false = A
              rw [← HF.out, flow_brk hlt (by rw [HX.out]; decide), HBH.out, hm]
              rfl
            go_wp2_with (go_at_call 17; refine (markerAt_of s (i + 1) _ (by omega) false hm _ hn hq2).mono ?_; rintro e w1 ⟨rfl, rfl⟩)
            go_roundw
            case rel => exact ⟨i + 1, b + 1, i + 1, false, by go_num, by go_num, by go_num, rfl, hq2, by omega, hq2, R.out, by trivial⟩
            case measure => simp [intOf]; omega
      have g13 : (x == 13) = false := by simp [x13]
      have hnb : ¬ isBrk (byteAt s i) := by rw [HX.out]; unfold isBrk; omega
      have HNB := hide hnb
      clear hnb
      cases f with
      | true =>
        have R : Hid (flow s (i + 1) b l true = A) := by
          show flow s (i + 1) b l true = A
          rw [← HF.out, flow_on hlt HNB.out (.inl rfl)]
        go_wp2
        go_roundw
        case rel => exact ⟨i + 1, b, l, true, by go_num, rfl, rfl, rfl, by omega, by omega, hl, R.out, by trivial⟩
        case measure => simp [intOf]; omega
      | false =>
        by_cases x32 : x = 32
        · subst x32
          have R : Hid (flow s (i + 1) b l false = A) := by
            show flow s (i + 1) b l false = A
            rw [← HF.out, flow_on hlt HNB.out (.inr (by rw [HX.out]; decide))]
          go_wp2
          go_roundw
          case rel => exact ⟨i + 1, b, l, false, by go_num, rfl, rfl, rfl, by omega, by omega, hl, R.out, by trivial⟩
          case measure => simp [intOf]; omega
        have g32 : (x == 32) = false := by simp [x32]
        by_cases x9 : x = 9
        · subst x9
          have R : Hid (flow s (i + 1) b l false = A) := by
            show flow s (i + 1) b l false = A
            rw [← HF.out, flow_on hlt HNB.out (.inr (by rw [HX.out]; decide))]
          go_wp2
          go_roundw
          case rel => exact ⟨i + 1, b, l, false, by go_num, rfl, rfl, rfl, by omega, by omega, hl, R.out, by trivial⟩
          case measure => simp [intOf]; omega
        have g9 : (x == 9) = false := by simp [x9]
        by_cases x35 : x = 35
        · subst x35
          have R : Hid (flow s (i + 1) b l true = A) := by
            show flow s (i + 1) b l true = A
            rw [← HF.out, flow_hash hlt HX.out]
          go_wp2
          go_roundw
          case rel => exact ⟨i + 1, b, l, true, by go_num, rfl, rfl, rfl, by omega, by omega, hl, R.out, by trivial⟩
          case measure => simp [intOf]; omega
        have g35 : (x == 35) = false := by simp [x35]
        have R : Hid (flow s pos 0 0 false = some (i, b, l)) := by
          show flow s pos 0 0 false = some (i, b, l)
          rw [HA.out, ← HF.out, flow_stop hlt HNB.out (by rw [HX.out]; unfold isBlk; omega) (by rw [HX.out]; exact x35)]
        by_cases x44 : x = 44
        · subst x44
          go_wp2
          refine bodyPost_ret (results_tmp4 rfl _ _ _) rfl ?_
          exact ⟨by rw [← HV.out, stopOf_comma R.out HX.out]; rfl, rfl⟩
        have g44 : (x == 44) = false := by simp [x44]
        by_cases xc : x = c
        · subst xc
          go_wp2
          refine bodyPost_ret (results_tmp4 rfl _ _ _) rfl ?_
          exact ⟨by rw [← HV.out, stopOf_end R.out (by rw [HX.out]; exact x44) HX.out]; rfl, rfl⟩
        · have gc : (x == c) = false := by simp [xc]
          go_wp2
          refine bodyPost_ret (results_tmp4 rfl _ _ _) rfl ?_
          exact ⟨by rw [← HV.out, stopOf_miss R.out (by rw [HX.out]; exact x44) (by rw [HX.out]; exact xc)]; rfl, rfl⟩
    · have hz0 : ¬ (i : Int) < (s.size : Int) := by omega
      have hz1 : decide ((i : Int) < (s.size : Int)) = false := decide_eq_false hz0
      have R : Hid (flow s pos 0 0 false = some (i, b, l)) := by show flow s pos 0 0 false = some (i, b, l); rw [HA.out, ← HF.out, flow_end hlt]
      have B0 : Hid (byteAt s i = 0) := byteAt_out hlt
      by_cases xc : c = 0
      · subst xc
        go_wp2
        refine bodyPost_ret (results_tmp4 rfl _ _ _) rfl ?_
        exact ⟨by rw [← HV.out, stopOf_end R.out (by rw [B0.out]; decide) B0.out]; rfl, rfl⟩
      · have gc : ((0 : Int) == c) = false := by simp; omega
        go_wp2
        refine bodyPost_ret (results_tmp4 rfl _ _ _) rfl ?_
        exact ⟨by rw [← HV.out, stopOf_miss R.out (by rw [B0.out]; decide) (by rw [B0.out]; omega)]; rfl, rfl⟩
end Go.Proofs.Qxb6612529aFmt
