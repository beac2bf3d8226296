/-
  The walk of FnFormatWritesTheNearestRounding.
-/
import Derived.Test.Qxb6612180aDoorParts
namespace Go.Proofs.Qxb6612180aDoor
open Go Go.RowKit

theorem new_any (c s : Int) (w : World) : Calls Tryd.prog 6 #[.int .i64 c, .int .i64 s] w fun e w' => e = .returned (.agg #[.int .i64 c, .int .i64 s]) ∧ Below w.heap.size w w' := by
  go_enter Tryd.func6, Tryd.ntmps6
  go_wp2
  exact bodyPost_ret (v := .agg #[.int .i64 c, .int .i64 s]) (by simp [results, Tryd.results6, go_sem]) rfl ⟨rfl, (Below.refl _ _).alloc (Nat.le_refl _) _⟩
theorem coef_any (c s : Int) (w : World) : Calls Tryd.prog 11 #[.agg #[.int .i64 c, .int .i64 s]] w fun e w' => e = .returned (.int .i64 c) ∧ Below w.heap.size w w' := by
  go_enter Tryd.func11, Tryd.ntmps11
  go_wp2
  go_ret
  exact ⟨rfl, (Below.refl _ _).alloc (Nat.le_refl _) _⟩
theorem scale_any (c s : Int) (w : World) : Calls Tryd.prog 12 #[.agg #[.int .i64 c, .int .i64 s]] w fun e w' => e = .returned (.int .i64 s) ∧ Below w.heap.size w w' := by
  go_enter Tryd.func12, Tryd.ntmps12
  go_wp2
  go_ret
  exact ⟨rfl, (Below.refl _ _).alloc (Nat.le_refl _) _⟩

theorem walk_out (c s p : Int) (w : World) (h : p < 0 ∨ 65536 < p) :
    Calls Tryd.prog 4 #[.int .i64 c, .int .i64 s, .int .i64 p] w fun e w' => e = .returned (.bool true) ∧ Below w.heap.size w w' := by
  rcases h with h | h
  · go_enter Tryd.func4, Tryd.ntmps4
    go_wp2
    go_ret
    exact ⟨rfl, Below.refl _ _⟩
  · have h' : ¬ p < 0 := by omega
    go_enter Tryd.func4, Tryd.ntmps4
    go_wp2
    go_ret
    exact ⟨rfl, Below.refl _ _⟩

theorem walk_no (c s p : Int) (w : World) (h1 : ¬ p < 0) (h2 : ¬ 65536 < p) (hu : unitB c s = false) :
    Calls Tryd.prog 4 #[.int .i64 c, .int .i64 s, .int .i64 p] w fun e w' => e = .returned (.bool true) ∧ Below w.heap.size w w' := by
  go_enter Tryd.func4, Tryd.ntmps4
  go_wp2_with (first | (go_at_call 5; refine (unit_any _ _ _).mono ?_; rintro e w' ⟨rfl, rfl⟩))
  go_ret
  exact ⟨rfl, Below.refl _ _⟩

/-- Two cells of a block that a call below which all stays has left. -/
theorem two_later {W w' : World} {b : Nat} {x y : Value} (hb : Below W.heap.size W w') (h0 : W.cell? ⟨b, 0, none⟩ = some x) (h1 : W.cell? ⟨b, 1, none⟩ = some y) : w'.cell? ⟨b, 0, none⟩ = some x ∧ w'.cell? ⟨b, 1, none⟩ = some y :=
  ⟨cell_later hb h0, cell_later hb h1⟩

theorem pow_of (x : Int) (n : Nat) (P : Int) (w : World) (hn : n ≤ 18) (hx : x = (n : Int)) (hP : 10 ^ n = P) : Calls Tryd.prog 13 #[.int .i64 x] w fun e w' => e = .returned (.int .u64 P) ∧ w = w' := by
  subst hx; subst hP
  exact pow_any n hn w

theorem zmag_of (x M : Int) (w : World) (h1 : -4000000000000000000 < x) (h2 : x < 4000000000000000000) (hM : mag x = M) : Calls Tryd.prog 14 #[.int .i64 x] w fun e w' => e = .returned (.int .u64 M) ∧ w = w' := by
  subst hM
  exact zmag_any x w h1 h2

set_option maxHeartbeats 4000000 in
theorem walk_yes (c : Int) (sc pl : Nat) (w : World) (hp : pl ≤ 65536) (hs : sc ≤ 18) (c1 : -1000000000000000000 < c) (c2 : c < 1000000000000000000) (hu : unitB c sc = true) (he : Env w) :
    Calls Tryd.prog 4 #[.int .i64 c, .int .i64 sc, .int .i64 pl] w fun e w' => e = .returned (.bool true) ∧ Below w.heap.size w w' := by
  have HF := hide (fun (W : World) (hW : Env W) => format_any c sc pl W hs hp c1 c2 hW)
  have HR := hide (fun (W : World) (hW : Env W) => round_any c sc pl W hs c1 c2 hW)
  obtain ⟨f1, f2, f3, f4⟩ := roundOf_fits c sc pl hs c1 c2
  have HA := hide (fun (W : World) (hW : Env W) => formatAtLeast_any (roundOf c sc pl).1 (roundOf c sc pl).2 pl W f2 f1 hp f3 f4 hW)
  have HQ : Hid (roundOf c sc pl = ((roundOf c sc pl).1, (roundOf c sc pl).2)) := rfl
  generalize (roundOf c sc pl).1 = rc at *
  generalize (roundOf c sc pl).2 = rs at *
  generalize (⟨(textOf rc rs pl).toArray⟩ : ByteArray) = S at *
  have HE := hide he
  clear he
  go_enter Tryd.func4, Tryd.ntmps4
  go_wp2_with (first | (go_at_call 5; refine (unit_any _ _ _).mono ?_; rintro e w' ⟨rfl, rfl⟩))
  refine (new_any c sc _).mono ?_
  rintro e w1 ⟨rfl, hb1⟩
  have E1 := hide (HE.out.later hb1)
  have B1 := hide hb1
  clear hb1
  go_wp2_with fail
  have e2 : Below w1.heap.size w1 (w1.alloc (.cells #[.int .i64 c, .int .i64 sc] 24)) := (Below.refl _ _).alloc (Nat.le_refl _) _
  refine (HR.out _ (E1.out.later e2)).mono ?_
  rintro e w2 ⟨rfl, hb2⟩
  obtain ⟨d0, d1⟩ := two_later (b := w1.heap.size) (x := .int .i64 c) (y := .int .i64 sc) hb2 (by simp) (by simp)
  have lt2 : w1.heap.size < w2.heap.size := by have := hb2.size; simp at this; omega
  have B2 := hide (e2.trans (hb2.mono e2.size))
  have E2 := hide (E1.out.later B2.out)
  clear e2 hb2
  go_wp2_with fail
  have e3 : Below w2.heap.size w2 (w2.alloc (.cells #[.int .i64 rc, .int .i64 rs] 24)) := (Below.refl _ _).alloc (Nat.le_refl _) _
  refine (HF.out _ (E2.out.later e3)).mono ?_
  rintro e w3 ⟨rfl, hb3⟩
  obtain ⟨q0, q1⟩ := two_later (b := w2.heap.size) (x := .int .i64 rc) (y := .int .i64 rs) hb3 (by simp) (by simp)
  have B3 := hide (e3.trans (hb3.mono e3.size))
  have E3 := hide (E2.out.later B3.out)
  clear e3 hb3 d0 d1 lt2
  go_wp2_with fail
  refine (HA.out _ E3.out).mono ?_
  rintro e w4 ⟨rfl, hb4⟩
  obtain ⟨q2, q3⟩ := two_later hb4 q0 q1
  have B4 := hide hb4
  clear hb4 q0 q1
  go_wp2_with fail
  refine (coef_any rc rs _).mono ?_
  rintro e w5 ⟨rfl, hb5⟩
  obtain ⟨q4, q5⟩ := two_later hb5 q2 q3
  have B5 := hide hb5
  clear hb5 q2 q3
  go_wp2_with fail
  refine (scale_any rc rs _).mono ?_
  rintro e w6 ⟨rfl, hb6⟩
  have HB : Hid (Below w.heap.size w w6) := by
    have b1 := B1.out
    have b2 := b1.trans (B2.out.mono b1.size)
    have b3 := b2.trans (B3.out.mono b2.size)
    have b4 := b3.trans (B4.out.mono b3.size)
    have b5 := b4.trans (B5.out.mono b4.size)
    exact b5.trans (hb6.mono b5.size)
  clear hb6 B1 B2 B3 B4 B5 E1 E2 E3 HE HF HA HR q4 q5 hu
  by_cases hle : sc ≤ pl
  · have hb1 : (rc == c) = true := by have := HQ.out; rw [roundOf_same hle] at this; cases this; simp
    have hb2 : ((rs : Int) == (sc : Int)) = true := by have := HQ.out; rw [roundOf_same hle] at this; cases this; simp
    go_wp2
    go_ret
    exact ⟨rfl, HB.out⟩
  · obtain ⟨k, rfl⟩ : ∃ k, sc = pl + k := ⟨sc - pl, by omega⟩
    obtain ⟨rc', rs', hst, a1, a2, a3, a4, a5, a6, a7⟩ := round_law c k pl (by omega) hs c1 c2
    obtain ⟨rfl, rfl⟩ : rc = rc' ∧ rs = rs' := by
      have := HQ.out
      rw [roundOf_less hle, Nat.add_sub_cancel_left, hst] at this
      cases this
      exact ⟨rfl, rfl⟩
    have p1 := pow10_pos (pl + k - rs)
    have p2 := pow10_le (show pl + k - rs ≤ 18 by omega)
    have p3 := pow10_pos k
    have p4 := pow10_le (show k ≤ 18 by omega)
    obtain ⟨SH, hSH⟩ : ∃ SH : Int, 10 ^ (pl + k - rs) = SH := ⟨_, rfl⟩
    obtain ⟨U, hU⟩ : ∃ U : Int, 10 ^ k = U := ⟨_, rfl⟩
    rw [hSH] at a5 a6 a7 p1 p2
    rw [hU] at a6 a7 p3 p4
    have HSH := hide hSH
    have HU := hide hU
    have A4 := hide a4
    obtain ⟨RM, hRM⟩ : ∃ RM : Int, mag rc = RM := ⟨_, rfl⟩
    have m0 : 0 ≤ RM := by rw [← hRM]; unfold mag; omega
    have m1 : RM < 1000000000000000000 := by rw [← hRM]; unfold mag; omega
    have hneg : rc < 0 → RM = -rc := by rw [← hRM]; unfold mag; omega
    have hnon : ¬ rc < 0 → RM = rc := by rw [← hRM]; unfold mag; omega
    rw [hRM] at a5 a7
    have m2 : 0 ≤ RM * SH := Int.mul_nonneg m0 (by omega)
    have m3 : RM ≤ 2000000000000000000 / SH := Int.le_ediv_of_mul_le p1 a5
    obtain ⟨AD, hAD⟩ : ∃ AD : Int, mag (c - rc * SH) = AD := ⟨_, rfl⟩
    obtain ⟨MC, hMC⟩ : ∃ MC : Int, mag c = MC := ⟨_, rfl⟩
    rw [hAD] at a6 a7
    rw [hMC] at a7
    have n0 : 0 ≤ AD := by rw [← hAD]; unfold mag; omega
    have hXN : rc < 0 → mag (c + RM * SH) = AD := by
      intro h
      have e : c + RM * SH = c - rc * SH := by rw [hneg h, Int.neg_mul]; omega
      rw [e, hAD]
    have hXP : ¬ rc < 0 → mag (c - RM * SH) = AD := by
      intro h
      rw [hnon h, hAD]
    have XN := hide hXN
    have XP := hide hXP
    have HMC := hide hMC
    have HM := hide hRM
    have A7 := hide a7
    clear hst hSH hU a4 a7 HQ hRM hneg hnon hAD hMC hXN hXP
    by_cases hneg : rc < 0
    · by_cases hpos : 0 < rs
      · have hb : (rc.tmod 10 == 0) = false := by rw [beq_eq_false_iff_ne]; exact A4.out hpos
        go_wp2_with fail
        refine (pow_of _ (pl + k - rs) SH _ (by omega) (by omega) HSH.out).mono ?_
        rintro e w7 ⟨rfl, rfl⟩
        go_wp2_with fail
        refine (zmag_of _ RM _ (by omega) (by omega) HM.out).mono ?_
        rintro e w7 ⟨rfl, rfl⟩
        go_wp2_with fail
        refine (zmag_of _ AD _ (by omega) (by omega) (by first | exact XN.out hneg | (rw [show c - -(RM * SH) = c + RM * SH by omega]; exact XN.out hneg))).mono ?_
        rintro e w7 ⟨rfl, rfl⟩
        go_wp2_with fail
        refine (pow_of _ k U _ (by omega) (by omega) HU.out).mono ?_
        rintro e w7 ⟨rfl, rfl⟩
        by_cases tie : 2 * AD = U
        · have hb2 : (2 * AD == U) = true := by rw [beq_iff_eq]; exact tie
          have hlt : MC < RM * SH := A7.out tie
          clear tie
          go_wp2_with fail
          refine (zmag_of _ MC _ (by omega) (by omega) HMC.out).mono ?_
          rintro e w7 ⟨rfl, rfl⟩
          go_wp2
          go_ret
          exact ⟨rfl, HB.out⟩
        · have hb2 : (2 * AD == U) = false := by rw [beq_eq_false_iff_ne]; exact tie
          clear tie
          go_wp2
          go_ret
          exact ⟨rfl, HB.out⟩
      · have hr0 : ¬ (0 : Int) < rs := by omega
        go_wp2_with fail
        refine (pow_of _ (pl + k - rs) SH _ (by omega) (by omega) HSH.out).mono ?_
        rintro e w7 ⟨rfl, rfl⟩
        go_wp2_with fail
        refine (zmag_of _ RM _ (by omega) (by omega) HM.out).mono ?_
        rintro e w7 ⟨rfl, rfl⟩
        go_wp2_with fail
        refine (zmag_of _ AD _ (by omega) (by omega) (by first | exact XN.out hneg | (rw [show c - -(RM * SH) = c + RM * SH by omega]; exact XN.out hneg))).mono ?_
        rintro e w7 ⟨rfl, rfl⟩
        go_wp2_with fail
        refine (pow_of _ k U _ (by omega) (by omega) HU.out).mono ?_
        rintro e w7 ⟨rfl, rfl⟩
        by_cases tie : 2 * AD = U
        · have hb2 : (2 * AD == U) = true := by rw [beq_iff_eq]; exact tie
          have hlt : MC < RM * SH := A7.out tie
          clear tie
          go_wp2_with fail
          refine (zmag_of _ MC _ (by omega) (by omega) HMC.out).mono ?_
          rintro e w7 ⟨rfl, rfl⟩
          go_wp2
          go_ret
          exact ⟨rfl, HB.out⟩
        · have hb2 : (2 * AD == U) = false := by rw [beq_eq_false_iff_ne]; exact tie
          clear tie
          go_wp2
          go_ret
          exact ⟨rfl, HB.out⟩
    · have XQ := hide (XP.out hneg)
      by_cases hpos : 0 < rs
      · have hb : (rc % 10 == 0) = false := by rw [beq_eq_false_iff_ne, ← Int.tmod_eq_emod_of_nonneg (by omega)]; exact A4.out hpos
        go_wp2_with fail
        refine (pow_of _ (pl + k - rs) SH _ (by omega) (by omega) HSH.out).mono ?_
        rintro e w7 ⟨rfl, rfl⟩
        go_wp2_with fail
        refine (zmag_of _ RM _ (by omega) (by omega) HM.out).mono ?_
        rintro e w7 ⟨rfl, rfl⟩
        go_wp2_with fail
        refine (zmag_of _ AD _ (by omega) (by omega) XQ.out).mono ?_
        rintro e w7 ⟨rfl, rfl⟩
        go_wp2_with fail
        refine (pow_of _ k U _ (by omega) (by omega) HU.out).mono ?_
        rintro e w7 ⟨rfl, rfl⟩
        by_cases tie : 2 * AD = U
        · have hb2 : (2 * AD == U) = true := by rw [beq_iff_eq]; exact tie
          have hlt : MC < RM * SH := A7.out tie
          clear tie
          go_wp2_with fail
          refine (zmag_of _ MC _ (by omega) (by omega) HMC.out).mono ?_
          rintro e w7 ⟨rfl, rfl⟩
          go_wp2
          go_ret
          exact ⟨rfl, HB.out⟩
        · have hb2 : (2 * AD == U) = false := by rw [beq_eq_false_iff_ne]; exact tie
          clear tie
          go_wp2
          go_ret
          exact ⟨rfl, HB.out⟩
      · have hr0 : ¬ (0 : Int) < rs := by omega
        go_wp2_with fail
        refine (pow_of _ (pl + k - rs) SH _ (by omega) (by omega) HSH.out).mono ?_
        rintro e w7 ⟨rfl, rfl⟩
        go_wp2_with fail
        refine (zmag_of _ RM _ (by omega) (by omega) HM.out).mono ?_
        rintro e w7 ⟨rfl, rfl⟩
        go_wp2_with fail
        refine (zmag_of _ AD _ (by omega) (by omega) XQ.out).mono ?_
        rintro e w7 ⟨rfl, rfl⟩
        go_wp2_with fail
        refine (pow_of _ k U _ (by omega) (by omega) HU.out).mono ?_
        rintro e w7 ⟨rfl, rfl⟩
        by_cases tie : 2 * AD = U
        · have hb2 : (2 * AD == U) = true := by rw [beq_iff_eq]; exact tie
          have hlt : MC < RM * SH := A7.out tie
          clear tie
          go_wp2_with fail
          refine (zmag_of _ MC _ (by omega) (by omega) HMC.out).mono ?_
          rintro e w7 ⟨rfl, rfl⟩
          go_wp2
          go_ret
          exact ⟨rfl, HB.out⟩
        · have hb2 : (2 * AD == U) = false := by rw [beq_eq_false_iff_ne]; exact tie
          clear tie
          go_wp2
          go_ret
          exact ⟨rfl, HB.out⟩

/-- The law's walk, at every input. -/
theorem walk (c s p : Int) (w : World) (he : Env w) :
    Calls Tryd.prog 4 #[.int .i64 c, .int .i64 s, .int .i64 p] w fun e w' => e = .returned (.bool true) ∧ Below w.heap.size w w' := by
  by_cases h1 : p < 0
  · exact walk_out c s p w (.inl h1)
  by_cases h2 : 65536 < p
  · exact walk_out c s p w (.inr h2)
  by_cases hu : unitB c s = true
  · obtain ⟨a1, a2, a3, a4, _⟩ := unitB_true hu
    obtain ⟨sc, rfl⟩ := Int.eq_ofNat_of_zero_le a1
    obtain ⟨pl, rfl⟩ := Int.eq_ofNat_of_zero_le (show 0 ≤ p by omega)
    exact walk_yes c sc pl w (by omega) (by omega) a3 a4 hu he
  · exact walk_no c s p w h1 h2 (by simpa using hu)

#print axioms walk
end Go.Proofs.Qxb6612180aDoor
