/-
  (Decimal).Round: what it gives, as a plain function; its walk.
-/
import Derived.Test.Qxb6612180aDoorText
import Derived.Deep.QuietTactic
import Derived.BigQuiet
namespace Go.Proofs.Qxb6612180aDoor
open Go Go.RowKit

def strip : Nat → Int → Int × Nat
  | 0, q => (q, 0)
  | p + 1, q => if q.tmod 10 = 0 then strip p (q.tdiv 10) else (q, p + 1)
def sign (x : Int) : Int := if x < 0 then -1 else if 0 < x then 1 else 0
/-- The magnitude, as a number that the walk does not look into. -/
def mag (x : Int) : Int := x.natAbs
def rnd0 (coef U : Int) : Int := if U ≤ 2 * mag (coef.tmod U) then coef.tdiv U + sign coef else coef.tdiv U
def roundOf (coef : Int) (scale places : Nat) : Int × Nat := if scale ≤ places then (coef, scale) else strip places (rnd0 coef (10 ^ (scale - places)))

theorem mag_of (x : Int) (w : World) (h1 : -1000000000000000000 < x) (h2 : x < 1000000000000000000) :
    Calls Tryd.prog 18 #[.int .i64 x] w fun e w' => e = .returned (.int .u64 (mag x)) ∧ w = w' := mag_any x w h1 h2

theorem compare_any (x : Int) (w : World) : Calls Tryd.prog 19 #[.int .i64 x, .int .i64 0] w fun e w' => e = .returned (.int .i64 (sign x)) ∧ w = w' := by
  by_cases h : x < 0
  · have e : sign x = -1 := by unfold sign; rw [if_pos h]
    rw [e]; clear e
    go_enter Tryd.func19, Tryd.ntmps19
    go_wp2
    go_ret
    exact ⟨rfl, rfl⟩
  · by_cases h2 : 0 < x
    · have e : sign x = 1 := by unfold sign; rw [if_neg h, if_pos h2]
      rw [e]; clear e
      go_enter Tryd.func19, Tryd.ntmps19
      go_wp2
      go_ret
      exact ⟨rfl, rfl⟩
    · have e : sign x = 0 := by unfold sign; rw [if_neg h, if_neg h2]
      rw [e]; clear e
      go_enter Tryd.func19, Tryd.ntmps19
      go_wp2
      go_ret
      exact ⟨rfl, rfl⟩

theorem round_same (coef : Int) (scale places : Nat) (w : World) (h : scale ≤ places) :
    Calls Tryd.prog 9 #[.agg #[.int .i64 coef, .int .i64 scale], .int .i64 places] w fun e w' => e = .returned (.agg #[.int .i64 coef, .int .i64 scale]) ∧ Below w.heap.size w w' := by
  go_enter Tryd.func9, Tryd.ntmps9
  go_wp2
  exact bodyPost_ret (v := .agg #[.int .i64 coef, .int .i64 scale]) (by simp [results, Tryd.results9, go_sem]) rfl ⟨rfl, ((Below.refl _ _).alloc (Nat.le_refl _) _).alloc (by simp) _⟩

theorem sign_bd (x : Int) : -1 ≤ sign x ∧ sign x ≤ 1 := by unfold sign; repeat' split <;> omega
theorem tdiv_bd (x U : Int) (h1 : -1000000000000000000 < x) (h2 : x < 1000000000000000000) : -1000000000000000000 < x.tdiv U ∧ x.tdiv U < 1000000000000000000 := by
  have h := Int.natAbs_tdiv_le_natAbs x U
  omega
theorem tmod_bd (x U : Int) (hU : 0 < U) (hU2 : U ≤ 1000000000000000000) : -1000000000000000000 < x.tmod U ∧ x.tmod U < 1000000000000000000 := by
  have h := Int.tmod_lt_of_pos x hU
  have h' : -U < x.tmod U := by
    have := Int.tmod_lt_of_pos (-x) hU
    rw [Int.neg_tmod] at this
    omega
  omega

theorem below_drewN {B : Nat} {a w : World} (h : Below B a w) (n : Nat) : Below B a (w.drewN n) := h.trans ⟨rfl, rfl, rfl, Nat.le_refl _, fun _ _ => rfl⟩

/-- What is left of Round behind its test: strip the zeros, build the result. -/
theorem strip_step (p : Nat) (q : Int) (h : q.tmod 10 = 0) : strip (p + 1) q = strip p (q.tdiv 10) := by
  rw [strip, if_pos h]
theorem strip_stop (p : Nat) (q : Int) (h : ¬ q.tmod 10 = 0) : strip (p + 1) q = (q, p + 1) := by
  rw [strip, if_neg h]

set_option maxHeartbeats 2000000 in
theorem round_less (coef U : Int) (k places : Nat) (w : World) (hp2 : places + k ≤ 18) (hk : 1 ≤ k) (h1 : -1000000000000000000 < coef) (h2 : coef < 1000000000000000000) (hU : 0 < U) (hU2 : U ≤ 1000000000000000000) (h0 : 0 < w.heap.size)
    (hc : w.cell? ⟨0, k, none⟩ = some (.int .i64 U)) :
    Calls Tryd.prog 9 #[.agg #[.int .i64 coef, .int .i64 ((places + k : Nat) : Int)], .int .i64 places] w fun e w' => e = .returned (.agg #[.int .i64 (strip places (rnd0 coef U)).1, .int .i64 (strip places (rnd0 coef U)).2]) ∧ Below w.heap.size w w' := by
  obtain ⟨d1, d2⟩ := tdiv_bd coef U h1 h2
  obtain ⟨m1, m2⟩ := tmod_bd coef U hU hU2
  obtain ⟨s1, s2⟩ := sign_bd coef
  have ha : mag (coef.tmod U) ≤ 1000000000000000000 := by unfold mag; omega
  have ha0 : 0 ≤ mag (coef.tmod U) := by unfold mag; omega
  obtain ⟨q0, hq0⟩ : ∃ q0, rnd0 coef U = q0 := ⟨_, rfl⟩
  rw [hq0]
  by_cases hT : U ≤ 2 * mag (coef.tmod U)
  · have e : coef.tdiv U + sign coef = q0 := by rw [← hq0]; unfold rnd0; rw [if_pos hT]
    have HE := hide e
    clear e hq0
    go_enter Tryd.func9, Tryd.ntmps9
    go_wp2
    go_quiet (fail)
    go_wp2_with (first
      | (go_at_call 18; refine (mag_of _ _ m1 m2).mono ?_; rintro e w' ⟨rfl, rfl⟩)
      | (go_at_call 19; refine (compare_any _ _).mono ?_; rintro e w' ⟨rfl, rfl⟩))
    go_loop [6, 1] (fun a b => ∃ (p : Nat) (q : Int), a = .int .i64 q ∧ b = .int .i64 p ∧ p ≤ places ∧ -1000000000000000001 < q ∧ q < 1000000000000000001 ∧ strip p q = strip places q0) (fun _ b => (intOf b).toNat)
    case atStart => exact ⟨places, _, rfl, rfl, Nat.le_refl _, by omega, by omega, by rw [HE.out]⟩
    case round =>
      obtain ⟨p, q, rfl, rfl, hp, g1, g2, hst⟩ := hrel
      have HST := hide hst
      clear hst hT m1 m2 s1 s2 d1 d2 ha ha0
      cases p with
      | zero =>
        go_wp2
        have e : strip places q0 = (q, 0) := HST.out.symm
        rw [e]
        exact bodyPost_ret (v := .agg #[.int .i64 q, .int .i64 0]) (by simp [results, Tryd.results9, go_sem]) rfl ⟨rfl, ((below_drewN (((Below.refl _ _).alloc (Nat.le_refl _) _).alloc (by simp) _) _).setCell (p := ⟨w.heap.size + 1, 0, none⟩) (Nat.le_succ _) _).setCell (p := ⟨w.heap.size + 1, 1, none⟩) (Nat.le_succ _) _⟩
      | succ p =>
        by_cases hm : q.tmod 10 = 0
        · have hb : (q.tmod 10 == 0) = true := by rw [hm]; rfl
          have HM := hide hm
          have ht := Int.natAbs_tdiv_le_natAbs q 10
          have g3 : -1000000000000000001 < q.tdiv 10 := by omega
          have g4 : q.tdiv 10 < 1000000000000000001 := by omega
          clear hm ht
          go_wp2
          go_round
          case rel => exact ⟨p, q.tdiv 10, rfl, by go_num, by omega, g3, g4, by rw [← strip_step p q HM.out]; exact HST.out⟩
          case measure => simp [intOf]
        · have hb : (q.tmod 10 == 0) = false := by rw [beq_eq_false_iff_ne]; exact hm
          have HM := hide hm
          clear hm
          go_wp2
          have e : strip places q0 = (q, p + 1) := by rw [← HST.out, strip_stop p q HM.out]
          rw [e]
          exact bodyPost_ret (v := .agg #[.int .i64 q, .int .i64 ((p + 1 : Nat) : Int)]) (by simp [results, Tryd.results9, go_sem]) rfl ⟨rfl, ((below_drewN (((Below.refl _ _).alloc (Nat.le_refl _) _).alloc (by simp) _) _).setCell (p := ⟨w.heap.size + 1, 0, none⟩) (Nat.le_succ _) _).setCell (p := ⟨w.heap.size + 1, 1, none⟩) (Nat.le_succ _) _⟩
  · have e : coef.tdiv U = q0 := by rw [← hq0]; unfold rnd0; rw [if_neg hT]
    have HE := hide e
    clear e hq0
    go_enter Tryd.func9, Tryd.ntmps9
    go_wp2
    go_quiet (fail)
    go_wp2_with (first
      | (go_at_call 18; refine (mag_of _ _ m1 m2).mono ?_; rintro e w' ⟨rfl, rfl⟩)
      | (go_at_call 19; refine (compare_any _ _).mono ?_; rintro e w' ⟨rfl, rfl⟩))
    go_loop [6, 1] (fun a b => ∃ (p : Nat) (q : Int), a = .int .i64 q ∧ b = .int .i64 p ∧ p ≤ places ∧ -1000000000000000001 < q ∧ q < 1000000000000000001 ∧ strip p q = strip places q0) (fun _ b => (intOf b).toNat)
    case atStart => exact ⟨places, _, rfl, rfl, Nat.le_refl _, by omega, by omega, by rw [HE.out]⟩
    case round =>
      obtain ⟨p, q, rfl, rfl, hp, g1, g2, hst⟩ := hrel
      have HST := hide hst
      clear hst hT m1 m2 s1 s2 d1 d2 ha ha0
      cases p with
      | zero =>
        go_wp2
        have e : strip places q0 = (q, 0) := HST.out.symm
        rw [e]
        exact bodyPost_ret (v := .agg #[.int .i64 q, .int .i64 0]) (by simp [results, Tryd.results9, go_sem]) rfl ⟨rfl, ((below_drewN (((Below.refl _ _).alloc (Nat.le_refl _) _).alloc (by simp) _) _).setCell (p := ⟨w.heap.size + 1, 0, none⟩) (Nat.le_succ _) _).setCell (p := ⟨w.heap.size + 1, 1, none⟩) (Nat.le_succ _) _⟩
      | succ p =>
        by_cases hm : q.tmod 10 = 0
        · have hb : (q.tmod 10 == 0) = true := by rw [hm]; rfl
          have HM := hide hm
          have ht := Int.natAbs_tdiv_le_natAbs q 10
          have g3 : -1000000000000000001 < q.tdiv 10 := by omega
          have g4 : q.tdiv 10 < 1000000000000000001 := by omega
          clear hm ht
          go_wp2
          go_round
          case rel => exact ⟨p, q.tdiv 10, rfl, by go_num, by omega, g3, g4, by rw [← strip_step p q HM.out]; exact HST.out⟩
          case measure => simp [intOf]
        · have hb : (q.tmod 10 == 0) = false := by rw [beq_eq_false_iff_ne]; exact hm
          have HM := hide hm
          clear hm
          go_wp2
          have e : strip places q0 = (q, p + 1) := by rw [← HST.out, strip_stop p q HM.out]
          rw [e]
          exact bodyPost_ret (v := .agg #[.int .i64 q, .int .i64 ((p + 1 : Nat) : Int)]) (by simp [results, Tryd.results9, go_sem]) rfl ⟨rfl, ((below_drewN (((Below.refl _ _).alloc (Nat.le_refl _) _).alloc (by simp) _) _).setCell (p := ⟨w.heap.size + 1, 0, none⟩) (Nat.le_succ _) _).setCell (p := ⟨w.heap.size + 1, 1, none⟩) (Nat.le_succ _) _⟩

#print axioms round_less
end Go.Proofs.Qxb6612180aDoor
