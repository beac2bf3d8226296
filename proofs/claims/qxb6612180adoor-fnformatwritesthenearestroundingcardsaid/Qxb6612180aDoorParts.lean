/-
  The other functions on the law's road: Format, FormatAtLeast, zzbUnitOK, zzbPow10, zzbMag.
-/
import Derived.Test.Qxb6612180aDoorPlain
import Derived.Test.Qxb6612180aDoorTextWalk
namespace Go.Proofs.Qxb6612180aDoor
open Go Go.RowKit

/-- What the world holds when the call begins, as far as the road asks: the two tables. -/
structure Env (w : World) : Prop where
  tab : Lib.TabIs Tryd.prog w tabName .u64 Lib.pow10Tab
  pos : 0 < w.heap.size
  ten : ∀ i, i ≤ 18 → w.cell? ⟨0, i, none⟩ = some (.int .i64 (10 ^ i))

theorem Env.later {w w' : World} (h : Env w) (hb : Below w.heap.size w w') : Env w' :=
  ⟨Lib.tabBelow_of_tabIs h.tab w' hb, Nat.lt_of_lt_of_le h.pos hb.size, fun i hi => (hb.cell (p := ⟨0, i, none⟩) h.pos).trans (h.ten i hi)⟩

theorem roundOf_same {coef : Int} {scale places : Nat} (h : scale ≤ places) : roundOf coef scale places = (coef, scale) := by unfold roundOf; rw [if_pos h]
theorem roundOf_less {coef : Int} {scale places : Nat} (h : ¬ scale ≤ places) : roundOf coef scale places = strip places (rnd0 coef (10 ^ (scale - places))) := by unfold roundOf; rw [if_neg h]

theorem round_any (coef : Int) (scale places : Nat) (w : World) (hs : scale ≤ 18) (h1 : -1000000000000000000 < coef) (h2 : coef < 1000000000000000000) (he : Env w) :
    Calls Tryd.prog 9 #[.agg #[.int .i64 coef, .int .i64 scale], .int .i64 places] w fun e w' => e = .returned (.agg #[.int .i64 (roundOf coef scale places).1, .int .i64 (roundOf coef scale places).2]) ∧ Below w.heap.size w w' := by
  by_cases h : scale ≤ places
  · rw [roundOf_same h]
    exact round_same coef scale places w h
  · obtain ⟨k, rfl⟩ : ∃ k, scale = places + k := ⟨scale - places, by omega⟩
    rw [roundOf_less h, Nat.add_sub_cancel_left]
    exact round_less coef (10 ^ k) k places w hs (by omega) h1 h2 (pow10_pos k) (pow10_le (by omega)) he.pos (he.ten k (by omega))

/-- Round's answer is a Decimal with at most so many places. -/
theorem roundOf_fits (coef : Int) (scale places : Nat) (hs : scale ≤ 18) (h1 : -1000000000000000000 < coef) (h2 : coef < 1000000000000000000) :
    (roundOf coef scale places).2 ≤ places ∧ (roundOf coef scale places).2 ≤ 18 ∧ -1000000000000000000 < (roundOf coef scale places).1 ∧ (roundOf coef scale places).1 < 1000000000000000000 := by
  by_cases h : scale ≤ places
  · rw [roundOf_same h]
    exact ⟨h, hs, h1, h2⟩
  · obtain ⟨k, rfl⟩ : ∃ k, scale = places + k := ⟨scale - places, by omega⟩
    rw [roundOf_less h, Nat.add_sub_cancel_left]
    obtain ⟨rc, rs, e, a1, a2, a3, _⟩ := round_law coef k places (by omega) hs h1 h2
    rw [e]
    exact ⟨a1, by show rs ≤ 18; omega, a2, a3⟩

theorem format_any (coef : Int) (scale places : Nat) (w : World) (hs : scale ≤ 18) (hp : places ≤ 65536) (h1 : -1000000000000000000 < coef) (h2 : coef < 1000000000000000000) (he : Env w) :
    Calls Tryd.prog 7 #[.agg #[.int .i64 coef, .int .i64 scale], .int .i64 places] w fun e w' =>
      e = .returned (.string ⟨(textOf (roundOf coef scale places).1 (roundOf coef scale places).2 places).toArray⟩) ∧ Below w.heap.size w w' := by
  obtain ⟨f1, f2, f3, f4⟩ := roundOf_fits coef scale places hs h1 h2
  have HE := hide he
  clear he
  have hr := fun (W : World) (hW : Env W) => round_any coef scale places W hs h1 h2 hW
  have HR := hide hr
  clear hr
  generalize (roundOf coef scale places).1 = rc at *
  generalize (roundOf coef scale places).2 = rs at *
  go_enter Tryd.func7, Tryd.ntmps7
  go_wp2_with fail
  have e1 : Below w.heap.size w (w.alloc (.cells #[.int .i64 coef, .int .i64 scale] 24)) := (Below.refl _ _).alloc (Nat.le_refl _) _
  refine (HR.out _ (HE.out.later e1)).mono ?_
  rintro e w1 ⟨rfl, hb⟩
  have hb1 : Below w.heap.size w w1 := e1.trans (hb.mono e1.size)
  have HB := hide hb1
  clear hb hb1 e1
  go_wp2_with fail
  refine (text_any rc rs places _ f2 f1 hp f3 f4 (HE.out.later HB.out).tab).mono ?_
  rintro e w2 ⟨rfl, hb2⟩
  go_wp2
  go_ret
  exact ⟨rfl, HB.out.trans (hb2.mono HB.out.size)⟩

theorem formatAtLeast_any (coef : Int) (scale places : Nat) (w : World) (hs : scale ≤ 18) (hsp : scale ≤ places) (hp : places ≤ 65536) (h1 : -1000000000000000000 < coef) (h2 : coef < 1000000000000000000) (he : Env w) :
    Calls Tryd.prog 10 #[.agg #[.int .i64 coef, .int .i64 scale], .int .i64 places] w fun e w' => e = .returned (.string ⟨(textOf coef scale places).toArray⟩) ∧ Below w.heap.size w w' := by
  have HE := hide he
  clear he
  have hmx : max (places : Int) (scale : Int) = places := by omega
  go_enter Tryd.func10, Tryd.ntmps10
  go_wp2_with fail
  have e1 : Below w.heap.size w (w.alloc (.cells #[.int .i64 coef, .int .i64 scale] 24)) := (Below.refl _ _).alloc (Nat.le_refl _) _
  refine (text_any coef scale places _ hs hsp hp h1 h2 (HE.out.later e1).tab).mono ?_
  rintro e w2 ⟨rfl, hb2⟩
  have HB := hide (e1.trans (hb2.mono e1.size))
  clear e1 hb2
  go_wp2
  go_ret
  exact ⟨rfl, HB.out⟩

theorem pow_any (n : Nat) (hn : n ≤ 18) (w : World) : Calls Tryd.prog 13 #[.int .i64 n] w fun e w' => e = .returned (.int .u64 (10 ^ n)) ∧ w = w' := by
  go_enter Tryd.func13, Tryd.ntmps13
  go_wp2
  go_loop [3, 4] (fun p i => ∃ k : Nat, k ≤ n ∧ i = .int .i64 k ∧ p = .int .u64 (10 ^ k)) (fun _ i => n - (intOf i).toNat)
  case atStart => exact ⟨0, Nat.zero_le _, rfl, rfl⟩
  case round =>
    obtain ⟨k, hk, rfl, rfl⟩ := hrel
    by_cases hlt : k < n
    · have h1 := pow10_pos k
      have h2 := pow10_le (show k ≤ 18 by omega)
      obtain ⟨P, hP⟩ : ∃ P : Int, 10 ^ k = P := ⟨_, rfl⟩
      rw [hP] at h1 h2 ⊢
      have HP := hide hP
      clear hP
      go_wp2
      go_round
      case rel => exact ⟨k + 1, by omega, by go_num, by rw [Int.pow_succ, HP.out]⟩
      case measure => simp [intOf]; omega
    · obtain rfl : k = n := by omega
      go_wp2
      go_ret
      exact ⟨rfl, rfl⟩

theorem zmag_any (x : Int) (w : World) (h1 : -4000000000000000000 < x) (h2 : x < 4000000000000000000) : Calls Tryd.prog 14 #[.int .i64 x] w fun e w' => e = .returned (.int .u64 (mag x)) ∧ w = w' := by
  by_cases h : x < 0
  · go_enter Tryd.func14, Tryd.ntmps14
    go_wp2
    go_ret
    refine ⟨ret_int ?_, rfl⟩
    rw [IntKind.wrap_u64, IntKind.wrap_u64]
    unfold mag
    omega
  · go_enter Tryd.func14, Tryd.ntmps14
    go_wp2
    go_ret
    exact ⟨ret_int (by unfold mag; omega), rfl⟩

/-- zzbUnitOK: the states a Decimal can be in. -/
def unitB (coef scale : Int) : Bool := decide (0 ≤ scale ∧ scale ≤ 18 ∧ -1000000000000000000 < coef ∧ coef < 1000000000000000000 ∧ ¬ (0 < scale ∧ coef.tmod 10 = 0))
theorem unitB_true {coef scale : Int} (h : unitB coef scale = true) : 0 ≤ scale ∧ scale ≤ 18 ∧ -1000000000000000000 < coef ∧ coef < 1000000000000000000 ∧ ¬ (0 < scale ∧ coef.tmod 10 = 0) := of_decide_eq_true h
theorem unit_any (coef scale : Int) (w : World) : Calls Tryd.prog 5 #[.int .i64 coef, .int .i64 scale] w fun e w' => e = .returned (.bool (unitB coef scale)) ∧ w = w' := by
  by_cases a1 : scale < 0
  · have e : unitB coef scale = false := decide_eq_false (by omega)
    rw [e]; clear e
    go_enter Tryd.func5, Tryd.ntmps5
    go_wp2
    go_ret
    exact ⟨rfl, rfl⟩
  by_cases a2 : 18 < scale
  · have e : unitB coef scale = false := decide_eq_false (by omega)
    rw [e]; clear e
    go_enter Tryd.func5, Tryd.ntmps5
    go_wp2
    go_ret
    exact ⟨rfl, rfl⟩
  by_cases a3 : coef ≤ -1000000000000000000
  · have e : unitB coef scale = false := decide_eq_false (by omega)
    rw [e]; clear e
    go_enter Tryd.func5, Tryd.ntmps5
    go_wp2
    go_ret
    exact ⟨rfl, rfl⟩
  by_cases a4 : 1000000000000000000 ≤ coef
  · have e : unitB coef scale = false := decide_eq_false (by omega)
    rw [e]; clear e
    go_enter Tryd.func5, Tryd.ntmps5
    go_wp2
    go_ret
    exact ⟨rfl, rfl⟩
  by_cases a5 : 0 < scale
  · by_cases a6 : coef.tmod 10 = 0
    · have e : unitB coef scale = false := decide_eq_false (fun h => h.2.2.2.2 ⟨a5, a6⟩)
      have hb : (coef.tmod 10 == 0) = true := by rw [a6]; rfl
      rw [e]; clear e a6
      go_enter Tryd.func5, Tryd.ntmps5
      go_wp2
      go_ret
      exact ⟨rfl, rfl⟩
    · have e : unitB coef scale = true := decide_eq_true ⟨by omega, by omega, by omega, by omega, fun h => a6 h.2⟩
      have hb : (coef.tmod 10 == 0) = false := by rw [beq_eq_false_iff_ne]; exact a6
      rw [e]; clear e a6
      go_enter Tryd.func5, Tryd.ntmps5
      go_wp2
      go_ret
      exact ⟨rfl, rfl⟩
  · have e : unitB coef scale = true := decide_eq_true ⟨by omega, by omega, by omega, by omega, fun h => a5 h.1⟩
    rw [e]; clear e
    go_enter Tryd.func5, Tryd.ntmps5
    go_wp2
    go_ret
    exact ⟨rfl, rfl⟩

#print axioms format_any
#print axioms unit_any
end Go.Proofs.Qxb6612180aDoor
