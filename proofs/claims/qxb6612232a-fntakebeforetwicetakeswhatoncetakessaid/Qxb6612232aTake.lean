/-
  The gathering closure, takeBefore, ZZtakeBefore.
-/
import Derived.Test.Qxb6612232aPop
import Derived.Lib.SmallJoins
namespace Go.Proofs.Qxb6612232a
open Go Go.RowKit

theorem info3 : (Try.prog.info? 3).map (fun i => (i.zero, i.size, i.bytes)) = some (some (.int .i64 0), 1, 8) := by kernel_rfl

/-- The captured variable 'taken', in block T: it holds the ints ts, in memory of the call's own. -/
structure Taken (w : World) (T base : Nat) (ts : List Int) : Prop where
  ex : ∃ v, w.cell? ⟨T, 0, none⟩ = some v ∧ w.ownsRow base 3 1 v ts.length (ts.map (Value.int .i64))
  free : w.frozen? ⟨T, 0, none⟩ = false
  lt : T < base
  le : base ≤ w.heap.size

theorem taken_stored {w w1 : World} {T base g cap n : Nat} {ts : List Int} {r : Int} {v0 : Value} (h : Taken w T base ts) (hn : n = ts.length + 1) (hc : w1.cell? ⟨T, 0, none⟩ = some v0) (hf : w1.frozen? ⟨T, 0, none⟩ = false)
    (hown : w1.ownsRow base 3 1 (.slice (some ⟨g, 0, none⟩) n cap) n (ts.map (Value.int .i64) ++ [.int .i64 r])) (hk : Keep (base ≤ ·) w w1) :
    Taken (w1.setCell ⟨T, 0, none⟩ (.slice (some ⟨g, 0, none⟩) n cap)) T base (ts ++ [r]) ∧ Keep (fun k => k = T ∨ base ≤ k) w (w1.setCell ⟨T, 0, none⟩ (.slice (some ⟨g, 0, none⟩) n cap)) := by
  have hk' : Keep (fun k => k = T ∨ base ≤ k) w w1 := hk.mono (fun k h => Or.inr h)
  refine ⟨⟨⟨_, World.cell?_setCell_same _ _ _ hc, ?_⟩, ?_, h.lt, ?_⟩, hk'.setCell (p := ⟨T, 0, none⟩) (Or.inl rfl) _⟩
  · have e1 : (ts ++ [r]).length = n := by simp [hn]
    have e2 : (ts ++ [r]).map (Value.int .i64) = ts.map (Value.int .i64) ++ [.int .i64 r] := by simp
    rw [e1, e2]
    exact ownsRow_setCell_below hown (a := ⟨T, 0, none⟩) h.lt _
  · rw [World.frozen?_setCell]; exact hf
  · have := h.le
    have := hk.size
    simp only [World.setCell, Array.size_modify]
    omega

set_option maxHeartbeats 1000000 in
/-- The closure appends one row to 'taken'. -/
theorem gather_any (T base : Nat) (ts : List Int) (r : Int) (w : World) (h : Taken w T base ts) (hl : ts.length ≤ 200000) :
    Calls Try.prog 27 #[.int .i64 r, .pointer (some ⟨T, 0, none⟩)] w fun e w' => e = .returned (.tuple #[]) ∧ Taken w' T base (ts ++ [r]) ∧ Keep (fun k => k = T ∨ base ≤ k) w w' := by
  obtain ⟨i0, hi, hz0, hz1, hz2⟩ := info_parts info3
  obtain ⟨v, hc, hown⟩ := h.ex
  have hf := h.free
  have hlt := h.lt
  have hle := h.le
  have H := hide h
  have HO := hide hown
  have HC := hide hc
  have lT : T < w.heap.size := by omega
  rcases Joins.ownsRow_forms hown with ⟨hv, h0⟩ | ⟨g, cap, hv⟩
  · rw [hv] at hc HO
    have H0 := hide h0
    clear hown h hv h0
    go_enter Try.func27, Try.ntmps27
    go_wp2_with (at_builtin; refine wpList_append_own _ rfl _ _ 46 rfl base 3 i0 (.int .i64 0) 1 8 Try.underlying46 hi hz0 hz1 hz2 rfl (by decide) _ _ _ rfl (HO.out.alloc _) ⟨w.heap.size, 0, none⟩ 1 1 [.int .i64 r] rfl rfl (cell_one_new _ _ _) (ints_oneCell .i64 [r]) (by unfold maxLen; omega) (by omega) (by simp; omega) ?_)
    intro v' w1 hown' hgrow _
    obtain ⟨g', cap', hv'⟩ := Joins.ownsRow_form hown' (by omega)
    rw [hv'] at hown' ⊢
    have hk : Keep (base ≤ ·) w w1 := ((Keep.refl (base ≤ ·) w).alloc _).grown hgrow (fun k h => by cases h)
    have c1 := hk.cell (by omega) HC.out
    have f1 := (hk.frozen (j := 0) (by omega) lT).trans hf
    have R := hide (taken_stored H.out (by rw [H0.out]) c1 f1 hown' hk)
    clear hown' hgrow hk
    go_wp2
    go_end0
    exact ⟨rfl, R.out⟩
  · rw [hv] at hc HO
    have hge : base ≤ g := by
      rcases HO.out.2 with ⟨e, _⟩ | ⟨g1, cap1, cur, e, hb, _⟩
      · simp at e
      · simp only [Value.slice.injEq, Option.some.injEq, Addr.mk.injEq] at e
        omega
    clear hown h hv
    go_enter Try.func27, Try.ntmps27
    go_wp2_with (at_builtin; refine wpList_append_own _ rfl _ _ 46 rfl base 3 i0 (.int .i64 0) 1 8 Try.underlying46 hi hz0 hz1 hz2 rfl (by decide) _ _ _ rfl (HO.out.alloc _) ⟨w.heap.size, 0, none⟩ 1 1 [.int .i64 r] rfl rfl (cell_one_new _ _ _) (ints_oneCell .i64 [r]) (by unfold maxLen; omega) (by omega) (by simp; omega) ?_)
    intro v' w1 hown' hgrow _
    obtain ⟨g', cap', hv'⟩ := Joins.ownsRow_form hown' (by omega)
    rw [hv'] at hown' ⊢
    have hk : Keep (base ≤ ·) w w1 := ((Keep.refl (base ≤ ·) w).alloc _).grown hgrow (fun k h => by cases h; exact hge)
    have c1 := hk.cell (by omega) HC.out
    have f1 := (hk.frozen (j := 0) (by omega) lT).trans hf
    have R := hide (taken_stored H.out rfl c1 f1 hown' hk)
    clear hown' hgrow hk
    go_wp2
    go_end0
    exact ⟨rfl, R.out⟩

#print axioms gather_any
end Go.Proofs.Qxb6612232a
