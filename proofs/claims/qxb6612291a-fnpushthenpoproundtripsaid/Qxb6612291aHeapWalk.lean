/-
  The walk of FnPushThenPopRoundTrip, out of the contracts.
-/
import Derived.Test.Qxb6612291aHeapB
namespace Go.Proofs.Qxb6612291a.fnPushThenPopRoundTrip
open Go.RowKit

/-- WHAT THE WALK IS TOLD OF A SLICE OF INTEGERS THAT CAME IN: it is nil; or it leads to a row of 'cap' cells, the numbers 'zs' (the first 'len' are its elements, the rest its spare room), each fitting its kind. -/
def IsRow (k : IntKind) (w : World) (a : Option Addr) (len cap : Nat) (zs : List Int) : Prop :=
  (a = none ∧ len = 0 ∧ cap = 0 ∧ zs = []) ∨
  ∃ x, a = some x ∧ len ≤ cap ∧ cap ≤ maxLen ∧ zs.length = cap ∧ (∀ i, i < zs.length → w.cell? (x.add i) = some (.int k (zs.getD i 0))) ∧ ∀ n ∈ zs, (Lit.int k n).wf = true

theorem isRow_ints {w : World} {a : Option Addr} {len cap : Nat} {zs : List Int} (h : IsRow .i64 w a len cap zs) : Ints w a len zs := by
  intro hl
  rcases h with ⟨_, rfl, _, _⟩ | ⟨x, rfl, hlc, _, hz, hc, _⟩
  · omega
  · obtain ⟨b, off, sp⟩ := x
    have hsp : sp = none := by simpa [Addr.add] using World.cell?_spot (hc 0 (by omega))
    subst hsp
    refine ⟨b, off, rfl, fun j hj => ?_⟩
    have := hc j (by omega)
    rwa [Go.WideShapes.add_plain] at this

/-- zzCloneInts at whatever slice. -/
theorem clone_any (a : Option Addr) (n c : Nat) (zs : List Int) (w : World) (hn : n ≤ 131072) (hnone : a = none → n = 0 ∧ c = 0) (h : Ints w a n zs) :
    Calls Try.prog 13 #[.slice a n c] w fun e w' => ∃ a', e = .returned (.slice a' n n) ∧ (a' = none → n = 0 ∧ n = 0) ∧ Ints w' a' n zs ∧ Below w.heap.size w w' := by
  cases a with
  | none =>
    obtain ⟨rfl, rfl⟩ := hnone rfl
    refine (clone_nil w).mono ?_
    rintro e w' ⟨rfl, rfl⟩
    exact ⟨none, rfl, fun _ => ⟨rfl, rfl⟩, fun h => absurd h (by omega), Below.refl _ _⟩
  | some x =>
    obtain ⟨b, off, sp⟩ := x
    have key : 0 < n → sp = none ∧ ∀ j, j < n → w.cell? ⟨b, off + j, none⟩ = some (.int .i64 (zs.getD j 0)) := by
      intro h0
      obtain ⟨b', off', e, hc⟩ := h h0
      simp only [Option.some.injEq, Addr.mk.injEq] at e
      obtain ⟨rfl, rfl, rfl⟩ := e
      exact ⟨rfl, hc⟩
    refine (clone_some b off sp n c zs w hn (fun h0 => World.block_lt_of_cell? _ _ ((key h0).2 0 h0)) (fun h0 => (key h0).1) (fun j hj => (key (by omega)).2 j hj)).mono ?_
    rintro e w' ⟨g, rfl, h1, h2, h3, h4⟩
    exact ⟨_, rfl, fun h => by simp at h, fun _ => ⟨g, 0, rfl, fun j hj => by rw [Nat.zero_add]; exact h3 j hj⟩, h4⟩

set_option maxHeartbeats 1000000 in
theorem walk (a0 : Option Addr) (len0 cap0 : Nat) (z0 : List Int) (a1 : Int) (w : World) (w0 : IsRow .i64 w a0 len0 cap0 z0) :
    Calls Try.prog 7 #[.slice a0 len0 cap0, .int .i64 a1] w fun e w' => e = .returned (.bool true) ∧ Below w.heap.size w w' := by
  have hI := hide (isRow_ints w0)
  have hN : Hid (a0 = none → len0 = 0 ∧ cap0 = 0) := by
    rintro rfl
    rcases w0 with ⟨_, h1, h2, _⟩ | ⟨x, h, _⟩
    · exact ⟨h1, h2⟩
    · simp at h
  have hm : len0 ≤ 9223372036854775807 := by
    rcases w0 with ⟨_, h1, h2, _⟩ | ⟨x, _, h1, h2, _⟩
    · omega
    · unfold maxLen at h2; omega
  clear w0
  by_cases hbig : (131072 : Int) < len0
  · by_cases hbig2 : (1048576 : Int) < len0
    · go_enter Try.func7, Try.ntmps7
      go_wp2
      go_ret
      exact ⟨rfl, Below.refl _ _⟩
    · go_enter Try.func7, Try.ntmps7
      go_wp2
      go_ret
      exact ⟨rfl, Below.refl _ _⟩
  · have hn : len0 ≤ 131072 := by omega
    go_enter Try.func7, Try.ntmps7
    go_wp2_with (first
      | (go_at_call 18; go_in)
      | (go_at_call 13; refine (clone_any _ _ _ z0 _ hn hN.out hI.out).mono ?_; rintro e w1 ⟨a', rfl, h1, h2, h3⟩; have H1 := hide h1; have H2 := hide h2; have H3 := hide h3; clear h1 h2 h3)
      | (go_at_call 17; refine (zzpush_any _ _ z0 a1 _ hn H1.out H2.out).mono ?_; rintro e w2 ⟨g, cap, rfl, p1, p2, p3, p4, p5, p6⟩; have H4 := hide p4; have H6 := hide p6; clear p4 p6))
    refine (zzpop_any g 0 len0 cap a1 _ hn p3 (by rw [Nat.zero_add]; exact p5)).mono ?_
    rintro e w3 ⟨rfl, p7⟩
    have hb1 := H3.out
    have hb2 := H6.out
    have hs1 := hb1.size
    have hs2 := hb2.size
    have hb12 : Below w.heap.size w w2 := hb1.trans (hb2.mono hs1)
    have hb13 : Below w.heap.size w w3 := hb12.trans (p7.mono hb12.size)
    have i0 : Ints w3 a0 len0 z0 := ints_later hI.out hb13
    have i1 : Ints w3 (some ⟨g, 0, none⟩) len0 z0 := ints_later (w := w2) (fun _ => ⟨g, 0, rfl, fun j hj => by rw [Nat.zero_add]; exact H4.out j hj⟩) p7
    have J0 := hide i0
    have J1 := hide i1
    have J2 := hide hb13
    clear i0 i1 hb13 hb12 hs1 hs2 hb1 hb2 p7 H1 H2 H3 H4 H6 hI hN p5
    go_wp2_with (go_at_call 15; refine (equal_true _ _ _ _ _ z0 _ hn J1.out J0.out).mono ?_; rintro e w4 ⟨rfl, p8⟩)
    go_ret
    exact ⟨rfl, J2.out.trans (p8.mono J2.out.size)⟩

#print axioms walk
end Go.Proofs.Qxb6612291a.fnPushThenPopRoundTrip
