/-
  ZZtakeBefore, whole: what it hands out and what it leaves.
-/
import Derived.Test.Qxb6612232aBefore
import Derived.Test.Qxb6612232aSmall
namespace Go.Proofs.Qxb6612232a
open Go Go.RowKit

/-- A slice of the ints xs whose block lies at N or above. -/
def IntsAt (N : Nat) (w : World) (a : Option Addr) (xs : List Int) : Prop :=
  0 < xs.length → ∃ b off, a = some ⟨b, off, none⟩ ∧ N ≤ b ∧ ∀ j, j < xs.length → w.cell? ⟨b, off + j, none⟩ = some (.int .i64 (xs.getD j 0))

theorem IntsAt.ints {N : Nat} {w : World} {a : Option Addr} {xs : List Int} (h : IntsAt N w a xs) : Ints w a xs := fun h0 => by
  obtain ⟨b, off, e, _, hc⟩ := h h0
  exact ⟨b, off, e, hc⟩

theorem IntsAt.kept {S : Nat → Prop} {N : Nat} {w w' : World} {a : Option Addr} {xs : List Int} (h : IntsAt N w a xs) (k : Keep S w w') (hS : ∀ x, N ≤ x → x < w.heap.size → ¬ S x) : IntsAt N w' a xs := fun h0 => by
  obtain ⟨b, off, e, hN, hc⟩ := h h0
  exact ⟨b, off, e, hN, fun j hj => k.cell (hS b hN (World.block_lt_of_cell? _ _ (hc j hj))) (hc j hj)⟩

/-- Where the heap is empty, its block may be any that nothing else is in. -/
theorem Filled.other {w : World} {F g g' : Nat} {rs hs : List Int} (h : Filled w F g rs hs) (h0 : hs = []) (hg : w.heap.size ≤ g') : Filled w F g' rs hs := by
  subst h0
  have lF := h.lt
  obtain ⟨ra, rcap, a1, a2, a3⟩ := h.c0
  obtain ⟨ga, cap, b1, b2, _⟩ := h.c1
  refine ⟨by omega, ⟨ra, rcap, a1, a2, fun h0 => ?_⟩, ⟨ga, cap, b1, b2, fun h0 => absurd h0 (by simp)⟩, h.free, h.heap⟩
  obtain ⟨b, off, e1, e2, e3, e4⟩ := a3 h0
  have := World.block_lt_of_cell? _ _ (e4 0 h0)
  exact ⟨b, off, e1, e2, by simp at this; omega, e4⟩

/-- What ZZtakeBefore leaves. -/
structure Took (w w' : World) (F g : Nat) (rs hs : List Int) (row : Int) (k : Nat) (ts2 hs2 : List Int) (a : Option Addr) (cap : Nat) : Prop where
  lead : Lead rs row k
  off : Off hs row ts2 hs2
  high : 0 < hs2.length → row ≤ hs2.getD 0 0
  filled : ∃ g2, (0 < hs2.length → g2 = g) ∧ Filled w' F g2 (rs.drop k) hs2
  taken : IntsAt (w.heap.size + 1) w' a (rs.take k ++ ts2)
  room : (rs.take k ++ ts2).length ≤ cap
  keep : Keep (fun x => x = F ∨ (0 < hs.length ∧ x = g) ∨ w.heap.size ≤ x) w w'

theorem Taken.ints {w : World} {T base : Nat} {ts : List Int} (h : Taken w T base ts) : ∃ a cap, w.cell? ⟨T, 0, none⟩ = some (.slice a ts.length cap) ∧ IntsAt base w a ts ∧ ts.length ≤ cap := by
  obtain ⟨v, hc, ho⟩ := h.ex
  have ho' := ho
  rcases ho.2 with ⟨rfl, e2⟩ | ⟨g, cap, cur, rfl, e2, e3, e4⟩
  · refine ⟨none, 0, ?_, fun h0 => ?_, ?_⟩
    · rw [hc]; simp [e2]
    · omega
    · omega
  · refine ⟨_, cap, hc, fun h0 => ⟨g, 0, rfl, e2, fun j hj => ?_⟩, e4.1⟩
    have := ho'.cellAt j (by simpa using hj)
    rw [Nat.zero_add, this]
    simp [List.getD, hj]

theorem take_walk (F g : Nat) (rs hs : List Int) (row : Int) (w : World) (h : Filled w F g rs hs) (hl : rs.length + hs.length ≤ 190000) :
    Calls Try.prog 17 #[.pointer (some ⟨F, 0, none⟩), .int .i64 row] w fun e w' => ∃ k ts2 hs2 a cap, e = .returned (.slice a (rs.take k ++ ts2).length cap) ∧ After w w' F g rs hs row k ts2 hs2 ∧ IntsAt (w.heap.size + 1) w' a (rs.take k ++ ts2) ∧ (rs.take k ++ ts2).length ≤ cap := by
  have HF := hide h
  clear h
  go_enter Try.func17, Try.ntmps17
  go_wp2_with fail
  refine (before_any F g rs hs row w HF.out hl).mono ?_
  rintro e w1 ⟨rfl, k, ts2, hs2, hA⟩
  obtain ⟨a, cap, c1, c2, c3⟩ := hA.taken.ints
  have R := hide (And.intro hA (And.intro c2 c3))
  obtain ⟨N, hN⟩ : ∃ N, (rs.take k ++ ts2).length = N := ⟨_, rfl⟩
  rw [hN] at c1
  have HN := hide hN
  clear hA c2 c3 hN
  go_wp2
  go_ret
  exact ⟨k, ts2, hs2, a, cap, by rw [HN.out]; rfl, R.out.1, R.out.2.1, R.out.2.2⟩

theorem took_any (F g : Nat) (rs hs : List Int) (row : Int) (w : World) (h : Filled w F g rs hs) (hl : rs.length + hs.length ≤ 190000) :
    Calls Try.prog 17 #[.pointer (some ⟨F, 0, none⟩), .int .i64 row] w fun e w' => ∃ k ts2 hs2 a cap, e = .returned (.slice a (rs.take k ++ ts2).length cap) ∧ Took w w' F g rs hs row k ts2 hs2 a cap := by
  by_cases h0 : hs = []
  · refine (take_walk F w.heap.size rs hs row w (h.other h0 (Nat.le_refl _)) hl).mono ?_
    rintro e w1 ⟨k, ts2, hs2, a, cap, rfl, hA, c1, c2⟩
    have hs20 : hs2 = [] := by
      have := hA.off.perm.length_eq
      rw [h0] at this
      simp at this
      exact this.2
    have hF := h.lt
    have lg := hA.keep.size
    exact ⟨k, ts2, hs2, a, cap, rfl, hA.lead, hA.off, hA.high, ⟨w.heap.size, fun h1 => absurd h1 (by simp [hs20]), hA.filled⟩, c1, c2, hA.keep.mono (fun x hx => by omega)⟩
  · have hp : 0 < hs.length := List.length_pos_iff.2 h0
    refine (take_walk F g rs hs row w h hl).mono ?_
    rintro e w1 ⟨k, ts2, hs2, a, cap, rfl, hA, c1, c2⟩
    exact ⟨k, ts2, hs2, a, cap, rfl, hA.lead, hA.off, hA.high, ⟨g, fun _ => rfl, hA.filled⟩, c1, c2, hA.keep.mono (fun x hx => by omega)⟩
#print axioms took_any
end Go.Proofs.Qxb6612232a
