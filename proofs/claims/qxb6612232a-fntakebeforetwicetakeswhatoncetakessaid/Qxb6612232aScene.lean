/-
  What the law's comparing loops are told: the plain facts, and where the slices lie.
-/
import Derived.Test.Qxb6612232aPrep
namespace Go.Proofs.Qxb6612232a
open Go Go.RowKit

theorem Copied.later {w wr w' : World} {ra : Option Addr} {rcap : Nat} {rs : List Int} (h : Copied w wr ra rcap rs) (hb : Below wr.heap.size wr w') : Copied w w' ra rcap rs :=
  ⟨fun h0 => by
    obtain ⟨b, off, e, hN, hc⟩ := h.ints h0
    exact ⟨b, off, e, hN, fun j hj => cell_later hb (hc j hj)⟩, h.room, h.below.trans (hb.mono h.below.size)⟩

theorem countBelow_of (a : Option Addr) (c : Nat) (xs : List Int) (v : Int) (n : Nat) (w : World) (h : Ints w a xs) (hl : xs.length ≤ 200000) (hn : below xs v = n) :
    Calls Try.prog 20 #[.slice a xs.length c, .int .i64 v] w fun e w' => e = .returned (.int .i64 (n : Int)) ∧ w = w' := by
  subst hn
  exact countBelow_any a c xs v w h hl

/-- The filledRows that ZZnewFilledRows builds out of the copy and the clone. -/
theorem filled_new {w wr w1 : World} {ra ga : Option Addr} {rcap gcap : Nat} {rs hs : List Int} (hC : Copied w wr ra rcap rs) (g1 : hs.length ≤ gcap) (g2 : 0 < hs.length → ga = some ⟨wr.heap.size, 0, none⟩ ∧ HRow w1 wr.heap.size hs) (g3 : Below wr.heap.size wr w1) (hh : IsHeap hs hs.length) :
    ∃ g, (0 < hs.length → g = wr.heap.size) ∧ Filled (w1.alloc (.cells #[.slice ra rs.length rcap, .slice ga hs.length gcap, .slice none 0 0] 67)) w1.heap.size g rs hs := by
  have h13 := g3.size
  have k1 : Keep (fun _ => False) w1 (w1.alloc (.cells #[.slice ra rs.length rcap, .slice ga hs.length gcap, .slice none 0 0] 67)) := (Keep.refl _ _).alloc _
  obtain ⟨g, hg1, hg2, hg3⟩ : ∃ g, (0 < hs.length → g = wr.heap.size) ∧ w1.heap.size ≠ g ∧ wr.heap.size ≤ g := by
    by_cases h0 : 0 < hs.length
    · have := (g2 h0).2.lt
      exact ⟨wr.heap.size, fun _ => rfl, by omega, Nat.le_refl _⟩
    · exact ⟨w1.heap.size + 1, fun h => absurd h h0, by omega, by omega⟩
  refine ⟨g, hg1, hg2, ⟨ra, rcap, by simp, hC.room, fun h0 => ?_⟩, ⟨ga, gcap, by simp, g1, fun h0 => ?_⟩, fun j => by simp, hh⟩
  · obtain ⟨b, off, e, _, hc⟩ := hC.ints h0
    have hb : b < wr.heap.size := World.block_lt_of_cell? _ _ (hc 0 h0)
    exact ⟨b, off, e, by omega, by omega, fun j hj => k1.cell (fun h => h) (cell_later g3 (hc j hj))⟩
  · obtain rfl := hg1 h0
    exact ⟨(g2 h0).1, (g2 h0).2.kept k1 (fun h => h)⟩

/-- Where the slices lie that the law compares. -/
structure Scene (w wr : World) (ra : Option Addr) (rs : List Int) (ta : Option Addr) (ts : List Int) (qa : Option Addr) (qs : List Int) (ga : Option Addr) (gs : List Int) (a1 : Option Addr) (hs : List Int) : Prop where
  r : Ints wr ra rs
  t : Ints wr ta ts
  q : Ints wr qa qs
  g : Ints wr ga gs
  h : Ints wr a1 hs
  below : Below w.heap.size w wr

theorem Scene.drewN {w wr : World} {ra ta qa ga a1 : Option Addr} {rs ts qs gs hs : List Int} (h : Scene w wr ra rs ta ts qa qs ga gs a1 hs) (n : Nat) : Scene w (wr.drewN n) ra rs ta ts qa qs ga gs a1 hs :=
  ⟨h.r, h.t, h.q, h.g, h.h, ⟨h.below.os, h.below.tape, h.below.output, h.below.size, h.below.block⟩⟩

theorem Filled.shown {w : World} {F g : Nat} {rs hs : List Int} (h : Filled w F g rs hs) : ∃ ra rcap ga gcap, w.cell? ⟨F, 0, none⟩ = some (.slice ra rs.length rcap) ∧ w.cell? ⟨F, 1, none⟩ = some (.slice ga hs.length gcap) ∧ Ints w ra rs ∧ Ints w ga hs := by
  obtain ⟨ra, rcap, a1, _, a3⟩ := h.c0
  obtain ⟨ga, gcap, b1, _, b3⟩ := h.c1
  refine ⟨ra, rcap, ga, gcap, a1, b1, fun h0 => ?_, fun h0 => ?_⟩
  · obtain ⟨b, off, e1, _, _, e4⟩ := a3 h0
    exact ⟨b, off, e1, e4⟩
  · exact ⟨g, 0, (b3 h0).1, fun j hj => by rw [Nat.zero_add]; exact (b3 h0).2.holds j hj⟩

/-- Behind a take: what was there when the rows were built is as it was. -/
theorem Took.still {wr w2 w3 : World} {F g k cap : Nat} {rs hs ts2 hs2 : List Int} {row : Int} {a : Option Addr} (h : Took w2 w3 F g rs hs row k ts2 hs2 a cap) (hb : Below wr.heap.size wr w2) (hF : wr.heap.size ≤ F) (hg : 0 < hs.length → wr.heap.size ≤ g) : Below wr.heap.size wr w3 := by
  have hs2 := hb.size
  exact hb.trans (h.keep.below hs2 (fun x hx => by omega))

/-- The plain facts. -/
structure Plain (row : Int) (k : Nat) (rs ts qs hs ts2 hs2 : List Int) : Prop where
  kle : k ≤ rs.length
  tl : ts.length = k + ts2.length
  ql : qs.length = rs.length - k
  hl : ts2.length + hs2.length = hs.length
  cr : below rs row = k
  ch : below hs row = ts2.length
  low : ∀ p, p < k → rs.getD p 0 < row ∧ ts.getD p 0 = rs.getD p 0
  high : ∀ p, k ≤ p → p < rs.length → row ≤ rs.getD p 0 ∧ qs.getD (p - k) 0 = rs.getD p 0
  tlow : ∀ p, k ≤ p → p < ts.length → ts.getD p 0 < row
  tris : ∀ p, k ≤ p → p + 1 < ts.length → ts.getD p 0 ≤ ts.getD (p + 1) 0
  tcut : ∀ j, j < ts2.length → ts.getD (k + j) 0 = ts2.getD j 0
  hhigh : ∀ p, p < hs2.length → row ≤ hs2.getD p 0
  hheap : IsHeap hs2 hs2.length
  cn : ∀ x, cn ts2 x + cn hs2 x = cn hs x
  wt : ∀ n ∈ ts2, (Lit.int .i64 n).wf = true
  wh : ∀ n ∈ hs2, (Lit.int .i64 n).wf = true

theorem getD_mem {l : List Int} {p : Nat} (h : p < l.length) : l.getD p 0 ∈ l := by
  have e : l.getD p 0 = l[p] := by simp [List.getD, h]
  rw [e]
  exact List.getElem_mem h

theorem plain_of {row : Int} {k : Nat} {rs hs ts2 hs2 : List Int} (hL : Lead rs row k) (hO : Off hs row ts2 hs2) (hh : 0 < hs2.length → row ≤ hs2.getD 0 0) (hp : IsHeap hs2 hs2.length) (hR : Rising rs rs.length) (hw : ∀ n ∈ hs, (Lit.int .i64 n).wf = true) :
    Plain row k rs (rs.take k ++ ts2) (rs.drop k) hs ts2 hs2 := by
  have kle := hL.le
  have tk : (rs.take k).length = k := by rw [List.length_take]; omega
  have rest := heap_rest hp hh
  have cut : ∀ j, (rs.take k ++ ts2).getD (k + j) 0 = ts2.getD j 0 := fun j => by
    have := getD_append_right' (rs.take k) ts2 j
    rwa [tk] at this
  have ris := pairwise_getD hO.sorted
  refine ⟨kle, by rw [List.length_append, tk], List.length_drop, hO.len, hL.count hR, hO.count rest, fun p hp => ⟨hL.low p hp, ?_⟩, fun p h1 h2 => ⟨hL.rest hR p h1 h2, ?_⟩, fun p h1 h2 => ?_, fun p h1 h2 => ?_, fun j _ => cut j, fun p hp => rest _ (getD_mem hp), hp, hO.cn, (hO.wf hw).1, (hO.wf hw).2⟩
  · rw [getD_append_left' _ _ _ (by omega), getD_take hp]
  · rw [getD_drop]
    congr 1
    omega
  · rw [List.length_append, tk] at h2
    have := cut (p - k)
    have e : k + (p - k) = p := by omega
    rw [e] at this
    rw [this]
    exact hO.low _ (getD_mem (by omega))
  · rw [List.length_append, tk] at h2
    have c1 := cut (p - k)
    have c2 := cut (p - k + 1)
    have e1 : k + (p - k) = p := by omega
    have e2 : k + (p - k + 1) = p + 1 := by omega
    rw [e1] at c1
    rw [e2] at c2
    rw [c1, c2]
    have := ris (p - k + 1) (by omega) (by omega)
    simpa using this
end Go.Proofs.Qxb6612232a
