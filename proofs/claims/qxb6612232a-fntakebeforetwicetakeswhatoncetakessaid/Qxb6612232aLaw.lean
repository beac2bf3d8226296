/-
  The plain law: what Lead and Off say of counts and order. No Go in sight.
-/
import Derived.Test.Qxb6612232aTook
namespace Go.Proofs.Qxb6612232a
open Go Go.RowKit

def Rising (rs : List Int) (n : Nat) : Prop := ∀ j, 0 < j → j < n → rs.getD (j - 1) 0 ≤ rs.getD j 0

theorem Rising.le {rs : List Int} (h : Rising rs rs.length) : ∀ d i, i + d < rs.length → rs.getD i 0 ≤ rs.getD (i + d) 0
  | 0, i, _ => Int.le_refl _
  | d + 1, i, hd => Int.le_trans (h.le d i (by omega)) (by have := h (i + (d + 1)) (by omega) hd; have e : i + (d + 1) - 1 = i + d := by omega
                                                           rwa [e] at this)

theorem Lead.rest {rs : List Int} {row : Int} {k : Nat} (h : Lead rs row k) (hs : Rising rs rs.length) (j : Nat) (hj : k ≤ j) (hl : j < rs.length) : row ≤ rs.getD j 0 := by
  have h1 := h.high (by omega)
  have h2 := hs.le (j - k) k (by omega)
  have e : k + (j - k) = j := by omega
  rw [e] at h2
  omega

theorem mem_take_getD {l : List Int} {k : Nat} {x : Int} (h : x ∈ l.take k) : ∃ j, j < k ∧ j < l.length ∧ l.getD j 0 = x := by
  obtain ⟨j, hj, e⟩ := mem_getD h
  have hj' := hj
  rw [List.length_take] at hj'
  refine ⟨j, by omega, by omega, ?_⟩
  rw [← e, getD_take (by omega)]

theorem getD_drop (l : List Int) (k j : Nat) : (l.drop k).getD j 0 = l.getD (k + j) 0 := by simp [List.getD, List.getElem?_drop]

theorem mem_drop_getD {l : List Int} {k : Nat} {x : Int} (h : x ∈ l.drop k) : ∃ j, k ≤ j ∧ j < l.length ∧ l.getD j 0 = x := by
  obtain ⟨j, hj, e⟩ := mem_getD h
  rw [List.length_drop] at hj
  exact ⟨k + j, by omega, by omega, by rw [← e, getD_drop]⟩

theorem below_all {l : List Int} {v : Int} (h : ∀ x ∈ l, x < v) : below l v = l.length := List.countP_eq_length.2 (fun a ha => decide_eq_true (h a ha))
theorem below_none {l : List Int} {v : Int} (h : ∀ x ∈ l, v ≤ x) : below l v = 0 := List.countP_eq_zero.2 (fun a ha => by have := h a ha; simp; omega)
theorem below_append (l m : List Int) (v : Int) : below (l ++ m) v = below l v + below m v := List.countP_append

theorem Lead.count {rs : List Int} {row : Int} {k : Nat} (h : Lead rs row k) (hs : Rising rs rs.length) : below rs row = k := by
  have e : below rs row = below (rs.take k ++ rs.drop k) row := by rw [List.take_append_drop]
  rw [e, below_append, below_all (fun x hx => ?_), below_none (fun x hx => ?_), List.length_take]
  · have := h.le; omega
  · obtain ⟨j, h1, h2, rfl⟩ := mem_drop_getD hx
    exact h.rest hs j h1 h2
  · obtain ⟨j, h1, h2, rfl⟩ := mem_take_getD hx
    exact h.low j h1

theorem heap_rest {hs2 : List Int} {row : Int} (hh : IsHeap hs2 hs2.length) (h : 0 < hs2.length → row ≤ hs2.getD 0 0) : ∀ y ∈ hs2, row ≤ y := by
  intro y hy
  obtain ⟨k, hk, rfl⟩ := mem_getD hy
  exact Int.le_trans (h (by omega)) (heap_top hh k hk)

theorem Off.count {hs ts2 hs2 : List Int} {row : Int} (h : Off hs row ts2 hs2) (hr : ∀ y ∈ hs2, row ≤ y) : below hs row = ts2.length := by
  have e : below hs row = below (ts2 ++ hs2) row := (h.perm.countP_eq _).symm
  rw [e, below_append, below_all h.low, below_none hr]
  omega

theorem Off.cn {hs ts2 hs2 : List Int} {row : Int} (h : Off hs row ts2 hs2) (x : Int) : cn ts2 x + cn hs2 x = cn hs x := by
  unfold Qxb6612232a.cn
  have := h.perm.count_eq x
  rw [List.count_append] at this
  omega

theorem Off.len {hs ts2 hs2 : List Int} {row : Int} (h : Off hs row ts2 hs2) : ts2.length + hs2.length = hs.length := by
  have := h.perm.length_eq
  simpa using this

theorem Off.wf {hs ts2 hs2 : List Int} {row : Int} (h : Off hs row ts2 hs2) (hw : ∀ n ∈ hs, (Lit.int .i64 n).wf = true) : (∀ n ∈ ts2, (Lit.int .i64 n).wf = true) ∧ ∀ n ∈ hs2, (Lit.int .i64 n).wf = true :=
  ⟨fun n hn => hw n (h.perm.mem_iff.1 (by simp [hn])), fun n hn => hw n (h.perm.mem_iff.1 (by simp [hn]))⟩

theorem getD_append_left' (l m : List Int) (j : Nat) (h : j < l.length) : (l ++ m).getD j 0 = l.getD j 0 := by simp [List.getD, List.getElem?_append_left h]
theorem getD_append_right' (l m : List Int) (j : Nat) : (l ++ m).getD (l.length + j) 0 = m.getD j 0 := by simp [List.getD, List.getElem?_append_right]

theorem pairwise_getD {l : List Int} (h : l.Pairwise (· ≤ ·)) : Rising l l.length := by
  intro j h0 hj
  have := List.pairwise_iff_getElem.1 h (j - 1) j (by omega) hj (by omega)
  have h1 : j - 1 < l.length := by omega
  simpa [List.getD, hj, h1] using this
end Go.Proofs.Qxb6612232a
