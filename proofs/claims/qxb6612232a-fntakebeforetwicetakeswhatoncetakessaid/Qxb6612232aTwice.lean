/-
  FnTakeBeforeTwiceTakesWhatOnceTakes: the plain law, and the worlds between the takes.
-/
import Derived.Test.Qxb6612232aScene
namespace Go.Proofs.Qxb6612232a
open Go Go.RowKit

/-! ### The plain law -/

theorem cn_append (l m : List Int) (x : Int) : cn (l ++ m) x = cn l x + cn m x := by unfold cn; rw [List.count_append]; omega
theorem cn_zero {l : List Int} {x : Int} (h : x ∉ l) : cn l x = 0 := by unfold cn; rw [List.count_eq_zero_of_not_mem h]; rfl
theorem cn_perm {l m : List Int} (h : ∀ x, cn l x = cn m x) : l.Perm m := List.perm_iff_count.2 (fun x => by have := h x; unfold cn at this; omega)

/-- What one take does to a heap: the counts below the row are taken, those from the row on are left. -/
structure Parts (row : Int) (hs ts2 hs2 : List Int) : Prop where
  low : ∀ x, x < row → cn ts2 x = cn hs x ∧ cn hs2 x = 0
  high : ∀ x, row ≤ x → cn ts2 x = 0 ∧ cn hs2 x = cn hs x

theorem parts_of {hs ts2 hs2 : List Int} {row : Int} (h : Off hs row ts2 hs2) (hr : ∀ y ∈ hs2, row ≤ y) : Parts row hs ts2 hs2 := by
  refine ⟨fun x hx => ?_, fun x hx => ?_⟩
  · have e := h.cn x
    have z : cn hs2 x = 0 := cn_zero (fun hm => by have := hr x hm; omega)
    exact ⟨by omega, z⟩
  · have e := h.cn x
    have z : cn ts2 x = 0 := cn_zero (fun hm => by have := h.low x hm; omega)
    exact ⟨z, by omega⟩

theorem rising_drop {rs : List Int} (h : Rising rs rs.length) (k : Nat) : Rising (rs.drop k) (rs.drop k).length := by
  intro j h1 h2
  rw [List.length_drop] at h2
  rw [getD_drop, getD_drop]
  have := h (k + j) (by omega) (by omega)
  have e : k + j - 1 = k + (j - 1) := by omega
  rwa [e] at this

/-- What the law of the two takes asks, all of it. -/
structure Plain6 (a b : Int) (rs hs first second again once q1 q2 t1 t2 : List Int) : Prop where
  lf : first.length = below rs a + below hs a
  lo : once.length = below rs b + below hs b
  la : again.length = 0
  fl : ∀ p, p < first.length → first.getD p 0 < a
  sl : ∀ p, p < second.length → a ≤ second.getD p 0 ∧ second.getD p 0 < b
  ls : first.length + second.length = once.length
  cs : ∀ x, cn first x + cn second x = cn once x
  rr : q1 = q2
  lt : t1.length = t2.length
  ct : ∀ x, cn t1 x = cn t2 x
  fsize : first.length ≤ rs.length + hs.length
  ssize : second.length ≤ rs.length + hs.length
  osize : once.length ≤ rs.length + hs.length
  qsize : q1.length ≤ rs.length
  tsize : t1.length ≤ hs.length
  wf1 : ∀ n ∈ first, (Lit.int .i64 n).wf = true
  wf2 : ∀ n ∈ second, (Lit.int .i64 n).wf = true
  wf0 : ∀ n ∈ once, (Lit.int .i64 n).wf = true
  wt1 : ∀ n ∈ t1, (Lit.int .i64 n).wf = true
  wt2 : ∀ n ∈ t2, (Lit.int .i64 n).wf = true

/-- What a take tells of the lists. -/
structure Gave (rs hs : List Int) (row : Int) (k : Nat) (ts2 hs2 : List Int) : Prop where
  lead : Lead rs row k
  off : Off hs row ts2 hs2
  rest : ∀ y ∈ hs2, row ≤ y

theorem mem_first {rs hs ts2 hs2 : List Int} {row : Int} {k : Nat} (g : Gave rs hs row k ts2 hs2) {x : Int} (h : x ∈ rs.take k ++ ts2) : x < row ∧ (x ∈ rs ∨ x ∈ hs) := by
  rcases List.mem_append.1 h with h | h
  · obtain ⟨j, h1, h2, rfl⟩ := mem_take_getD h
    exact ⟨g.lead.low j h1, .inl (List.mem_of_mem_take h)⟩
  · exact ⟨g.off.low x h, .inr (g.off.perm.mem_iff.1 (by simp [h]))⟩

theorem plain6_of {a b : Int} {rs hs ts1 hs1 ts2 hs2 ts3 hs3 ts0 hs0 : List Int} {k1 k2 k3 k0 : Nat} (hab : a ≤ b) (hR : Rising rs rs.length) (w0 : ∀ n ∈ rs, (Lit.int .i64 n).wf = true) (w1 : ∀ n ∈ hs, (Lit.int .i64 n).wf = true)
    (g1 : Gave rs hs a k1 ts1 hs1) (g2 : Gave (rs.drop k1) hs1 b k2 ts2 hs2) (g3 : Gave ((rs.drop k1).drop k2) hs2 a k3 ts3 hs3) (g0 : Gave rs hs b k0 ts0 hs0) :
    Plain6 a b rs hs (rs.take k1 ++ ts1) ((rs.drop k1).take k2 ++ ts2) (((rs.drop k1).drop k2).take k3 ++ ts3) (rs.take k0 ++ ts0) (((rs.drop k1).drop k2).drop k3) (rs.drop k0) hs3 hs0 := by
  have R1 := rising_drop hR k1
  have R2 := rising_drop R1 k2
  have p1 := parts_of g1.off g1.rest
  have p2 := parts_of g2.off g2.rest
  have p3 := parts_of g3.off g3.rest
  have p0 := parts_of g0.off g0.rest
  have c1 := g1.lead.count hR
  have c2 := g2.lead.count R1
  have c3 := g3.lead.count R2
  have c0 := g0.lead.count hR
  have le1 := g1.lead.le
  have le2 := g2.lead.le
  have le3 := g3.lead.le
  have le0 := g0.lead.le
  rw [List.length_drop] at le2
  rw [List.length_drop, List.length_drop] at le3
  have low1 : ∀ x ∈ rs.take k1, x < a := fun x hx => by
    obtain ⟨j, h1, _, rfl⟩ := mem_take_getD hx
    exact g1.lead.low j h1
  have rest1 : ∀ x ∈ rs.drop k1, a ≤ x := fun x hx => by
    obtain ⟨j, h1, h2, rfl⟩ := mem_drop_getD hx
    exact g1.lead.rest hR j h1 h2
  have rest2 : ∀ x ∈ (rs.drop k1).drop k2, b ≤ x := fun x hx => by
    obtain ⟨j, h1, h2, rfl⟩ := mem_drop_getD hx
    exact g2.lead.rest R1 j h1 h2
  have k12 : k0 = k1 + k2 := by
    have e : below rs b = below (rs.take k1 ++ rs.drop k1) b := by rw [List.take_append_drop]
    rw [below_append, c0, c2, below_all (fun x hx => by have := low1 x hx; omega), List.length_take] at e
    omega
  have k30 : k3 = 0 := by
    rw [← c3]
    exact below_none (fun x hx => by have := rest2 x hx; omega)
  have t30 : ts3 = [] := by
    refine List.eq_nil_iff_forall_not_mem.2 (fun x hx => ?_)
    have h1 := g3.off.low x hx
    have h2 := g2.rest x (g3.off.perm.mem_iff.1 (by simp [hx]))
    omega
  have tk : rs.take k1 ++ (rs.drop k1).take k2 = rs.take k0 := by rw [k12, List.take_add]
  have ct0 : ∀ x, cn ts1 x + cn ts2 x = cn ts0 x := fun x => by
    by_cases xa : x < a
    · have := p1.low x xa; have := p2.low x (by omega); have := p0.low x (by omega); omega
    · by_cases xb : x < b
      · have := p1.high x (by omega); have := p2.low x xb; have := p0.low x xb; omega
      · have := p1.high x (by omega); have := p2.high x (by omega); have := p0.high x (by omega); omega
  have cs : ∀ x, cn (rs.take k1 ++ ts1) x + cn ((rs.drop k1).take k2 ++ ts2) x = cn (rs.take k0 ++ ts0) x := fun x => by
    rw [cn_append, cn_append, cn_append, ← tk, cn_append]
    have := ct0 x
    omega
  have ct : ∀ x, cn hs3 x = cn hs0 x := fun x => by
    by_cases xa : x < a
    · have := p3.low x xa; have := p0.low x (by omega); omega
    · by_cases xb : x < b
      · have := p3.high x (by omega); have := p2.low x xb; have := p0.low x xb; omega
      · have := p1.high x (by omega); have := p2.high x (by omega); have := p3.high x (by omega); have := p0.high x (by omega); omega
  have len1 := g1.off.len
  have len2 := g2.off.len
  have len3 := g3.off.len
  have len0 := g0.off.len
  have lk1 : (rs.take k1).length = k1 := by rw [List.length_take]; omega
  have lk0 : (rs.take k0).length = k0 := by rw [List.length_take]; omega
  have lk2 : ((rs.drop k1).take k2).length = k2 := by rw [List.length_take, List.length_drop]; omega
  have wh : ∀ n ∈ hs1, (Lit.int .i64 n).wf = true := (g1.off.wf w1).2
  have wh2 : ∀ n ∈ hs2, (Lit.int .i64 n).wf = true := (g2.off.wf wh).2
  have mem0 : ∀ n, n ∈ rs ∨ n ∈ hs → (Lit.int .i64 n).wf = true := fun n hn => hn.elim (w0 n) (w1 n)
  have e1 := g1.off.count g1.rest
  have e0 := g0.off.count g0.rest
  have lsum : (rs.take k1 ++ ts1).length + ((rs.drop k1).take k2 ++ ts2).length = (rs.take k0 ++ ts0).length := by
    have := (cn_perm (l := (rs.take k1 ++ ts1) ++ ((rs.drop k1).take k2 ++ ts2)) (m := rs.take k0 ++ ts0) (fun x => by rw [cn_append]; exact cs x)).length_eq
    rwa [List.length_append] at this
  refine ⟨?_, ?_, ?_, fun p hp => (mem_first g1 (getD_mem hp)).1, fun p hp => ⟨?_, (mem_first g2 (getD_mem hp)).1⟩, lsum, cs, ?_, (cn_perm ct).length_eq, ct, ?_, ?_, ?_, ?_, ?_, fun n hn => mem0 n (mem_first g1 hn).2, fun n hn => ?_, fun n hn => mem0 n (mem_first g0 hn).2, (g3.off.wf wh2).2, (g0.off.wf w1).2⟩
  · rw [List.length_append, lk1, c1, e1]
  · rw [List.length_append, lk0, c0, e0]
  · rw [k30, t30]; simp
  · rcases List.mem_append.1 (getD_mem hp) with h | h
    · exact rest1 _ (List.mem_of_mem_take h)
    · exact g1.rest _ (g2.off.perm.mem_iff.1 (by simp only [List.mem_append]; exact .inl h))
  · rw [k30, List.drop_zero, List.drop_drop, k12]
  · rw [List.length_append, lk1]; omega
  · rw [List.length_append, lk2]; omega
  · rw [List.length_append, lk0]; omega
  · rw [List.length_drop, List.length_drop, List.length_drop]; omega
  · omega
  · rcases (mem_first g2 hn).2 with h | h
    · exact w0 n (List.mem_of_mem_drop h)
    · exact wh n h

/-! ### The worlds between the takes -/

/-- Since wr a filledRows was built in block F, below M; it holds rs and hs now, in wk. -/
structure Held (wr : World) (M : Nat) (wk : World) (F : Nat) (rs hs : List Int) : Prop where
  below : Below wr.heap.size wr wk
  lo : wr.heap.size ≤ F
  hi : F < M
  le : M ≤ wk.heap.size
  filled : ∃ g, (0 < hs.length → wr.heap.size ≤ g ∧ g < M) ∧ Filled wk F g rs hs

theorem held_new {w wr w1 : World} {ra ga : Option Addr} {rcap gcap : Nat} {rs hs : List Int} (hC : Copied w wr ra rcap rs) (g1 : hs.length ≤ gcap) (g2 : 0 < hs.length → ga = some ⟨wr.heap.size, 0, none⟩ ∧ HRow w1 wr.heap.size hs) (g3 : Below wr.heap.size wr w1) (hh : IsHeap hs hs.length) :
    Held wr (w1.heap.size + 1) (w1.alloc (.cells #[.slice ra rs.length rcap, .slice ga hs.length gcap, .slice none 0 0] 67)) w1.heap.size rs hs := by
  obtain ⟨g, hg, hF⟩ := filled_new hC g1 g2 g3 hh
  have h13 := g3.size
  refine ⟨g3.alloc g3.size _, h13, Nat.lt_succ_self _, by simp, g, fun h0 => ?_, hF⟩
  have := hg h0
  have := (g2 h0).2.lt
  omega

theorem held_took {wr : World} {M : Nat} {wk : World} {F : Nat} {rs hs : List Int} (row : Int) (h : Held wr M wk F rs hs) (hl : rs.length + hs.length ≤ 190000) :
    Calls Try.prog 17 #[.pointer (some ⟨F, 0, none⟩), .int .i64 row] wk fun e w' => ∃ k ts2 hs2 a cap, e = .returned (.slice a (rs.take k ++ ts2).length cap) ∧ Gave rs hs row k ts2 hs2 ∧
      Held wr M w' F (rs.drop k) hs2 ∧ IntsAt M w' a (rs.take k ++ ts2) ∧ Keep (fun x => x < M ∨ wk.heap.size ≤ x) wk w' := by
  obtain ⟨g, hg, hF⟩ := h.filled
  have hlo := h.lo
  have hhi := h.hi
  have hle := h.le
  refine (took_any F g rs hs row wk hF hl).mono ?_
  rintro e w' ⟨k, ts2, hs2, a, cap, rfl, hT⟩
  obtain ⟨g2, hg2, hF2⟩ := hT.filled
  have hlen := hT.off.len
  have hsz := hT.keep.size
  refine ⟨k, ts2, hs2, a, cap, rfl, ⟨hT.lead, hT.off, heap_rest hF2.heap hT.high⟩, ⟨hT.still h.below hlo (fun h0 => (hg h0).1), hlo, hhi, by omega, g2, fun h0 => ?_, hF2⟩, fun h0 => ?_, hT.keep.mono (fun x hx => ?_)⟩
  · rw [hg2 h0]
    exact hg (by omega)
  · obtain ⟨b, off, e1, e2, e3⟩ := hT.taken h0
    exact ⟨b, off, e1, by omega, e3⟩
  · rcases hx with rfl | ⟨h0, rfl⟩ | hx
    · exact .inl hhi
    · exact .inl (hg h0).2
    · exact .inr hx

theorem IntsAt.next {M : Nat} {wk w' : World} {a : Option Addr} {xs : List Int} (h : IntsAt M wk a xs) (k : Keep (fun x => x < M ∨ wk.heap.size ≤ x) wk w') : IntsAt M w' a xs :=
  h.kept k (fun x h1 h2 => by omega)

theorem IntsAt.later {M : Nat} {wk w' : World} {a : Option Addr} {xs : List Int} (h : IntsAt M wk a xs) (hb : Below wk.heap.size wk w') : IntsAt M w' a xs :=
  h.kept (S := fun _ => False) (Keep.of_below hb) (fun _ _ _ hx => hx)

theorem Held.later {wr : World} {M : Nat} {wk w' : World} {F : Nat} {rs hs : List Int} (h : Held wr M wk F rs hs) (hb : Below wk.heap.size wk w') :
    ∃ ra rcap ga gcap, w'.cell? ⟨F, 0, none⟩ = some (.slice ra rs.length rcap) ∧ w'.cell? ⟨F, 1, none⟩ = some (.slice ga hs.length gcap) ∧ Ints w' ra rs ∧ Ints w' ga hs := by
  obtain ⟨g, _, hF⟩ := h.filled
  exact (hF.kept (S := fun _ => False) (Keep.of_below hb) (fun _ _ hx => hx)).shown
end Go.Proofs.Qxb6612232a
