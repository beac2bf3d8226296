/-
  (*filledRows).takeBefore.
-/
import Derived.Test.Qxb6612232aTake
namespace Go.Proofs.Qxb6612232a
open Go Go.RowKit

theorem Taken.kept {S : Nat → Prop} {w w' : World} {T base : Nat} {ts : List Int} (h : Taken w T base ts) (k : Keep S w w') (hT : ¬ S T) (hb : ∀ x, base ≤ x → ¬ S x) : Taken w' T base ts := by
  obtain ⟨v, hc, ho⟩ := h.ex
  have lT : T < w.heap.size := Nat.lt_of_lt_of_le h.lt h.le
  refine ⟨⟨v, k.cell hT hc, ho.1, ?_⟩, (k.frozen hT lT).trans h.free, h.lt, Nat.le_trans h.le k.size⟩
  rcases ho.2 with e | ⟨g, cap, cur, e1, e2, e3, e4⟩
  · exact .inl e
  · exact .inr ⟨g, cap, cur, e1, e2, (k.block g (Array.getElem?_eq_some_iff.1 e3).1 (hb g e2)).trans e3, e4⟩

/-- What a filledRows in block F holds: the rising rows rs, the heap hs (in block g, where there is one). -/
structure Filled (w : World) (F g : Nat) (rs hs : List Int) : Prop where
  ne : F ≠ g
  c0 : ∃ ra rcap, w.cell? ⟨F, 0, none⟩ = some (.slice ra rs.length rcap) ∧ rs.length ≤ rcap ∧ (0 < rs.length → ∃ b off, ra = some ⟨b, off, none⟩ ∧ b ≠ F ∧ b ≠ g ∧ ∀ j, j < rs.length → w.cell? ⟨b, off + j, none⟩ = some (.int .i64 (rs.getD j 0)))
  c1 : ∃ ga cap, w.cell? ⟨F, 1, none⟩ = some (.slice ga hs.length cap) ∧ hs.length ≤ cap ∧ (0 < hs.length → ga = some ⟨g, 0, none⟩ ∧ HRow w g hs)
  free : ∀ j, w.frozen? ⟨F, j, none⟩ = false
  heap : IsHeap hs hs.length

theorem Filled.lt {w : World} {F g : Nat} {rs hs : List Int} (h : Filled w F g rs hs) : F < w.heap.size := by
  obtain ⟨_, _, hc, _⟩ := h.c1
  exact World.block_lt_of_cell? _ _ hc

/-- A filledRows stays as it is where neither it, nor its heap, nor its rows' block is written. -/
theorem Filled.kept {S : Nat → Prop} {w w' : World} {F g : Nat} {rs hs : List Int} (h : Filled w F g rs hs) (k : Keep S w w') (hS : ∀ x, x < w.heap.size → ¬ S x) : Filled w' F g rs hs := by
  have lF := h.lt
  obtain ⟨ra, rcap, a1, a2, a3⟩ := h.c0
  obtain ⟨ga, cap, b1, b2, b3⟩ := h.c1
  refine ⟨h.ne, ⟨ra, rcap, k.cell (hS F lF) a1, a2, fun h0 => ?_⟩, ⟨ga, cap, k.cell (hS F lF) b1, b2, fun h0 => ⟨(b3 h0).1, (b3 h0).2.kept k (hS g (b3 h0).2.lt)⟩⟩, fun j => (k.frozen (hS F lF) lF).trans (h.free j), h.heap⟩
  obtain ⟨b, off, e1, e2, e3, e4⟩ := a3 h0
  exact ⟨b, off, e1, e2, e3, fun j hj => k.cell (hS b (World.block_lt_of_cell? _ _ (e4 j hj))) (e4 j hj)⟩

/-- The heap's length, as the world has it: for a loop's measure. -/
def headLen (F : Nat) (w : World) : Nat := match w.cell? ⟨F, 1, none⟩ with | some (.slice _ n _) => n | _ => 0

/-- What the first loop leaves: so many of the rising rows are taken. -/
structure Lead (rs : List Int) (row : Int) (k : Nat) : Prop where
  le : k ≤ rs.length
  low : ∀ j, j < k → rs.getD j 0 < row
  high : k < rs.length → row ≤ rs.getD k 0

/-- What the second loop has done: ts2 taken off the heap in rising order, hs2 left. -/
structure Off (hs : List Int) (row : Int) (ts2 hs2 : List Int) : Prop where
  perm : (ts2 ++ hs2).Perm hs
  low : ∀ x ∈ ts2, x < row
  sorted : ts2.Pairwise (· ≤ ·)
  over : ∀ x ∈ ts2, ∀ y ∈ hs2, x ≤ y

theorem mem_getD {l : List Int} {x : Int} (h : x ∈ l) : ∃ k, k < l.length ∧ l.getD k 0 = x := by
  obtain ⟨k, hk, e⟩ := List.mem_iff_getElem.1 h
  exact ⟨k, hk, by simp [List.getD, hk, e]⟩

theorem Off.step {hs : List Int} {row : Int} {ts2 hs2 ys : List Int} (h : Off hs row ts2 hs2) (hh : IsHeap hs2 hs2.length) (hlow : hs2.getD 0 0 < row) (hp : (hs2.getD 0 0 :: ys).Perm hs2) : Off hs row (ts2 ++ [hs2.getD 0 0]) ys := by
  have hmem : hs2.getD 0 0 ∈ hs2 := hp.mem_iff.1 (by simp)
  have hys : ∀ y ∈ ys, y ∈ hs2 := fun y hy => hp.mem_iff.1 (by simp [hy])
  refine ⟨?_, fun x hx => ?_, ?_, fun x hx y hy => ?_⟩
  · have : (ts2 ++ [hs2.getD 0 0] ++ ys).Perm (ts2 ++ hs2) := by
      rw [List.append_assoc]
      exact List.Perm.append_left ts2 hp
    exact this.trans h.perm
  · simp only [List.mem_append, List.mem_singleton] at hx
    rcases hx with hx | rfl
    · exact h.low x hx
    · exact hlow
  · rw [List.pairwise_append]
    refine ⟨h.sorted, List.pairwise_singleton _ _, fun a ha b hb => ?_⟩
    simp only [List.mem_singleton] at hb
    subst hb
    exact h.over a ha _ hmem
  · simp only [List.mem_append, List.mem_singleton] at hx
    rcases hx with hx | rfl
    · exact h.over x hx y (hys y hy)
    · obtain ⟨k, hk, rfl⟩ := mem_getD (hys y hy)
      exact heap_top hh k hk

/-- 'rising[k:]'. -/
theorem slice_from (ra : Option Addr) (n cap k : Nat) (hk : k ≤ n) (hn : n ≤ cap) :
    ∃ ra' cap', n - k ≤ cap' ∧ (∀ b off, k < n → ra = some ⟨b, off, none⟩ → ra' = some ⟨b, off + k, none⟩) ∧ ∀ W, (Instr.slice 46 (.slice ra n cap) (some (.int .i64 (k : Int))) none none).run Try.prog W = .ok (.slice ra' (n - k) cap') W := by
  refine ⟨if cap = k then ra else ra.map (·.add k), cap - k, by omega, fun b off h e => ?_, fun W => ?_⟩
  · subst e
    rw [if_neg (by omega)]
    simp [Go.WideShapes.add_plain]
  · have hel : Try.prog.elem 46 = 3 := by kernel_rfl
    have hs : (sizeOf 3).run Try.prog W = .ok 1 W := by kernel_rfl
    rw [run_slice_l W 46 ra n cap (by rw [hel]; exact Try.underlying46) .i64 k (by omega) (by omega), hel, hs]
    simp [Result.andThen, sliced]

theorem filled_cut {w wr : World} {F g : Nat} {rs hs : List Int} {k rcap cap' : Nat} {ra ra' : Option Addr} (h : Filled w F g rs hs) (hK : Keep (w.heap.size ≤ ·) w wr) (hk : k ≤ rs.length) (hra : w.cell? ⟨F, 0, none⟩ = some (.slice ra rs.length rcap))
    (s1 : rs.length - k ≤ cap') (s2 : ∀ b off, k < rs.length → ra = some ⟨b, off, none⟩ → ra' = some ⟨b, off + k, none⟩) : Filled (wr.setCell ⟨F, 0, none⟩ (.slice ra' (rs.length - k) cap')) F g (rs.drop k) hs := by
  have lF := h.lt
  have hr := h.kept hK (fun x hx => by omega)
  obtain ⟨ra0, rcap0, a1, _, a3⟩ := h.c0
  rw [hra] at a1
  cases a1
  have A3 := hide a3
  clear a3
  obtain ⟨ga, cap, b1, b2, b3⟩ := hr.c1
  have B3 := hide b3
  clear b3
  have cF : wr.cell? ⟨F, 0, none⟩ = some (.slice ra rs.length rcap) := hK.cell (by omega) hra
  have dl : (rs.drop k).length = rs.length - k := List.length_drop
  refine ⟨h.ne, ⟨ra', cap', ?_, by omega, fun h0 => ?_⟩, ⟨ga, cap, ?_, b2, fun h0 => ⟨(B3.out h0).1, ?_⟩⟩, fun j => by rw [World.frozen?_setCell]; exact hr.free j, h.heap⟩
  · rw [dl]; exact World.cell?_setCell_same _ _ _ cF
  · obtain ⟨b, off, e1, e2, e3, e4⟩ := A3.out (by omega)
    refine ⟨b, off + k, s2 b off (by omega) e1, e2, e3, fun j hj => ?_⟩
    rw [World.cell?_setCell_other _ _ _ _ (fun e => e2 (congrArg Addr.block e).symm)]
    have := hK.cell (g := b) (j := off + (k + j)) (by have := World.block_lt_of_cell? _ _ (e4 0 (by omega)); simp at this; omega) (e4 (k + j) (by omega))
    rw [Nat.add_assoc, this]
    simp [List.getD, List.getElem?_drop]
  · rw [World.cell?_setCell_other _ _ _ _ (fun e => by have := congrArg Addr.off e; simp at this)]
    exact b1
  · have hrow := (B3.out h0).2
    have k1 : Keep (· = F) wr (wr.setCell ⟨F, 0, none⟩ (.slice ra' (rs.length - k) cap')) := (Keep.refl (· = F) wr).setCell (p := ⟨F, 0, none⟩) rfl _
    exact hrow.kept k1 (fun e => h.ne e.symm)

theorem assert_one (x : Int) (w : World) : (Instr.typeAssert (.iface 3 (.int .i64 x)) 20 3 false).run Try.prog w = .ok (.int .i64 x) w := by kernel_rfl

/-- What takeBefore leaves. -/
structure After (w w' : World) (F g : Nat) (rs hs : List Int) (row : Int) (k : Nat) (ts2 hs2 : List Int) : Prop where
  lead : Lead rs row k
  off : Off hs row ts2 hs2
  high : 0 < hs2.length → row ≤ hs2.getD 0 0
  filled : Filled w' F g (rs.drop k) hs2
  taken : Taken w' w.heap.size (w.heap.size + 1) (rs.take k ++ ts2)
  keep : Keep (fun x => x = F ∨ x = g ∨ w.heap.size ≤ x) w w'

/-- The rising rows, where there are any, lie in a block below N. -/
def OldRow (w : World) (F N : Nat) (rs : List Int) : Prop := 0 < rs.length → ∃ b off rcap, w.cell? ⟨F, 0, none⟩ = some (.slice (some ⟨b, off, none⟩) rs.length rcap) ∧ b < N

/-- Behind a Pop and the gathering of what it gave. -/
theorem after_pop {w wx w1 w2 : World} {F g n cap : Nat} {rs' hs hs2 ys tk ts2 : List Int} {row : Int} (hl : hs2.length = n + 1) (hcap : hs2.length ≤ cap) (hlow : hs2.getD 0 0 < row) (lF : F < w.heap.size) (lg : g < w.heap.size) (hO : Off hs row ts2 hs2)
    (hFi : Filled wx F g rs' hs2) (hK : Keep (fun x => x = F ∨ x = g ∨ w.heap.size ≤ x) w wx) (hp : Popped wx w1 F g n cap hs2 ys)
    (hT : Taken w2 w.heap.size (w.heap.size + 1) (tk ++ ts2 ++ [hs2.getD 0 0])) (hK2 : Keep (fun x => x = w.heap.size ∨ w.heap.size + 1 ≤ x) w1 w2) (hr : OldRow wx F w.heap.size rs') :
    Off hs row (ts2 ++ [hs2.getD 0 0]) ys ∧ Filled w2 F g rs' ys ∧ Taken w2 w.heap.size (w.heap.size + 1) (tk ++ (ts2 ++ [hs2.getD 0 0])) ∧ Keep (fun x => x = F ∨ x = g ∨ w.heap.size ≤ x) w w2 ∧ headLen F w2 = n ∧ OldRow w2 F w.heap.size rs' := by
  have lFx : F < wx.heap.size := hFi.lt
  obtain ⟨ra, rcap, a1, a2, a3⟩ := hFi.c0
  have A3 := hide a3
  clear a3
  have k1 : Keep (fun x => x = F ∨ x = g ∨ w.heap.size ≤ x) wx w1 := hp.keep.mono (fun x hx => by omega)
  have k2 : Keep (fun x => x = F ∨ x = g ∨ w.heap.size ≤ x) w1 w2 := hK2.mono (fun x hx => by omega)
  have nF : ¬ (F = w.heap.size ∨ w.heap.size + 1 ≤ F) := by omega
  have ng : ¬ (g = w.heap.size ∨ w.heap.size + 1 ≤ g) := by omega
  have hd := hK2.cell nF hp.head
  refine ⟨hO.step hFi.heap hlow hp.perm, ⟨hFi.ne, ⟨ra, rcap, hK2.cell nF (hp.beside 0 _ (by omega) a1), a2, fun h0 => ?_⟩, ⟨some ⟨g, 0, none⟩, cap, by rw [hp.len]; exact hd, by rw [hp.len]; omega, fun _ => ⟨rfl, hp.row.kept hK2 ng⟩⟩, fun j => ?_, by rw [hp.len]; exact hp.heap⟩, by rw [← List.append_assoc]; exact hT, (hK.trans k1).trans k2, ?_⟩
  · obtain ⟨b, off, e1, e2, e3, e4⟩ := A3.out h0
    have hb : b < w.heap.size := by
      obtain ⟨b', off', rcap', f1, f2⟩ := hr h0
      rw [a1, e1] at f1
      cases f1
      exact f2
    exact ⟨b, off, e1, e2, e3, fun j hj => hK2.cell (by omega) (hp.keep.cell (by omega) (e4 j hj))⟩
  · rw [hK2.frozen nF (Nat.lt_of_lt_of_le lFx hp.keep.size), hp.free j]
    exact hFi.free j
  · refine ⟨by unfold headLen; rw [hd], fun h0 => ?_⟩
    obtain ⟨b', off', rcap', f1, f2⟩ := hr h0
    exact ⟨b', off', rcap', hK2.cell nF (hp.beside 0 _ (by omega) f1), f2⟩

set_option maxHeartbeats 4000000 in
set_option maxRecDepth 10000 in
theorem before_any (F g : Nat) (rs hs : List Int) (row : Int) (w : World) (h : Filled w F g rs hs) (hl : rs.length + hs.length ≤ 190000) :
    Calls Try.prog 26 #[.pointer (some ⟨F, 0, none⟩), .int .i64 row, .func (.func 27) #[] #[.pointer (some ⟨w.heap.size, 0, none⟩)]] (w.alloc (.cells #[.slice none 0 0] 46)) fun e w' => e = .returned (.tuple #[]) ∧ ∃ k ts2 hs2, After w w' F g rs hs row k ts2 hs2 := by
  have hF := h.lt
  have HGL : Hid (0 < hs.length → g < w.heap.size) := by
    intro h0
    obtain ⟨_, _, _, _, h3⟩ := h.c1
    exact (h3 h0).2.lt
  obtain ⟨ra, rcap, a1, a2, a3⟩ := h.c0
  have ht : Taken (w.alloc (.cells #[.slice none 0 0] 46)) w.heap.size (w.heap.size + 1) [] :=
    ⟨⟨_, by simp, World.ownsRow_nil _ _ _ _⟩, by simp, Nat.lt_succ_self _, by simp⟩
  have hk0 : Keep (w.heap.size ≤ ·) w (w.alloc (.cells #[.slice none 0 0] 46)) := (Keep.refl _ _).alloc _
  have HT := hide ht
  have HK0 := hide hk0
  have HFl := hide h
  have C0 := hide a1
  have A3 := hide a3
  clear h ht a3 a1 hk0
  generalize w.alloc (.cells #[.slice none 0 0] 46) = W0 at *
  have e0 : W0.cell? ⟨F, 0, none⟩ = some (.slice ra rs.length rcap) := HK0.out.cell (by omega) C0.out
  go_enter Try.func26, Try.ntmps26
  go_wp2
  go_loopw [6] (fun t wr => ∃ k : Nat, t = .int .i64 k ∧ k ≤ rs.length ∧ (∀ j, j < k → rs.getD j 0 < row) ∧ Taken wr w.heap.size (w.heap.size + 1) (rs.take k) ∧ Keep (w.heap.size ≤ ·) w wr) (fun t _ => rs.length - (intOf t).toNat)
  case atStart => exact ⟨0, rfl, Nat.zero_le _, fun j hj => absurd hj (Nat.not_lt_zero _), by simpa using HT.out, HK0.out⟩
  case round =>
    clear HT HK0 e0
    obtain ⟨k, rfl, hk, hlow, hT, hK⟩ := hrel
    have d0 : wr.cell? ⟨F, 0, none⟩ = some (.slice ra rs.length rcap) := hK.cell (by omega) C0.out
    have df : wr.frozen? ⟨F, 0, none⟩ = false := (hK.frozen (by omega) hF).trans (HFl.out.free 0)
    have HTk := hide hT
    have HK := hide hK
    have HLOW := hide hlow
    clear hlow hT hK
    by_cases hlt : k < rs.length
    · obtain ⟨b, off, rfl, hb1, hb2, hcell⟩ := A3.out (by omega)
      have hbl : b < w.heap.size := World.block_lt_of_cell? _ _ (hcell 0 (by omega))
      obtain ⟨x, hx⟩ : ∃ x, rs.getD k 0 = x := ⟨_, rfl⟩
      have d1 : wr.cell? ⟨b, off + k, none⟩ = some (.int .i64 x) := by rw [← hx]; exact HK.out.cell (by omega) (hcell k hlt)
      have HX := hide hx
      clear hx hcell
      have hlt' : (k : Int) < (rs.length : Int) := by omega
      by_cases hrow : x < row
      · go_wp2_with fail
        refine (gather_any w.heap.size (w.heap.size + 1) (rs.take k) x _ HTk.out (by have := List.length_take_le k rs; omega)).mono ?_
        rintro e w1 ⟨rfl, r1, r2⟩
        have R : Hid (Taken w1 w.heap.size (w.heap.size + 1) (rs.take (k + 1)) ∧ Keep (w.heap.size ≤ ·) w w1 ∧ ∀ j, j < k + 1 → rs.getD j 0 < row) := by
          refine ⟨?_, HK.out.trans (r2.mono (fun y hy => by omega)), fun j hj => ?_⟩
          · have e : rs[k] = x := by have := HX.out; simpa [List.getD, hlt] using this
            rw [List.take_succ_eq_append_getElem hlt, e]
            exact r1
          · by_cases ej : j = k
            · subst ej; rw [HX.out]; exact hrow
            · exact HLOW.out j (by omega)
        clear r1 r2 d0 d1 df
        go_wp2
        go_roundw
        case rel => exact ⟨k + 1, by go_num, by omega, R.out.2.2, R.out.1, R.out.2.1⟩
        case measure => simp [intOf]; omega
      · have hd : decide (x < row) = false := decide_eq_false hrow
        obtain ⟨ra', cap', s1, s2, s3⟩ := slice_from (some ⟨b, off, none⟩) rs.length rcap k hk a2
        have M : Hid (Filled (wr.setCell ⟨F, 0, none⟩ (.slice ra' (rs.length - k) cap')) F g (rs.drop k) hs ∧ Taken (wr.setCell ⟨F, 0, none⟩ (.slice ra' (rs.length - k) cap')) w.heap.size (w.heap.size + 1) (rs.take k) ∧
            Keep (fun x => x = F ∨ x = g ∨ w.heap.size ≤ x) w (wr.setCell ⟨F, 0, none⟩ (.slice ra' (rs.length - k) cap')) ∧ OldRow (wr.setCell ⟨F, 0, none⟩ (.slice ra' (rs.length - k) cap')) F w.heap.size (rs.drop k)) := by
          have k1 : Keep (· = F) wr (wr.setCell ⟨F, 0, none⟩ (.slice ra' (rs.length - k) cap')) := (Keep.refl (· = F) wr).setCell (p := ⟨F, 0, none⟩) rfl _
          have k2 : Keep (fun x => x = F ∨ x = g ∨ w.heap.size ≤ x) w wr := HK.out.mono (fun x hx => by omega)
          have dl : (rs.drop k).length = rs.length - k := List.length_drop
          refine ⟨filled_cut HFl.out HK.out hk C0.out s1 s2, HTk.out.kept k1 (by omega) (fun x hx => by omega), k2.trans (k1.mono (fun x hx => by omega)), fun h0 => ?_⟩
          obtain ⟨b, off, e1, e2, e3, e4⟩ := A3.out (by omega)
          have e5 := s2 b off (by omega) e1
          exact ⟨b, off + k, cap', by rw [dl, ← e5]; exact World.cell?_setCell_same _ _ _ d0, World.block_lt_of_cell? _ _ (e4 0 (by omega))⟩
        have LEAD : Hid (Lead rs row k) := ⟨hk, HLOW.out, fun _ => by rw [HX.out]; omega⟩
        clear hrow
        go_wp2
        generalize wr.setCell ⟨F, 0, none⟩ (.slice ra' (rs.length - k) cap') = wm at *
        go_loopw [45] (fun _ wx => ∃ ts2 hs2, Off hs row ts2 hs2 ∧ Filled wx F g (rs.drop k) hs2 ∧ Taken wx w.heap.size (w.heap.size + 1) (rs.take k ++ ts2) ∧ Keep (fun x => x = F ∨ x = g ∨ w.heap.size ≤ x) w wx ∧ OldRow wx F w.heap.size (rs.drop k)) (fun _ wx => headLen F wx)
        case atStart => exact ⟨[], hs, ⟨List.Perm.refl _, fun x hx => by simp at hx, List.Pairwise.nil, fun x hx => by simp at hx⟩, M.out.1, by rw [List.append_nil]; exact M.out.2.1, M.out.2.2⟩
        case round =>
          clear M
          obtain ⟨ts2, hs2, hO, hFi, hT, hK, hR⟩ := hrel
          obtain ⟨ga, cap, b1, b2, b3⟩ := hFi.c1
          have f1 := hFi.free 1
          have hlen : ts2.length + hs2.length = hs.length := by have := hO.perm.length_eq; simpa using this
          have B3 := hide b3
          have HO := hide hO
          have HFi := hide hFi
          have HT2 := hide hT
          have HK2 := hide hK
          have HR := hide hR
          clear b3 hO hFi hT hK hR
          by_cases hz : hs2.length = 0
          · have R : Hid (After w wr F g rs hs row k ts2 hs2) := ⟨LEAD.out, HO.out, fun h => by omega, HFi.out, HT2.out, HK2.out⟩
            have hz' : ¬ (0 : Int) < (hs2.length : Int) := by omega
            have hzd : decide ((0 : Int) < (hs2.length : Int)) = false := decide_eq_false hz'
            clear hlen hz
            go_wp2
            go_end0
            exact ⟨rfl, k, ts2, hs2, R.out⟩
          · obtain ⟨rfl, hrow2⟩ := B3.out (by omega)
            obtain ⟨n, hn⟩ : ∃ n, hs2.length = n + 1 := ⟨hs2.length - 1, by omega⟩
            have d2 := hrow2.holds 0 (by omega)
            obtain ⟨top, htop⟩ : ∃ top, hs2.getD 0 0 = top := ⟨_, rfl⟩
            rw [htop] at d2
            have HTOP := hide htop
            have HROW := hide hrow2
            have HN := hide hn
            have hpos : (0 : Int) < (hs2.length : Int) := by omega
            have bnd : n ≤ 190000 := by omega
            have hcap1 : n + 1 ≤ cap := by omega
            have lg : g < w.heap.size := HGL.out (by omega)
            clear htop hrow2 hn hz
            by_cases hlow2 : top < row
            · have hc34 : wr.cell? ⟨F, 1, none⟩ = some (.slice (some ⟨g, 0, none⟩) (n + 1) cap) := by rw [← HN.out]; exact b1
              have hta := assert_one
              have CP := hide hc34
              clear hc34
              go_wp2_with fail
              refine (pop_any F g n cap hs2 _ HFi.out.ne HN.out bnd hcap1 CP.out f1 HROW.out (by rw [← HN.out]; exact HFi.out.heap)).mono ?_
              rintro e w1 ⟨ys, rfl, hp⟩
              have HP := hide hp
              have ht1 : Taken w1 w.heap.size (w.heap.size + 1) (rs.take k ++ ts2) := HT2.out.kept hp.keep (by omega) (fun x hx => by omega)
              have HT3 := hide ht1
              have hlt3 : (rs.take k ++ ts2).length ≤ 200000 := by have := List.length_take_le k rs; rw [List.length_append]; omega
              clear hp ht1 b1 d2 f1 hlen
              rw [HTOP.out]
              go_wp2_with fail
              refine (gather_any w.heap.size (w.heap.size + 1) (rs.take k ++ ts2) top _ HT3.out hlt3).mono ?_
              rintro e w2 ⟨rfl, r1, r2⟩
              have R := hide (after_pop HN.out b2 (by rw [HTOP.out]; exact hlow2) hF lg HO.out HFi.out HK2.out HP.out (by rw [HTOP.out]; exact r1) r2 HR.out)
              have HL : Hid (headLen F wr = n + 1) := by show headLen F wr = _; unfold headLen; rw [CP.out]
              clear r1 r2
              go_wp2
              go_roundw
              case rel => exact ⟨_, _, R.out.1, R.out.2.1, R.out.2.2.1, R.out.2.2.2.1, R.out.2.2.2.2.2⟩
              case measure => rw [HL.out, R.out.2.2.2.2.1]; omega
            · have R : Hid (After w wr F g rs hs row k ts2 hs2) := ⟨LEAD.out, HO.out, fun _ => by rw [HTOP.out]; omega, HFi.out, HT2.out, HK2.out⟩
              have hd2 : decide (top < row) = false := decide_eq_false hlow2
              clear hlen
              go_wp2
              go_end0
              exact ⟨rfl, k, ts2, hs2, R.out⟩
    · obtain rfl : k = rs.length := by omega
      have hz0 : ¬ (rs.length : Int) < (rs.length : Int) := by omega
      obtain ⟨ra', cap', s1, s2, s3⟩ := slice_from ra rs.length rcap rs.length hk a2

      have M : Hid (Filled (wr.setCell ⟨F, 0, none⟩ (.slice ra' (rs.length - rs.length) cap')) F g (rs.drop rs.length) hs ∧ Taken (wr.setCell ⟨F, 0, none⟩ (.slice ra' (rs.length - rs.length) cap')) w.heap.size (w.heap.size + 1) (rs.take rs.length) ∧
          Keep (fun x => x = F ∨ x = g ∨ w.heap.size ≤ x) w (wr.setCell ⟨F, 0, none⟩ (.slice ra' (rs.length - rs.length) cap')) ∧ OldRow (wr.setCell ⟨F, 0, none⟩ (.slice ra' (rs.length - rs.length) cap')) F w.heap.size (rs.drop rs.length)) := by
        have k1 : Keep (· = F) wr (wr.setCell ⟨F, 0, none⟩ (.slice ra' (rs.length - rs.length) cap')) := (Keep.refl (· = F) wr).setCell (p := ⟨F, 0, none⟩) rfl _
        have k2 : Keep (fun x => x = F ∨ x = g ∨ w.heap.size ≤ x) w wr := HK.out.mono (fun x hx => by omega)
        refine ⟨filled_cut HFl.out HK.out hk C0.out s1 s2, HTk.out.kept k1 (by omega) (fun x hx => by omega), k2.trans (k1.mono (fun x hx => by omega)), fun h0 => ?_⟩
        simp at h0
      have LEAD : Hid (Lead rs row rs.length) := ⟨hk, HLOW.out, fun h => by omega⟩
      clear hz0
      rw [Nat.sub_self] at M
      go_wp2
      generalize wr.setCell ⟨F, 0, none⟩ (.slice ra' 0 cap') = wm at *
      go_loopw [45] (fun _ wx => ∃ ts2 hs2, Off hs row ts2 hs2 ∧ Filled wx F g (rs.drop rs.length) hs2 ∧ Taken wx w.heap.size (w.heap.size + 1) (rs.take rs.length ++ ts2) ∧ Keep (fun x => x = F ∨ x = g ∨ w.heap.size ≤ x) w wx ∧ OldRow wx F w.heap.size (rs.drop rs.length)) (fun _ wx => headLen F wx)
      case atStart => exact ⟨[], hs, ⟨List.Perm.refl _, fun x hx => by simp at hx, List.Pairwise.nil, fun x hx => by simp at hx⟩, M.out.1, by rw [List.append_nil]; exact M.out.2.1, M.out.2.2⟩
      case round =>
        clear M
        obtain ⟨ts2, hs2, hO, hFi, hT, hK, hR⟩ := hrel
        obtain ⟨ga, cap, b1, b2, b3⟩ := hFi.c1
        have f1 := hFi.free 1
        have hlen : ts2.length + hs2.length = hs.length := by have := hO.perm.length_eq; simpa using this
        have B3 := hide b3
        have HO := hide hO
        have HFi := hide hFi
        have HT2 := hide hT
        have HK2 := hide hK
        have HR := hide hR
        clear b3 hO hFi hT hK hR
        by_cases hz : hs2.length = 0
        · have R : Hid (After w wr F g rs hs row rs.length ts2 hs2) := ⟨LEAD.out, HO.out, fun h => by omega, HFi.out, HT2.out, HK2.out⟩
          have hz' : ¬ (0 : Int) < (hs2.length : Int) := by omega
          have hzd : decide ((0 : Int) < (hs2.length : Int)) = false := decide_eq_false hz'
          clear hlen hz
          go_wp2
          go_end0
          exact ⟨rfl, rs.length, ts2, hs2, R.out⟩
        · obtain ⟨rfl, hrow2⟩ := B3.out (by omega)
          obtain ⟨n, hn⟩ : ∃ n, hs2.length = n + 1 := ⟨hs2.length - 1, by omega⟩
          have d2 := hrow2.holds 0 (by omega)
          obtain ⟨top, htop⟩ : ∃ top, hs2.getD 0 0 = top := ⟨_, rfl⟩
          rw [htop] at d2
          have HTOP := hide htop
          have HROW := hide hrow2
          have HN := hide hn
          have hpos : (0 : Int) < (hs2.length : Int) := by omega
          have bnd : n ≤ 190000 := by omega
          have hcap1 : n + 1 ≤ cap := by omega
          have lg : g < w.heap.size := HGL.out (by omega)
          clear htop hrow2 hn hz
          by_cases hlow2 : top < row
          · have hc34 : wr.cell? ⟨F, 1, none⟩ = some (.slice (some ⟨g, 0, none⟩) (n + 1) cap) := by rw [← HN.out]; exact b1
            have hta := assert_one
            have CP := hide hc34
            clear hc34
            go_wp2_with fail
            refine (pop_any F g n cap hs2 _ HFi.out.ne HN.out bnd hcap1 CP.out f1 HROW.out (by rw [← HN.out]; exact HFi.out.heap)).mono ?_
            rintro e w1 ⟨ys, rfl, hp⟩
            have HP := hide hp
            have ht1 : Taken w1 w.heap.size (w.heap.size + 1) (rs.take rs.length ++ ts2) := HT2.out.kept hp.keep (by omega) (fun x hx => by omega)
            have HT3 := hide ht1
            have hlt3 : (rs.take rs.length ++ ts2).length ≤ 200000 := by have := List.length_take_le rs.length rs; rw [List.length_append]; omega
            clear hp ht1 b1 d2 f1 hlen
            rw [HTOP.out]
            go_wp2_with fail
            refine (gather_any w.heap.size (w.heap.size + 1) (rs.take rs.length ++ ts2) top _ HT3.out hlt3).mono ?_
            rintro e w2 ⟨rfl, r1, r2⟩
            have R := hide (after_pop HN.out b2 (by rw [HTOP.out]; exact hlow2) hF lg HO.out HFi.out HK2.out HP.out (by rw [HTOP.out]; exact r1) r2 HR.out)
            have HL : Hid (headLen F wr = n + 1) := by show headLen F wr = _; unfold headLen; rw [CP.out]
            clear r1 r2
            go_wp2
            go_roundw
            case rel => exact ⟨_, _, R.out.1, R.out.2.1, R.out.2.2.1, R.out.2.2.2.1, R.out.2.2.2.2.2⟩
            case measure => rw [HL.out, R.out.2.2.2.2.1]; omega
          · have R : Hid (After w wr F g rs hs row rs.length ts2 hs2) := ⟨LEAD.out, HO.out, fun _ => by rw [HTOP.out]; omega, HFi.out, HT2.out, HK2.out⟩
            have hd2 : decide (top < row) = false := decide_eq_false hlow2
            clear hlen
            go_wp2
            go_end0
            exact ⟨rfl, rs.length, ts2, hs2, R.out⟩

#print axioms before_any
end Go.Proofs.Qxb6612232a
