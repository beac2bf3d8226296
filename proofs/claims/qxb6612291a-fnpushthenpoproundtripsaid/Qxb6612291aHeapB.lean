/-
  Contracts for FnPushThenPopRoundTrip: zzEqualInts, Push, ZZpushIndexHeap, Pop, ZZpopIndexHeap.
-/
import Derived.Test.Qxb6612291aHeap
import Derived.WalkSmall
import Derived.WalkSpells
namespace Go.Proofs.Qxb6612291a
open Go.RowKit

/-- What is known of a slice of n ints that lies in w. -/
def Ints (w : World) (a : Option Addr) (n : Nat) (zs : List Int) : Prop :=
  0 < n → ∃ b off, a = some ⟨b, off, none⟩ ∧ ∀ j, j < n → w.cell? ⟨b, off + j, none⟩ = some (.int .i64 (zs.getD j 0))

/-- zzEqualInts at two slices that hold the same numbers. -/
theorem equal_true (a1 a2 : Option Addr) (n c1 c2 : Nat) (zs : List Int) (w : World) (hn : n ≤ 131072) (h1 : Ints w a1 n zs) (h2 : Ints w a2 n zs) :
    Calls Try.prog 15 #[.slice a1 n c1, .slice a2 n c2] w fun e w' => e = .returned (.bool true) ∧ Below w.heap.size w w' := by
  go_enter Try.func15, Try.ntmps15
  go_wp2
  go_loopw [5] (fun i wr => ∃ (k q : Nat), k ≤ n ∧ i = .int .i64 k ∧ wr = w.drewN q) (fun i _ => n - (intOf i).toNat)
  case atStart => exact ⟨0, 0, Nat.zero_le _, rfl, rfl⟩
  case round =>
    obtain ⟨k, q, hk, rfl, rfl⟩ := hrel
    by_cases hlt : k < n
    · obtain ⟨b1, o1, rfl, g1⟩ := h1 (by omega)
      obtain ⟨b2, o2, rfl, g2⟩ := h2 (by omega)
      have d1 := g1 k hlt
      have d2 := g2 k hlt
      have hl : (k : Int) < (n : Int) := by omega
      clear h1 h2 g1 g2
      go_wp2
      go_quiet (fail)
      go_wp2
      go_roundw
      case rel => exact ⟨k + 1, _, by omega, by go_num, rfl⟩
      case measure => simp [intOf]; omega
    · go_wp2
      go_ret
      exact ⟨rfl, below_drewN (Below.refl _ _) _⟩

def nums (n : Nat) (zs : List Int) : List Value := (List.range n).map fun j => .int .i64 (zs.getD j 0)
theorem nums_length (n : Nat) (zs : List Int) : (nums n zs).length = n * 1 := by simp [nums]
theorem nums_get {n : Nat} {zs : List Int} {j : Nat} {u : Value} (h : (nums n zs)[j]? = some u) : j < n ∧ u = .int .i64 (zs.getD j 0) := by
  unfold nums at h
  rw [List.getElem?_map] at h
  by_cases hj : j < n
  · rw [List.getElem?_range hj] at h
    simp only [Option.map_some, Option.some.injEq] at h
    exact ⟨hj, h.symm⟩
  · rw [List.getElem?_eq_none (by simp; omega)] at h
    simp at h
theorem nums_at {n : Nat} {zs : List Int} {j : Nat} (h : j < n) : (nums n zs)[j]? = some (.int .i64 (zs.getD j 0)) := by
  unfold nums
  rw [List.getElem?_map, List.getElem?_range h]
  rfl

theorem assert_one (x : Int) (w : World) : (Instr.typeAssert (.iface 3 (.int .i64 x)) 20 3 false).run Try.prog w = .ok (.int .i64 x) w := by kernel_rfl
theorem assert_two (x : Int) (w : World) : (Instr.typeAssert (.iface 3 (.int .i64 x)) 20 3 true).run Try.prog w = .ok (.tuple #[.int .i64 x, .bool true]) w := by kernel_rfl

theorem ints_holds {w : World} {ao : Option Addr} {n : Nat} {zs : List Int} (h1 : Ints w ao n zs) : ∀ b, ao = some b → ∀ j u, (nums n zs)[j]? = some u → w.cell? (b.add j) = some u := by
  rintro b rfl j u hu
  obtain ⟨hj, rfl⟩ := nums_get hu
  obtain ⟨b', o', e, hc⟩ := h1 (by omega)
  obtain rfl : b = ⟨b', o', none⟩ := by simpa using e
  rw [Go.WideShapes.add_plain]
  exact hc j hj

theorem ints_later {w w' : World} {ao : Option Addr} {n : Nat} {zs : List Int} (h1 : Ints w ao n zs) (hb : Below w.heap.size w w') : Ints w' ao n zs := by
  intro h
  obtain ⟨b, o, e, hc⟩ := h1 h
  exact ⟨b, o, e, fun j hj => cell_later hb (hc j hj)⟩

/-- What is known behind the append of Push, ahead of the store. -/
theorem push_grown {w w' : World} {bh n : Nat} {ao : Option Addr} {zs : List Int} {x : Int} {v' : Value} (hbh : bh < w.heap.size) (hcell : w.cell? ⟨bh, 0, none⟩ = some (.slice ao n n)) (hfz : w.frozen? ⟨bh, 0, none⟩ = false)
    (hown : w'.ownsRow (w.alloc (.cells #[.int .i64 x] 3)).drew.heap.size 3 1 v' (n + 1) (nums n zs ++ [.int .i64 x])) (hgrow : (w.alloc (.cells #[.int .i64 x] 3)).drew.grownBy w' none) :
    ∃ g cap, v' = .slice (some ⟨g, 0, none⟩) (n + 1) cap ∧ w'.cell? ⟨bh, 0, none⟩ = some (.slice ao n n) ∧ w'.frozen? ⟨bh, 0, none⟩ = false ∧ w.heap.size ≤ g ∧ g < w'.heap.size ∧ n + 1 ≤ cap ∧
      (∀ j, j < n → w'.cell? ⟨g, j, none⟩ = some (.int .i64 (zs.getD j 0))) ∧ w'.cell? ⟨g, n, none⟩ = some (.int .i64 x) ∧ Below w.heap.size w w' := by
  have hb1 : Below w.heap.size w (w.alloc (.cells #[.int .i64 x] 3)).drew := ((Below.refl _ _).alloc (Nat.le_refl _) _).drew
  have hb2 : Below w.heap.size w w' := hb1.grown hgrow (hb1.size) (fun k h => by cases h)
  have hown0 := hown
  rcases hown.2 with ⟨_, h⟩ | ⟨g, cap, cur, rfl, hg, hh, hcap, _⟩
  · omega
  · refine ⟨g, cap, rfl, (hb2.cell hbh).trans hcell, (hb2.frozen hbh).trans hfz, ?_, owned_lt hown0, hcap, fun j hj => ?_, ?_, hb2⟩
    · have : (w.alloc (.cells #[.int .i64 x] 3)).drew.heap.size = w.heap.size + 1 := by simp
      omega
    · rw [hown0.cellAt j (by omega), List.getElem?_append_left (by rw [nums_length]; omega)]
      exact nums_at hj
    · rw [hown0.cellAt n (by omega), List.getElem?_append_right (by rw [nums_length]; omega), nums_length]
      simp

theorem push_stored {w w' : World} {bh n g cap : Nat} {zs : List Int} {x : Int} {v0 : Value} (hbh : bh < w.heap.size) (hc2 : w'.cell? ⟨bh, 0, none⟩ = some v0)
    (h : w.heap.size ≤ g ∧ g < w'.heap.size ∧ n + 1 ≤ cap ∧ (∀ j, j < n → w'.cell? ⟨g, j, none⟩ = some (.int .i64 (zs.getD j 0))) ∧ w'.cell? ⟨g, n, none⟩ = some (.int .i64 x) ∧ Below w.heap.size w w') (v : Value) :
    (w'.setCell ⟨bh, 0, none⟩ v).cell? ⟨bh, 0, none⟩ = some v ∧ w.heap.size ≤ g ∧ g < (w'.setCell ⟨bh, 0, none⟩ v).heap.size ∧ n + 1 ≤ cap ∧
      (∀ j, j < n → (w'.setCell ⟨bh, 0, none⟩ v).cell? ⟨g, j, none⟩ = some (.int .i64 (zs.getD j 0))) ∧ (w'.setCell ⟨bh, 0, none⟩ v).cell? ⟨g, n, none⟩ = some (.int .i64 x) ∧ Below bh w (w'.setCell ⟨bh, 0, none⟩ v) := by
  obtain ⟨h1, h2, h3, h4, h5, h6⟩ := h
  have ne : ∀ j, (⟨bh, 0, none⟩ : Addr) ≠ ⟨g, j, none⟩ := fun j e => by have h := congrArg Addr.block e; simp only at h; omega
  refine ⟨World.cell?_setCell_same _ _ _ hc2, h1, by simpa [World.setCell] using h2, h3, fun j hj => ?_, ?_, (h6.mono (Nat.le_of_lt hbh)).setCell (p := ⟨bh, 0, none⟩) (Nat.le_refl _) _⟩
  · rw [World.cell?_setCell_other _ _ _ _ (ne j)]; exact h4 j hj
  · rw [World.cell?_setCell_other _ _ _ _ (ne n)]; exact h5

/-- Push onto a full (or nil) slice behind the receiver. -/
theorem push_any (bh : Nat) (ao : Option Addr) (n : Nat) (zs : List Int) (x : Int) (w : World) (hn : n ≤ 131072) (hbh : bh < w.heap.size)
    (hcell : w.cell? ⟨bh, 0, none⟩ = some (.slice ao n n)) (hfz : w.frozen? ⟨bh, 0, none⟩ = false) (hnone : ao = none → n = 0 ∧ n = 0) (h1 : Ints w ao n zs) :
    Calls Try.prog 22 #[.pointer (some ⟨bh, 0, none⟩), .iface 3 (.int .i64 x)] w fun e w' => e = .returned (.tuple #[]) ∧
      ∃ g cap, w'.cell? ⟨bh, 0, none⟩ = some (.slice (some ⟨g, 0, none⟩) (n + 1) cap) ∧ w.heap.size ≤ g ∧ g < w'.heap.size ∧ n + 1 ≤ cap ∧
        (∀ j, j < n → w'.cell? ⟨g, j, none⟩ = some (.int .i64 (zs.getD j 0))) ∧ w'.cell? ⟨g, n, none⟩ = some (.int .i64 x) ∧ Below bh w w' := by
  obtain ⟨i0, hi, hz0, hz1, hz2⟩ := info_parts info3
  have hta := assert_one x
  have hb1 : Below w.heap.size w (w.alloc (.cells #[.int .i64 x] 3)).drew := ((Below.refl _ _).alloc (Nat.le_refl _) _).drew
  have HO := hide (fun b hb j u hu => cell_later hb1 (ints_holds h1 b hb j u hu) : ∀ b, ao = some b → ∀ j u, (nums n zs)[j]? = some u → (w.alloc (.cells #[.int .i64 x] 3)).drew.cell? (b.add j) = some u)
  have HX : Hid (∀ j u, [Value.int .i64 x][j]? = some u → (w.alloc (.cells #[.int .i64 x] 3)).drew.cell? ((⟨w.heap.size, 0, none⟩ : Addr).add j) = some u) := by
    intro j u hu
    match j, hu with
    | 0, hu => simp at hu; subst hu; simp [Addr.add]
  clear h1 hb1
  go_enter Try.func22, Try.ntmps22
  go_wp2
  go_region_law (refine step_append_grows rfl (.tmp 7) (.tmp 10) 33 rfl 3 i0 (.int .i64 0) 1 8 Try.underlying33 hi hz0 hz1 hz2 rfl (by decide) ao n n (nums n zs) (by simp [Act.eval]) hnone (nums_length n zs) HO.out ⟨w.heap.size, 0, none⟩ 1 1 [.int .i64 x] (by simp [Act.eval]) rfl HX.out (by intro u hu; simp at hu; subst hu; rfl) (by omega) (by unfold maxLen; omega) (by omega) ?_; intro v' w' hown hgrow; obtain ⟨g, cap, rfl, hS⟩ := push_grown hbh hcell hfz hown hgrow; have hc2 := hS.1; have hf2 := hS.2.1; have HS := hide hS.2.2; clear hS hown hgrow)
  all_goals
    go_end0
    exact ⟨rfl, g, cap, push_stored hbh hc2 HS.out _⟩

/-- ZZpushIndexHeap: a new row, one longer. -/
theorem zzpush_any (ao : Option Addr) (n : Nat) (zs : List Int) (x : Int) (w : World) (hn : n ≤ 131072) (hnone : ao = none → n = 0 ∧ n = 0) (h1 : Ints w ao n zs) :
    Calls Try.prog 17 #[.slice ao n n, .int .i64 x] w fun e w' =>
      ∃ g cap, e = .returned (.slice (some ⟨g, 0, none⟩) (n + 1) cap) ∧ w.heap.size ≤ g ∧ g < w'.heap.size ∧ n + 1 ≤ cap ∧
        (∀ j, j < n → w'.cell? ⟨g, j, none⟩ = some (.int .i64 (zs.getD j 0))) ∧ w'.cell? ⟨g, n, none⟩ = some (.int .i64 x) ∧ Below w.heap.size w w' := by
  have hI : Ints (w.alloc (.cells #[.slice ao n n] 33)) ao n zs := ints_later h1 ((Below.refl _ _).alloc (Nat.le_refl _) _)
  have HI := hide hI
  clear h1 hI
  go_enter Try.func17, Try.ntmps17
  go_wp2_with fail
  refine (push_any w.heap.size ao n zs x _ hn (by simp) (by simp) (by simp) hnone HI.out).mono ?_
  rintro e w' ⟨rfl, g, cap, hc, h2, h3, h4, h5, h6, h7⟩
  have H := hide (And.intro h2 (And.intro h3 (And.intro h4 (And.intro h5 (And.intro h6 h7)))))
  clear h2 h3 h4 h5 h6 h7 HI
  go_wp2
  go_ret
  obtain ⟨h2, h3, h4, h5, h6, h7⟩ := H.out
  refine ⟨g, cap, rfl, by simp at h2; omega, h3, h4, h5, h6, ?_⟩
  exact ((Below.refl _ _).alloc (Nat.le_refl _) _).trans h7

/-- Pop of a slice that is not empty. -/
theorem pop_any (bh g off n cap : Nat) (x : Int) (w : World) (hn : n ≤ 131072) (hcap : n + 1 ≤ cap)
    (hcell : w.cell? ⟨bh, 0, none⟩ = some (.slice (some ⟨g, off, none⟩) (n + 1) cap)) (hfz : w.frozen? ⟨bh, 0, none⟩ = false) (hx : w.cell? ⟨g, off + n, none⟩ = some (.int .i64 x)) :
    Calls Try.prog 23 #[.pointer (some ⟨bh, 0, none⟩)] w fun e w' => e = .returned (.iface 3 (.int .i64 x)) ∧ w' = w.setCell ⟨bh, 0, none⟩ (.slice (some ⟨g, off, none⟩) n cap) := by
  go_enter Try.func23, Try.ntmps23
  go_wp2
  go_ret
  exact ⟨rfl, rfl⟩

/-- ZZpopIndexHeap of a slice that is not empty. -/
theorem zzpop_any (g off n cap : Nat) (x : Int) (w : World) (hn : n ≤ 131072) (hcap : n + 1 ≤ cap) (hx : w.cell? ⟨g, off + n, none⟩ = some (.int .i64 x)) :
    Calls Try.prog 19 #[.slice (some ⟨g, off, none⟩) (n + 1) cap] w fun e w' => e = .returned (.tuple #[.slice (some ⟨g, off, none⟩) n cap, .int .i64 x]) ∧ Below w.heap.size w w' := by
  have hx1 : (w.alloc (.cells #[.slice (some ⟨g, off, none⟩) (n + 1) cap] 33)).cell? ⟨g, off + n, none⟩ = some (.int .i64 x) := cell_later ((Below.refl _ _).alloc (Nat.le_refl _) _) hx
  have HX := hide hx1
  clear hx hx1
  have hta := assert_two x
  go_enter Try.func19, Try.ntmps19
  go_wp2_with fail
  refine (pop_any w.heap.size g off n cap x _ hn hcap (by simp) (by simp) HX.out).mono ?_
  rintro e w' ⟨rfl, rfl⟩
  go_wp2
  go_ret2
  exact ⟨rfl, (Below.refl _ _).alloc (Nat.le_refl _) _⟩

end Go.Proofs.Qxb6612291a
