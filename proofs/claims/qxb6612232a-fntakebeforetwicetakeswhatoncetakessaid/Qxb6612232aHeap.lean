/-
  The heap's methods and container/heap's Pop, down, over a row of ints of the call's own.
-/
import Derived.Test.Qxb6612232aMulti
import Derived.BigRegion
import Derived.RegionTactic
namespace Go.Proofs.Qxb6612232a
open Go Go.RowKit

/-- All blocks but those of S are as they were; new ones may have come. -/
structure Keep (S : Nat → Prop) (w w' : World) : Prop where
  os : w'.os = w.os
  tape : w'.tape = w.tape
  output : w'.output = w.output
  size : w.heap.size ≤ w'.heap.size
  block : ∀ k, k < w.heap.size → ¬ S k → w'.heap[k]? = w.heap[k]?

theorem Keep.refl (S : Nat → Prop) (w : World) : Keep S w w := ⟨rfl, rfl, rfl, Nat.le_refl _, fun _ _ _ => rfl⟩
theorem Keep.trans {S : Nat → Prop} {a b c : World} (h : Keep S a b) (k : Keep S b c) : Keep S a c :=
  ⟨k.os.trans h.os, k.tape.trans h.tape, k.output.trans h.output, Nat.le_trans h.size k.size, fun i hi hs => (k.block i (Nat.lt_of_lt_of_le hi h.size) hs).trans (h.block i hi hs)⟩
theorem Keep.mono {S T : Nat → Prop} {a b : World} (h : Keep S a b) (hs : ∀ k, S k → T k) : Keep T a b := ⟨h.os, h.tape, h.output, h.size, fun i hi ht => h.block i hi (fun e => ht (hs i e))⟩
theorem Keep.drewN {S : Nat → Prop} {a w : World} (h : Keep S a w) (n : Nat) : Keep S a (w.drewN n) := ⟨h.os, h.tape, h.output, h.size, h.block⟩
theorem Keep.drew {S : Nat → Prop} {a w : World} (h : Keep S a w) : Keep S a w.drew := ⟨h.os, h.tape, h.output, h.size, h.block⟩
theorem Keep.alloc {S : Nat → Prop} {a w : World} (h : Keep S a w) (o : Obj) : Keep S a (w.alloc o) :=
  h.trans ⟨rfl, rfl, rfl, by simp, fun k hk _ => Below.heap_alloc _ _ _ hk⟩
theorem Keep.setCell {S : Nat → Prop} {a w : World} (h : Keep S a w) {p : Addr} (hp : S p.block) (u : Value) : Keep S a (w.setCell p u) :=
  h.trans ⟨rfl, rfl, rfl, by simp [World.setCell], fun k _ hs => Below.heap_setCell _ _ _ _ (fun e => hs (e ▸ hp))⟩
theorem Keep.grown {S : Nat → Prop} {a w w' : World} {row : Option Nat} (h : Keep S a w) (hg : w.grownBy w' row) (hr : ∀ k, row = some k → S k) : Keep S a w' :=
  h.trans ⟨hg.os, hg.tape, hg.output, hg.size, fun k hk hs => hg.block k hk (fun e => hs (hr k e.symm))⟩
theorem Keep.below {S : Nat → Prop} {a b : World} {B : Nat} (h : Keep S a b) (hB : B ≤ a.heap.size) (hs : ∀ k, S k → B ≤ k) : Below B a b :=
  ⟨h.os, h.tape, h.output, h.size, fun k hk => h.block k (Nat.lt_of_lt_of_le hk hB) (fun e => by have := hs k e; omega)⟩
theorem Keep.of_below {S : Nat → Prop} {a b : World} (h : Below a.heap.size a b) : Keep S a b := ⟨h.os, h.tape, h.output, h.size, fun k hk _ => h.block k hk⟩
theorem Keep.cell {S : Nat → Prop} {a b : World} {g j : Nat} {v : Value} (h : Keep S a b) (hg : ¬ S g) (hc : a.cell? ⟨g, j, none⟩ = some v) : b.cell? ⟨g, j, none⟩ = some v :=
  (World.cell?_of_block (a := ⟨g, j, none⟩) (h.block g (World.block_lt_of_cell? _ _ hc) hg)).trans hc
theorem Keep.frozen {S : Nat → Prop} {a b : World} {g j : Nat} (h : Keep S a b) (hg : ¬ S g) (hl : g < a.heap.size) : b.frozen? ⟨g, j, none⟩ = a.frozen? ⟨g, j, none⟩ :=
  World.frozen?_of_block (a := ⟨g, j, none⟩) (h.block g hl hg)

/-- Block g's first cells hold the ints xs, and none of its cells is frozen. -/
structure HRow (w : World) (g : Nat) (xs : List Int) : Prop where
  holds : ∀ j, j < xs.length → w.cell? ⟨g, j, none⟩ = some (.int .i64 (xs.getD j 0))
  free : ∀ j, w.frozen? ⟨g, j, none⟩ = false
  lt : g < w.heap.size

theorem HRow.kept {S : Nat → Prop} {w w' : World} {g : Nat} {xs : List Int} (h : HRow w g xs) (k : Keep S w w') (hg : ¬ S g) : HRow w' g xs :=
  ⟨fun j hj => k.cell hg (h.holds j hj), fun j => (k.frozen hg h.lt).trans (h.free j), Nat.lt_of_lt_of_le h.lt k.size⟩

theorem less_any (g n cap : Nat) (xs : List Int) (i j : Nat) (w : World) (h : HRow w g xs) (hn : n ≤ xs.length) (hi : i < n) (hj : j < n) :
    Calls Try.prog 59 #[.slice (some ⟨g, 0, none⟩) n cap, .int .i64 i, .int .i64 j] w fun e w' => e = .returned (.bool (decide (xs.getD i 0 < xs.getD j 0))) ∧ ∃ q, w' = w.drewN q := by
  have c1 := h.holds i (by omega)
  have c2 := h.holds j (by omega)
  have i1 : (i : Int) < (n : Int) := by omega
  have i2 : (j : Int) < (n : Int) := by omega
  go_enter Try.func59, Try.ntmps59
  go_wp2
  go_quiet (fail)
  go_wp2
  go_ret
  exact ⟨rfl, _, rfl⟩

theorem swap_raw (g n cap : Nat) (x y : Int) (i j : Nat) (w : World) (hi : i < n) (hj : j < n) (c1 : w.cell? ⟨g, i, none⟩ = some (.int .i64 x)) (c2 : w.cell? ⟨g, j, none⟩ = some (.int .i64 y)) (f1 : w.frozen? ⟨g, i, none⟩ = false) (f2 : w.frozen? ⟨g, j, none⟩ = false) :
    Calls Try.prog 60 #[.slice (some ⟨g, 0, none⟩) n cap, .int .i64 i, .int .i64 j] w fun e w' => e = .returned (.tuple #[]) ∧ w' = ((w.setCell ⟨g, i, none⟩ (.int .i64 y)).setCell ⟨g, j, none⟩ (.int .i64 x)).drew := by
  have i1 : (i : Int) < (n : Int) := by omega
  have i2 : (j : Int) < (n : Int) := by omega
  obtain ⟨v', hy'⟩ := cell?_setCell_some (w := w) (p := ⟨g, i, none⟩) (x := .int .i64 y) (q := ⟨g, j, none⟩) (v := .int .i64 y) c2
  go_enter Try.func60, Try.ntmps60
  go_wp2
  go_region
  all_goals
    go_end0
    exact ⟨rfl, rfl⟩

/-- The list with two places traded. -/
def swp (xs : List Int) (i j : Nat) : List Int := (xs.set i (xs.getD j 0)).set j (xs.getD i 0)
theorem swp_length (xs : List Int) (i j : Nat) : (swp xs i j).length = xs.length := by simp [swp]
theorem swp_getD (xs : List Int) (i j k : Nat) (hi : i < xs.length) (hj : j < xs.length) : (swp xs i j).getD k 0 = if k = j then xs.getD i 0 else if k = i then xs.getD j 0 else xs.getD k 0 := by
  unfold swp
  simp only [List.getD_eq_getElem?_getD]
  by_cases h1 : k = j
  · subst h1
    rw [if_pos rfl, List.getElem?_set_self (by simpa using hj)]
    rfl
  · rw [if_neg h1, List.getElem?_set_ne (fun e => h1 e.symm)]
    by_cases h2 : k = i
    · subst h2
      rw [if_pos rfl, List.getElem?_set_self hi]
      rfl
    · rw [if_neg h2, List.getElem?_set_ne (fun e => h2 e.symm)]
theorem swp_perm (xs : List Int) (i j : Nat) (hi : i < xs.length) (hj : j < xs.length) : (swp xs i j).Perm xs := by
  unfold swp
  have e1 : xs.getD j 0 = xs[j] := by simp [List.getD, hj]
  have e2 : xs.getD i 0 = xs[i] := by simp [List.getD, hi]
  rw [e1, e2]
  exact List.set_set_perm hi hj

theorem HRow.swapped {w : World} {g : Nat} {xs : List Int} (h : HRow w g xs) (i j : Nat) (hi : i < xs.length) (hj : j < xs.length) :
    HRow (((w.setCell ⟨g, i, none⟩ (.int .i64 (xs.getD j 0))).setCell ⟨g, j, none⟩ (.int .i64 (xs.getD i 0))).drew) g (swp xs i j) := by
  refine ⟨fun k hk => ?_, fun k => ?_, by simpa [World.setCell] using h.lt⟩
  · rw [swp_length] at hk
    rw [swp_getD xs i j k hi hj]
    show ((w.setCell ⟨g, i, none⟩ (.int .i64 (xs.getD j 0))).setCell ⟨g, j, none⟩ (.int .i64 (xs.getD i 0))).cell? ⟨g, k, none⟩ = _
    by_cases h1 : k = j
    · subst h1
      rw [if_pos rfl]
      obtain ⟨v', hv⟩ := cell?_setCell_some (w := w) (p := ⟨g, i, none⟩) (x := .int .i64 (xs.getD k 0)) (q := ⟨g, k, none⟩) (h.holds k hj)
      exact World.cell?_setCell_same _ _ _ hv
    · rw [if_neg h1, World.cell?_setCell_other _ _ _ _ (fun e => h1 (congrArg Addr.off e).symm)]
      by_cases h2 : k = i
      · subst h2
        rw [if_pos rfl]
        exact World.cell?_setCell_same _ _ _ (h.holds k hi)
      · rw [if_neg h2, World.cell?_setCell_other _ _ _ _ (fun e => h2 (congrArg Addr.off e).symm)]
        exact h.holds k hk
  · show ((w.setCell ⟨g, i, none⟩ (.int .i64 (xs.getD j 0))).setCell ⟨g, j, none⟩ (.int .i64 (xs.getD i 0))).frozen? ⟨g, k, none⟩ = _
    rw [World.frozen?_setCell, World.frozen?_setCell]
    exact h.free k

theorem swap_any (g n cap : Nat) (xs : List Int) (i j : Nat) (w : World) (h : HRow w g xs) (hn : n ≤ xs.length) (hi : i < n) (hj : j < n) :
    Calls Try.prog 60 #[.slice (some ⟨g, 0, none⟩) n cap, .int .i64 i, .int .i64 j] w fun e w' => e = .returned (.tuple #[]) ∧ HRow w' g (swp xs i j) ∧ Keep (· = g) w w' := by
  refine (swap_raw g n cap (xs.getD i 0) (xs.getD j 0) i j w hi hj (h.holds i (by omega)) (h.holds j (by omega)) (h.free i) (h.free j)).mono ?_
  rintro e w' ⟨rfl, rfl⟩
  exact ⟨rfl, h.swapped i j (by omega) (by omega), (((Keep.refl (· = g) w).setCell (p := ⟨g, i, none⟩) rfl _).setCell (p := ⟨g, j, none⟩) rfl _).drew⟩

theorem load_head {F : Nat} {v : Value} {w : World} (hc : w.cell? ⟨F, 1, none⟩ = some v) : (loadVar 63 ⟨F, 1, none⟩).run Try.prog w = .ok v w := by
  go_simp

theorem wrap_nil (a : Addr) (s1 s2 : String) (w : World) : (Builtin.ssaWrapNilChk_ #[93] 93 #[.pointer (some a), strVal s1, strVal s2]).run Try.prog w = .ok (.pointer (some a)) w := rfl

/-- A method of a value receiver, called through the pointer that an interface value holds. -/
theorem method_by {name : String} {f : FuncId} (h : (Try.prog.info? 93).map (fun i => (i.methods.find? (·.name == name)).map fun m => (m.path, m.func)) = some (some (#[], some (f, false)))) {F : Nat} {v : Value} {w : World} (hc : w.cell? ⟨F, 1, none⟩ = some v) :
    (method 221 93 (.pointer (some ⟨F, 1, none⟩)) name).run Try.prog w = .ok (f, v) w := by
  obtain ⟨i, hi, hx⟩ := Option.map_eq_some_iff.1 h
  obtain ⟨m, hm, hy⟩ := Option.map_eq_some_iff.1 hx
  simp only [Prod.mk.injEq] at hy
  obtain ⟨hp, hf⟩ := hy
  have hl := load_head hc
  unfold method
  simp [typeInfo, hi, hm, hp, hf, follow, receiverAt, Place.get, run_underlying Try.underlying93, wrap_nil, asAddr, hl]

theorem method_len : (Try.prog.info? 93).map (fun i => (i.methods.find? (·.name == "Len")).map fun m => (m.path, m.func)) = some (some (#[], some (58, false))) := by kernel_rfl
theorem method_less : (Try.prog.info? 93).map (fun i => (i.methods.find? (·.name == "Less")).map fun m => (m.path, m.func)) = some (some (#[], some (59, false))) := by kernel_rfl
theorem method_swap : (Try.prog.info? 93).map (fun i => (i.methods.find? (·.name == "Swap")).map fun m => (m.path, m.func)) = some (some (#[], some (60, false))) := by kernel_rfl
theorem method_pop (a : Addr) (w : World) : (method 221 93 (.pointer (some a)) "Pop").run Try.prog w = .ok (62, .pointer (some a)) w := by kernel_rfl

end Go.Proofs.Qxb6612232a
