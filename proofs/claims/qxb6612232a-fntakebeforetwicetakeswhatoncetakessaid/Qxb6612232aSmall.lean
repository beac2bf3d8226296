/-
  The small functions: zzBytes, ZZnewFilledRows, ZZrising, ZZfromTop, zzCountBelow, zzCloneInts.
-/
import Derived.Test.Qxb6612232aSift
import Derived.Test.Qxb6612232aTake
import Derived.Deep.RegionLawGrows
namespace Go.Proofs.Qxb6612232a
open Go Go.RowKit

theorem new_any (a b : Option Addr) (n c m d : Nat) (w : World) :
    Calls Try.prog 16 #[.slice a n c, .slice b m d] w fun e w' => e = .returned (.pointer (some ⟨w.heap.size, 0, none⟩)) ∧ w' = w.alloc (.cells #[.slice a n c, .slice b m d, .slice none 0 0] 67) := by
  go_enter Try.func16, Try.ntmps16
  go_wp2
  go_ret
  exact ⟨rfl, rfl⟩

theorem rising_any (F : Nat) (v : Value) (w : World) (h : w.cell? ⟨F, 0, none⟩ = some v) :
    Calls Try.prog 18 #[.pointer (some ⟨F, 0, none⟩)] w fun e w' => e = .returned v ∧ w = w' := by
  go_enter Try.func18, Try.ntmps18
  go_wp2
  go_ret
  exact ⟨rfl, rfl⟩

theorem fromTop_any (F : Nat) (v : Value) (w : World) (h : w.cell? ⟨F, 1, none⟩ = some v) :
    Calls Try.prog 19 #[.pointer (some ⟨F, 0, none⟩)] w fun e w' => e = .returned v ∧ w = w' := by
  go_enter Try.func19, Try.ntmps19
  go_wp2
  go_ret
  exact ⟨rfl, rfl⟩

/-- So many of the rows lie below v. -/
def below (xs : List Int) (v : Int) : Nat := xs.countP (· < v)

theorem below_take_succ (l : List Int) (k : Nat) (v : Int) (h : k < l.length) : below (l.take (k + 1)) v = below (l.take k) v + if l.getD k 0 < v then 1 else 0 := by
  unfold below
  rw [List.take_succ_eq_append_getElem h, List.countP_append, List.countP_singleton]
  have e : l.getD k 0 = l[k] := by simp [List.getD, h]
  rw [e]
  simp

theorem below_le (l : List Int) (v : Int) : below l v ≤ l.length := List.countP_le_length

theorem countBelow_any (a : Option Addr) (c : Nat) (xs : List Int) (v : Int) (w : World) (h : Ints w a xs) (hl : xs.length ≤ 200000) :
    Calls Try.prog 20 #[.slice a xs.length c, .int .i64 v] w fun e w' => e = .returned (.int .i64 (below xs v : Int)) ∧ w = w' := by
  have HI := hide h
  clear h
  go_enter Try.func20, Try.ntmps20
  go_wp2
  go_loopw [5, 6] (fun n i wr => ∃ k : Nat, k ≤ xs.length ∧ i = .int .i64 k ∧ n = .int .i64 (below (xs.take k) v : Int) ∧ wr = w) (fun _ i _ => xs.length - (intOf i).toNat)
  case atStart => exact ⟨0, Nat.zero_le _, rfl, rfl, rfl⟩
  case round =>
    obtain ⟨k, hk, rfl, rfl, rfl⟩ := hrel
    by_cases hlt : k < xs.length
    · obtain ⟨b, off, rfl, hc⟩ := HI.out (by omega)
      have d1 := hc k hlt
      have e1 := below_take_succ xs k v hlt
      obtain ⟨x, hx⟩ : ∃ x, xs.getD k 0 = x := ⟨_, rfl⟩
      obtain ⟨m, hm⟩ : ∃ m, below (xs.take k) v = m := ⟨_, rfl⟩
      have hm2 : m ≤ k := by have := below_le (xs.take k) v; have := List.length_take_le k xs; omega
      rw [hx] at d1 e1
      rw [hm] at e1 ⊢
      clear hc hx
      have hlt' : (k : Int) < (xs.length : Int) := by omega
      by_cases hv : x < v
      · rw [if_pos hv] at e1
        have E1 := hide e1
        clear e1 hm
        go_wp2
        go_roundw
        case rel => exact ⟨k + 1, by omega, by go_num, by rw [E1.out]; go_num, trivial⟩
        case measure => simp [intOf]; omega
      · rw [if_neg hv] at e1
        have E1 := hide e1
        clear e1 hm
        have hd : decide (x < v) = false := decide_eq_false hv
        go_wp2
        go_roundw
        case rel => exact ⟨k + 1, by omega, by go_num, by rw [E1.out]; rfl, trivial⟩
        case measure => simp [intOf]; omega
    · obtain rfl : k = xs.length := by omega
      have hz0 : ¬ (xs.length : Int) < (xs.length : Int) := by omega
      rw [List.take_length]
      go_wp2
      go_ret
      exact ⟨rfl, rfl⟩

theorem owned_lt {w : World} {g n cap : Nat} {base e size : Nat} {xs : List Value} (h : w.ownsRow base e size (.slice (some ⟨g, 0, none⟩) n cap) n xs) : g < w.heap.size := by
  rcases h.2 with ⟨h', _⟩ | ⟨g', cap', cur, h', _, hg, _⟩
  · simp at h'
  · simp only [Value.slice.injEq, Option.some.injEq, Addr.mk.injEq, and_true, true_and] at h'
    obtain ⟨rfl, rfl⟩ := h'
    exact (Array.getElem?_eq_some_iff.1 hg).1

/-- The clone's round: one more number is stored. -/
theorem step_store {w wr : World} {n k : Nat} {xs : List Value} {zs : List Int} (hown : wr.ownsRow w.heap.size 3 1 (.slice (some ⟨w.heap.size, 0, none⟩) n n) n xs) (hbel : Below w.heap.size w wr)
    (hxs : ∀ j, j < k → xs[j]? = some (.int .i64 (zs.getD j 0))) (hlt : k < n) :
    ∃ ys, (wr.setCell ⟨w.heap.size, k, none⟩ (.int .i64 (zs.getD k 0))).ownsRow w.heap.size 3 1 (.slice (some ⟨w.heap.size, 0, none⟩) n n) n ys ∧ (∀ j, j < k + 1 → ys[j]? = some (.int .i64 (zs.getD j 0))) ∧
      Below w.heap.size w (wr.setCell ⟨w.heap.size, k, none⟩ (.int .i64 (zs.getD k 0))) ∧ w.heap.size < (wr.setCell ⟨w.heap.size, k, none⟩ (.int .i64 (zs.getD k 0))).heap.size := by
  have h := (hown.stored k (.int .i64 (zs.getD k 0))).1
  refine ⟨_, h, fun j hj => ?_, hbel.setCell (Nat.le_refl _) _, owned_lt h⟩
  have hlen : xs.length = n * 1 := hown.1
  by_cases e : j = k
  · subst e; rw [List.getElem?_set_self (by omega)]
  · rw [List.getElem?_set_ne (by omega)]; exact hxs j (by omega)

/-- zzCloneInts at nil. -/
theorem clone_nil (w : World) :
    Calls Try.prog 15 #[.slice none 0 0] w fun e w' => e = .returned (.slice none 0 0) ∧ w = w' := by
  have hn := fun (wx : World) (a : Option Addr) (n c n' c' : Nat) => Lib.run_eql_slice_nil (P := Try.prog) wx 46 3 a n c n' c' Try.underlying46
  go_enter Try.func15, Try.ntmps15
  go_wp2
  go_ret
  exact ⟨rfl, rfl⟩

/-- zzCloneInts at a slice that is not nil: a new row of the same numbers, full. -/
theorem clone_some (b off : Nat) (sp : Option Nat) (n c : Nat) (zs : List Int) (w : World) (hn : n ≤ 131072) (hb : 0 < n → b < w.heap.size)
    (hsp : 0 < n → sp = none) (hc : ∀ j, j < n → w.cell? ⟨b, off + j, none⟩ = some (.int .i64 (zs.getD j 0))) :
    Calls Try.prog 15 #[.slice (some ⟨b, off, sp⟩) n c] w fun e w' => e = .returned (.slice (some ⟨w.heap.size, 0, none⟩) n n) ∧ w.heap.size < w'.heap.size ∧
      (∀ j, j < n → w'.cell? ⟨w.heap.size, j, none⟩ = some (.int .i64 (zs.getD j 0))) ∧ (∀ j, w'.frozen? ⟨w.heap.size, j, none⟩ = false) ∧ Below w.heap.size w w' := by
  have hnl := fun (wx : World) (a : Option Addr) (n c n' c' : Nat) => Lib.run_eql_slice_nil (P := Try.prog) wx 46 3 a n c n' c' Try.underlying46
  obtain ⟨i0, hi, hz0, hz1, hz2⟩ := info_parts info3
  go_enter Try.func15, Try.ntmps15
  go_wp2_with (first
    | (at_make; refine wpList_make_full _ rfl _ _ 46 rfl w.heap.size 3 i0 (.int .i64 0) 1 Try.underlying46 hi hz0 hz1 .i64 .i64 _ _ n rfl rfl rfl rfl (by rw [hz2]; omega) (by unfold maxLen; omega) (Nat.le_refl _) ?_; intro w0 hown0 hgrow0))
  have hb0 : Below w.heap.size w w0 := (Below.refl _ _).grown hgrow0 (Nat.le_refl _) (fun k h => by cases h)
  clear hgrow0
  go_loopw [4] (fun i wr => ∃ (k : Nat) (xs : List Value), k ≤ n ∧ i = .int .i64 k ∧ wr.ownsRow w.heap.size 3 1 (.slice (some ⟨w.heap.size, 0, none⟩) n n) n xs ∧ (∀ j, j < k → xs[j]? = some (.int .i64 (zs.getD j 0))) ∧ Below w.heap.size w wr ∧ w.heap.size < wr.heap.size)
    (fun i _ => n - (intOf i).toNat)
  case atStart => exact ⟨0, _, Nat.zero_le _, rfl, hown0, fun j hj => absurd hj (Nat.not_lt_zero _), hb0, owned_lt hown0⟩
  case round =>
    obtain ⟨k, xs, hk, rfl, hown, hxs, hbel, hlt0⟩ := hrel
    by_cases hlt : k < n
    · obtain rfl := hsp (by omega)
      have hlen : xs.length = n * 1 := hown.1
      have hcx : wr.cell? ⟨b, off + k, none⟩ = some (.int .i64 (zs.getD k 0)) := (hbel.cell (hb (by omega))).trans (hc k hlt)
      have hfz := hown.frozenAt k
      obtain ⟨u, hu⟩ : ∃ u, wr.cell? ⟨w.heap.size, k, none⟩ = some u := ⟨xs[k], by rw [hown.cellAt k (by omega)]; exact List.getElem?_eq_getElem _⟩
      have S := hide (step_store hown hbel hxs hlt)
      clear hown hxs hbel hlt0 hc
      go_wp2
      go_roundw
      case rel =>
        obtain ⟨ys, r1, r2, r3, r4⟩ := S.out
        exact ⟨k + 1, ys, by omega, by go_num, by simpa using r1, r2, by simpa using r3, by simpa using r4⟩
      case measure => simp [intOf]; omega
    · go_wp2
      go_ret
      obtain rfl : k = n := by omega
      exact ⟨rfl, hlt0, fun j hj => by rw [hown.cellAt j (by omega)]; exact hxs j hj, fun j => hown.frozenAt j, hbel⟩
end Go.Proofs.Qxb6612232a
