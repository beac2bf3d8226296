/-
  Contracts for FnPushThenPopRoundTrip: zzCloneInts, zzEqualInts, Push, ZZpushIndexHeap, Pop, ZZpopIndexHeap.
-/
import Derived.Test.Qxb6612291aRows
import Derived.WalkKit
import Derived.ProofKit
import Derived.WalkSpells
import Derived.Outline
import Derived.Deep.QuietTactic
import Derived.BigQuiet
import Derived.Deep.RegionLawGrows
namespace Go.Proofs.Qxb6612291a
open Go.RowKit

theorem hide {p : Prop} (h : p) : Hid p := h

theorem info3 : (Try.prog.info? 3).map (fun i => (i.zero, i.size, i.bytes)) = some (some (.int .i64 0), 1, 8) := by kernel_rfl

theorem bcell {B : Nat} {W w1 : World} (hb : Below B W w1) : (∀ b o, b < B → w1.cell? ⟨b, o, none⟩ = W.cell? ⟨b, o, none⟩) ∧ (∀ b o, b < B → w1.frozen? ⟨b, o, none⟩ = W.frozen? ⟨b, o, none⟩) :=
  ⟨fun b o h => hb.cell (p := ⟨b, o, none⟩) h, fun b o h => hb.frozen (p := ⟨b, o, none⟩) h⟩

theorem owned_lt {w : World} {g n cap : Nat} {base e size : Nat} {xs : List Value} (h : w.ownsRow base e size (.slice (some ⟨g, 0, none⟩) n cap) n xs) : g < w.heap.size := by
  rcases h.2 with ⟨h', _⟩ | ⟨g', cap', cur, h', _, hg, _⟩
  · simp at h'
  · simp only [Value.slice.injEq, Option.some.injEq, Addr.mk.injEq, and_true, true_and] at h'
    obtain ⟨rfl, rfl⟩ := h'
    exact (Array.getElem?_eq_some_iff.1 hg).1

/-- The clone's round: one more number is stored. -/
theorem step_store {w wr : World} {n k : Nat} {xs : List Value} {zs : List Int} (hown : wr.ownsRow w.heap.size 3 1 (.slice (some ⟨w.heap.size, 0, none⟩) n n) n xs) (hbel : Below w.heap.size w wr)
    (hxs : ∀ j, j < k → xs[j]? = some (.int .i64 (zs.getD j 0))) (hlt : k < n) :
    ∃ ys, (wr.setCell ⟨w.heap.size, k, none⟩ (.int .i64 (zs.getD k 0))).ownsRow w.heap.size 3 1 (.slice (some ⟨w.heap.size, 0, none⟩) n n) n ys ∧ (∀ j, j < k + 1 → ys[j]? = some (.int .i64 (zs.getD j 0))) ∧
      Below w.heap.size w (wr.setCell ⟨w.heap.size, k, none⟩ (.int .i64 (zs.getD k 0))) ∧ w.heap.size < (wr.setCell ⟨w.heap.size, k, none⟩ (.int .i64 (zs.getD k 0))).heap.size := by
  have h := (hown.stored k (.int .i64 (zs.getD k 0))).1
  refine ⟨_, h, fun j hj => ?_, hbel.setCell (Nat.le_refl _) _, owned_lt h⟩
  have hlen : xs.length = n * 1 := hown.1
  by_cases e : j = k
  · subst e; rw [List.getElem?_set_self (by omega)]
  · rw [List.getElem?_set_ne (by omega)]; exact hxs j (by omega)

/-- zzCloneInts at nil. -/
theorem clone_nil (w : World) :
    Calls Try.prog 13 #[.slice none 0 0] w fun e w' => e = .returned (.slice none 0 0) ∧ w' = w := by
  have hn := fun (wx : World) (a : Option Addr) (n c n' c' : Nat) => Lib.run_eql_slice_nil (P := Try.prog) wx 24 3 a n c n' c' Try.underlying24
  go_enter Try.func13, Try.ntmps13
  go_wp2
  go_ret
  exact ⟨rfl, rfl⟩

/-- zzCloneInts at a slice that is not nil: a new row of the same numbers, full. -/
theorem clone_some (b off : Nat) (sp : Option Nat) (n c : Nat) (zs : List Int) (w : World) (hn : n ≤ 131072) (hb : 0 < n → b < w.heap.size)
    (hsp : 0 < n → sp = none) (hc : ∀ j, j < n → w.cell? ⟨b, off + j, none⟩ = some (.int .i64 (zs.getD j 0))) :
    Calls Try.prog 13 #[.slice (some ⟨b, off, sp⟩) n c] w fun e w' => ∃ g, e = .returned (.slice (some ⟨g, 0, none⟩) n n) ∧ w.heap.size ≤ g ∧ g < w'.heap.size ∧
      (∀ j, j < n → w'.cell? ⟨g, j, none⟩ = some (.int .i64 (zs.getD j 0))) ∧ Below w.heap.size w w' := by
  have hnl := fun (wx : World) (a : Option Addr) (n c n' c' : Nat) => Lib.run_eql_slice_nil (P := Try.prog) wx 24 3 a n c n' c' Try.underlying24
  obtain ⟨i0, hi, hz0, hz1, hz2⟩ := info_parts info3
  go_enter Try.func13, Try.ntmps13
  go_wp2_with (first
    | (at_make; refine wpList_make_full _ rfl _ _ 24 rfl w.heap.size 3 i0 (.int .i64 0) 1 Try.underlying24 hi hz0 hz1 .i64 .i64 _ _ n rfl rfl rfl rfl (by rw [hz2]; omega) (by unfold maxLen; omega) (Nat.le_refl _) ?_; intro w0 hown0 hgrow0))
  have hb0 : Below w.heap.size w w0 := (Below.refl _ _).grown hgrow0 (Nat.le_refl _) (fun k h => by cases h)
  clear hgrow0
  go_loopw [4] (fun i wr => ∃ (k : Nat) (xs : List Value), k ≤ n ∧ i = .int .i64 k ∧ wr.ownsRow w.heap.size 3 1 (.slice (some ⟨w.heap.size, 0, none⟩) n n) n xs ∧ (∀ j, j < k → xs[j]? = some (.int .i64 (zs.getD j 0))) ∧ Below w.heap.size w wr ∧ w.heap.size < wr.heap.size)
    (fun i _ => n - (intOf i).toNat)
  case atStart => exact ⟨0, _, Nat.zero_le _, rfl, hown0, fun j hj => absurd hj (Nat.not_lt_zero _), hb0, owned_lt hown0⟩
  case round =>
    obtain ⟨k, xs, hk, rfl, hown, hxs, hbel, hlt0⟩ := hrel
    by_cases hlt : k < n
    · obtain rfl := hsp (by omega)
      have hlen : xs.length = n * 1 := hown.1
      have hcx : wr.cell? ⟨b, off + k, none⟩ = some (.int .i64 (zs.getD k 0)) := (hbel.cell (hb (by omega))).trans (hc k hlt)
      have hfz := hown.frozenAt k
      obtain ⟨u, hu⟩ : ∃ u, wr.cell? ⟨w.heap.size, k, none⟩ = some u := ⟨xs[k], by rw [hown.cellAt k (by omega)]; exact List.getElem?_eq_getElem _⟩
      have S := hide (step_store hown hbel hxs hlt)
      clear hown hxs hbel hlt0 hc
      go_wp2
      go_roundw
      case rel =>
        obtain ⟨ys, r1, r2, r3, r4⟩ := S.out
        exact ⟨k + 1, ys, by omega, by go_num, by simpa using r1, r2, by simpa using r3, by simpa using r4⟩
      case measure => simp [intOf]; omega
    · go_wp2
      go_ret
      obtain rfl : k = n := by omega
      exact ⟨_, rfl, Nat.le_refl _, hlt0, fun j hj => by rw [hown.cellAt j (by omega)]; exact hxs j hj, hbel⟩
end Go.Proofs.Qxb6612291a
