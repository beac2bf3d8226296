/-
  zzSameMultiset: a map of counts that the call makes.
-/
import Derived.Test.Qxb6612232aRows
import Derived.WalkKit
import Derived.ProofKit
import Derived.WalkSpells
import Derived.WalkSmall
import Derived.Outline
import Derived.Deep.QuietTactic
import Derived.BigQuiet
import Derived.Maps.Own
import Derived.Maps.OwnOps
import Derived.Maps.Views
import Derived.Maps.Keyed
namespace Go.Proofs.Qxb6612232a
open Go Go.RowKit Go.Maps

theorem hide {p : Prop} (h : p) : Hid p := h

/-- What is known of a slice of ints that lies in w: its elements are xs. -/
def Ints (w : World) (a : Option Addr) (xs : List Int) : Prop :=
  0 < xs.length → ∃ b off, a = some ⟨b, off, none⟩ ∧ ∀ j, j < xs.length → w.cell? ⟨b, off + j, none⟩ = some (.int .i64 (xs.getD j 0))

theorem Ints.later {w w' : World} {a : Option Addr} {xs : List Int} (h : Ints w a xs) (hb : Below w.heap.size w w') : Ints w' a xs := by
  intro h0
  obtain ⟨b, o, e, hc⟩ := h h0
  exact ⟨b, o, e, fun j hj => cell_later hb (hc j hj)⟩

theorem law3 : Keyed Try.prog 3 := int_keyed Try.underlying3
theorem zero3 (w : World) : (zeroValue 3).run Try.prog w = .ok (.int .i64 0) w := by kernel_rfl

/-- Block b is a map of at most n entries that counts as f says. -/
def Cnt (w : World) (b n : Nat) (f : Int → Int) : Prop :=
  ∃ D : DataW Unit, w.ownsMap Try.prog 3 (plainElem Try.prog 3) b n D ∧ IsMap D ∧ ∀ x, D.atKey (.int .i64 x) (.lit (.int .i64 0)) = .lit (.int .i64 (f x))

theorem Cnt.made (w : World) : Cnt (w.alloc (.map #[] 0)) w.heap.size 0 (fun _ => 0) :=
  ⟨.map [], World.ownsMap_made _ _ _ _, ⟨_, rfl⟩, fun _ => rfl⟩

theorem Cnt.drew {w : World} {b n : Nat} {f : Int → Int} (h : Cnt w b n f) : Cnt w.drew b n f := h

theorem Cnt.look {w : World} {b n : Nat} {f : Int → Int} (h : Cnt w b n f) {x : Int} (hx : (Lit.int .i64 x).wf = true) : (Instr.lookup 79 (.map (some b)) (.int .i64 x) false).run Try.prog w = .ok (.int .i64 (f x)) w := by
  obtain ⟨D, hown, _, hat⟩ := h
  obtain ⟨c, hrun, hc, _⟩ := hown.lookup_int law3 Try.underlying79 Try.underlying3 (zero3 _) (keyOf_int_mk Try.underlying3 hx)
  rw [hat x] at hc
  cases hc
  exact hrun

theorem Cnt.store {w : World} {b n : Nat} {f : Int → Int} (h : Cnt w b n f) (hn : n < maxLen) {x v : Int} (hx : (Lit.int .i64 x).wf = true) (hv : (Lit.int .i64 v).wf = true) :
    ∃ w', (Instr.mapUpdate 79 (.map (some b)) (.int .i64 x) (.int .i64 v)).run Try.prog w = .ok () w' ∧ Cnt w' b (n + 1) (fun y => if y = x then v else f y) ∧ w.grownBy w' (some b) := by
  obtain ⟨D, hown, hm, hat⟩ := h
  obtain ⟨w', hrun, hown', hg⟩ := hown.update law3 Try.underlying79 hn (keyOf_int_mk Try.underlying3 hx) (plainElem_int Try.underlying3 hv)
  refine ⟨w', hrun, ⟨_, hown', ?_, fun y => ?_⟩, hg⟩
  · obtain ⟨es, rfl⟩ := hm
    exact ⟨_, rfl⟩
  · show _ = DataW.lit (.int .i64 (if y = x then v else f y))
    by_cases e : y = x
    · subst e
      rw [if_pos rfl]
      exact atKey_put_same hm (by simp [WideAt.IsKeyLit]) _ _
    · rw [if_neg e, atKey_put_other (by simpa using e), hat y]

theorem Cnt.congr {w : World} {b n : Nat} {f g : Int → Int} (h : Cnt w b n f) (e : ∀ y, f y = g y) : Cnt w b n g := by
  obtain ⟨D, h1, h2, h3⟩ := h
  exact ⟨D, h1, h2, fun x => by rw [h3 x, e x]⟩

/-- How often x stands in l. -/
def cn (l : List Int) (x : Int) : Int := (l.count x : Int)

theorem cn_take_succ (l : List Int) (k : Nat) (h : k < l.length) (y : Int) : cn (l.take (k + 1)) y = cn (l.take k) y + if y = l.getD k 0 then 1 else 0 := by
  unfold cn
  rw [List.take_succ_eq_append_getElem h, List.count_append, List.count_singleton]
  have e : l.getD k 0 = l[k] := by simp [List.getD, h]
  rw [e]
  by_cases hy : y = l[k]
  · simp [hy]
  · have : ¬ l[k] = y := fun e => hy e.symm
    simp [hy, this]
theorem cn_nonneg (l : List Int) (x : Int) : 0 ≤ cn l x := by unfold cn; omega
theorem cn_le (l : List Int) (x : Int) : cn l x ≤ l.length := by unfold cn; have := List.count_le_length (a := x) (l := l); omega
theorem cn_take_le (l : List Int) (k : Nat) (x : Int) : cn (l.take k) x ≤ cn l x := by
  unfold cn
  have : (l.take k).count x ≤ l.count x := (List.take_sublist k l).count_le x
  omega
theorem cn_take_all (l : List Int) (x : Int) : cn (l.take l.length) x = cn l x := by rw [List.take_length]
theorem getD_wf {l : List Int} (h : ∀ n ∈ l, (Lit.int .i64 n).wf = true) (k : Nat) : (Lit.int .i64 (l.getD k 0)).wf = true := by
  by_cases hk : k < l.length
  · have e : l.getD k 0 = l[k] := by simp [List.getD, hk]
    rw [e]; exact h _ (List.getElem_mem hk)
  · have e : l.getD k 0 = 0 := by simp [List.getD, Nat.le_of_not_lt hk]
    rw [e]; decide

set_option maxHeartbeats 2000000 in
set_option maxRecDepth 10000 in
/-- zzSameMultiset, where the two lists together are the third's multiset. -/
theorem same_true (a b c : Option Addr) (ca cb cc : Nat) (xs ys zs : List Int) (w : World) (ha : Ints w a xs) (hb : Ints w b ys) (hc : Ints w c zs) (hl : xs.length + ys.length = zs.length) (hz : zs.length ≤ 200000)
    (wx : ∀ n ∈ xs, (Lit.int .i64 n).wf = true) (wy : ∀ n ∈ ys, (Lit.int .i64 n).wf = true) (wz : ∀ n ∈ zs, (Lit.int .i64 n).wf = true) (hp : ∀ x, cn xs x + cn ys x = cn zs x) :
    Calls Try.prog 21 #[.slice a xs.length ca, .slice b ys.length cb, .slice c zs.length cc] w fun e w' => e = .returned (.bool true) ∧ Below w.heap.size w w' := by
  have hmm := @run_makeMap Try.prog
  have HA := hide ha
  have HB := hide hb
  have HC := hide hc
  have WX := hide wx
  have WY := hide wy
  have WZ := hide wz
  have HP := hide hp
  have hl1 : ((xs.length : Int) + (ys.length : Int) != (zs.length : Int)) = false := by rw [bne_eq_false_iff_eq]; omega
  have hl2 : xs.length ≤ 200000 := by omega
  have hl3 : ys.length ≤ 200000 := by omega
  have HL := hide hl
  clear ha hb hc wx wy wz hp hl
  go_enter Try.func21, Try.ntmps21
  go_wp2
  go_loopw [8] (fun i wr => ∃ k : Nat, k ≤ zs.length ∧ i = .int .i64 k ∧ Cnt wr w.heap.size k (cn (zs.take k)) ∧ Below w.heap.size w wr) (fun i _ => zs.length - (intOf i).toNat)
  case atStart => exact ⟨0, Nat.zero_le _, rfl, (Cnt.made w).congr (fun y => rfl), (Below.refl _ _).alloc (Nat.le_refl _) _⟩
  case round =>
    obtain ⟨k, hk, rfl, hC, hX⟩ := hrel
    by_cases hlt : k < zs.length
    · obtain ⟨bz, oz, rfl, gz⟩ := HC.out.later hX (by omega)
      have d1 := gz k hlt
      obtain ⟨x, hx⟩ : ∃ x, zs.getD k 0 = x := ⟨_, rfl⟩
      have wfx := getD_wf WZ.out k
      rw [hx] at d1 wfx
      have c0 := cn_nonneg (zs.take k) x
      have c1 := cn_le (zs.take k) x
      have c2 : (zs.take k).length ≤ k := List.length_take_le _ _
      have hlk := hC.drew.look wfx
      obtain ⟨w1, hst, hC1, hg1⟩ := hC.drew.store (by unfold maxLen; omega) wfx (v := cn (zs.take k) x + 1) (WalkArith.wf_i64 (by omega))
      have R : Hid (Cnt w1 w.heap.size (k + 1) (cn (zs.take (k + 1))) ∧ Below w.heap.size w w1) := by
        refine ⟨hC1.congr (fun y => ?_), (hX.drew).grown hg1 hX.size (fun j hj => by cases hj; exact Nat.le_refl _)⟩
        rw [cn_take_succ zs k hlt y, hx]
        by_cases e : y = x
        · subst e; rw [if_pos rfl, if_pos rfl]
        · rw [if_neg e, if_neg e]; omega
      clear hx gz hC hX hC1 hg1
      generalize cn (zs.take k) x = F at *
      have hl4 : (k : Int) < (zs.length : Int) := by omega
      go_wp2
      go_region
      go_wp2
      go_roundw
      case rel => exact ⟨k + 1, by omega, by go_num, R.out.1, R.out.2⟩
      case measure => simp [intOf]; omega
    · obtain rfl : k = zs.length := by omega
      rw [List.take_length] at hC
      go_wp2
      go_loopw [9] (fun i wr => ∃ k : Nat, k ≤ xs.length ∧ i = .int .i64 k ∧ Cnt wr w.heap.size (zs.length + k) (fun y => cn zs y - cn (xs.take k) y) ∧ Below w.heap.size w wr) (fun i _ => xs.length - (intOf i).toNat)
      case atStart => exact ⟨0, Nat.zero_le _, rfl, hC.congr (fun y => by simp [cn]), hX⟩
      case round =>
        clear hC hX
        obtain ⟨k, hk, rfl, hC, hX⟩ := hrel
        by_cases hlt : k < xs.length
        · obtain ⟨bz, oz, rfl, gz⟩ := HA.out.later hX (by omega)
          have d1 := gz k hlt
          obtain ⟨x, hx⟩ : ∃ x, xs.getD k 0 = x := ⟨_, rfl⟩
          have wfx := getD_wf WX.out k
          rw [hx] at d1 wfx
          have hts := cn_take_succ xs k hlt x
          rw [hx, if_pos rfl] at hts
          have hle := cn_take_le xs (k + 1) x
          have hpx := HP.out x
          have e0 := cn_nonneg xs x
          have e1 := cn_nonneg ys x
          have e2 := cn_nonneg (xs.take k) x
          have e3 := cn_le zs x
          have hlk := hC.look wfx
          obtain ⟨F, hF⟩ : ∃ F, cn zs x - cn (xs.take k) x = F + 1 := ⟨cn zs x - cn (xs.take k) x - 1, by omega⟩
          rw [hF] at hlk
          have f0 : 0 ≤ F := by omega
          have f1 : F ≤ 200000 := by omega
          obtain ⟨w1, hst, hC1, hg1⟩ := hC.store (by unfold maxLen; omega) wfx (v := F) (WalkArith.wf_i64 (by omega))
          have R : Hid (Cnt w1 w.heap.size (zs.length + (k + 1)) (fun y => cn zs y - cn (xs.take (k + 1)) y) ∧ Below w.heap.size w w1) := by
            refine ⟨hC1.congr (fun y => ?_), hX.grown hg1 hX.size (fun j hj => by cases hj; exact Nat.le_refl _)⟩
            rw [cn_take_succ xs k hlt y, hx]
            by_cases e : y = x
            · subst e
              rw [if_pos rfl, if_pos rfl]
              omega
            · rw [if_neg e, if_neg e]
              show cn zs y - cn (xs.take k) y = _
              omega
          clear hx gz hC hX hC1 hg1 hF hts hle hpx e0 e1 e2 e3
          have hl4 : (k : Int) < (xs.length : Int) := by omega
          go_wp2
          go_roundw
          case rel => exact ⟨k + 1, by omega, by go_num, R.out.1, R.out.2⟩
          case measure => simp [intOf]; omega
        · obtain rfl : k = xs.length := by omega
          rw [List.take_length] at hC
          go_wp2
          go_loopw [11] (fun i wr => ∃ k : Nat, k ≤ ys.length ∧ i = .int .i64 k ∧ Cnt wr w.heap.size (zs.length + xs.length + k) (fun y => cn zs y - cn xs y - cn (ys.take k) y) ∧ Below w.heap.size w wr) (fun i _ => ys.length - (intOf i).toNat)
          case atStart => exact ⟨0, Nat.zero_le _, rfl, hC.congr (fun y => by simp [cn]), hX⟩
          case round =>
            clear hC hX
            obtain ⟨k, hk, rfl, hC, hX⟩ := hrel
            by_cases hlt : k < ys.length
            · obtain ⟨bz, oz, rfl, gz⟩ := HB.out.later hX (by omega)
              have d1 := gz k hlt
              obtain ⟨x, hx⟩ : ∃ x, ys.getD k 0 = x := ⟨_, rfl⟩
              have wfx := getD_wf WY.out k
              rw [hx] at d1 wfx
              have hts := cn_take_succ ys k hlt x
              rw [hx, if_pos rfl] at hts
              have hle := cn_take_le ys (k + 1) x
              have hpx := HP.out x
              have e0 := cn_nonneg xs x
              have e1 := cn_nonneg ys x
              have e2 := cn_nonneg (ys.take k) x
              have e3 := cn_le zs x
              have hlk := hC.look wfx
              obtain ⟨F, hF⟩ : ∃ F, cn zs x - cn xs x - cn (ys.take k) x = F + 1 := ⟨cn zs x - cn xs x - cn (ys.take k) x - 1, by omega⟩
              rw [hF] at hlk
              have f0 : 0 ≤ F := by omega
              have f1 : F ≤ 200000 := by omega
              obtain ⟨w1, hst, hC1, hg1⟩ := hC.store (by unfold maxLen; omega) wfx (v := F) (WalkArith.wf_i64 (by omega))
              have R : Hid (Cnt w1 w.heap.size (zs.length + xs.length + (k + 1)) (fun y => cn zs y - cn xs y - cn (ys.take (k + 1)) y) ∧ Below w.heap.size w w1) := by
                refine ⟨hC1.congr (fun y => ?_), hX.grown hg1 hX.size (fun j hj => by cases hj; exact Nat.le_refl _)⟩
                rw [cn_take_succ ys k hlt y, hx]
                by_cases e : y = x
                · subst e
                  rw [if_pos rfl, if_pos rfl]
                  omega
                · rw [if_neg e, if_neg e]
                  show cn zs y - cn xs y - cn (ys.take k) y = _
                  omega
              clear hx gz hC hX hC1 hg1 hF hts hle hpx e0 e1 e2 e3
              have hl4 : (k : Int) < (ys.length : Int) := by omega
              go_wp2
              go_roundw
              case rel => exact ⟨k + 1, by omega, by go_num, R.out.1, R.out.2⟩
              case measure => simp [intOf]; omega
            · obtain rfl : k = ys.length := by omega
              rw [List.take_length] at hC
              go_wp2
              go_ret
              exact ⟨rfl, hX⟩

#print axioms same_true
end Go.Proofs.Qxb6612232a
