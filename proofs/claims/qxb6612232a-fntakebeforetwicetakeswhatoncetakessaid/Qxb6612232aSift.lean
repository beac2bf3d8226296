/-
  The plain law of the heap, and the walks of container/heap's down and Pop.
-/
import Derived.Test.Qxb6612232aHeap
import Derived.Deep.DeepFit
namespace Go.Proofs.Qxb6612232a
open Go Go.RowKit

/-- The first n of xs are a heap with its least on top. -/
def IsHeap (xs : List Int) (n : Nat) : Prop := ∀ i, 0 < i → i < n → xs.getD ((i - 1) / 2) 0 ≤ xs.getD i 0
/-- .. but for place i, whose children may be less than it. -/
def Sift (xs : List Int) (i n : Nat) : Prop :=
  (∀ j, 0 < j → j < n → (j - 1) / 2 ≠ i → xs.getD ((j - 1) / 2) 0 ≤ xs.getD j 0) ∧ (0 < i → ∀ j, 0 < j → j < n → (j - 1) / 2 = i → xs.getD ((i - 1) / 2) 0 ≤ xs.getD j 0)

theorem sift_stop {xs : List Int} {i n : Nat} (h : Sift xs i n) (hc : ∀ j, 0 < j → j < n → (j - 1) / 2 = i → xs.getD i 0 ≤ xs.getD j 0) : IsHeap xs n := by
  intro j h0 hn
  by_cases e : (j - 1) / 2 = i
  · rw [e]; exact hc j h0 hn e
  · exact h.1 j h0 hn e

theorem sift_step {xs : List Int} {i j n : Nat} (h : Sift xs i n) (hn : n ≤ xs.length) (hj0 : 0 < j) (hj : j < n) (hji : (j - 1) / 2 = i) (hlt : xs.getD j 0 < xs.getD i 0)
    (hmin : ∀ k, 0 < k → k < n → (k - 1) / 2 = i → xs.getD j 0 ≤ xs.getD k 0) : Sift (swp xs i j) j n := by
  have hij : i < j := by omega
  have sg := fun k => swp_getD xs i j k (by omega) (by omega)
  constructor
  · intro k k0 kn kp
    rw [sg, sg]
    by_cases e1 : k = j
    · subst e1
      rw [if_pos rfl, if_neg (by omega), if_pos hji]
      omega
    · rw [if_neg e1]
      by_cases e2 : k = i
      · subst e2
        rw [if_pos rfl, if_neg (by omega), if_neg (by omega)]
        exact h.2 k0 j hj0 hj hji
      · rw [if_neg e2]
        by_cases e3 : (k - 1) / 2 = i
        · rw [if_neg (by omega), if_pos e3]
          exact hmin k k0 kn e3
        · rw [if_neg kp, if_neg e3]
          exact h.1 k k0 kn e3
  · intro _ k k0 kn kp
    rw [sg, sg, if_neg (by omega), if_pos hji, if_neg (by omega), if_neg (by omega)]
    have := h.1 k k0 kn (by omega)
    rw [kp] at this
    exact this

/-- Behind Pop's first swap: all but the top is a heap still. -/
theorem sift_start {xs : List Int} {n : Nat} (h : IsHeap xs (n + 1)) (hl : xs.length = n + 1) : Sift (swp xs 0 n) 0 n := by
  have sg := fun k => swp_getD xs 0 n k (by omega) (by omega)
  refine ⟨fun j j0 jn jp => ?_, fun h0 => absurd h0 (Nat.lt_irrefl _)⟩
  rw [sg, sg, if_neg (by omega), if_neg (by omega), if_neg (by omega), if_neg (by omega)]
  exact h j j0 (by omega)

theorem heap_top {xs : List Int} {n : Nat} (h : IsHeap xs n) : ∀ k, k < n → xs.getD 0 0 ≤ xs.getD k 0
  | 0, _ => Int.le_refl _
  | k + 1, hk => Int.le_trans (heap_top h ((k + 1 - 1) / 2) (by omega)) (h (k + 1) (by omega) hk)

theorem less_of (g n cap : Nat) (xs : List Int) (i j : Nat) (iv jv x y : Int) (w : World) (h : HRow w g xs) (hn : n ≤ xs.length) (hiv : iv = (i : Int)) (hjv : jv = (j : Int)) (hi : i < n) (hj : j < n) (hx : xs.getD i 0 = x) (hy : xs.getD j 0 = y) :
    Calls Try.prog 59 #[.slice (some ⟨g, 0, none⟩) n cap, .int .i64 iv, .int .i64 jv] w fun e w' => e = .returned (.bool (decide (x < y))) ∧ ∃ q, w' = w.drewN q := by
  subst hiv hjv hx hy
  exact less_any g n cap xs i j w h hn hi hj

theorem swap_of (g n cap : Nat) (xs : List Int) (i j : Nat) (iv jv : Int) (w : World) (h : HRow w g xs) (hn : n ≤ xs.length) (hiv : iv = (i : Int)) (hjv : jv = (j : Int)) (hi : i < n) (hj : j < n) :
    Calls Try.prog 60 #[.slice (some ⟨g, 0, none⟩) n cap, .int .i64 iv, .int .i64 jv] w fun e w' => e = .returned (.tuple #[]) ∧ HRow w' g (swp xs i j) ∧ Keep (· = g) w w' := by
  subst hiv hjv
  exact swap_any g n cap xs i j w h hn hi hj

theorem HRow.drewN {w : World} {g : Nat} {xs : List Int} (h : HRow w g xs) (q : Nat) : HRow (w.drewN q) g xs := ⟨h.holds, h.free, h.lt⟩

/-- What down leaves: a heap, the same numbers, nothing behind n turned. -/
structure Down (w w' : World) (g n : Nat) (xs ys : List Int) : Prop where
  row : HRow w' g ys
  perm : ys.Perm xs
  tail : ∀ k, n ≤ k → ys.getD k 0 = xs.getD k 0
  keep : Keep (· = g) w w'

set_option maxHeartbeats 2000000 in
set_option maxRecDepth 10000 in
theorem down_any (F g m n cap : Nat) (xs : List Int) (w : World) (hF : F ≠ g) (hc : w.cell? ⟨F, 1, none⟩ = some (.slice (some ⟨g, 0, none⟩) m cap)) (h : HRow w g xs) (hm : m ≤ xs.length) (hn : n ≤ m) (hb : m ≤ 200000) (hs : Sift xs 0 n) :
    Calls Try.prog 37 #[.iface 93 (.pointer (some ⟨F, 1, none⟩)), .int .i64 0, .int .i64 n] w fun e w' => ∃ b ys, e = .returned (.bool b) ∧ Down w w' g n xs ys ∧ IsHeap ys n := by
  have HH := hide h
  have HS := hide hs
  have HC := hide hc
  clear h hs hc
  go_enter Try.func37, Try.ntmps37
  go_wp2
  go_loopw [7] (fun t wr => ∃ (i : Nat) (ys : List Int), t = .int .i64 i ∧ i ≤ n ∧ Sift ys i n ∧ Down w wr g n xs ys) (fun t _ => n - (intOf t).toNat)
  case atStart => exact ⟨0, xs, rfl, Nat.zero_le _, HS.out, ⟨HH.out, List.Perm.refl _, fun _ _ => rfl, Keep.refl _ _⟩⟩
  case round =>
    obtain ⟨i, ys, rfl, hi, hS, hD⟩ := hrel
    have hlen : ys.length = xs.length := hD.perm.length_eq
    have cF : wr.cell? ⟨F, 1, none⟩ = some (.slice (some ⟨g, 0, none⟩) m cap) := hD.keep.cell hF HC.out
    have ml1 := method_by method_less cF
    have ml2 := fun q => method_by method_less (w := wr.drewN q) cF
    have ms1 := method_by method_swap cF
    have ms2 := fun q => method_by method_swap (w := wr.drewN q) cF
    have hm2 : m ≤ ys.length := by omega
    have HD := hide hD
    have HS1 := hide hS
    clear hlen hS hD cF HS HH
    by_cases c1 : 2 * i + 1 < n
    · obtain ⟨a0, ha0⟩ : ∃ a0, ys.getD i 0 = a0 := ⟨_, rfl⟩
      obtain ⟨a1, ha1⟩ : ∃ a1, ys.getD (2 * i + 1) 0 = a1 := ⟨_, rfl⟩
      obtain ⟨a2, ha2⟩ : ∃ a2, ys.getD (2 * i + 2) 0 = a2 := ⟨_, rfl⟩
      have A0 := hide ha0
      have A1 := hide ha1
      have A2 := hide ha2
      clear ha0 ha1 ha2
      have hlt1 : ¬ (n : Int) ≤ 2 * (i : Int) + 1 := by omega
      by_cases c2 : 2 * i + 2 < n
      · have hlt2 : 2 * (i : Int) + 1 + 1 < (n : Int) := by omega
        go_wp2_with fail
        refine (less_of g m cap ys (2 * i + 2) (2 * i + 1) _ _ a2 a1 _ HD.out.row hm2 (by omega) (by omega) (by omega) (by omega) A2.out A1.out).mono ?_
        rintro e w' ⟨rfl, q1, rfl⟩
        by_cases c3 : a2 < a1
        · go_wp2_with fail
          refine (less_of g m cap ys (2 * i + 2) i _ _ a2 a0 _ (HD.out.row.drewN _) hm2 (by omega) rfl (by omega) (by omega) A2.out A0.out).mono ?_
          rintro e w' ⟨rfl, q2, rfl⟩
          by_cases c4 : a2 < a0
          · go_wp2_with fail
            refine (swap_of g m cap ys i (2 * i + 2) _ _ _ (HD.out.row.drewN _) hm2 rfl (by omega) (by omega) (by omega)).mono ?_
            rintro e w3 ⟨rfl, r1, r2⟩
            have R : Hid (Sift (swp ys i (2 * i + 2)) (2 * i + 2) n ∧ Down w w3 g n xs (swp ys i (2 * i + 2))) := by
              refine ⟨sift_step HS1.out (by omega) (by omega) (by omega) (by omega) (by rw [A2.out, A0.out]; exact c4) (fun k k0 kn kp => ?_), r1, (swp_perm ys i _ (by omega) (by omega)).trans HD.out.perm, fun k hk => ?_, (HD.out.keep.drewN _).trans r2⟩
              · rcases (show k = 2 * i + 1 ∨ k = 2 * i + 2 from by omega) with rfl | rfl
                · rw [A1.out, A2.out]; omega
                · exact Int.le_refl _
              · rw [swp_getD ys i _ k (by omega) (by omega), if_neg (by omega), if_neg (by omega)]
                exact HD.out.tail k hk
            clear r1 r2 ml1 ml2 ms1 ms2
            go_wp2
            go_roundw
            case rel => exact ⟨2 * i + 2, _, by go_num, by omega, R.out.1, R.out.2⟩
            case measure => simp [intOf]; omega
          · have hd4 : decide (a2 < a0) = false := decide_eq_false c4
            have R : Hid (∀ q, IsHeap ys n ∧ Down w (wr.drewN q) g n xs ys) := fun q => by
              refine ⟨sift_stop HS1.out (fun k k0 kn kp => ?_), HD.out.row.drewN q, HD.out.perm, HD.out.tail, HD.out.keep.drewN q⟩
              rcases (show k = 2 * i + 1 ∨ k = 2 * i + 2 from by omega) with rfl | rfl
              · rw [A1.out, A0.out]; omega
              · rw [A2.out, A0.out]; omega
            clear ml1 ml2 ms1 ms2
            go_wp2
            go_ret
            exact ⟨_, ys, rfl, (R.out _).2, (R.out 0).1⟩
        · go_wp2_with fail
          refine (less_of g m cap ys (2 * i + 1) i _ _ a1 a0 _ (HD.out.row.drewN _) hm2 (by omega) rfl (by omega) (by omega) A1.out A0.out).mono ?_
          rintro e w' ⟨rfl, q2, rfl⟩
          by_cases c4 : a1 < a0
          · go_wp2_with fail
            refine (swap_of g m cap ys i (2 * i + 1) _ _ _ (HD.out.row.drewN _) hm2 rfl (by omega) (by omega) (by omega)).mono ?_
            rintro e w3 ⟨rfl, r1, r2⟩
            have R : Hid (Sift (swp ys i (2 * i + 1)) (2 * i + 1) n ∧ Down w w3 g n xs (swp ys i (2 * i + 1))) := by
              refine ⟨sift_step HS1.out (by omega) (by omega) (by omega) (by omega) (by rw [A1.out, A0.out]; exact c4) (fun k k0 kn kp => ?_), r1, (swp_perm ys i _ (by omega) (by omega)).trans HD.out.perm, fun k hk => ?_, (HD.out.keep.drewN _).trans r2⟩
              · rcases (show k = 2 * i + 1 ∨ k = 2 * i + 2 from by omega) with rfl | rfl
                · exact Int.le_refl _
                · rw [A1.out, A2.out]; omega
              · rw [swp_getD ys i _ k (by omega) (by omega), if_neg (by omega), if_neg (by omega)]
                exact HD.out.tail k hk
            clear r1 r2 ml1 ml2 ms1 ms2
            go_wp2
            go_roundw
            case rel => exact ⟨2 * i + 1, _, by go_num, by omega, R.out.1, R.out.2⟩
            case measure => simp [intOf]; omega
          · have hd4 : decide (a1 < a0) = false := decide_eq_false c4
            have R : Hid (∀ q, IsHeap ys n ∧ Down w (wr.drewN q) g n xs ys) := fun q => by
              refine ⟨sift_stop HS1.out (fun k k0 kn kp => ?_), HD.out.row.drewN q, HD.out.perm, HD.out.tail, HD.out.keep.drewN q⟩
              rcases (show k = 2 * i + 1 ∨ k = 2 * i + 2 from by omega) with rfl | rfl
              · rw [A1.out, A0.out]; omega
              · rw [A2.out, A0.out]; omega
            clear ml1 ml2 ms1 ms2
            go_wp2
            go_ret
            exact ⟨_, ys, rfl, (R.out _).2, (R.out 0).1⟩
      · have hlt2 : ¬ 2 * (i : Int) + 1 + 1 < (n : Int) := by omega
        have hd2 : decide (2 * (i : Int) + 1 + 1 < (n : Int)) = false := decide_eq_false hlt2
        go_wp2_with fail
        refine (less_of g m cap ys (2 * i + 1) i _ _ a1 a0 _ (HD.out.row) hm2 (by omega) rfl (by omega) (by omega) A1.out A0.out).mono ?_
        rintro e w' ⟨rfl, q2, rfl⟩
        by_cases c4 : a1 < a0
        · go_wp2_with fail
          refine (swap_of g m cap ys i (2 * i + 1) _ _ _ (HD.out.row.drewN _) hm2 rfl (by omega) (by omega) (by omega)).mono ?_
          rintro e w3 ⟨rfl, r1, r2⟩
          have R : Hid (Sift (swp ys i (2 * i + 1)) (2 * i + 1) n ∧ Down w w3 g n xs (swp ys i (2 * i + 1))) := by
            refine ⟨sift_step HS1.out (by omega) (by omega) (by omega) (by omega) (by rw [A1.out, A0.out]; exact c4) (fun k k0 kn kp => ?_), r1, (swp_perm ys i _ (by omega) (by omega)).trans HD.out.perm, fun k hk => ?_, (HD.out.keep.drewN _).trans r2⟩
            · obtain rfl : k = 2 * i + 1 := by omega
              exact Int.le_refl _
            · rw [swp_getD ys i _ k (by omega) (by omega), if_neg (by omega), if_neg (by omega)]
              exact HD.out.tail k hk
          clear r1 r2 ml1 ml2 ms1 ms2
          go_wp2
          go_roundw
          case rel => exact ⟨2 * i + 1, _, by go_num, by omega, R.out.1, R.out.2⟩
          case measure => simp [intOf]; omega
        · have hd4 : decide (a1 < a0) = false := decide_eq_false c4
          have R : Hid (∀ q, IsHeap ys n ∧ Down w (wr.drewN q) g n xs ys) := fun q => by
            refine ⟨sift_stop HS1.out (fun k k0 kn kp => ?_), HD.out.row.drewN q, HD.out.perm, HD.out.tail, HD.out.keep.drewN q⟩
            obtain rfl : k = 2 * i + 1 := by omega
            rw [A1.out, A0.out]; omega
          clear ml1 ml2 ms1 ms2
          go_wp2
          go_ret
          exact ⟨_, ys, rfl, (R.out _).2, (R.out 0).1⟩
    · have hge : (n : Int) ≤ 2 * (i : Int) + 1 := by omega
      have R : Hid (IsHeap ys n) := sift_stop HS1.out (fun k k0 kn kp => by omega)
      clear ml1 ml2 ms1 ms2
      go_wp2
      go_ret
      exact ⟨_, ys, rfl, HD.out, R.out⟩

#print axioms down_any
end Go.Proofs.Qxb6612232a
