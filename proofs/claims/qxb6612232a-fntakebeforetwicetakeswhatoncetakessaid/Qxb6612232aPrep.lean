/-
  zzBytes, zzCloneInts whole, the copy of 'rising'.
-/
import Derived.Test.Qxb6612232aLaw
import Derived.Deep.DeepCutAuto
import Derived.Laws.CopyOwn
import Derived.WalkSmall
namespace Go.Proofs.Qxb6612232a
open Go Go.RowKit

theorem bytes_any (a b : Option Addr) (n c m d : Nat) (row : Int) (w : World) (hn : n ≤ 9223372036854775807) (hm : m ≤ 9223372036854775807) :
    Calls Try.prog 14 #[.slice a n c, .slice b m d, .int .i64 row] w fun e w' => e = .returned (.bool (decide (n + m ≤ 1048576))) ∧ w = w' := by
  by_cases h1 : (1048576 : Int) < n
  · obtain ⟨x, hx⟩ : ∃ x, decide (n + m ≤ 1048576) = x := ⟨_, rfl⟩
    have : x = false := by rw [← hx]; exact decide_eq_false (by omega)
    rw [hx, this]
    clear hx this
    go_enter Try.func14, Try.ntmps14
    go_wp2
    go_ret
    exact ⟨rfl, rfl⟩
  · by_cases h2 : (1048576 : Int) < m
    · obtain ⟨x, hx⟩ : ∃ x, decide (n + m ≤ 1048576) = x := ⟨_, rfl⟩
      have : x = false := by rw [← hx]; exact decide_eq_false (by omega)
      rw [hx, this]
      clear hx this
      go_enter Try.func14, Try.ntmps14
      go_wp2
      go_ret
      exact ⟨rfl, rfl⟩
    · obtain ⟨x, hx⟩ : ∃ x, decide (n + m ≤ 1048576) = x := ⟨_, rfl⟩
      rw [hx]
      by_cases h3 : (1048576 : Int) < (n : Int) + m
      · have : x = false := by rw [← hx]; exact decide_eq_false (by omega)
        rw [this]
        clear hx this
        go_enter Try.func14, Try.ntmps14
        go_wp2
        go_ret
        exact ⟨rfl, rfl⟩
      · have : x = true := by rw [← hx]; exact decide_eq_true (by omega)
        rw [this]
        clear hx this
        go_enter Try.func14, Try.ntmps14
        go_wp2
        go_ret
        exact ⟨rfl, rfl⟩

/-- zzCloneInts at whatever slice, with what a heap wants of it. -/
theorem clone_any (a : Option Addr) (c : Nat) (hs : List Int) (w : World) (hn : hs.length ≤ 131072) (hnone : a = none → hs.length = 0 ∧ c = 0) (h : Ints w a hs) :
    Calls Try.prog 15 #[.slice a hs.length c] w fun e w' => ∃ a' cap, e = .returned (.slice a' hs.length cap) ∧ hs.length ≤ cap ∧ (0 < hs.length → a' = some ⟨w.heap.size, 0, none⟩ ∧ HRow w' w.heap.size hs) ∧ Below w.heap.size w w' := by
  cases a with
  | none =>
    obtain ⟨h1, rfl⟩ := hnone rfl
    rw [h1]
    refine (clone_nil w).mono ?_
    rintro e w' ⟨rfl, rfl⟩
    exact ⟨none, 0, rfl, Nat.le_refl _, fun h => by omega, Below.refl _ _⟩
  | some x =>
    obtain ⟨b, off, sp⟩ := x
    have key : 0 < hs.length → sp = none ∧ ∀ j, j < hs.length → w.cell? ⟨b, off + j, none⟩ = some (.int .i64 (hs.getD j 0)) := by
      intro h0
      obtain ⟨b', off', e, hc⟩ := h h0
      simp only [Option.some.injEq, Addr.mk.injEq] at e
      obtain ⟨rfl, rfl, rfl⟩ := e
      exact ⟨rfl, hc⟩
    refine (clone_some b off sp hs.length c hs w hn (fun h0 => World.block_lt_of_cell? _ _ ((key h0).2 0 h0)) (fun h0 => (key h0).1) (fun j hj => (key (by omega)).2 j hj)).mono ?_
    rintro e w' ⟨rfl, h1, h2, h3, h4⟩
    exact ⟨_, _, rfl, Nat.le_refl _, fun _ => ⟨rfl, ⟨fun j hj => h2 j hj, fun j => h3 j, h1⟩⟩, h4⟩

/-- What is known behind the copying of 'rising'. -/
structure Copied (w wr : World) (ra : Option Addr) (rcap : Nat) (rs : List Int) : Prop where
  ints : IntsAt w.heap.size wr ra rs
  room : rs.length ≤ rcap
  below : Below w.heap.size w wr

theorem Copied.drewN {w wr : World} {ra : Option Addr} {rcap : Nat} {rs : List Int} (h : Copied w wr ra rcap rs) (q : Nat) : Copied w (wr.drewN q) ra rcap rs :=
  ⟨fun h0 => h.ints h0, h.room, ⟨h.below.os, h.below.tape, h.below.output, h.below.size, h.below.block⟩⟩


theorem copied_of {w w' : World} {cur : List Value} {rs : List Int} {cs : List Value} (hcs : cs = rs.map (Value.int .i64)) (hl : cur.length = rs.length) (h : w'.heap[w.heap.size]? = some (.cells (splice cur 0 cs).toArray 3 (0, 0))) (hb : Below w.heap.size w w') :
    Copied w w' (some ⟨w.heap.size, 0, none⟩) rs.length rs := by
  have e : splice cur 0 cs = rs.map (Value.int .i64) := by
    subst hcs
    simp [splice, hl]
  rw [e] at h
  refine ⟨fun h0 => ⟨w.heap.size, 0, rfl, Nat.le_refl _, fun j hj => ?_⟩, Nat.le_refl _, hb⟩
  rw [cell_of_row _ _ _ _ _ _ h]
  simp [List.getD, hj]

/-- 'copy(zzc, rising)' into a row just made. -/
theorem copy_run {w w0 : World} {a : Addr} {c0 : Nat} {rs : List Int} (hI : Ints w (some a) rs) (hown : w0.ownsRow w.heap.size 3 1 (.slice (some ⟨w.heap.size, 0, none⟩) rs.length rs.length) rs.length (madeCells (Value.int .i64 0).cells (rs.length * 1)).toList) (hb : Below w.heap.size w w0) :
    ∃ w1, (Builtin.copy_ #[46, 46] 3 #[.slice (some ⟨w.heap.size, 0, none⟩) rs.length rs.length, .slice (some a) rs.length c0]).run Try.prog w0 = .ok (.int .i64 rs.length) w1 ∧ Copied w w1 (some ⟨w.heap.size, 0, none⟩) rs.length rs := by
  obtain ⟨cur, hcur, hsize⟩ : ∃ cur : List Value, w0.heap[w.heap.size]? = some (.cells cur.toArray 3 (0, 0)) ∧ cur.length = rs.length := by
    rcases hown.2 with ⟨h', _⟩ | ⟨g', cap', cur, h', _, hg, _, _, hsz, _⟩
    · simp at h'
    · simp only [Value.slice.injEq, Option.some.injEq, Addr.mk.injEq, and_true, true_and] at h'
      obtain ⟨rfl, rfl⟩ := h'
      exact ⟨cur.toList, by simpa using hg, by simpa using hsz⟩
  by_cases h0 : rs.length = 0
  · refine ⟨w0, ?_, fun h => by omega, Nat.le_refl _, hb⟩
    rw [run_copy_none (P := Try.prog) w0 46 46 3 3 _ _ _ _ _ _ Try.underlying46 (by kernel_rfl) (by rw [h0]; rfl), h0]
    rfl
  · obtain ⟨b, off, e, hc⟩ := hI (by omega)
    cases e
    have hrun := run_copy_row (P := Try.prog) w0 46 46 3 3 w.heap.size 0 rs.length rs.length ⟨b, off, none⟩ rs.length c0 cur.toArray 3 (rs.map (Value.int .i64)) Try.underlying46 (by kernel_rfl) hcur (by rw [List.length_map]; exact (Nat.min_self _).symm)
      (fun j v hv => by
        have hj : j < rs.length := by have := (List.getElem?_eq_some_iff.1 hv).1; simpa using this
        rw [List.getElem?_map] at hv
        have e2 : rs[j]? = some (rs.getD j 0) := by simp [List.getD, hj]
        rw [e2] at hv
        cases hv
        rw [Go.WideShapes.add_plain]
        exact cell_later hb (hc j hj)) (by simp [hsize]) (fun v hv => by obtain ⟨y, _, rfl⟩ := List.mem_map.1 hv; rfl)
    refine ⟨_, hrun.trans (by rw [List.length_map]; rfl), copied_of rfl hsize ?_ (below_setRow hb (Nat.le_refl _) _)⟩
    have := setRow_heap w0 w.heap.size _ (cur.take 0 ++ rs.map (Value.int .i64) ++ cur.drop (0 + (rs.map (Value.int .i64)).length)).toArray 3 _ hcur
    simpa [splice] using this
end Go.Proofs.Qxb6612232a
