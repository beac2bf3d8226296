/-
  strconv.AppendUint(dst, u, 10) onto a row of bytes of the call's own.
-/
import Derived.Test.Qxb6612180aDoorShelf
import Derived.Test.Qxb6612180aDoorBytes
import Derived.Lib.Walk
import Derived.Lib.ItoaWalk
import Derived.Lib.ItoaMem
import Derived.Lib.AppendIntMem
import Derived.Lib.Hide
import Derived.Outline
namespace Go.Proofs.Qxb6612180aDoor
open Go Go.RowKit Go.Sort

theorem info5 : (Tryd.prog.info? 5).map (fun i => (i.zero, i.size, i.bytes)) = some (some (.int .u8 0), 1, 1) := by kernel_rfl

theorem digits_le (u : Nat) (h : u < 18446744073709551616) : (Lib.decDigits u).length ≤ 20 := by
  rw [Lib.decDigits_length]
  by_cases h1 : 1 ≤ u
  · have := Lib.numDigits_eq u h1 h
    split at this <;> omega
  · rw [Lib.nDigits_small (by omega)]; omega

set_option maxHeartbeats 1000000 in
theorem appendUint_small (B g cap : Nat) (bs : List UInt8) (u : Nat) (hu : u < 100) (w : World) (h : BRow B w g cap bs) (hBw : B ≤ w.heap.size) (hb : bs.length + 20 ≤ 140737488355328) :
    Calls Tryd.prog 23 #[.slice (some ⟨g, 0, none⟩) bs.length cap, .int .u64 u, .int .i64 10] w fun e w' => ∃ g' cap', e = .returned (.slice (some ⟨g', 0, none⟩) (bs.length + (Lib.decDigits u).length) cap') ∧
      BRow B w' g' cap' (bs ++ Lib.decDigits u) ∧ Below B w w' ∧ (bs.length + (Lib.decDigits u).length ≤ cap → g' = g ∧ cap' = cap) := by
  obtain ⟨i0, hi, hz0, hz1, hz2⟩ := info_parts info5
  have hlen := digits_le u (by omega)
  have iu : (u : Int) < 100 := by omega
  have iu0 : (0 : Int) ≤ u := by omega
  have hsrc := Src.ofString (P := Tryd.prog) w Tryd.underlying9 ⟨(Lib.decDigits u).toArray⟩
  have HS : Hid (Src Tryd.prog 1 9 (.string ⟨(Lib.decDigits u).toArray⟩) (Lib.decDigits u).length (bcells (Lib.decDigits u)) w) := by
    simpa [Hid, ByteArray.size, byteCells, bcells] using hsrc
  clear hsrc
  have HB : Hid (BRow B w g cap bs) := h
  clear h
  go_enter Tryd.func23, Tryd.ntmps23
  go_wp2_with (first
    | (go_at_call 26; refine (small_any u hu _).mono ?_; rintro e w' ⟨rfl, rfl⟩)
    | (at_builtin; refine wpList_append_brow rfl _ _ 35 9 rfl 5 i0 Tryd.underlying35 hi hz0 hz1 hz2 rfl rfl HB.out hBw rfl (Lib.decDigits u) HS.out (by omega) ?_))
  intro g' cap' w1 r1 r2 r3
  have R1 : Hid (BRow B w1 g' cap' (bs ++ Lib.decDigits u)) := r1
  have R3 : Hid (bs.length + (Lib.decDigits u).length ≤ cap → g' = g ∧ cap' = cap) := r3
  clear r1 r3
  go_wp2
  go_ret
  exact ⟨g', cap', rfl, R1.out, r2, R3.out⟩

set_option maxHeartbeats 4000000 in
set_option maxRecDepth 100000 in
theorem appendUint_big (B g cap : Nat) (bs : List UInt8) (u : Nat) (hu : 100 ≤ u) (hu64 : u < 18446744073709551616) (w : World) (h : BRow B w g cap bs) (hBw : B ≤ w.heap.size) (hb : bs.length + 20 ≤ 140737488355328)
    (htab : Lib.TabIs Tryd.prog w tabName .u64 Lib.pow10Tab) :
    Calls Tryd.prog 23 #[.slice (some ⟨g, 0, none⟩) bs.length cap, .int .u64 u, .int .i64 10] w fun e w' => ∃ g' cap', e = .returned (.slice (some ⟨g', 0, none⟩) (bs.length + (Lib.decDigits u).length) cap') ∧
      BRow B w' g' cap' (bs ++ Lib.decDigits u) ∧ Below B w w' ∧ (bs.length + (Lib.decDigits u).length ≤ cap → g' = g ∧ cap' = cap) := by
  obtain ⟨i0, hi, hz0, hz1, hz2⟩ := info_parts info5
  have hlen := digits_le u hu64
  have hu1 : 1 ≤ u := by omega
  have hnd20 : Lib.nDigits u ≤ 20 := by rw [← Lib.decDigits_length]; exact hlen
  have hal : Tryd.prog.arrayLen 47 = 24 := by simp [Program.arrayLen, Tryd.underlying47]
  have hsl : ∀ W, (Instr.sliceAt 47 (.pointer (some ⟨w.heap.size, 0, none⟩)) none (some (.int .i64 (Lib.nDigits u : Int))) none).run Tryd.prog W = .ok (.slice (some ⟨w.heap.size, 0, none⟩) (Lib.nDigits u) 24) W := fun W => by
    rw [run_sliceAt_array_h W 47 ⟨w.heap.size, 0, none⟩ (by simp [Program.arrayLen, Program.elem, Tryd.underlying47]) .i64 (Lib.nDigits u : Int) (by omega) (by rw [hal]; omega)]
    go_simp
  have hH0 := Lib.holds_zero0 w 47 (Lib.nDigits u) (by omega)
  have hfmt := formatBase10_any w.heap.size 0 24 u (Array.replicate (Lib.nDigits u) 0) (w.alloc (.cells Lib.zeros24 47)) hH0 (by rw [Array.size_replicate]; exact Lib.lt_pow_nDigits u) hu64 (by rw [Array.size_replicate]; omega)
  rw [Array.size_replicate] at hfmt
  have HH0 : Hid _ := hH0
  have HB : Hid (BRow B w g cap bs) := h
  have HT : Hid _ := htab
  have iu : (100 : Int) ≤ (u : Int) := by omega
  clear hH0 hal h htab
  go_enter Tryd.func23, Tryd.ntmps23
  go_wp2_with (first
    | (go_at_call 27; refine (numDigits_any u hu1 hu64 _ (Lib.tabIs_alloc HT.out _)).mono ?_; rintro e w' ⟨rfl, rfl⟩))
  refine hfmt.mono ?_
  rintro e w' ⟨rfl, k, v', dk, rfl, hF⟩
  have hcells : ∀ j u', (bcells (Lib.decDigits u))[j]? = some u' → ((putRow (fun (b : UInt8) => Value.int .u8 (b.toNat : Int)) (w.alloc (.cells Lib.zeros24 47)) w.heap.size 0 dk).drewN k).cell? ((⟨w.heap.size, 0, none⟩ : Addr).add j) = some u' := by
    intro j u' hj
    have hjl : j < (Lib.decDigits u).length := by
      have h5 := (List.getElem?_eq_some_iff.1 hj).1
      rwa [bcells_length] at h5
    have e5 : (bcells (Lib.decDigits u))[j]? = some (Value.int .u8 ((Lib.decDigits u)[j].toNat : Int)) := by simp [bcells, hjl]
    rw [e5] at hj
    cases hj
    rw [Lib.row_is_numeral hF j hjl, Go.WideShapes.add_plain, World.cell?_drewN]
    exact cell?_putRow (fun (b : UInt8) => Value.int .u8 (b.toNat : Int)) _ w.heap.size 0 _ dk HH0.out (by rw [hF.size, Array.size_replicate]) j (by rw [hF.size]; rw [Lib.decDigits_length] at hjl; exact hjl)
  obtain ⟨os, eo⟩ := Lib.fin_at w (.cells Lib.zeros24 47) dk k 0
  have hB2 : BRow B ((putRow (fun (b : UInt8) => Value.int .u8 (b.toNat : Int)) (w.alloc (.cells Lib.zeros24 47)) w.heap.size 0 dk).drewN k) g cap bs := by rw [eo]; exact HB.out.carry (Lib.heap_grow_old w k os g HB.out.lt)
  have hnx2 : Below B w ((putRow (fun (b : UInt8) => Value.int .u8 (b.toNat : Int)) (w.alloc (.cells Lib.zeros24 47)) w.heap.size 0 dk).drewN k) := by rw [eo]; exact Lib.below_grow B w hBw k os
  have hsz2 : w.heap.size ≤ ((putRow (fun (b : UInt8) => Value.int .u8 (b.toNat : Int)) (w.alloc (.cells Lib.zeros24 47)) w.heap.size 0 dk).drewN k).heap.size := by rw [eo]; exact Lib.size_grow w k os
  generalize (putRow (fun (b : UInt8) => Value.int .u8 (b.toNat : Int)) (w.alloc (.cells Lib.zeros24 47)) w.heap.size 0 dk).drewN k = W2 at hcells hB2 hnx2 hsz2 ⊢
  clear eo HH0 hfmt HB
  have hsrc : Src Tryd.prog 1 35 (.slice (some ⟨w.heap.size, 0, none⟩) (Lib.nDigits u) 24) (Lib.decDigits u).length (bcells (Lib.decDigits u)) W2 := by
    have := Src.ofSlice (P := Tryd.prog) W2 Tryd.underlying35 ⟨w.heap.size, 0, none⟩ (Lib.nDigits u) 24 (bcells (Lib.decDigits u)) (by rw [bcells_length, Lib.decDigits_length, Nat.mul_one]) hcells (bcells_one _)
    rw [Lib.decDigits_length]
    exact this
  have HS : Hid _ := hsrc
  have HB : Hid _ := hB2
  clear hcells hsrc hB2
  go_wp2_with (at_builtin; refine wpList_append_brow rfl _ _ 35 35 rfl 5 i0 Tryd.underlying35 hi hz0 hz1 hz2 rfl rfl HB.out (by omega) rfl (Lib.decDigits u) HS.out (by omega) ?_)
  intro g' cap' w1 r1 r2 r3
  have R1 : Hid (BRow B w1 g' cap' (bs ++ Lib.decDigits u)) := r1
  have R3 : Hid (bs.length + (Lib.decDigits u).length ≤ cap → g' = g ∧ cap' = cap) := r3
  clear r1 r3
  go_wp2
  go_ret
  exact ⟨g', cap', rfl, R1.out, hnx2.trans r2, R3.out⟩

/-- internal/strconv.AppendUint(dst, u, 10). -/
theorem appendUint_in (B g cap : Nat) (bs : List UInt8) (u : Nat) (hu64 : u < 18446744073709551616) (w : World) (h : BRow B w g cap bs) (hBw : B ≤ w.heap.size) (hb : bs.length + 20 ≤ 140737488355328)
    (htab : Lib.TabIs Tryd.prog w tabName .u64 Lib.pow10Tab) :
    Calls Tryd.prog 23 #[.slice (some ⟨g, 0, none⟩) bs.length cap, .int .u64 u, .int .i64 10] w fun e w' => ∃ g' cap', e = .returned (.slice (some ⟨g', 0, none⟩) (bs.length + (Lib.decDigits u).length) cap') ∧
      BRow B w' g' cap' (bs ++ Lib.decDigits u) ∧ Below B w w' ∧ (bs.length + (Lib.decDigits u).length ≤ cap → g' = g ∧ cap' = cap) := by
  by_cases hu : u < 100
  · exact appendUint_small B g cap bs u hu w h hBw hb
  · exact appendUint_big B g cap bs u (by omega) hu64 w h hBw hb htab

/-- strconv.AppendUint(dst, u, 10). -/
theorem appendUint_any (B g cap : Nat) (bs : List UInt8) (u : Nat) (hu64 : u < 18446744073709551616) (w : World) (h : BRow B w g cap bs) (hBw : B ≤ w.heap.size) (hb : bs.length + 20 ≤ 140737488355328)
    (htab : Lib.TabIs Tryd.prog w tabName .u64 Lib.pow10Tab) :
    Calls Tryd.prog 20 #[.slice (some ⟨g, 0, none⟩) bs.length cap, .int .u64 u, .int .i64 10] w fun e w' => ∃ g' cap', e = .returned (.slice (some ⟨g', 0, none⟩) (bs.length + (Lib.decDigits u).length) cap') ∧
      BRow B w' g' cap' (bs ++ Lib.decDigits u) ∧ Below B w w' ∧ (bs.length + (Lib.decDigits u).length ≤ cap → g' = g ∧ cap' = cap) := by
  have HB : Hid _ := h
  have HT : Hid _ := htab
  clear h htab
  go_enter Tryd.func20, Tryd.ntmps20
  go_wp2_with fail
  refine (appendUint_in B g cap bs u hu64 _ HB.out hBw hb HT.out).mono ?_
  rintro e w' ⟨g', cap', rfl, r1, r2, r3⟩
  have R1 : Hid (BRow B w' g' cap' (bs ++ Lib.decDigits u)) := r1
  have R3 : Hid (bs.length + (Lib.decDigits u).length ≤ cap → g' = g ∧ cap' = cap) := r3
  clear r1 r3
  go_wp2
  go_ret
  exact ⟨g', cap', rfl, R1.out, r2, R3.out⟩

#print axioms appendUint_any
end Go.Proofs.Qxb6612180aDoor
