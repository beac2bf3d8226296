/-
  (*rows).Pop and container/heap.Pop.
-/
import Derived.Test.Qxb6612232aSift
namespace Go.Proofs.Qxb6612232a
open Go Go.RowKit

theorem rowsPop_any (F g n cap : Nat) (x : Int) (w : World) (hn : n ≤ 200000) (hcap : n + 1 ≤ cap) (hc : w.cell? ⟨F, 1, none⟩ = some (.slice (some ⟨g, 0, none⟩) (n + 1) cap)) (hf : w.frozen? ⟨F, 1, none⟩ = false) (hx : w.cell? ⟨g, n, none⟩ = some (.int .i64 x)) :
    Calls Try.prog 62 #[.pointer (some ⟨F, 1, none⟩)] w fun e w' => e = .returned (.iface 3 (.int .i64 x)) ∧ ∃ q1 q2, w' = ((w.drewN q1).setCell ⟨F, 1, none⟩ (.slice (some ⟨g, 0, none⟩) n cap)).drewN q2 := by
  have h1 : (n : Int) < (n : Int) + 1 := by omega
  go_enter Try.func62, Try.ntmps62
  go_wp2
  go_quiet (fail)
  go_wp2
  go_region
  all_goals
    go_wp2
    go_ret
    exact ⟨rfl, _, 0, rfl⟩

/-- What heap.Pop leaves: the least taken, the rest a heap. -/
structure Popped (w w' : World) (F g n cap : Nat) (xs ys : List Int) : Prop where
  len : ys.length = n
  perm : (xs.getD 0 0 :: ys).Perm xs
  heap : IsHeap ys n
  row : HRow w' g ys
  head : w'.cell? ⟨F, 1, none⟩ = some (.slice (some ⟨g, 0, none⟩) n cap)
  beside : ∀ j v, j ≠ 1 → w.cell? ⟨F, j, none⟩ = some v → w'.cell? ⟨F, j, none⟩ = some v
  free : ∀ j, w'.frozen? ⟨F, j, none⟩ = w.frozen? ⟨F, j, none⟩
  keep : Keep (fun k => k = g ∨ k = F) w w'

theorem take_snoc {zs : List Int} {n : Nat} (h : zs.length = n + 1) : zs = zs.take n ++ [zs.getD n 0] := by
  have e : zs.getD n 0 = zs[n] := by simp [List.getD, h]
  rw [e, ← List.take_succ_eq_append_getElem (by omega), List.take_of_length_le (by omega)]

theorem getD_take {zs : List Int} {n k : Nat} (h : k < n) : (zs.take n).getD k 0 = zs.getD k 0 := by
  simp [List.getD, List.getElem?_take_of_lt h]

theorem popped_of {w w1 w2 : World} {F g n cap : Nat} {xs zs : List Int} (hF : F ≠ g) (hl : xs.length = n + 1) (lF : F < w.heap.size) (hd : Down w w1 g n (swp xs 0 n) zs) (hz : IsHeap zs n) (hc : w.cell? ⟨F, 1, none⟩ = some (.slice (some ⟨g, 0, none⟩) (n + 1) cap))
    (hw : ∃ q1 q2, w2 = ((w1.drewN q1).setCell ⟨F, 1, none⟩ (.slice (some ⟨g, 0, none⟩) n cap)).drewN q2) : Popped w w2 F g n cap xs (zs.take n) := by
  obtain ⟨q1, q2, rfl⟩ := hw
  have hzl : zs.length = n + 1 := by rw [hd.perm.length_eq, swp_length, hl]
  have htop : zs.getD n 0 = xs.getD 0 0 := by rw [hd.tail n (Nat.le_refl _), swp_getD xs 0 n n (by omega) (by omega), if_pos rfl]
  have cF : w1.cell? ⟨F, 1, none⟩ = some (.slice (some ⟨g, 0, none⟩) (n + 1) cap) := hd.keep.cell hF hc
  refine ⟨by rw [List.length_take]; omega, ?_, fun i h0 hn => ?_, ⟨fun j hj => ?_, fun j => ?_, ?_⟩, ?_, fun j v hj hv => ?_, fun j => ?_, ?_⟩
  · have h1 : (zs.take n ++ [xs.getD 0 0]).Perm xs := by
      rw [← htop, ← take_snoc hzl]
      exact hd.perm.trans (swp_perm xs 0 n (by omega) (by omega))
    exact (List.perm_append_comm (l₁ := [xs.getD 0 0]) (l₂ := zs.take n)).trans h1
  · rw [getD_take (by omega), getD_take hn]
    exact hz i h0 hn
  · rw [List.length_take] at hj
    rw [getD_take (by omega)]
    show ((w1.drewN q1).setCell ⟨F, 1, none⟩ _).cell? ⟨g, j, none⟩ = _
    rw [World.cell?_setCell_other _ _ _ _ (fun e => hF (congrArg Addr.block e))]
    exact hd.row.holds j (by omega)
  · show ((w1.drewN q1).setCell ⟨F, 1, none⟩ _).frozen? ⟨g, j, none⟩ = _
    rw [World.frozen?_setCell]
    exact hd.row.free j
  · show g < ((w1.drewN q1).setCell ⟨F, 1, none⟩ _).heap.size
    simpa [World.setCell] using hd.row.lt
  · exact World.cell?_setCell_same (w1.drewN q1) _ _ cF
  · show ((w1.drewN q1).setCell ⟨F, 1, none⟩ _).cell? ⟨F, j, none⟩ = _
    rw [World.cell?_setCell_other _ _ _ _ (fun e => hj (congrArg Addr.off e).symm)]
    exact hd.keep.cell hF hv
  · show ((w1.drewN q1).setCell ⟨F, 1, none⟩ _).frozen? ⟨F, j, none⟩ = _
    rw [World.frozen?_setCell]
    exact hd.keep.frozen hF lF
  · have k0 : Keep (fun k => k = g ∨ k = F) w w1 := hd.keep.mono (fun k h => Or.inl h)
    exact (((k0.drewN q1).setCell (p := ⟨F, 1, none⟩) (Or.inr rfl) _).drewN q2)

set_option maxHeartbeats 1000000 in
set_option maxRecDepth 10000 in
theorem pop_any (F g n cap : Nat) (xs : List Int) (w : World) (hF : F ≠ g) (hl : xs.length = n + 1) (hb : n ≤ 190000) (hcap : n + 1 ≤ cap) (hc : w.cell? ⟨F, 1, none⟩ = some (.slice (some ⟨g, 0, none⟩) (n + 1) cap)) (hf : w.frozen? ⟨F, 1, none⟩ = false)
    (h : HRow w g xs) (hh : IsHeap xs (n + 1)) :
    Calls Try.prog 34 #[.iface 93 (.pointer (some ⟨F, 1, none⟩))] w fun e w' => ∃ ys, e = .returned (.iface 3 (.int .i64 (xs.getD 0 0))) ∧ Popped w w' F g n cap xs ys := by
  have m1 := method_by method_len hc
  have m2 := method_by method_swap hc
  have m3 := method_pop
  have HL := hide hl
  have HH := hide hh
  have HR := hide h
  have HC := hide hc
  clear hl hh h hc
  go_enter Try.func34, Try.ntmps34
  go_wp2_with (first | (go_at_call 58; go_in))
  refine (swap_of g (n + 1) cap xs 0 n _ _ _ HR.out (by have := HL.out; omega) rfl rfl (by omega) (by omega)).mono ?_
  rintro e w1 ⟨rfl, r1, r2⟩
  have hs := sift_start HH.out HL.out
  have c1 : w1.cell? ⟨F, 1, none⟩ = some (.slice (some ⟨g, 0, none⟩) (n + 1) cap) := r2.cell hF HC.out
  have lF : F < w.heap.size := World.block_lt_of_cell? _ _ HC.out
  have f1 : w1.frozen? ⟨F, 1, none⟩ = false := (r2.frozen hF lF).trans hf
  have R1 := hide r1
  have R2 := hide r2
  have HS := hide hs
  clear r1 r2 hs m1 m2
  go_wp2_with fail
  refine (down_any F g (n + 1) n cap (swp xs 0 n) _ hF c1 R1.out (by rw [swp_length]; exact Nat.le_of_eq HL.out.symm) (by omega) (by omega) HS.out).mono ?_
  rintro e w2 ⟨bb, zs, rfl, hd, hz⟩
  have hd' : Down w w2 g n (swp xs 0 n) zs := ⟨hd.row, hd.perm, hd.tail, R2.out.trans hd.keep⟩
  have c2 : w2.cell? ⟨F, 1, none⟩ = some (.slice (some ⟨g, 0, none⟩) (n + 1) cap) := hd.keep.cell hF c1
  have f2 : w2.frozen? ⟨F, 1, none⟩ = false := (hd'.keep.frozen hF lF).trans hf
  have hx : w2.cell? ⟨g, n, none⟩ = some (.int .i64 (xs.getD 0 0)) := by
    have hl := HL.out
    have h1 := hd.row.holds n (by rw [hd.perm.length_eq, swp_length, hl]; omega)
    rw [hd.tail n (Nat.le_refl _), swp_getD xs 0 n n (by omega) (by omega), if_pos rfl] at h1
    exact h1
  have D := hide hd'
  have Z := hide hz
  have HX := hide hx
  clear hd hd' hz hx c1 f1 R1 R2 HS
  go_wp2_with fail
  refine (rowsPop_any F g n cap (xs.getD 0 0) _ (by omega) hcap c2 f2 HX.out).mono ?_
  rintro e w3 ⟨rfl, hw⟩
  have P := hide (popped_of hF HL.out lF D.out Z.out HC.out hw)
  clear hw c2 f2
  go_wp2
  go_ret
  exact ⟨_, rfl, P.out⟩

#print axioms pop_any

end Go.Proofs.Qxb6612232a
