/-
  slices.Insert(b, i, c) at []byte, one byte, where there is room: after the guide's Derived/Shelf/Spec/SlicesInsert.lean (which has it at []string and []int), turned to this program's instance.
-/
import Derived.Test.Qxb6612180aDoorBytes
import Derived.Test.Qxb6612180aDoorAppend
import Derived.Shelf.Spec.SlicesInsert
namespace Go.Proofs.Qxb6612180aDoor
open Go Go.RowKit Go.Lib Go.Shelf

theorem mixed : Tryd.prog.follows .mixedOrders = true := by kernel_rfl

set_option maxHeartbeats 4000000 in
set_option maxRecDepth 100000 in
theorem insert_shift_raw (b n c i vb : Nat) (cs : List Value) (x : Value) (w : World) (hi : i < n) (hroom : n + 1 ≤ c) (hc63 : c ≤ 9223372036854775807) (hvb : vb ≠ b) (hcl : cs.length = n)
    (hcs : ∀ j v, cs[j]? = some v → w.cell? ⟨b, j, none⟩ = some v) (hsp : ∀ j, j < n + 1 → (w.cell? ⟨b, j, none⟩).isSome = true) (hfz : ∀ j, w.frozen? ⟨b, j, none⟩ = false)
    (hvs : w.cell? ⟨vb, 0, none⟩ = some x) (h1c : ∀ v ∈ cs, v.oneCell' = true) (h1v : x.oneCell' = true)
    (tA tB : TypeId) (kA kB : Nat) (hsa : w.shape? vb = some (tA, kA)) (hsb : w.shape? b = some (tB, kB)) (hkB : kB ≠ 0) (hfa : ∀ j, w.frozen? ⟨vb, j, none⟩ = false) :
    Calls Tryd.prog 21 #[.slice (some ⟨b, 0, none⟩) n c, .int .i64 i, .slice (some ⟨vb, 0, none⟩) 1 1] w fun e w' =>
      e = .returned (.slice (some ⟨b, 0, none⟩) (n + 1) c) ∧ w' = (w.drew.setCells b (i + 1) (cs.drop i)).setCells b i [x] := by
  have hz2 : ¬ ((i : Int) = (n : Int)) := by omega
  have hsz : (Tryd.prog.info? 5).map (·.size) = some 1 := by kernel_rfl
  have hov : ∀ lb cb, (callFunc 24 #[.slice (some ⟨vb, 0, none⟩) 1 1, .slice (some ⟨b, i + 1, none⟩) lb cb]).run Tryd.prog w = .ok (.value (.bool false)) w := fun lb cb => by
    rw [run_callFunc_extern Tryd.func24 (by kernel_rfl) (by kernel_rfl) (by kernel_rfl) (e := Extern.SlicesOverlaps.overlaps #[35, 35] #[4]) (by kernel_rfl),
      Lib.run_overlaps_apart w 35 4 5 Tryd.underlying35 1 Tryd.sizeOf5 ⟨vb, 0, none⟩ ⟨b, i + 1, none⟩ 1 1 lb cb hvb tA tB kA kB hsa hsb hkB (hfa 0) (hfa kA)]
    rfl
  have hdl : (cs.drop i).length = n - i := by rw [List.length_drop, hcl]
  have hw1 : IntKind.i64.wrap ((i : Int) + 1) = (i : Int) + 1 := by rw [IntKind.wrap_i64]; omega
  have hb1 : (0 : Int) ≤ (i : Int) + 1 := by omega
  have hb5 : (i : Int) + 1 ≤ (n : Int) + 1 := by omega
  have hin : i ≤ n := by omega
  have htn : ((i : Int) + 1).toNat = i + 1 := by omega
  have hb2 : ¬ (c = i + 1) := by omega
  have hb3 : (i : Int) ≤ (n : Int) + 1 := by omega
  have hb4 : ¬ (c = i) := by omega
  have hcp1 : ∀ ty dc sc, (Builtin.copy_ #[35, 35] ty #[.slice (some ⟨b, i + 1, none⟩) (n - i) dc, .slice (some ⟨b, i, none⟩) (n + 1 - i) sc]).run Tryd.prog w.drew = .ok (goInt (cs.drop i).length) (w.drew.setCells b (i + 1) (cs.drop i)) := fun ty dc sc =>
    run_copy_cells w.drew _ _ ty 5 b (i + 1) (n - i) dc ⟨b, i, none⟩ (n + 1 - i) sc (cs.drop i) Tryd.underlying35 hsz (by rw [hdl]; simp only [Nat.min_def]; split <;> omega)
      (fun j v hj => by rw [Addr.add_lit]; exact hcs (i + j) v (by rwa [List.getElem?_drop] at hj))
      (fun j hj => hsp _ (by omega)) (fun j hj => hfz _) (fun v hv => h1c v (List.mem_of_mem_drop hv))
  obtain ⟨W1, hW1⟩ : ∃ W1, W1 = w.drew.setCells b (i + 1) (cs.drop i) := ⟨_, rfl⟩
  have hsp1 : ∀ k, k < n + 1 → (W1.cell? ⟨b, k, none⟩).isSome = true := fun k hk => by
    rw [hW1]
    exact isSome_setCells b (cs.drop i) (i + 1) w.drew (fun j hj => hsp _ (by omega)) k (hsp k hk)
  have hcp2 : ∀ (W : World), (∀ x, W.cell? x = W1.cell? x) → (∀ x, W.frozen? x = W1.frozen? x) → ∀ ty dc, (Builtin.copy_ #[35, 35] ty #[.slice (some ⟨b, i, none⟩) (n + 1 - i) dc, .slice (some ⟨vb, 0, none⟩) 1 1]).run Tryd.prog W = .ok (goInt [x].length) (W.setCells b i [x]) := fun W hWc hWf ty dc =>
    run_copy_cells W _ _ ty 5 b i (n + 1 - i) dc ⟨vb, 0, none⟩ 1 1 [x] Tryd.underlying35 hsz (by simp only [Nat.min_def, List.length_singleton]; split <;> omega)
      (fun j v hj => by
        match j, hj with
        | 0, hj =>
          cases hj
          rw [Addr.add_lit, hWc, hW1, World.cell?_setCells_out b _ _ _ _ (fun h _ => absurd h hvb)]
          exact hvs)
      (fun j hj => by rw [hWc]; exact hsp1 _ (by simp at hj; omega)) (fun j hj => by rw [hWf, hW1, World.frozen?_setCells]; exact hfz _) (fun v hv => by simp at hv; subst hv; exact h1v)
  rw [← hW1] at hcp1
  have mx := mixed
  go_enter Tryd.func21, Tryd.ntmps21
  go_wp2_with (simp only [hov])
  go_region_law (refine step_copy_runI rfl _ _ 35 35 rfl _ _ (by simp [Act.eval]) (by simp [Act.eval]) (hcp1 _ _ _) ?_)
  go_wp2_with (at_builtin; refine wpList_copy_runI _ rfl _ _ 35 35 rfl _ _ rfl rfl (hcp2 _ (fun _ => rfl) (fun _ => rfl) _ _) ?_)
  go_ret
  first | exact ⟨rfl, rfl⟩ | exact ⟨rfl, by rw [hW1]⟩

/-- The list with c put in at place i. -/
def ins (i : Nat) (c : UInt8) (l : List UInt8) : List UInt8 := l.take i ++ c :: l.drop i

theorem ins_length (i : Nat) (c : UInt8) (l : List UInt8) (h : i ≤ l.length) : (ins i c l).length = l.length + 1 := by
  unfold ins
  simp
  omega

theorem bcells_take (l : List UInt8) (i : Nat) : bcells (l.take i) = (bcells l).take i := by simp [bcells]
theorem bcells_drop (l : List UInt8) (i : Nat) : bcells (l.drop i) = (bcells l).drop i := by simp [bcells]

theorem brow_shifted {B : Nat} {w : World} {g cap : Nat} {bs : List UInt8} (h : BRow B w g cap bs) (i : Nat) (c : UInt8) (hi : i < bs.length) (hr : bs.length + 1 ≤ cap) :
    BRow B ((w.drew.setCells g (i + 1) ((bcells bs).drop i)).setCells g i [.int .u8 c.toNat]) g cap (ins i c bs) := by
  have h0 : BRow B w.drew g cap bs := h.carry rfl
  have hl : ((bcells bs).drop i).length = bs.length - i := by rw [List.length_drop, bcells_length]
  have h1 : BRow B (w.drew.setCells g (i + 1) ((bcells bs).drop i)) g cap (bs.take (i + 1) ++ bs.drop i) := by
    refine h0.stored (i + 1) _ _ (by simp; omega) (by omega) (fun j u hu => ?_)
    rw [bcells_append, bcells_take, bcells_drop] at hu
    have hjl := (List.getElem?_eq_some_iff.1 hu).1
    rw [List.length_append, List.length_take, hl, bcells_length] at hjl
    by_cases hj : j < i + 1
    · rw [if_neg (by omega)]
      rw [List.getElem?_append_left (by rw [List.length_take, bcells_length]; omega), List.getElem?_take_of_lt (by omega)] at hu
      exact hu
    · rw [if_pos (by omega)]
      rw [List.getElem?_append_right (by rw [List.length_take, bcells_length]; omega), List.length_take, bcells_length, Nat.min_eq_left (by omega)] at hu
      exact hu
  refine h1.stored i _ _ (by rw [ins_length _ _ _ (by omega)]; omega) (by simp; omega) (fun j u hu => ?_)
  unfold ins at hu
  have hjl := (List.getElem?_eq_some_iff.1 hu).1
  rw [bcells_append, bcells_take] at hu
  rw [bcells_append, bcells_take, bcells_drop]
  by_cases hj : j < i
  · rw [if_neg (by omega)]
    rw [List.getElem?_append_left (by rw [List.length_take, bcells_length]; omega), List.getElem?_take_of_lt (by omega)] at hu ⊢
    exact hu
  · rw [List.getElem?_append_right (by rw [List.length_take, bcells_length]; omega), List.length_take, bcells_length, Nat.min_eq_left (by omega)] at hu
    by_cases e : j = i
    · subst e
      rw [if_pos (by simp)]
      rw [Nat.sub_self] at hu ⊢
      exact hu
    · rw [if_neg (by simp; omega)]
      rw [List.getElem?_append_right (by rw [List.length_take, bcells_length]; omega), List.length_take, bcells_length, Nat.min_eq_left (by omega)]
      rw [show j - i = (j - (i + 1)) + 1 by omega] at hu
      rw [← bcells_drop]
      exact hu

/-- slices.Insert of one byte, i < len(b), room. -/
theorem insert_shift {B g cap i vb : Nat} {bs : List UInt8} {c : UInt8} {w : World} (h : BRow B w g cap bs) (hi : i < bs.length) (hr : bs.length + 1 ≤ cap) (hvb : vb ≠ g)
    (hvs : w.cell? ⟨vb, 0, none⟩ = some (.int .u8 c.toNat)) (tA : TypeId) (kA : Nat) (hsa : w.shape? vb = some (tA, kA)) (hfa : ∀ j, w.frozen? ⟨vb, j, none⟩ = false) :
    Calls Tryd.prog 21 #[.slice (some ⟨g, 0, none⟩) bs.length cap, .int .i64 i, .slice (some ⟨vb, 0, none⟩) 1 1] w fun e w' =>
      e = .returned (.slice (some ⟨g, 0, none⟩) (bs.length + 1) cap) ∧ BRow B w' g cap (ins i c bs) ∧ Below B w w' := by
  obtain ⟨tB, kB, hsb, hkB⟩ := h.shp
  have hm := h.max
  unfold maxLen at hm
  refine (insert_shift_raw g bs.length cap i vb (bcells bs) (.int .u8 c.toNat) w hi hr (by omega) hvb (bcells_length bs) h.holds (fun j hj => h.there j (by omega)) h.free hvs (bcells_one bs) rfl tA tB kA kB hsa hsb hkB hfa).mono ?_
  rintro e w' ⟨rfl, rfl⟩
  exact ⟨rfl, brow_shifted h i c hi hr, ((Below.refl B w).drew.trans (below_setCells g h.ge _ _ _)).trans (below_setCells g h.ge _ _ _)⟩

set_option maxHeartbeats 1000000 in
/-- slices.Insert of one byte at the end, room. -/
theorem insert_end {B g cap vb : Nat} {bs : List UInt8} {c : UInt8} {w : World} (h : BRow B w g cap bs) (hBw : B ≤ w.heap.size) (hr : bs.length + 1 ≤ cap) (hb : bs.length + 1 ≤ 140737488355328)
    (hvs : w.cell? ⟨vb, 0, none⟩ = some (.int .u8 c.toNat)) :
    Calls Tryd.prog 21 #[.slice (some ⟨g, 0, none⟩) bs.length cap, .int .i64 bs.length, .slice (some ⟨vb, 0, none⟩) 1 1] w fun e w' =>
      e = .returned (.slice (some ⟨g, 0, none⟩) (bs.length + 1) cap) ∧ BRow B w' g cap (ins bs.length c bs) ∧ Below B w w' := by
  obtain ⟨i0, hi, hz0, hz1, hz2⟩ := info_parts info5
  have HS : Hid _ := src_one (P := Tryd.prog) Tryd.underlying35 w vb c hvs
  have HB : Hid _ := h
  have hcap : (bs.length : Int) ≤ (cap : Int) := by omega
  have hl0 : (bs.length : Int) ≤ 9223372036854775807 := by omega
  clear h hvs
  go_enter Tryd.func21, Tryd.ntmps21
  go_wp2_with (at_builtin; refine wpList_append_brow rfl _ _ 35 35 rfl 5 i0 Tryd.underlying35 hi hz0 hz1 hz2 rfl rfl HB.out hBw rfl [c] HS.out hb ?_)
  rintro g' cap' w1 r1 r2 rfl rfl
  have R1 : Hid _ := r1
  clear r1
  go_wp2
  go_ret
  refine ⟨rfl, ?_, r2⟩
  have e : ins bs.length c bs = bs ++ [c] := by simp [ins]
  rw [e]
  exact R1.out

#print axioms insert_shift
#print axioms insert_end

end Go.Proofs.Qxb6612180aDoor
