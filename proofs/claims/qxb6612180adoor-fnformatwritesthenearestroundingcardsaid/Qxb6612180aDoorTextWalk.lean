/-
  The walk of (Decimal).text.
-/
import Derived.Test.Qxb6612180aDoorText
import Derived.WalkSpells
import Derived.Deep.DeepFit
namespace Go.Proofs.Qxb6612180aDoor
open Go Go.RowKit

set_option maxHeartbeats 2000000 in
theorem text_pos (coef : Int) (scale places : Nat) (w : World) (hs : scale ≤ 18) (hp : scale ≤ places) (hp2 : places ≤ 65536) (hneg : ¬ coef < 0) (h2 : coef < 1000000000000000000) (htab : Lib.TabIs Tryd.prog w tabName .u64 Lib.pow10Tab) :
    Calls Tryd.prog 15 #[.agg #[.int .i64 coef, .int .i64 scale], .int .i64 places] w fun e w' => e = .returned (.string ⟨(textOf coef scale places).toArray⟩) ∧ Below w.heap.size w w' := by
  obtain ⟨i0, hi, hz0, hz1, hz2⟩ := info_parts info5
  have hd := dg_le coef (by omega) h2
  have hsg : sgn coef = [] := by unfold sgn; rw [if_neg hneg]
  have HR : Hid (∀ arr : Array Value, arr.size = 39 → BRow (w.heap.size + 1) ((w.alloc (.cells #[.int .i64 coef, .int .i64 scale] 24)).alloc (.cells arr 40)) (w.heap.size + 1) 39 []) := fun arr ha => brow_new (Nat.le_refl _) (by simp) ha (by decide) (by decide)
  have HT := hide htab
  have HSG := hide hsg
  clear htab hsg
  go_enter Tryd.func15, Tryd.ntmps15
  go_wp2_with (first | (go_at_call 18; refine (mag_any _ _ (by omega) (by omega)).mono ?_; rintro e w' ⟨rfl, rfl⟩))
  have hroom : ([] : List UInt8).length + (Lib.decDigits coef.natAbs).length ≤ 39 := by have := hd.2; unfold dg at this; simp; omega
  go_fit (appendUint_room (B := w.heap.size + 1) (g := w.heap.size + 1) (cap := 39) (n := 0) (bs := []) (u := coef.natAbs) (w := (w.alloc (.cells #[.int .i64 coef, .int .i64 scale] 24)).alloc (.cells _ 40)) (HR.out _ rfl) rfl (by omega) (by simp) (by simp) hroom (Lib.tabIs_alloc (Lib.tabIs_alloc HT.out _) _))
  rintro e w2 ⟨n1, rfl, hn1, hb1, hl1⟩
  have hbx : Below (w.heap.size + 1) (w.alloc (.cells #[.int .i64 coef, .int .i64 scale] 24)) w2 := ((Below.refl _ _).alloc (by simp) _).trans hl1
  clear hl1
  have hB0 : BRow (w.heap.size + 1) w2 (w.heap.size + 1) 39 (body1 coef 0) := by
    have e : body1 coef 0 = [] ++ Lib.decDigits coef.natAbs := by unfold body1 dg zs; rw [HSG.out]; rfl
    rw [e]; exact hb1
  have hN0 : n1 = (body1 coef 0).length := by
    have e : body1 coef 0 = [] ++ Lib.decDigits coef.natAbs := by unfold body1 dg zs; rw [HSG.out]; rfl
    rw [e]; exact hn1
  have HB0 := hide hB0
  have HN0 := hide hN0
  have HX := hide hbx
  clear hb1 hn1 hB0 hN0 hbx
  go_wp2
  go_loopw [6] (fun v wr => ∃ k n : Nat, v = .slice (some ⟨w.heap.size + 1, 0, none⟩) n 39 ∧ k ≤ lead coef scale ∧ n = (body1 coef k).length ∧ BRow (w.heap.size + 1) wr (w.heap.size + 1) 39 (body1 coef k) ∧ Below (w.heap.size + 1) (w.alloc (.cells #[.int .i64 coef, .int .i64 scale] 24)) wr)
    (fun v _ => 60 - lenOf v)
  case atStart => exact ⟨0, n1, rfl, Nat.zero_le _, HN0.out, HB0.out, HX.out⟩
  case round =>
    clear HN0 HB0 HX HT HR
    obtain ⟨k, n, rfl, hk, hn, hB, hX⟩ := hrel
    have hlen := body1_length coef k
    have hsl : (sgn coef).length = 0 := by rw [HSG.out]; rfl
    have hk2 := hk
    unfold lead at hk2
    have hB0 : w.heap.size + 1 ≤ wr.heap.size := Nat.le_of_lt hB.lt
    have cy : wr.cell? ⟨w.heap.size, 1, none⟩ = some (.int .i64 scale) := (hX.cell (p := ⟨w.heap.size, 1, none⟩) (Nat.lt_succ_self _)).trans (by simp)
    have HB := hide hB
    have HX := hide hX
    have HN := hide hn
    have HSL := hide hsl
    have HLEN := hide hlen
    by_cases hc : k + (dg coef).length ≤ scale
    · have t1 : (n : Int) - 0 ≤ scale := by omega
      have t2 : n ≤ 22 := by omega
      have t3 : 0 ≤ n := by omega
      clear hB hX hn hsl hlen hd hk hk2
      go_wp2_with fail
      go_fit (insert_new (B := w.heap.size + 1) (g := w.heap.size + 1) (cap := 39) (n := n) (i := 0) (c := 48) (W := wr) HB.out HN.out rfl rfl t3 (by omega) (by omega) hB0)
      rintro e w3 ⟨rfl, r1, r2⟩
      have R1 := hide r1
      have R2 := hide r2
      clear r1 r2
      go_wp2
      go_roundw
      case rel =>
        refine ⟨k + 1, n + 1, rfl, ?_, ?_, ?_, HX.out.trans R2.out⟩
        · unfold lead; omega
        · have := HN.out; rw [body1_length] at this ⊢; omega
        · have e := ins_body1 coef k
          rw [HSL.out] at e
          rw [← e]
          exact R1.out
      case measure => simp [lenOf]; omega
    · have t1 : ¬ ((n : Int) - 0 ≤ scale) := by omega
      have t4 : k = lead coef scale := by unfold lead; omega
      have t5 : scale ≤ n := by omega
      have t2 : n ≤ 22 := by omega
      subst t4
      clear hB hX hn hsl hlen hd hk hk2
      by_cases hpl : places = 0
      · subst hpl
        have hcv : (convert 35 9 (.slice (some ⟨w.heap.size + 1, 0, none⟩) n 39)).run Tryd.prog wr = .ok (.string ⟨(textOf coef scale 0).toArray⟩) wr := by
          rw [HN.out]
          exact run_string_brow (P := Tryd.prog) HB.out Tryd.underlying35 Tryd.underlying5 Tryd.underlying9
        go_wp2
        go_ret
        exact ⟨rfl, ((Below.refl _ _).alloc (Nat.le_refl _) _).trans (HX.out.mono (Nat.le_succ _))⟩
      · have t6 : (0 : Int) < places := by omega
        go_wp2_with fail
        go_fit (insert_new (B := w.heap.size + 1) (g := w.heap.size + 1) (cap := 39) (n := n) (i := n - scale) (iv := (n : Int) - scale) (c := 46) (W := wr) HB.out HN.out (by omega) rfl (by omega) (by omega) (by omega) hB0)
        rintro e w3 ⟨rfl, r1, r2⟩
        have cy3 : w3.cell? ⟨w.heap.size, 1, none⟩ = some (.int .i64 scale) := (r2.cell (p := ⟨w.heap.size, 1, none⟩) (Nat.lt_succ_self _)).trans cy
        have R1 : Hid (BRow (w.heap.size + 1) w3 (w.heap.size + 1) 39 (dot coef scale)) := by
          show BRow _ _ _ _ _
          unfold dot
          rw [← HN.out]
          exact r1
        have RN : Hid (n + 1 = (dot coef scale).length) := by
          show n + 1 = _
          unfold dot
          rw [ins_length _ _ _ (by rw [← HN.out]; omega), ← HN.out]
        have R2 := hide (HX.out.trans r2)
        clear r1 r2 HX HB cy
        go_wp2
        go_loopw [6, 47] (fun v c wr => ∃ j g cap n : Nat, v = .slice (some ⟨g, 0, none⟩) n cap ∧ c = .int .i64 j ∧ j ≤ places - scale ∧ n = (dot coef scale ++ zs j).length ∧ BRow (w.heap.size + 1) wr g cap (dot coef scale ++ zs j) ∧ Below (w.heap.size + 1) (w.alloc (.cells #[.int .i64 coef, .int .i64 scale] 24)) wr)
          (fun _ c _ => places - scale - (intOf c).toNat)
        case atStart => exact ⟨0, _, _, _, rfl, rfl, Nat.zero_le _, by rw [RN.out]; simp [zs], by simpa [zs] using R1.out, R2.out⟩
        case round =>
          obtain ⟨j, g, cap, m, rfl, rfl, hj, hm, hB, hX⟩ := hrel
          have hB1 : w.heap.size + 1 ≤ wr.heap.size := by have := hX.size; simpa using this
          have hml : m = n + 1 + j := by rw [hm, List.length_append, zs_length, ← RN.out]
          have t7 : m ≤ 70000 := by omega
          have HB := hide hB
          have HX := hide hX
          have HM := hide hm
          clear hB hX hm hml
          by_cases hlt : j < places - scale
          · have t8 : (j : Int) < (places : Int) - scale := by omega
            have HS : Hid (∀ o : Obj, o = .cells #[.int .u8 48] 5 → Src Tryd.prog 1 35 (.slice (some ⟨wr.heap.size, 0, none⟩) 1 1) [(48 : UInt8)].length (bcells [48]) (wr.alloc o)) := by
              rintro o rfl
              exact src_one Tryd.underlying35 _ _ 48 (by rw [cell_of_block (heap_alloc_new wr _)]; rfl)
            go_wp2_with (at_builtin; refine wpList_append_brow rfl _ _ 35 35 rfl 5 i0 Tryd.underlying35 hi hz0 hz1 hz2 rfl HM.out (HB.out.alloc _) (by simp only [World.size_alloc]; omega) rfl [48] (HS.out _ rfl) (by rw [← HM.out]; show m + 1 ≤ _; omega) ?_)
            intro g' cap' w4 q1 q2 q3
            clear q3
            have Q1 := hide q1
            have Q2 := hide q2
            clear q1 q2
            go_wp2
            go_roundw
            case rel =>
              refine ⟨j + 1, g', cap', _, rfl, by go_num, by omega, ?_, ?_, ?_⟩
              · simp only [List.length_append, zs_length]; omega
              · rw [← zs_snoc]; exact Q1.out
              · exact (HX.out.trans ((Below.refl _ _).alloc hB1 _)).trans Q2.out
            case measure => simp [intOf]; omega
          · obtain rfl : j = places - scale := by omega
            have hcv : (convert 35 9 (.slice (some ⟨g, 0, none⟩) m cap)).run Tryd.prog wr = .ok (.string ⟨(textOf coef scale places).toArray⟩) wr := by
              rw [HM.out]
              unfold textOf
              rw [if_neg hpl]
              exact run_string_brow (P := Tryd.prog) HB.out Tryd.underlying35 Tryd.underlying5 Tryd.underlying9
            go_wp2
            go_ret
            exact ⟨rfl, ((Below.refl _ _).alloc (Nat.le_refl _) _).trans (HX.out.mono (Nat.le_succ _))⟩


set_option maxHeartbeats 2000000 in
theorem text_neg (coef : Int) (scale places : Nat) (w : World) (hs : scale ≤ 18) (hp : scale ≤ places) (hp2 : places ≤ 65536) (hneg : coef < 0) (h1 : -1000000000000000000 < coef) (htab : Lib.TabIs Tryd.prog w tabName .u64 Lib.pow10Tab) :
    Calls Tryd.prog 15 #[.agg #[.int .i64 coef, .int .i64 scale], .int .i64 places] w fun e w' => e = .returned (.string ⟨(textOf coef scale places).toArray⟩) ∧ Below w.heap.size w w' := by
  obtain ⟨i0, hi, hz0, hz1, hz2⟩ := info_parts info5
  have hd := dg_le coef h1 (by omega)
  have hsg : sgn coef = [45] := by unfold sgn; rw [if_pos hneg]
  have HR : Hid (∀ arr : Array Value, arr.size = 39 → BRow (w.heap.size + 1) ((w.alloc (.cells #[.int .i64 coef, .int .i64 scale] 24)).alloc (.cells arr 40)) (w.heap.size + 1) 39 []) := fun arr ha => brow_new (Nat.le_refl _) (by simp) ha (by decide) (by decide)
  have HS : Hid (∀ (W : World) (N : Nat), N = W.heap.size → Src Tryd.prog 1 35 (.slice (some ⟨N, 0, none⟩) 1 1) [(45 : UInt8)].length (bcells [45]) (W.alloc (.cells #[.int .u8 45] 5))) := by
    rintro W N rfl
    exact src_one Tryd.underlying35 _ _ 45 (by rw [cell_of_block (heap_alloc_new W _)]; rfl)
  have HT := hide htab
  have HSG := hide hsg
  clear htab hsg
  go_enter Tryd.func15, Tryd.ntmps15
  go_wp2_with (at_builtin; refine wpList_append_brow rfl _ _ 35 35 rfl 5 i0 Tryd.underlying35 hi hz0 hz1 hz2 rfl (bs := []) rfl ((HR.out _ rfl).alloc _) (by simp only [World.size_alloc]; omega) rfl [45] (HS.out _ _ (by simp only [World.size_alloc])) (by simp) ?_)
  rintro g' cap' w1 q1 q2 rfl rfl
  have hbx0 : Below (w.heap.size + 1) (w.alloc (.cells #[.int .i64 coef, .int .i64 scale] 24)) w1 := (((Below.refl _ _).alloc (by simp only [World.size_alloc]; omega) _).alloc (by simp only [World.size_alloc]; omega) _).trans q2
  have cx : w1.cell? ⟨w.heap.size, 0, none⟩ = some (.int .i64 coef) := (hbx0.cell (p := ⟨w.heap.size, 0, none⟩) (Nat.lt_succ_self _)).trans (by simp)
  have hsz1 : w.heap.size + 1 ≤ w1.heap.size := Nat.le_of_lt q1.lt
  have HX0 := hide hbx0
  have HT1 : Hid (Lib.TabIs Tryd.prog w1 tabName .u64 Lib.pow10Tab) := Lib.tabBelow_of_tabIs HT.out w1 (((Below.refl _ _).alloc (Nat.le_refl _) _).trans (hbx0.mono (Nat.le_succ _)))
  have HB := hide q1
  clear hbx0 q1 q2 HT HS
  have hroom : ([] ++ [45] : List UInt8).length + (Lib.decDigits coef.natAbs).length ≤ 39 := by have := hd.2; unfold dg at this; simp; omega
  go_wp2_with (first | (go_at_call 18; refine (mag_any _ _ (by omega) (by omega)).mono ?_; rintro e w' ⟨rfl, rfl⟩))
  go_fit (appendUint_room (B := w.heap.size + 1) (g := w.heap.size + 1) (cap := 39) (n := 1) (bs := [] ++ [45]) (u := coef.natAbs) (w := w1) HB.out rfl (by omega) hsz1 (by simp) hroom HT1.out)
  rintro e w2 ⟨n1, rfl, hn1, hb1, hl1⟩
  have hbx : Below (w.heap.size + 1) (w.alloc (.cells #[.int .i64 coef, .int .i64 scale] 24)) w2 := HX0.out.trans hl1
  clear hl1
  have hB0 : BRow (w.heap.size + 1) w2 (w.heap.size + 1) 39 (body1 coef 0) := by
    have e : body1 coef 0 = [] ++ [45] ++ Lib.decDigits coef.natAbs := by unfold body1 dg zs; rw [HSG.out]; rfl
    rw [e]; exact hb1
  have hN0 : n1 = (body1 coef 0).length := by
    have e : body1 coef 0 = [] ++ [45] ++ Lib.decDigits coef.natAbs := by unfold body1 dg zs; rw [HSG.out]; rfl
    rw [e]; exact hn1
  have HB0 := hide hB0
  have HN0 := hide hN0
  have HX := hide hbx
  clear hb1 hn1 hB0 hN0 hbx HB HT1 HX0 cx hsz1
  go_wp2
  go_loopw [6] (fun v wr => ∃ k n : Nat, v = .slice (some ⟨w.heap.size + 1, 0, none⟩) n 39 ∧ k ≤ lead coef scale ∧ n = (body1 coef k).length ∧ BRow (w.heap.size + 1) wr (w.heap.size + 1) 39 (body1 coef k) ∧ Below (w.heap.size + 1) (w.alloc (.cells #[.int .i64 coef, .int .i64 scale] 24)) wr)
    (fun v _ => 60 - lenOf v)
  case atStart => exact ⟨0, n1, rfl, Nat.zero_le _, HN0.out, HB0.out, HX.out⟩
  case round =>
    clear HN0 HB0 HX HR
    obtain ⟨k, n, rfl, hk, hn, hB, hX⟩ := hrel
    have hlen := body1_length coef k
    have hsl : (sgn coef).length = 1 := by rw [HSG.out]; rfl
    have hk2 := hk
    unfold lead at hk2
    have hB0 : w.heap.size + 1 ≤ wr.heap.size := Nat.le_of_lt hB.lt
    have cy : wr.cell? ⟨w.heap.size, 1, none⟩ = some (.int .i64 scale) := (hX.cell (p := ⟨w.heap.size, 1, none⟩) (Nat.lt_succ_self _)).trans (by simp)
    have HB := hide hB
    have HX := hide hX
    have HN := hide hn
    have HSL := hide hsl
    have HLEN := hide hlen
    by_cases hc : k + (dg coef).length ≤ scale
    · have t1 : (n : Int) - 1 ≤ scale := by omega
      have t2 : n ≤ 22 := by omega
      have t3 : 1 ≤ n := by omega
      clear hB hX hn hsl hlen hd hk hk2
      go_wp2_with fail
      go_fit (insert_new (B := w.heap.size + 1) (g := w.heap.size + 1) (cap := 39) (n := n) (i := 1) (c := 48) (W := wr) HB.out HN.out rfl rfl t3 (by omega) (by omega) hB0)
      rintro e w3 ⟨rfl, r1, r2⟩
      have R1 := hide r1
      have R2 := hide r2
      clear r1 r2
      go_wp2
      go_roundw
      case rel =>
        refine ⟨k + 1, n + 1, rfl, ?_, ?_, ?_, HX.out.trans R2.out⟩
        · unfold lead; omega
        · have := HN.out; rw [body1_length] at this ⊢; omega
        · have e := ins_body1 coef k
          rw [HSL.out] at e
          rw [← e]
          exact R1.out
      case measure => simp [lenOf]; omega
    · have t1 : ¬ ((n : Int) - 1 ≤ scale) := by omega
      have t4 : k = lead coef scale := by unfold lead; omega
      have t5 : scale ≤ n := by omega
      have t2 : n ≤ 22 := by omega
      subst t4
      clear hB hX hn hsl hlen hd hk hk2
      by_cases hpl : places = 0
      · subst hpl
        have hcv : (convert 35 9 (.slice (some ⟨w.heap.size + 1, 0, none⟩) n 39)).run Tryd.prog wr = .ok (.string ⟨(textOf coef scale 0).toArray⟩) wr := by
          rw [HN.out]
          exact run_string_brow (P := Tryd.prog) HB.out Tryd.underlying35 Tryd.underlying5 Tryd.underlying9
        go_wp2
        go_ret
        exact ⟨rfl, ((Below.refl _ _).alloc (Nat.le_refl _) _).trans (HX.out.mono (Nat.le_succ _))⟩
      · have t6 : (0 : Int) < places := by omega
        go_wp2_with fail
        go_fit (insert_new (B := w.heap.size + 1) (g := w.heap.size + 1) (cap := 39) (n := n) (i := n - scale) (iv := (n : Int) - scale) (c := 46) (W := wr) HB.out HN.out (by omega) rfl (by omega) (by omega) (by omega) hB0)
        rintro e w3 ⟨rfl, r1, r2⟩
        have cy3 : w3.cell? ⟨w.heap.size, 1, none⟩ = some (.int .i64 scale) := (r2.cell (p := ⟨w.heap.size, 1, none⟩) (Nat.lt_succ_self _)).trans cy
        have R1 : Hid (BRow (w.heap.size + 1) w3 (w.heap.size + 1) 39 (dot coef scale)) := by
          show BRow _ _ _ _ _
          unfold dot
          rw [← HN.out]
          exact r1
        have RN : Hid (n + 1 = (dot coef scale).length) := by
          show n + 1 = _
          unfold dot
          rw [ins_length _ _ _ (by rw [← HN.out]; omega), ← HN.out]
        have R2 := hide (HX.out.trans r2)
        clear r1 r2 HX HB cy
        go_wp2
        go_loopw [6, 47] (fun v c wr => ∃ j g cap n : Nat, v = .slice (some ⟨g, 0, none⟩) n cap ∧ c = .int .i64 j ∧ j ≤ places - scale ∧ n = (dot coef scale ++ zs j).length ∧ BRow (w.heap.size + 1) wr g cap (dot coef scale ++ zs j) ∧ Below (w.heap.size + 1) (w.alloc (.cells #[.int .i64 coef, .int .i64 scale] 24)) wr)
          (fun _ c _ => places - scale - (intOf c).toNat)
        case atStart => exact ⟨0, _, _, _, rfl, rfl, Nat.zero_le _, by rw [RN.out]; simp [zs], by simpa [zs] using R1.out, R2.out⟩
        case round =>
          obtain ⟨j, g, cap, m, rfl, rfl, hj, hm, hB, hX⟩ := hrel
          have hB1 : w.heap.size + 1 ≤ wr.heap.size := by have := hX.size; simpa using this
          have hml : m = n + 1 + j := by rw [hm, List.length_append, zs_length, ← RN.out]
          have t7 : m ≤ 70000 := by omega
          have HB := hide hB
          have HX := hide hX
          have HM := hide hm
          clear hB hX hm hml
          by_cases hlt : j < places - scale
          · have t8 : (j : Int) < (places : Int) - scale := by omega
            have HS : Hid (∀ o : Obj, o = .cells #[.int .u8 48] 5 → Src Tryd.prog 1 35 (.slice (some ⟨wr.heap.size, 0, none⟩) 1 1) [(48 : UInt8)].length (bcells [48]) (wr.alloc o)) := by
              rintro o rfl
              exact src_one Tryd.underlying35 _ _ 48 (by rw [cell_of_block (heap_alloc_new wr _)]; rfl)
            go_wp2_with (at_builtin; refine wpList_append_brow rfl _ _ 35 35 rfl 5 i0 Tryd.underlying35 hi hz0 hz1 hz2 rfl HM.out (HB.out.alloc _) (by simp only [World.size_alloc]; omega) rfl [48] (HS.out _ rfl) (by rw [← HM.out]; show m + 1 ≤ _; omega) ?_)
            intro g' cap' w4 q1 q2 q3
            clear q3
            have Q1 := hide q1
            have Q2 := hide q2
            clear q1 q2
            go_wp2
            go_roundw
            case rel =>
              refine ⟨j + 1, g', cap', _, rfl, by go_num, by omega, ?_, ?_, ?_⟩
              · simp only [List.length_append, zs_length]; omega
              · rw [← zs_snoc]; exact Q1.out
              · exact (HX.out.trans ((Below.refl _ _).alloc hB1 _)).trans Q2.out
            case measure => simp [intOf]; omega
          · obtain rfl : j = places - scale := by omega
            have hcv : (convert 35 9 (.slice (some ⟨g, 0, none⟩) m cap)).run Tryd.prog wr = .ok (.string ⟨(textOf coef scale places).toArray⟩) wr := by
              rw [HM.out]
              unfold textOf
              rw [if_neg hpl]
              exact run_string_brow (P := Tryd.prog) HB.out Tryd.underlying35 Tryd.underlying5 Tryd.underlying9
            go_wp2
            go_ret
            exact ⟨rfl, ((Below.refl _ _).alloc (Nat.le_refl _) _).trans (HX.out.mono (Nat.le_succ _))⟩


/-- (Decimal).text. -/
theorem text_any (coef : Int) (scale places : Nat) (w : World) (hs : scale ≤ 18) (hp : scale ≤ places) (hp2 : places ≤ 65536) (h1 : -1000000000000000000 < coef) (h2 : coef < 1000000000000000000) (htab : Lib.TabIs Tryd.prog w tabName .u64 Lib.pow10Tab) :
    Calls Tryd.prog 15 #[.agg #[.int .i64 coef, .int .i64 scale], .int .i64 places] w fun e w' => e = .returned (.string ⟨(textOf coef scale places).toArray⟩) ∧ Below w.heap.size w w' := by
  by_cases hneg : coef < 0
  · exact text_neg coef scale places w hs hp hp2 hneg h1 htab
  · exact text_pos coef scale places w hs hp hp2 hneg h2 htab

#print axioms text_any

end Go.Proofs.Qxb6612180aDoor
