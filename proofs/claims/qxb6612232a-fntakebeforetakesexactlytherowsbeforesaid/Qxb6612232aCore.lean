/-
  FnTakeBeforeTakesExactlyTheRowsBefore: the walk, out of the contracts.
-/
import Derived.Test.Qxb6612232aScene
import Derived.Laws.Cover3
namespace Go.Proofs.Qxb6612232a
open Go Go.RowKit

set_option maxHeartbeats 4000000 in
set_option maxRecDepth 10000 in
theorem core5 (a0 a1 : Option Addr) (c0 c1 : Nat) (rs hs : List Int) (row : Int) (w : World) (i0 : Ints w a0 rs) (i1 : Ints w a1 hs) (n0 : a0 = none → rs.length = 0 ∧ c0 = 0) (n1 : a1 = none → hs.length = 0 ∧ c1 = 0)
    (f0 : ∀ n ∈ rs, (Lit.int .i64 n).wf = true) (f1 : ∀ n ∈ hs, (Lit.int .i64 n).wf = true) (m0 : rs.length ≤ 9223372036854775807) (m1 : hs.length ≤ 9223372036854775807) :
    Calls Try.prog 5 #[.slice a0 rs.length c0, .slice a1 hs.length c1, .int .i64 row] w fun e w' => e = .returned (.bool true) ∧ Below w.heap.size w w' := by
  have I0 := hide i0
  have I1 := hide i1
  have N0 := hide n0
  have N1 := hide n1
  have F0 := hide f0
  have F1 := hide f1
  clear i0 i1 n0 n1 f0 f1
  have hnn := fun a l c w => run_neq_slice_nil (P := Try.prog) w 46 3 a l c Try.underlying46
  by_cases hbig : 131072 < rs.length + hs.length
  · have hb8 : (1048576 : Int) < 8 * ((rs.length : Int) + hs.length) := by omega
    obtain ⟨x, hx⟩ : ∃ x, decide (rs.length + hs.length ≤ 1048576) = x := ⟨_, rfl⟩
    have HX := hide hx
    clear hx
    go_enter Try.func5, Try.ntmps5
    go_wp2_with (go_at_call 14; refine (bytes_any _ _ _ _ _ _ _ _ m0 m1).mono ?_; rintro e w1 ⟨rfl, rfl⟩; rw [HX.out])
    all_goals (go_ret; exact ⟨rfl, Below.refl _ _⟩)
  · obtain ⟨i0, hi, hz0, hz1, hz2⟩ := info_parts info3
    obtain ⟨cs, hcs⟩ : ∃ cs, cs = rs.map (Value.int .i64) := ⟨_, rfl⟩
    have cl : cs.length = rs.length := by rw [hcs, List.length_map]
    have CS := hide hcs
    clear hcs
    have hsm : rs.length + hs.length ≤ 131072 := by omega
    have hx : decide (rs.length + hs.length ≤ 1048576) = true := decide_eq_true (by omega)
    have HX := hide hx
    clear hx hbig
    have hb8 : ¬ (1048576 : Int) < 8 * ((rs.length : Int) + hs.length) := by omega
    by_cases hA : (65536 : Int) < rs.length
    · go_enter Try.func5, Try.ntmps5
      go_wp2_with (go_at_call 14; refine (bytes_any _ _ _ _ _ _ _ _ m0 m1).mono ?_; rintro e w1 ⟨rfl, rfl⟩; rw [HX.out])
      all_goals (go_ret; exact ⟨rfl, Below.refl _ _⟩)
    · by_cases hB : (65536 : Int) < hs.length
      · go_enter Try.func5, Try.ntmps5
        go_wp2_with (go_at_call 14; refine (bytes_any _ _ _ _ _ _ _ _ m0 m1).mono ?_; rintro e w1 ⟨rfl, rfl⟩; rw [HX.out])
        all_goals (go_ret; exact ⟨rfl, Below.refl _ _⟩)
      · go_enter Try.func5, Try.ntmps5
        go_upto_if 43 with (go_at_call 14; refine (bytes_any _ _ _ _ _ _ _ _ m0 m1).mono ?_; rintro e w1 ⟨rfl, rfl⟩; rw [HX.out])
        go_cut [0] (fun s0 wx => ∃ ra rcap, s0 = .slice ra rs.length rcap ∧ Copied w wx ra rcap rs)
        case first =>
          cases a0 with
          | none =>
            obtain ⟨z1, rfl⟩ := N0.out rfl
            rw [z1]
            go_wp2
            go_meet
            case rel => exact ⟨none, 0, by rw [z1], fun h0 => by omega, by omega, Below.refl _ _⟩
          | some x =>
            go_wp2_with (at_make; refine wpList_make_full _ rfl _ _ 46 rfl w.heap.size 3 i0 (.int .i64 0) 1 Try.underlying46 hi hz0 hz1 .i64 .i64 _ _ rs.length rfl rfl rfl rfl (by rw [hz2]; omega) (by unfold maxLen; omega) (Nat.le_refl _) ?_; intro w0 hown0 hgrow0; obtain ⟨w1, hrun, hC⟩ := copy_run (c0 := c0) I0.out hown0 ((Below.refl _ _).grown hgrow0 (Nat.le_refl _) (fun k h => by cases h)); have HC := hide hC; clear hC hown0 hgrow0)
            go_meet
            case rel => exact ⟨_, _, rfl, HC.out⟩
        case rest =>
          obtain ⟨ra, rcap, rfl, hC⟩ := hcut
          have HC := hide hC
          clear hC
          go_wp2
          go_loopw [8] (fun i wr => ∃ m : Nat, i = .int .i64 ((m : Int) + 1) ∧ (m + 1 ≤ rs.length ∨ m = 0) ∧ Rising rs (m + 1) ∧ Copied w wr ra rcap rs) (fun i _ => rs.length - (intOf i).toNat)
          case atStart => exact ⟨0, rfl, .inr rfl, fun j h1 h2 => by omega, HC.out⟩
          case round =>
            clear HC
            obtain ⟨m, rfl, hm2, hR, hC⟩ := hrel
            have HR := hide hR
            have HC := hide hC
            clear hR hC
            by_cases hlt : m + 1 < rs.length
            · obtain ⟨b, off, rfl, hb, hcell⟩ := HC.out.ints (by omega)
              have d1 := hcell (m + 1) hlt
              have d2 := hcell m (by omega)
              obtain ⟨x, hx⟩ : ∃ x, rs.getD (m + 1) 0 = x := ⟨_, rfl⟩
              obtain ⟨y, hy⟩ : ∃ y, rs.getD m 0 = y := ⟨_, rfl⟩
              rw [hx] at d1
              rw [hy] at d2
              have HXX := hide hx
              have HYY := hide hy
              clear hx hy hcell
              have hlt' : (m : Int) + 1 < (rs.length : Int) := by omega
              by_cases hxy : x < y
              · have HB : Hid (∀ q, Below w.heap.size w (wr.drewN q)) := fun q => (HC.out.drewN q).below
                go_wp2
                go_quiet (fail)
                go_wp2
                go_ret
                exact ⟨rfl, HB.out _⟩
              · have HB : Hid (∀ q, Copied w (wr.drewN q) (some ⟨b, off, none⟩) rcap rs) := fun q => HC.out.drewN q
                have hd : decide (x < y) = false := decide_eq_false hxy
                have HR2 : Hid (Rising rs (m + 1 + 1)) := by
                  intro j h1 h2
                  by_cases ej : j = m + 1
                  · subst ej
                    rw [Nat.add_sub_cancel, HXX.out, HYY.out]
                    omega
                  · exact HR.out j h1 (by omega)
                go_wp2
                go_quiet (fail)
                go_wp2
                go_roundw
                case rel => exact ⟨m + 1, by go_num, .inl (by omega), HR2.out, HB.out _⟩
                case measure => simp [intOf]; omega
            · have hR : Rising rs rs.length := fun j h1 h2 => HR.out j h1 (by omega)
              have RIS := hide hR
              clear HR hR
              have hz0 : ¬ (m : Int) + 1 < (rs.length : Int) := by omega
              go_wp2
              go_loopw [9] (fun i wr => ∃ m : Nat, i = .int .i64 ((m : Int) + 1) ∧ (m + 1 ≤ hs.length ∨ m = 0) ∧ IsHeap hs (m + 1) ∧ Copied w wr ra rcap rs) (fun i _ => hs.length - (intOf i).toNat)
              case atStart => exact ⟨0, rfl, .inr rfl, fun j h1 h2 => by omega, HC.out⟩
              case round =>
                clear HC hz0 hlt hm2
                obtain ⟨m2, rfl, hm2, hH, hC⟩ := hrel
                have HH := hide hH
                have HC := hide hC
                clear hH hC
                by_cases hlt : m2 + 1 < hs.length
                · obtain ⟨b, off, rfl, hcell⟩ := (I1.out.later HC.out.below) (by omega)
                  obtain ⟨p, hp⟩ : ∃ p : Nat, m2 / 2 = p := ⟨_, rfl⟩
                  have hp2 : (m2 : Int) / 2 = (p : Int) := by omega
                  have hp3 : (p : Int) < (hs.length : Int) := by omega
                  have d1 := hcell (m2 + 1) hlt
                  have d2 := hcell p (by omega)
                  obtain ⟨x, hx⟩ : ∃ x, hs.getD (m2 + 1) 0 = x := ⟨_, rfl⟩
                  obtain ⟨y, hy⟩ : ∃ y, hs.getD p 0 = y := ⟨_, rfl⟩
                  rw [hx] at d1
                  rw [hy] at d2
                  have HXX := hide hx
                  have HYY := hide hy
                  have HP := hide hp
                  clear hx hy hcell hp
                  have hlt' : (m2 : Int) + 1 < (hs.length : Int) := by omega
                  by_cases hxy : x < y
                  · have HB : Hid (∀ q, Below w.heap.size w (wr.drewN q)) := fun q => (HC.out.drewN q).below
                    go_wp2
                    go_quiet (fail)
                    go_wp2
                    go_ret
                    exact ⟨rfl, HB.out _⟩
                  · have HB : Hid (∀ q, Copied w (wr.drewN q) ra rcap rs) := fun q => HC.out.drewN q
                    have hd : decide (x < y) = false := decide_eq_false hxy
                    have HR2 : Hid (IsHeap hs (m2 + 1 + 1)) := by
                      intro j h1 h2
                      by_cases ej : j = m2 + 1
                      · subst ej
                        rw [Nat.add_sub_cancel, HP.out, HXX.out, HYY.out]
                        omega
                      · exact HH.out j h1 (by omega)
                    go_wp2
                    go_quiet (fail)
                    go_wp2
                    go_roundw
                    case rel => exact ⟨m2 + 1, by go_num, .inl (by omega), HR2.out, HB.out _⟩
                    case measure => simp [intOf]; omega
                · have hH : IsHeap hs hs.length := fun j h1 h2 => HH.out j h1 (by omega)
                  have HEAP := hide hH
                  clear HH hH
                  have hz0 : ¬ (m2 : Int) + 1 < (hs.length : Int) := by omega
                  go_wp2_with fail
                  refine (clone_any a1 c1 hs _ (by omega) N1.out (I1.out.later HC.out.below)).mono ?_
                  rintro e w1 ⟨ga, gcap, rfl, g1, g2, g3⟩
                  have G2 := hide g2
                  have G3 := hide g3
                  clear g2 g3 hz0 hlt hm2
                  go_wp2_with fail
                  refine (new_any ra ga rs.length rcap hs.length gcap _).mono ?_
                  rintro e w2 ⟨rfl, hw2⟩
                  obtain ⟨g, hgg, hFi⟩ := filled_new HC.out g1 G2.out G3.out HEAP.out
                  have hb2 : Below wr.heap.size wr w2 := by rw [hw2]; exact G3.out.alloc G3.out.size _
                  rw [← hw2] at hFi
                  have HFI := hide hFi
                  have HB2 := hide hb2
                  have HGG := hide hgg
                  have hsz := G3.out.size
                  obtain ⟨F, hF⟩ : ∃ F, w1.heap.size = F := ⟨_, rfl⟩
                  rw [hF] at HFI hsz ⊢
                  clear hw2 hFi hb2 hgg G2 G3 HEAP hF
                  go_wp2_with fail
                  refine (took_any F g rs hs row w2 HFI.out (by omega)).mono ?_
                  rintro e w3 ⟨k, ts2, hs2, ta, tcap, rfl, hT⟩
                  have hb3 := hT.still HB2.out hsz (fun h0 => by rw [HGG.out h0]; exact Nat.le_refl _)
                  obtain ⟨g2, _, hFi2⟩ := hT.filled
                  obtain ⟨qa, qcap, ga2, gcap2, e1, e2, e3, e4⟩ := hFi2.shown
                  have hPl := plain_of hT.lead hT.off hT.high hFi2.heap RIS.out F1.out
                  have hC3 := HC.out.later hb3
                  have hSc : Scene w w3 ra rs ta (rs.take k ++ ts2) qa (rs.drop k) ga2 hs2 a1 hs := ⟨hC3.ints.ints, hT.taken.ints, e3, e4, I1.out.later hC3.below, hC3.below⟩
                  have hroom := hT.room
                  clear hT hFi2 e3 e4 hC3 hb3 HB2 HGG HFI HC RIS
                  obtain ⟨ts, hts⟩ : ∃ ts, rs.take k ++ ts2 = ts := ⟨_, rfl⟩
                  obtain ⟨qs, hqs⟩ : ∃ qs, rs.drop k = qs := ⟨_, rfl⟩
                  rw [hts] at hPl hSc hroom ⊢
                  rw [hqs] at hPl hSc e1
                  clear hts hqs
                  have PL := hide hPl
                  have SC := hide hSc
                  have E1 := hide e1
                  have E2 := hide e2
                  have b1 := hPl.kle
                  have b2 := hPl.hl
                  have TL := hide hPl.tl
                  have QL := hide hPl.ql
                  have HL := hide hPl.hl
                  have bt : ts.length ≤ 131072 := by have := hPl.tl; omega
                  have bq : qs.length ≤ 131072 := by have := hPl.ql; omega
                  have bh : hs2.length ≤ 131072 := by omega
                  have b3 : ts2.length ≤ hs.length := by omega
                  have T1 : ((ts.length : Int) != (k : Int) + (ts2.length : Int)) = false := by rw [bne_eq_false_iff_eq]; have := hPl.tl; omega
                  have T2 : ((qs.length : Int) != (rs.length : Int) - (k : Int)) = false := by rw [bne_eq_false_iff_eq]; have := hPl.ql; omega
                  have T3 : ((hs2.length : Int) != (hs.length : Int) - (ts2.length : Int)) = false := by rw [bne_eq_false_iff_eq]; omega
                  clear hPl hSc e1 e2 b2
                  go_wp2_with fail
                  refine (rising_any F _ w3 E1.out).mono ?_
                  rintro e w' ⟨rfl, rfl⟩
                  go_wp2_with fail
                  refine (fromTop_any F _ w3 E2.out).mono ?_
                  rintro e w' ⟨rfl, rfl⟩
                  go_wp2_with fail
                  refine (countBelow_of ra rcap rs row k w3 SC.out.r (by omega) PL.out.cr).mono ?_
                  rintro e w' ⟨rfl, rfl⟩
                  go_wp2_with fail
                  refine (countBelow_of a1 c1 hs row ts2.length w3 SC.out.h (by omega) PL.out.ch).mono ?_
                  rintro e w' ⟨rfl, rfl⟩
                  clear E1 E2
                  go_wp2
                  clear T1 T2 T3
                  go_loopw [17, 18, 19] (fun jv mv iv wr => ∃ p jn mn : Nat, iv = .int .i64 p ∧ jv = .int .i64 jn ∧ mv = .int .i64 mn ∧ p ≤ rs.length ∧ (p ≤ k → jn = p ∧ mn = 0) ∧ (k ≤ p → jn = k ∧ mn = p - k) ∧ Scene w wr ra rs ta ts qa qs ga2 hs2 a1 hs) (fun _ _ iv _ => rs.length - (intOf iv).toNat)
                  case atStart => exact ⟨0, 0, 0, rfl, rfl, rfl, Nat.zero_le _, fun _ => ⟨rfl, rfl⟩, fun h => ⟨by omega, by omega⟩, SC.out⟩
                  case round =>
                    clear SC
                    obtain ⟨p, jn, mn, rfl, rfl, rfl, hp, hj1, hj2, hSc⟩ := hrel
                    have SC := hide hSc
                    clear hSc
                    by_cases hlt : p < rs.length
                    · obtain ⟨b, off, rfl, hcell⟩ := SC.out.r (by omega)
                      have d1 := hcell p hlt
                      obtain ⟨x, hx⟩ : ∃ x, rs.getD p 0 = x := ⟨_, rfl⟩
                      rw [hx] at d1
                      have HXX := hide hx
                      clear hx hcell
                      have hlt' : (p : Int) < (rs.length : Int) := by omega
                      have HB : Hid (∀ q, Scene w (wr.drewN q) (some ⟨b, off, none⟩) rs ta ts qa qs ga2 hs2 a1 hs) := fun q => SC.out.drewN q
                      by_cases hpk : p < k
                      · obtain ⟨ej, rfl⟩ := hj1 (by omega)
                        subst jn
                        obtain ⟨l1, l2⟩ := PL.out.low p hpk
                        have htl := TL.out
                        have hxr : x < row := by rw [← HXX.out]; exact l1
                        obtain ⟨tb, toff, rfl, tcell⟩ := SC.out.t (by omega)
                        have d2 := tcell p (by omega)
                        rw [l2, HXX.out] at d2
                        have hne : (x != x) = false := by simp
                        have hlt2 : (p : Int) < (ts.length : Int) := by omega
                        have K1 : Hid (p < k) := hpk
                        clear l1 l2 tcell htl hj1 hj2 hpk
                        go_wp2
                        go_quiet (fail)
                        go_wp2
                        go_roundw
                        case rel => exact ⟨p + 1, p + 1, 0, by go_num, by go_num, rfl, by omega, fun _ => ⟨rfl, rfl⟩, fun h => by have := K1.out; exact ⟨by omega, by omega⟩, HB.out _⟩
                        case measure => simp [intOf]; omega
                      · obtain ⟨rfl, rfl⟩ := hj2 (by omega)
                        obtain ⟨l1, l2⟩ := PL.out.high p (by omega) hlt
                        have hql := QL.out
                        have hxr : decide (x < row) = false := by rw [← HXX.out]; exact decide_eq_false (by omega)
                        obtain ⟨tb, toff, rfl, tcell⟩ := SC.out.q (by omega)
                        have d2 := tcell (p - jn) (by omega)
                        rw [l2, HXX.out] at d2
                        obtain ⟨mn, hmn⟩ : ∃ mn, p - jn = mn := ⟨_, rfl⟩
                        rw [hmn] at d2 ⊢
                        have hne : (x != x) = false := by simp
                        have hlt2 : (mn : Int) < (qs.length : Int) := by omega
                        have K1 : Hid (jn ≤ p) := by show jn ≤ p; omega
                        have K2 := hide hmn
                        clear l1 l2 tcell hql hj1 hj2 hpk hmn
                        go_wp2
                        go_quiet (fail)
                        go_wp2
                        go_roundw
                        case rel => exact ⟨p + 1, jn, mn + 1, by go_num, rfl, by go_num, by omega, fun h => by have := K1.out; exact absurd h (by omega), fun h => ⟨rfl, by have := K1.out; have := K2.out; omega⟩, HB.out _⟩
                        case measure => simp [intOf]; omega
                    · have hz0 : ¬ (p : Int) < (rs.length : Int) := by omega
                      clear hj1 hj2
                      go_wp2
                      clear hz0 hlt hp
                      go_loopw [20] (fun iv wr => ∃ p : Nat, iv = .int .i64 p ∧ k ≤ p ∧ p ≤ ts.length ∧ Scene w wr ra rs ta ts qa qs ga2 hs2 a1 hs) (fun iv _ => ts.length - (intOf iv).toNat)
                      case atStart => exact ⟨k, rfl, Nat.le_refl _, by have := TL.out; omega, SC.out⟩
                      case round =>
                        clear SC
                        obtain ⟨p, rfl, hkp, hp, hSc⟩ := hrel
                        have SC := hide hSc
                        clear hSc
                        by_cases hlt : p < ts.length
                        · obtain ⟨tb, toff, rfl, tcell⟩ := SC.out.t (by omega)
                          have d1 := tcell p hlt
                          have l1 := PL.out.tlow p hkp hlt
                          have hlt' : (p : Int) < (ts.length : Int) := by omega
                          have HB : Hid (∀ q, Scene w (wr.drewN q) ra rs (some ⟨tb, toff, none⟩) ts qa qs ga2 hs2 a1 hs) := fun q => SC.out.drewN q
                          by_cases hpk : p = k
                          · obtain rfl := hpk
                            obtain ⟨x, hx⟩ : ∃ x, ts.getD p 0 = x := ⟨_, rfl⟩
                            rw [hx] at d1 l1
                            have hxr : decide (row ≤ x) = false := decide_eq_false (by omega)
                            clear hx tcell
                            go_wp2
                            go_quiet (fail)
                            go_wp2
                            go_roundw
                            case rel => exact ⟨p + 1, by go_num, by omega, by omega, HB.out _⟩
                            case measure => simp [intOf]; omega
                          · obtain ⟨r, rfl⟩ : ∃ r, p = r + 1 := ⟨p - 1, by omega⟩
                            have d2 := tcell r (by omega)
                            have l2 := PL.out.tris r (by omega) hlt
                            obtain ⟨x, hx⟩ : ∃ x, ts.getD (r + 1) 0 = x := ⟨_, rfl⟩
                            obtain ⟨y, hy⟩ : ∃ y, ts.getD r 0 = y := ⟨_, rfl⟩
                            rw [hx] at d1 l1 l2
                            rw [hy] at d2 l2
                            have hxr : decide (row ≤ x) = false := decide_eq_false (by omega)
                            have hxy : decide (x < y) = false := decide_eq_false (by omega)
                            have hg0 : decide ((k : Int) < (r : Int) + 1) = true := decide_eq_true (by omega)
                            clear hx hy tcell hpk
                            go_wp2
                            go_quiet (fail)
                            go_wp2
                            go_roundw
                            case rel => exact ⟨r + 1 + 1, by go_num, by omega, by omega, HB.out _⟩
                            case measure => simp [intOf]; omega
                        · have hz0 : ¬ (p : Int) < (ts.length : Int) := by omega
                          go_wp2
                          clear hz0 hlt hp hkp
                          go_loopw [21] (fun iv wr => ∃ p : Nat, iv = .int .i64 p ∧ p ≤ hs2.length ∧ Scene w wr ra rs ta ts qa qs ga2 hs2 a1 hs) (fun iv _ => hs2.length - (intOf iv).toNat)
                          case atStart => exact ⟨0, rfl, Nat.zero_le _, SC.out⟩
                          case round =>
                            clear SC
                            obtain ⟨p, rfl, hp, hSc⟩ := hrel
                            have SC := hide hSc
                            clear hSc
                            by_cases hlt : p < hs2.length
                            · obtain ⟨tb, toff, rfl, tcell⟩ := SC.out.g (by omega)
                              have d1 := tcell p hlt
                              have l1 := PL.out.hhigh p hlt
                              have hlt' : (p : Int) < (hs2.length : Int) := by omega
                              have HB : Hid (∀ q, Scene w (wr.drewN q) ra rs ta ts qa qs (some ⟨tb, toff, none⟩) hs2 a1 hs) := fun q => SC.out.drewN q
                              by_cases hpk : p = 0
                              · subst hpk
                                obtain ⟨x, hx⟩ : ∃ x, hs2.getD 0 0 = x := ⟨_, rfl⟩
                                rw [hx] at d1 l1
                                rw [Nat.add_zero] at d1
                                have hxr : decide (x < row) = false := decide_eq_false (by omega)
                                clear hx tcell
                                go_wp2
                                go_quiet (fail)
                                go_wp2
                                go_roundw
                                case rel => exact ⟨1, by go_num, by omega, HB.out _⟩
                                case measure => simp [intOf]; omega
                              · obtain ⟨r, rfl⟩ : ∃ r, p = r + 1 := ⟨p - 1, by omega⟩
                                obtain ⟨u, hu⟩ : ∃ u : Nat, r / 2 = u := ⟨_, rfl⟩
                                have hu2 : (r : Int) / 2 = (u : Int) := by omega
                                have hu3 : (u : Int) < (hs2.length : Int) := by omega
                                have d2 := tcell u (by omega)
                                have l2 := PL.out.hheap (r + 1) (by omega) hlt
                                rw [Nat.add_sub_cancel, hu] at l2
                                obtain ⟨x, hx⟩ : ∃ x, hs2.getD (r + 1) 0 = x := ⟨_, rfl⟩
                                obtain ⟨y, hy⟩ : ∃ y, hs2.getD u 0 = y := ⟨_, rfl⟩
                                rw [hx] at d1 l1 l2
                                rw [hy] at d2 l2
                                have hxr : decide (x < row) = false := decide_eq_false (by omega)
                                have hxy : decide (x < y) = false := decide_eq_false (by omega)
                                have hg0 : decide ((0 : Int) < (r : Int) + 1) = true := decide_eq_true (by omega)
                                clear hx hy tcell hpk hu
                                go_wp2
                                go_quiet (fail)
                                go_wp2
                                go_roundw
                                case rel => exact ⟨r + 1 + 1, by go_num, by omega, HB.out _⟩
                                case measure => simp [intOf]; omega
                            · have hz0 : ¬ (p : Int) < (hs2.length : Int) := by omega
                              have htl := TL.out
                              obtain ⟨sa, scap, s1, s2, s3⟩ := slice_from ta ts.length tcap k (by omega) hroom
                              have s4 : ∀ W, (Instr.slice 46 (.slice ta ts.length tcap) (some (.int .i64 (k : Int))) none none).run Try.prog W = .ok (.slice sa ts2.length scap) W := fun W => by rw [s3 W]; congr 2; omega
                              have I2 : Hid (Ints wr sa ts2) := by
                                intro h0
                                obtain ⟨b, off, e, hc⟩ := SC.out.t (by omega)
                                refine ⟨b, off + k, s2 b off (by omega) e, fun j hj => ?_⟩
                                have := hc (k + j) (by omega)
                                rw [PL.out.tcut j hj] at this
                                rw [Nat.add_assoc]
                                exact this
                              clear s1 s2 s3 htl hlt hp
                              go_wp2_with fail
                              refine (same_true sa ga2 a1 scap gcap2 c1 ts2 hs2 hs _ I2.out SC.out.g SC.out.h HL.out (by omega) PL.out.wt PL.out.wh F1.out PL.out.cn).mono ?_
                              rintro e w4 ⟨rfl, hb4⟩
                              have R := hide (SC.out.below.trans (hb4.mono SC.out.below.size))
                              clear hb4
                              go_wp2
                              go_ret
                              exact ⟨rfl, R.out⟩
#print axioms core5
end Go.Proofs.Qxb6612232a
