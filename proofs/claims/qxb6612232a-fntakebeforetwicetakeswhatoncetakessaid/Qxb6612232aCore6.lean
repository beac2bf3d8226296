/-
  FnTakeBeforeTwiceTakesWhatOnceTakes: the walk, out of the contracts.
-/
import Derived.Test.Qxb6612232aTwice
import Derived.Laws.Cover3
namespace Go.Proofs.Qxb6612232a
open Go Go.RowKit

theorem bytes6_any (a b : Option Addr) (n c m d : Nat) (va vb : Int) (w : World) (hn : n ≤ 9223372036854775807) (hm : m ≤ 9223372036854775807) :
    Calls Try.prog 22 #[.slice a n c, .slice b m d, .int .i64 va, .int .i64 vb] w fun e w' => e = .returned (.bool (decide (n + m ≤ 1048576))) ∧ w = w' := by
  by_cases h1 : (1048576 : Int) < n
  · obtain ⟨x, hx⟩ : ∃ x, decide (n + m ≤ 1048576) = x := ⟨_, rfl⟩
    have : x = false := by rw [← hx]; exact decide_eq_false (by omega)
    rw [hx, this]
    clear hx this
    go_enter Try.func22, Try.ntmps22
    go_wp2
    go_ret
    exact ⟨rfl, rfl⟩
  · by_cases h2 : (1048576 : Int) < m
    · obtain ⟨x, hx⟩ : ∃ x, decide (n + m ≤ 1048576) = x := ⟨_, rfl⟩
      have : x = false := by rw [← hx]; exact decide_eq_false (by omega)
      rw [hx, this]
      clear hx this
      go_enter Try.func22, Try.ntmps22
      go_wp2
      go_ret
      exact ⟨rfl, rfl⟩
    · obtain ⟨x, hx⟩ : ∃ x, decide (n + m ≤ 1048576) = x := ⟨_, rfl⟩
      rw [hx]
      by_cases h3 : (1048576 : Int) < (n : Int) + m
      · have : x = false := by rw [← hx]; exact decide_eq_false (by omega)
        rw [this]
        clear hx this
        go_enter Try.func22, Try.ntmps22
        go_wp2
        go_ret
        exact ⟨rfl, rfl⟩
      · have : x = true := by rw [← hx]; exact decide_eq_true (by omega)
        rw [this]
        clear hx this
        go_enter Try.func22, Try.ntmps22
        go_wp2
        go_ret
        exact ⟨rfl, rfl⟩

/-- Where the slices lie that the law of the two takes compares. -/
structure Scene6 (w wr : World) (F1 F2 : Nat) (ra : Option Addr) (rs : List Int) (fa : Option Addr) (fs : List Int) (sa : Option Addr) (ss : List Int) (oa : Option Addr) (os : List Int) (qa qb : Option Addr) (qc qd : Nat) (qs : List Int) (ta : Option Addr) (tc : Nat) (t1 : List Int) (tb : Option Addr) (td : Nat) (t2 : List Int) (a1 : Option Addr) (hs : List Int) : Prop where
  r : Ints wr ra rs
  f : Ints wr fa fs
  s : Ints wr sa ss
  o : Ints wr oa os
  q1 : Ints wr qa qs
  q2 : Ints wr qb qs
  u1 : Ints wr ta t1
  u2 : Ints wr tb t2
  h : Ints wr a1 hs
  c1 : wr.cell? ⟨F1, 0, none⟩ = some (.slice qa qs.length qc)
  c2 : wr.cell? ⟨F2, 0, none⟩ = some (.slice qb qs.length qd)
  c3 : wr.cell? ⟨F1, 1, none⟩ = some (.slice ta t1.length tc)
  c4 : wr.cell? ⟨F2, 1, none⟩ = some (.slice tb t2.length td)
  below : Below w.heap.size w wr

theorem Scene6.later {w wr w' : World} {F1 F2 : Nat} {ra fa sa oa qa qb ta tb a1 : Option Addr} {qc qd tc td : Nat} {rs fs ss os qs t1 t2 hs : List Int} (h : Scene6 w wr F1 F2 ra rs fa fs sa ss oa os qa qb qc qd qs ta tc t1 tb td t2 a1 hs) (hb : Below wr.heap.size wr w') : Scene6 w w' F1 F2 ra rs fa fs sa ss oa os qa qb qc qd qs ta tc t1 tb td t2 a1 hs :=
  ⟨h.r.later hb, h.f.later hb, h.s.later hb, h.o.later hb, h.q1.later hb, h.q2.later hb, h.u1.later hb, h.u2.later hb, h.h.later hb, cell_later hb h.c1, cell_later hb h.c2, cell_later hb h.c3, cell_later hb h.c4, h.below.trans (hb.mono h.below.size)⟩

theorem same_nil (a c : Option Addr) (ca cc : Nat) (xs zs : List Int) (w : World) (ha : Ints w a xs) (hc : Ints w c zs) (hl : xs.length = zs.length) (hz : zs.length ≤ 200000)
    (wx : ∀ n ∈ xs, (Lit.int .i64 n).wf = true) (wz : ∀ n ∈ zs, (Lit.int .i64 n).wf = true) (hp : ∀ x, cn xs x = cn zs x) :
    Calls Try.prog 21 #[.slice a xs.length ca, .slice none 0 0, .slice c zs.length cc] w fun e w' => e = .returned (.bool true) ∧ Below w.heap.size w w' :=
  same_true a none c ca 0 cc xs [] zs w ha (fun h => absurd h (by simp)) hc hl hz wx (fun n hn => by simp at hn) wz (fun x => by rw [← hp x]; exact Int.add_zero _)

theorem below_drewN (w : World) (q : Nat) : Below w.heap.size w (w.drewN q) := ⟨rfl, rfl, rfl, Nat.le_refl _, fun _ _ => rfl⟩

set_option maxHeartbeats 4000000 in
set_option maxRecDepth 10000 in
theorem core6 (a0 a1 : Option Addr) (c0 c1 : Nat) (rs hs : List Int) (va vb : Int) (w : World) (i0 : Ints w a0 rs) (i1 : Ints w a1 hs) (n0 : a0 = none → rs.length = 0 ∧ c0 = 0) (n1 : a1 = none → hs.length = 0 ∧ c1 = 0)
    (f0 : ∀ n ∈ rs, (Lit.int .i64 n).wf = true) (f1 : ∀ n ∈ hs, (Lit.int .i64 n).wf = true) (m0 : rs.length ≤ 9223372036854775807) (m1 : hs.length ≤ 9223372036854775807) :
    Calls Try.prog 6 #[.slice a0 rs.length c0, .slice a1 hs.length c1, .int .i64 va, .int .i64 vb] w fun e w' => e = .returned (.bool true) ∧ Below w.heap.size w w' := by
  have I0 := hide i0
  have I1 := hide i1
  have N0 := hide n0
  have N1 := hide n1
  have W0 := hide f0
  have W1 := hide f1
  clear i0 i1 n0 n1 f0 f1
  have hnn := fun a l c w => run_neq_slice_nil (P := Try.prog) w 46 3 a l c Try.underlying46
  by_cases hbig : 131072 < rs.length + hs.length
  · have hb8 : (1048576 : Int) < 8 * ((rs.length : Int) + hs.length) := by omega
    obtain ⟨x, hx⟩ : ∃ x, decide (rs.length + hs.length ≤ 1048576) = x := ⟨_, rfl⟩
    have HX := hide hx
    clear hx
    go_enter Try.func6, Try.ntmps6
    go_wp2_with (go_at_call 22; refine (bytes6_any _ _ _ _ _ _ _ _ _ m0 m1).mono ?_; rintro e w1 ⟨rfl, rfl⟩; rw [HX.out])
    all_goals (go_ret; exact ⟨rfl, Below.refl _ _⟩)
  · obtain ⟨i0, hi, hz0, hz1, hz2⟩ := info_parts info3
    obtain ⟨cs, hcs⟩ : ∃ cs, cs = rs.map (Value.int .i64) := ⟨_, rfl⟩
    have cl : cs.length = rs.length := by rw [hcs, List.length_map]
    have CS := hide hcs
    clear hcs
    have hsm : rs.length + hs.length ≤ 131072 := by omega
    have hx : decide (rs.length + hs.length ≤ 1048576) = true := decide_eq_true (by omega)
    have HX := hide hx
    clear hx hbig
    have hb8 : ¬ (1048576 : Int) < 8 * ((rs.length : Int) + hs.length) := by omega
    by_cases hA : (65536 : Int) < rs.length
    · go_enter Try.func6, Try.ntmps6
      go_wp2_with (go_at_call 22; refine (bytes6_any _ _ _ _ _ _ _ _ _ m0 m1).mono ?_; rintro e w1 ⟨rfl, rfl⟩; rw [HX.out])
      all_goals (go_ret; exact ⟨rfl, Below.refl _ _⟩)
    · by_cases hB : (65536 : Int) < hs.length
      · go_enter Try.func6, Try.ntmps6
        go_wp2_with (go_at_call 22; refine (bytes6_any _ _ _ _ _ _ _ _ _ m0 m1).mono ?_; rintro e w1 ⟨rfl, rfl⟩; rw [HX.out])
        all_goals (go_ret; exact ⟨rfl, Below.refl _ _⟩)
      · go_enter Try.func6, Try.ntmps6
        go_upto_if 47 with (go_at_call 22; refine (bytes6_any _ _ _ _ _ _ _ _ _ m0 m1).mono ?_; rintro e w1 ⟨rfl, rfl⟩; rw [HX.out])
        go_cut [0] (fun s0 wx => ∃ ra rcap, s0 = .slice ra rs.length rcap ∧ Copied w wx ra rcap rs)
        case first =>
          cases a0 with
          | none =>
            obtain ⟨z1, rfl⟩ := N0.out rfl
            rw [z1]
            go_wp2
            go_meet
            case rel => exact ⟨none, 0, by rw [z1], fun h0 => by omega, by omega, Below.refl _ _⟩
          | some x =>
            go_wp2_with (at_make; refine wpList_make_full _ rfl _ _ 46 rfl w.heap.size 3 i0 (.int .i64 0) 1 Try.underlying46 hi hz0 hz1 .i64 .i64 _ _ rs.length rfl rfl rfl rfl (by rw [hz2]; omega) (by unfold maxLen; omega) (Nat.le_refl _) ?_; intro w0 hown0 hgrow0; obtain ⟨w1, hrun, hC⟩ := copy_run (c0 := c0) I0.out hown0 ((Below.refl _ _).grown hgrow0 (Nat.le_refl _) (fun k h => by cases h)); have HC := hide hC; clear hC hown0 hgrow0)
            go_meet
            case rel => exact ⟨_, _, rfl, HC.out⟩
        case rest =>
          obtain ⟨ra, rcap, rfl, hC⟩ := hcut
          have HC := hide hC
          clear hC
          go_wp2
          go_loopw [10] (fun i wr => ∃ m : Nat, i = .int .i64 ((m : Int) + 1) ∧ (m + 1 ≤ rs.length ∨ m = 0) ∧ Rising rs (m + 1) ∧ Copied w wr ra rcap rs) (fun i _ => rs.length - (intOf i).toNat)
          case atStart => exact ⟨0, rfl, .inr rfl, fun j h1 h2 => by omega, HC.out⟩
          case round =>
            clear HC
            obtain ⟨m, rfl, hm2, hR, hC⟩ := hrel
            have HR := hide hR
            have HC := hide hC
            clear hR hC
            by_cases hlt : m + 1 < rs.length
            · obtain ⟨b, off, rfl, hb, hcell⟩ := HC.out.ints (by omega)
              have d1 := hcell (m + 1) hlt
              have d2 := hcell m (by omega)
              obtain ⟨x, hx⟩ : ∃ x, rs.getD (m + 1) 0 = x := ⟨_, rfl⟩
              obtain ⟨y, hy⟩ : ∃ y, rs.getD m 0 = y := ⟨_, rfl⟩
              rw [hx] at d1
              rw [hy] at d2
              have HXX := hide hx
              have HYY := hide hy
              clear hx hy hcell
              have hlt' : (m : Int) + 1 < (rs.length : Int) := by omega
              by_cases hxy : x < y
              · have HB : Hid (∀ q, Below w.heap.size w (wr.drewN q)) := fun q => (HC.out.drewN q).below
                go_wp2
                go_quiet (fail)
                go_wp2
                go_ret
                exact ⟨rfl, HB.out _⟩
              · have HB : Hid (∀ q, Copied w (wr.drewN q) (some ⟨b, off, none⟩) rcap rs) := fun q => HC.out.drewN q
                have hd : decide (x < y) = false := decide_eq_false hxy
                have HR2 : Hid (Rising rs (m + 1 + 1)) := by
                  intro j h1 h2
                  by_cases ej : j = m + 1
                  · subst ej
                    rw [Nat.add_sub_cancel, HXX.out, HYY.out]
                    omega
                  · exact HR.out j h1 (by omega)
                go_wp2
                go_quiet (fail)
                go_wp2
                go_roundw
                case rel => exact ⟨m + 1, by go_num, .inl (by omega), HR2.out, HB.out _⟩
                case measure => simp [intOf]; omega
            · have hR : Rising rs rs.length := fun j h1 h2 => HR.out j h1 (by omega)
              have RIS := hide hR
              clear HR hR
              have hz0 : ¬ (m : Int) + 1 < (rs.length : Int) := by omega
              go_wp2
              go_loopw [11] (fun i wr => ∃ m : Nat, i = .int .i64 ((m : Int) + 1) ∧ (m + 1 ≤ hs.length ∨ m = 0) ∧ IsHeap hs (m + 1) ∧ Copied w wr ra rcap rs) (fun i _ => hs.length - (intOf i).toNat)
              case atStart => exact ⟨0, rfl, .inr rfl, fun j h1 h2 => by omega, HC.out⟩
              case round =>
                clear HC hz0 hlt hm2
                obtain ⟨m2, rfl, hm2, hH, hC⟩ := hrel
                have HH := hide hH
                have HC := hide hC
                clear hH hC
                by_cases hlt : m2 + 1 < hs.length
                · obtain ⟨b, off, rfl, hcell⟩ := (I1.out.later HC.out.below) (by omega)
                  obtain ⟨p, hp⟩ : ∃ p : Nat, m2 / 2 = p := ⟨_, rfl⟩
                  have hp2 : (m2 : Int) / 2 = (p : Int) := by omega
                  have hp3 : (p : Int) < (hs.length : Int) := by omega
                  have d1 := hcell (m2 + 1) hlt
                  have d2 := hcell p (by omega)
                  obtain ⟨x, hx⟩ : ∃ x, hs.getD (m2 + 1) 0 = x := ⟨_, rfl⟩
                  obtain ⟨y, hy⟩ : ∃ y, hs.getD p 0 = y := ⟨_, rfl⟩
                  rw [hx] at d1
                  rw [hy] at d2
                  have HXX := hide hx
                  have HYY := hide hy
                  have HP := hide hp
                  clear hx hy hcell hp
                  have hlt' : (m2 : Int) + 1 < (hs.length : Int) := by omega
                  by_cases hxy : x < y
                  · have HB : Hid (∀ q, Below w.heap.size w (wr.drewN q)) := fun q => (HC.out.drewN q).below
                    go_wp2
                    go_quiet (fail)
                    go_wp2
                    go_ret
                    exact ⟨rfl, HB.out _⟩
                  · have HB : Hid (∀ q, Copied w (wr.drewN q) ra rcap rs) := fun q => HC.out.drewN q
                    have hd : decide (x < y) = false := decide_eq_false hxy
                    have HR2 : Hid (IsHeap hs (m2 + 1 + 1)) := by
                      intro j h1 h2
                      by_cases ej : j = m2 + 1
                      · subst ej
                        rw [Nat.add_sub_cancel, HP.out, HXX.out, HYY.out]
                        omega
                      · exact HH.out j h1 (by omega)
                    go_wp2
                    go_quiet (fail)
                    go_wp2
                    go_roundw
                    case rel => exact ⟨m2 + 1, by go_num, .inl (by omega), HR2.out, HB.out _⟩
                    case measure => simp [intOf]; omega
                · have hH : IsHeap hs hs.length := fun j h1 h2 => HH.out j h1 (by omega)
                  have HEAP := hide hH
                  clear HH hH
                  have hz0 : ¬ (m2 : Int) + 1 < (hs.length : Int) := by omega
                  by_cases hab : vb < va
                  · have R := hide HC.out.below
                    go_wp2
                    go_ret
                    exact ⟨rfl, R.out⟩
                  · have hab2 : decide (vb < va) = false := decide_eq_false hab
                    have HAB : Hid (va ≤ vb) := by show va ≤ vb; omega
                    clear hab
                    go_wp2_with fail
                    refine (clone_any a1 c1 hs _ (by omega) N1.out (I1.out.later HC.out.below)).mono ?_
                    rintro e w1 ⟨ga, gcap, rfl, g1, g2, g3⟩
                    have G2 := hide g2
                    have G3 := hide g3
                    clear g2 g3 hz0 hlt hm2 hab2
                    go_wp2_with fail
                    refine (new_any ra ga rs.length rcap hs.length gcap _).mono ?_
                    rintro e w2 ⟨rfl, hw2⟩
                    have hHeld := held_new HC.out g1 G2.out G3.out HEAP.out
                    rw [← hw2] at hHeld
                    obtain ⟨F1, hF1⟩ : ∃ F, w1.heap.size = F := ⟨_, rfl⟩
                    rw [hF1] at hHeld ⊢
                    have H2 := hide hHeld
                    clear hw2 hHeld G2 G3 hF1 g1
                    go_wp2_with fail
                    refine (held_took va H2.out (by omega)).mono ?_
                    rintro e w3 ⟨k1, ts1, hs1, fa, fcap, rfl, gv1, hd3, fi3, kp3⟩
                    have len1 : (rs.drop k1).length + hs1.length ≤ 190000 := by have := gv1.off.len; rw [List.length_drop]; omega
                    have GV1 := hide gv1
                    have HD3 := hide hd3
                    have FI3 := hide fi3
                    obtain ⟨fs, hfs⟩ : ∃ fs, rs.take k1 ++ ts1 = fs := ⟨_, rfl⟩
                    rw [hfs]
                    rw [hfs] at FI3
                    have HFS := hide hfs
                    have LEN1 := hide len1
                    clear gv1 hd3 fi3 kp3 hfs len1
                    go_wp2_with fail
                    refine (held_took vb HD3.out LEN1.out).mono ?_
                    rintro e w4 ⟨k2, ts2, hs2, sa, scap, rfl, gv2, hd4, si4, kp4⟩
                    have len2 : ((rs.drop k1).drop k2).length + hs2.length ≤ 190000 := by have := LEN1.out; have := gv2.off.len; rw [List.length_drop]; omega
                    have fi4 := FI3.out.next kp4
                    have FI4 := hide fi4
                    have GV2 := hide gv2
                    have HD4 := hide hd4
                    have SI4 := hide si4
                    obtain ⟨ss, hss⟩ : ∃ ss, (rs.drop k1).take k2 ++ ts2 = ss := ⟨_, rfl⟩
                    rw [hss]
                    rw [hss] at SI4
                    have HSS := hide hss
                    have LEN2 := hide len2
                    clear gv2 hd4 si4 kp4 hss len2 fi4 FI3 HD3
                    go_wp2_with fail
                    refine (held_took va HD4.out LEN2.out).mono ?_
                    rintro e w5 ⟨k3, ts3, hs3, na, ncap, rfl, gv3, hd5, ni5, kp5⟩
                    have fi5 := FI4.out.next kp5
                    have si5 := SI4.out.next kp5
                    have hC5 := HC.out.later hd5.below
                    have FI5 := hide fi5
                    have SI5 := hide si5
                    have GV3 := hide gv3
                    have HD5 := hide hd5
                    have HC5 := hide hC5
                    obtain ⟨ns, hns⟩ : ∃ ns, ((rs.drop k1).drop k2).take k3 ++ ts3 = ns := ⟨_, rfl⟩
                    rw [hns]
                    have HNS := hide hns
                    clear gv3 hd5 ni5 kp5 hns fi5 si5 hC5 FI4 SI4 HD4 HC
                    go_wp2_with fail
                    refine (clone_any a1 c1 hs _ (by omega) N1.out (I1.out.later HC5.out.below)).mono ?_
                    rintro e w6 ⟨gb, gbcap, rfl, g1, g2, g3⟩
                    have G2 := hide g2
                    have G3 := hide g3
                    clear g2 g3
                    go_wp2_with fail
                    refine (new_any ra gb rs.length rcap hs.length gbcap _).mono ?_
                    rintro e w7 ⟨rfl, hw7⟩
                    have hHeld := held_new HC5.out g1 G2.out G3.out HEAP.out
                    rw [← hw7] at hHeld
                    obtain ⟨F2, hF2⟩ : ∃ F, w6.heap.size = F := ⟨_, rfl⟩
                    rw [hF2] at hHeld ⊢
                    have H7 := hide hHeld
                    clear hw7 hHeld G2 G3 hF2 g1 HEAP
                    go_wp2_with fail
                    refine (held_took vb H7.out (by omega)).mono ?_
                    rintro e w8 ⟨k0, ts0, hs0, oa, ocap, rfl, gv0, hd8, oi8, kp8⟩
                    have PL' := plain6_of HAB.out RIS.out W0.out W1.out GV1.out GV2.out GV3.out gv0
                    have hb58 := hd8.below
                    obtain ⟨qa, qc, ta, tc, d1, d2, d3, d4⟩ := HD5.out.later hb58
                    obtain ⟨qb, qd, tb, td, d5, d6, d7, d8⟩ := hd8.later (Below.refl _ _)
                    have hC8 := HC5.out.later hb58
                    rw [← PL'.rr] at d5 d7
                    have SC' := Scene6.mk hC8.ints.ints (FI5.out.later hb58).ints (SI5.out.later hb58).ints oi8.ints d3 d7 d4 d8 (I1.out.later hC8.below) d1 d5 d2 d6 hC8.below
                    rw [← PL'.rr, HFS.out, HSS.out, HNS.out] at PL'
                    obtain ⟨os, hos⟩ : ∃ os, rs.take k0 ++ ts0 = os := ⟨_, rfl⟩
                    obtain ⟨qs, hqs⟩ : ∃ qs, ((rs.drop k1).drop k2).drop k3 = qs := ⟨_, rfl⟩
                    rw [hos, hqs] at PL' SC'
                    rw [hos]
                    have PL := hide PL'
                    have SC := hide SC'
                    obtain ⟨n1, hn1⟩ : ∃ n, below rs va = n := ⟨_, rfl⟩
                    obtain ⟨n2, hn2⟩ : ∃ n, below hs va = n := ⟨_, rfl⟩
                    obtain ⟨n3, hn3⟩ : ∃ n, below rs vb = n := ⟨_, rfl⟩
                    obtain ⟨n4, hn4⟩ : ∃ n, below hs vb = n := ⟨_, rfl⟩
                    have bn1 : n1 ≤ 131072 := by have := below_le rs va; omega
                    have bn2 : n2 ≤ 131072 := by have := below_le hs va; omega
                    have bn3 : n3 ≤ 131072 := by have := below_le rs vb; omega
                    have bn4 : n4 ≤ 131072 := by have := below_le hs vb; omega
                    have bf : fs.length ≤ 131072 := by have := PL'.fsize; omega
                    have bs : ss.length ≤ 131072 := by have := PL'.ssize; omega
                    have bo : os.length ≤ 131072 := by have := PL'.osize; omega
                    have bq : qs.length ≤ 131072 := by have := PL'.qsize; omega
                    have bt : hs3.length ≤ 131072 := by have := PL'.tsize; omega
                    have T1 : ((fs.length : Int) != (n1 : Int) + (n2 : Int)) = false := by rw [bne_eq_false_iff_eq]; have := PL'.lf; omega
                    have T2 : ((os.length : Int) != (n3 : Int) + (n4 : Int)) = false := by rw [bne_eq_false_iff_eq]; have := PL'.lo; omega
                    have T3 : ((ns.length : Int) != 0) = false := by rw [bne_eq_false_iff_eq]; have := PL'.la; omega
                    have N1' := hide hn1
                    have N2' := hide hn2
                    have N3' := hide hn3
                    have N4' := hide hn4
                    clear PL' SC' hn1 hn2 hn3 hn4 hos hqs gv0 hd8 oi8 kp8 hb58 d1 d2 d3 d4 d5 d6 d7 d8 hC8 FI5 SI5 GV1 GV2 GV3 HD5 HC5 HFS HSS HNS H2 H7 LEN1 LEN2 RIS
                    go_wp2_with fail
                    refine (countBelow_of ra rcap rs va n1 w8 SC.out.r (by omega) N1'.out).mono ?_
                    rintro e w' ⟨rfl, rfl⟩
                    go_wp2_with fail
                    refine (countBelow_of a1 c1 hs va n2 w8 SC.out.h (by omega) N2'.out).mono ?_
                    rintro e w' ⟨rfl, rfl⟩
                    go_wp2_with fail
                    refine (countBelow_of ra rcap rs vb n3 w8 SC.out.r (by omega) N3'.out).mono ?_
                    rintro e w' ⟨rfl, rfl⟩
                    go_wp2_with fail
                    refine (countBelow_of a1 c1 hs vb n4 w8 SC.out.h (by omega) N4'.out).mono ?_
                    rintro e w' ⟨rfl, rfl⟩
                    go_wp2
                    clear T1 T2 T3 N1' N2' N3' N4'
                    go_loopw [18] (fun iv wr => ∃ p : Nat, iv = .int .i64 p ∧ p ≤ fs.length ∧ wr = w8) (fun iv _ => fs.length - (intOf iv).toNat)
                    case atStart => exact ⟨0, rfl, Nat.zero_le _, rfl⟩
                    case round =>
                      obtain ⟨p, rfl, hp, rfl⟩ := hrel
                      by_cases hlt : p < fs.length
                      · obtain ⟨b, off, rfl, hcell⟩ := SC.out.f (by omega)
                        have d1 := hcell p hlt
                        have l1 := PL.out.fl p hlt
                        obtain ⟨x, hx⟩ : ∃ x, fs.getD p 0 = x := ⟨_, rfl⟩
                        rw [hx] at d1 l1
                        have hlt' : (p : Int) < (fs.length : Int) := by omega
                        have hxr : decide (va ≤ x) = false := decide_eq_false (by omega)
                        clear hx hcell
                        go_wp2
                        go_roundw
                        case rel => exact ⟨p + 1, by go_num, by omega, by trivial⟩
                        case measure => simp [intOf]; omega
                      · have hz0 : ¬ (p : Int) < (fs.length : Int) := by omega
                        go_wp2
                        clear hz0 hlt hp
                        go_loopw [19] (fun iv wx => ∃ p : Nat, iv = .int .i64 p ∧ p ≤ ss.length ∧ wx = wr) (fun iv _ => ss.length - (intOf iv).toNat)
                        case atStart => exact ⟨0, rfl, Nat.zero_le _, rfl⟩
                        case round =>
                          obtain ⟨p, rfl, hp, rfl⟩ := hrel
                          by_cases hlt : p < ss.length
                          · obtain ⟨b, off, rfl, hcell⟩ := SC.out.s (by omega)
                            have d1 := hcell p hlt
                            obtain ⟨l1, l2⟩ := PL.out.sl p hlt
                            obtain ⟨x, hx⟩ : ∃ x, ss.getD p 0 = x := ⟨_, rfl⟩
                            rw [hx] at d1 l1 l2
                            have hlt' : (p : Int) < (ss.length : Int) := by omega
                            have hxr : decide (x < va) = false := decide_eq_false (by omega)
                            have hxs : decide (vb ≤ x) = false := decide_eq_false (by omega)
                            clear hx hcell
                            go_wp2
                            go_roundw
                            case rel => exact ⟨p + 1, by go_num, by omega, by trivial⟩
                            case measure => simp [intOf]; omega
                          · have hz0 : ¬ (p : Int) < (ss.length : Int) := by omega
                            go_wp2_with fail
                            refine (same_true fa sa oa fcap scap ocap fs ss os _ SC.out.f SC.out.s SC.out.o PL.out.ls (by omega) PL.out.wf1 PL.out.wf2 PL.out.wf0 PL.out.cs).mono ?_
                            rintro e w9 ⟨rfl, hb9⟩
                            have SC9 := hide (SC.out.later hb9)
                            clear hb9 hz0 hlt hp SC
                            go_wp2_with fail
                            refine (rising_any F1 _ w9 SC9.out.c1).mono ?_
                            rintro e w' ⟨rfl, rfl⟩
                            go_wp2_with fail
                            refine (rising_any F2 _ w9 SC9.out.c2).mono ?_
                            rintro e w' ⟨rfl, rfl⟩
                            go_wp2
                            go_loopw [22] (fun iv wx => ∃ p : Nat, iv = .int .i64 p ∧ p ≤ qs.length ∧ Scene6 w wx F1 F2 ra rs fa fs sa ss oa os qa qb qc qd qs ta tc hs3 tb td hs0 a1 hs) (fun iv _ => qs.length - (intOf iv).toNat)
                            case atStart => exact ⟨0, rfl, Nat.zero_le _, SC9.out⟩
                            case round =>
                              clear SC9
                              obtain ⟨p, rfl, hp, hSc⟩ := hrel
                              have SC := hide hSc
                              clear hSc
                              by_cases hlt : p < qs.length
                              · obtain ⟨b, off, rfl, hcell⟩ := SC.out.q1 (by omega)
                                obtain ⟨b2, off2, rfl, hcell2⟩ := SC.out.q2 (by omega)
                                have d1 := hcell p hlt
                                have d2 := hcell2 p hlt
                                obtain ⟨x, hx⟩ : ∃ x, qs.getD p 0 = x := ⟨_, rfl⟩
                                rw [hx] at d1 d2
                                have hlt' : (p : Int) < (qs.length : Int) := by omega
                                have hne : (x != x) = false := by simp
                                have HB : Hid (∀ q, Scene6 w (wr.drewN q) F1 F2 ra rs fa fs sa ss oa os (some ⟨b, off, none⟩) (some ⟨b2, off2, none⟩) qc qd qs ta tc hs3 tb td hs0 a1 hs) := fun q => SC.out.later (below_drewN _ q)
                                clear hx hcell hcell2
                                go_wp2
                                go_quiet (fail)
                                go_wp2
                                go_roundw
                                case rel => exact ⟨p + 1, by go_num, by omega, HB.out _⟩
                                case measure => simp [intOf]; omega
                              · have hz0 : ¬ (p : Int) < (qs.length : Int) := by omega
                                go_wp2_with fail
                                refine (fromTop_any F1 _ _ SC.out.c3).mono ?_
                                rintro e w' ⟨rfl, rfl⟩
                                go_wp2_with fail
                                refine (fromTop_any F2 _ _ SC.out.c4).mono ?_
                                rintro e w' ⟨rfl, rfl⟩
                                go_wp2_with fail
                                refine (same_nil ta tb tc td hs3 hs0 _ SC.out.u1 SC.out.u2 PL.out.lt (by have := PL.out.lt; omega) PL.out.wt1 PL.out.wt2 PL.out.ct).mono ?_
                                rintro e w4 ⟨rfl, hb4⟩
                                have R := hide (SC.out.below.trans (hb4.mono SC.out.below.size))
                                clear hb4
                                go_wp2
                                go_ret
                                exact ⟨rfl, R.out⟩
#print axioms core6
end Go.Proofs.Qxb6612232a
