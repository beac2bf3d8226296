/-
  The walk of FnEndOfEntryBookkeepingMatchesPassedText, and its told card.
-/
import Derived.Test.Qxb6612529aFmtWalkA
namespace Go.Proofs.Qxb6612529aFmt
open Go Go.RowKit

/-- A break, whatever the flag: no marker behind it, and the scan goes on. -/
theorem flow_next' {s : ByteArray} {k b l i b' l' : Nat} {f : Bool} (hf : flow s k b l f = some (i, b', l')) (hlt : k < s.size) (hb : isBrk (byteAt s k)) : flow s (behind s k) (b + 1) (behind s k) false = some (i, b', l') := by
  rw [flow_brk hlt hb] at hf
  cases hm : marker s (behind s k) with
  | true => rw [hm] at hf; cases hf
  | false => rw [hm] at hf; exact hf

/-- In the midst of \r\n the scan does not stop. -/
theorem crlf_in {s : ByteArray} {k b l i b' l' : Nat} {f : Bool} (hf : flow s k b l f = some (i, b', l')) (h1 : k + 1 < s.size) (h2 : byteAt s k = 13) (h3 : byteAt s (k + 1) = 10) : flow s (k + 1) b l false = some (i, b', l') ∧ k + 2 ≤ i := by
  have h := hf
  rw [flow_crlf h1 h2 h3] at h
  refine ⟨h, ?_⟩
  have hb := (flow_bounds _ _ _ _ _ (Nat.le_refl _) (by omega) h).1
  apply Classical.byContradiction
  intro hc
  have e : i = k + 1 := by omega
  subst e
  exact ((flow_here h).2.2 h1).1 (.inl h3)

/-- Where the law's scan of the passed text stands at j. -/
def At (s : ByteArray) (i b l l0 gs j b' sv : Nat) (f g : Bool) : Prop :=
  (g = false ∧ j ≤ i ∧ ∃ l', sv = startOf b' l' l0 ∧ flow s j b' l' f = some (i, b, l)) ∨ (g = true ∧ j = i + 1 ∧ byteAt s i = 44 ∧ b' = b ∧ sv = gs)

set_option maxHeartbeats 4000000 in
set_option maxRecDepth 10000 in
theorem walk5 : Walk5 := by
  intro s pos line ls c w hs h1 h2 h3 h4
  obtain ⟨p1, p2⟩ := int_bounds64 h1
  obtain ⟨l1, l2⟩ := int_bounds64 h2
  obtain ⟨t1, t2⟩ := int_bounds64 h3
  clear h1 h2 h3 h4
  unfold maxLen at hs
  by_cases hbig : (1048576 : Int) < s.size
  · go_enter Tryf.func5, Tryf.ntmps5
    go_wp2_with (go_at_call 15; go_in)
    go_ret
    exact ⟨rfl, Below.refl _ _⟩
  by_cases c1 : pos < 0
  · go_enter Tryf.func5, Tryf.ntmps5
    go_wp2_with (go_at_call 15; go_in)
    go_ret
    exact ⟨rfl, Below.refl _ _⟩
  have d1 : decide (pos < 0) = false := decide_eq_false c1
  by_cases c2 : (s.size : Int) < pos
  · go_enter Tryf.func5, Tryf.ntmps5
    go_wp2_with (go_at_call 15; go_in)
    go_ret
    exact ⟨rfl, Below.refl _ _⟩
  have d2 : decide ((s.size : Int) < pos) = false := decide_eq_false c2
  by_cases c3 : ls < 0
  · go_enter Tryf.func5, Tryf.ntmps5
    go_wp2_with (go_at_call 15; go_in)
    go_ret
    exact ⟨rfl, Below.refl _ _⟩
  have d3 : decide (ls < 0) = false := decide_eq_false c3
  by_cases c4 : pos < ls
  · go_enter Tryf.func5, Tryf.ntmps5
    go_wp2_with (go_at_call 15; go_in)
    go_ret
    exact ⟨rfl, Below.refl _ _⟩
  have d4 : decide (pos < ls) = false := decide_eq_false c4
  by_cases c5 : line < 1
  · go_enter Tryf.func5, Tryf.ntmps5
    go_wp2_with (go_at_call 15; go_in)
    go_ret
    exact ⟨rfl, Below.refl _ _⟩
  have d5 : decide (line < 1) = false := decide_eq_false c5
  obtain ⟨p, rfl⟩ : ∃ p : Nat, pos = (p : Int) := ⟨pos.toNat, by omega⟩
  obtain ⟨l0, rfl⟩ : ∃ l : Nat, ls = (l : Int) := ⟨ls.toNat, by omega⟩
  have hn : s.size ≤ 1048576 := by omega
  have hp : p ≤ s.size := by omega
  rcases stopOf_cases s p c with hst | ⟨i, b, l, hf, hc, hst⟩
  · have HS := hide hst
    clear hst
    go_enter Tryf.func5, Tryf.ntmps5
    go_wp2_with (first
      | (go_at_call 15; go_in)
      | (go_at_call 11; refine (flowStop_any s p c w hn hp).mono ?_; rintro e w1 ⟨rfl, rfl⟩; rw [HS.out]; unfold missed))
    go_ret
    exact ⟨rfl, Below.refl _ _⟩
  · have HS := hide hst
    have HF := hide hf
    have HC := hide hc
    obtain ⟨_, _, _, hb2, hl3⟩ := flow_bounds _ _ _ _ _ (Nat.le_refl _) hp hf
    have hi2 := (flow_bounds _ _ _ _ _ (Nat.le_refl _) hp hf).2.1
    have hl4 := hl3 (Nat.zero_le _)
    have hbb : b ≤ 1048576 := by omega
    have hll : l ≤ 1048576 := by omega
    have hline : 1 ≤ line := by omega
    obtain ⟨st, hst2⟩ : ∃ st, stopAt s i = st := ⟨_, rfl⟩
    have HST := hide hst2
    have hst3 : st ≤ 1048577 := by
      rw [← hst2]
      unfold stopAt
      split <;> omega
    have hpi : p ≤ i := (flow_bounds _ _ _ _ _ (Nat.le_refl _) hp hf).1
    have hst4 : st ≤ s.size := by
      rw [← hst2]
      unfold stopAt
      split
      · rename_i h44
        have : i < s.size := by
          apply Classical.byContradiction
          intro hcc
          rw [byteAt_out hcc] at h44
          omega
        omega
      · omega
    have hst5 : i ≤ st := by
      rw [← hst2]
      unfold stopAt
      split <;> omega
    clear hst hf hc hb2 hl3 hl4 hst2
    obtain ⟨lv, hlv⟩ : ∃ lv, wrap64 (line + (b : Int)) = lv := ⟨_, rfl⟩
    go_enter Tryf.func5, Tryf.ntmps5
    go_wp2_with (first
      | (go_at_call 15; go_in)
      | (go_at_call 11; refine (flowStop_any s p c w hn hp).mono ?_; rintro e w1 ⟨rfl, rfl⟩; rw [HS.out, HST.out]; unfold found)
      | (go_at_call 12; refine (newParser_any s _ _ _ w).mono ?_; rintro e w1 ⟨rfl, v1, v2, hw1⟩; have HP : Hid (Parser w1 w.heap.size s p line l0 ∧ Below w.heap.size w w1) := by (rw [hw1]; exact ⟨parser_new, (Below.refl _ _).alloc (Nat.le_refl _) _⟩)
         clear hw1))
    refine (zzEnd_any w.heap.size s p line l0 i b l c w1 HP.out.1 hn hp hline l2 HF.out HC.out).mono ?_
    rintro e w2 ⟨rfl, r1, r2⟩
    rw [HST.out, hlv] at r1
    obtain ⟨gs, hgs⟩ : ∃ gs, startOf b l l0 = gs := ⟨_, rfl⟩
    rw [hgs] at r1
    have HGS := hide hgs
    have R1 := hide r1
    have R2 := hide (HP.out.2.trans r2)
    clear r1 r2 hgs HP
    go_wp2_with fail
    refine (state_any w.heap.size s st lv gs w2 R1.out).mono ?_
    rintro e w3 ⟨rfl, q, rfl⟩
    have HB0 := hide (R2.out.trans (below_drewN _ w2 q))
    have g1 : decide ((st : Int) < (p : Int)) = false := decide_eq_false (by omega)
    have g2 : ¬ (s.size : Int) < (st : Int) := by omega
    clear R1 R2
    go_wp2
    clear g1 g2
    go_loopw [19, 20, 21, 22, 23] (fun cv av bv wv jv wr => ∃ (j b' sv : Nat) (f g : Bool), jv = .int .i64 (j : Int) ∧ bv = .int .i64 (b' : Int) ∧ wv = .int .i64 (sv : Int) ∧ cv = .bool f ∧ av = .bool g ∧ j ≤ st ∧ b' ≤ j ∧ At s i b l l0 gs j b' sv f g ∧ Below w.heap.size w wr) (fun _ _ _ _ jv _ => st - (intOf jv).toNat)
    case atStart => exact ⟨p, 0, l0, false, false, rfl, rfl, rfl, rfl, rfl, by omega, Nat.zero_le _, .inl ⟨rfl, hpi, 0, rfl, HF.out⟩, HB0.out⟩
    case round =>
      clear HB0
      obtain ⟨j, b', sv, f, g, rfl, rfl, rfl, rfl, rfl, hj, hbj, hat, hB⟩ := hrel
      have HB := hide hB
      have HAT := hide hat
      clear hB hat
      by_cases hlt : j < st
      · have hlt' : (j : Int) < (st : Int) := by omega
        obtain ⟨gf, hji, l', HSV, HFL⟩ : g = false ∧ j ≤ i ∧ ∃ l', Hid (sv = startOf b' l' l0) ∧ Hid (flow s j b' l' f = some (i, b, l)) := by
          rcases HAT.out with ⟨a1, a2, l', a3, a4⟩ | ⟨_, a2, a3, _, _⟩
          · exact ⟨a1, a2, l', a3, a4⟩
          · have := HST.out
            rw [stopAt_comma a3] at this
            omega
        subst gf
        clear HAT
        have hjs : j < s.size := by omega
        have ix := fun W => index_in hjs (i := (j : Int)) rfl W
        have hjs' : (j : Int) < (s.size : Int) := by omega
        obtain ⟨x, hx⟩ : ∃ x, byteAt s j = x := ⟨_, rfl⟩
        rw [hx] at ix
        have HX := hide hx
        clear hx
        by_cases hjeq : j = i
        · subst hjeq
          have h44 : x = 44 := by
            rw [← HX.out]
            apply Classical.byContradiction
            intro hne
            have := HST.out
            rw [stopAt_end hne] at this
            omega
          subst h44
          obtain ⟨k1, k2, k3⟩ := flow_here HFL.out
          obtain ⟨_, kf, _, _⟩ := k3 hjs
          subst kf
          have est : st = j + 1 := by rw [← HST.out, stopAt_comma HX.out]
          have AT2 : Hid (At s j b l l0 gs (j + 1) b' sv false true) := .inr ⟨rfl, rfl, HX.out, k1.symm, by rw [HSV.out, ← HGS.out, k1, k2]⟩
          have heq : ((j : Int) == (st : Int) - 1) = true := by rw [beq_iff_eq]; omega
          clear k1 k2 k3 est
          go_wp2
          go_roundw
          case rel => exact ⟨j + 1, b', sv, false, true, by go_num, rfl, rfl, rfl, rfl, by omega, by omega, AT2.out, HB.out⟩
          case measure => simp [intOf]; omega
        · by_cases x10 : x = 10
          · subst x10
            have hbh : behind s j = j + 1 := by unfold behind; rw [if_neg (by rw [HX.out]; omega)]
            have nx := flow_next' HFL.out hjs (.inl HX.out)
            rw [hbh] at nx
            have AT2 : Hid (At s i b l l0 gs (j + 1) (b' + 1) (j + 1) false false) := .inl ⟨rfl, by omega, j + 1, rfl, nx⟩
            clear nx hbh
            go_wp2
            go_roundw
            case rel => exact ⟨j + 1, b' + 1, j + 1, false, false, by go_num, by go_num, by go_num, rfl, rfl, by omega, by omega, AT2.out, HB.out⟩
            case measure => simp [intOf]; omega
          have g10 : (x == 10) = false := by simp [x10]
          by_cases x13 : x = 13
          · subst x13
            by_cases hcr : j + 1 < s.size ∧ byteAt s (j + 1) = 10
            · obtain ⟨hc1, hc2⟩ := hcr
              obtain ⟨nx, hge⟩ := crlf_in HFL.out hc1 HX.out hc2
              have ix2 := fun W => index_in hc1 (i := (j : Int) + 1) (by omega) W
              rw [hc2] at ix2
              have hlt2 : (j : Int) + 1 < (st : Int) := by omega
              have AT2 : Hid (At s i b l l0 gs (j + 1) b' sv false false) := .inl ⟨rfl, by omega, l', HSV.out, nx⟩
              clear nx hc2
              go_wp2
              go_roundw
              case rel => exact ⟨j + 1, b', sv, false, false, by go_num, rfl, rfl, rfl, rfl, by omega, by omega, AT2.out, HB.out⟩
              case measure => simp [intOf]; omega
            · have hbh : behind s j = j + 1 := by
                unfold behind
                rw [if_neg]
                rintro ⟨_, h10⟩
                by_cases hc1 : j + 1 < s.size
                · exact hcr ⟨hc1, h10⟩
                · rw [byteAt_out hc1] at h10; omega
              have nx := flow_next' HFL.out hjs (.inr HX.out)
              rw [hbh] at nx
              have AT2 : Hid (At s i b l l0 gs (j + 1) (b' + 1) (j + 1) false false) := .inl ⟨rfl, by omega, j + 1, rfl, nx⟩
              clear nx hbh
              by_cases hlt2 : j + 1 < st
              · have hc1 : j + 1 < s.size := by omega
                have ix2 := fun W => index_in hc1 (i := (j : Int) + 1) (by omega) W
                obtain ⟨y, hy⟩ : ∃ y, byteAt s (j + 1) = y := ⟨_, rfl⟩
                rw [hy] at ix2
                have y10 : (y == 10) = false := by
                  rw [beq_eq_false_iff_ne]
                  intro hyy
                  exact hcr ⟨hc1, by rw [hy]; exact hyy⟩
                have hlt2' : (j : Int) + 1 < (st : Int) := by omega
                clear hcr hy
                go_wp2
                go_roundw
                case rel => exact ⟨j + 1, b' + 1, j + 1, false, false, by go_num, by go_num, by go_num, rfl, rfl, by omega, by omega, AT2.out, HB.out⟩
                case measure => simp [intOf]; omega
              · have hlt2' : decide ((j : Int) + 1 < (st : Int)) = false := decide_eq_false (by omega)
                clear hcr
                go_wp2
                go_roundw
                case rel => exact ⟨j + 1, b' + 1, j + 1, false, false, by go_num, by go_num, by go_num, rfl, rfl, by omega, by omega, AT2.out, HB.out⟩
                case measure => simp [intOf]; omega
          have g13 : (x == 13) = false := by simp [x13]
          have hnb : ¬ isBrk (byteAt s j) := by rw [HX.out]; unfold isBrk; omega
          have HNB := hide hnb
          clear hnb
          cases f with
          | true =>
            have AT2 : Hid (At s i b l l0 gs (j + 1) b' sv true false) := .inl ⟨rfl, by omega, l', HSV.out, by rw [← HFL.out, flow_on hjs HNB.out (.inl rfl)]⟩
            go_wp2
            go_roundw
            case rel => exact ⟨j + 1, b', sv, true, false, by go_num, rfl, rfl, rfl, rfl, by omega, by omega, AT2.out, HB.out⟩
            case measure => simp [intOf]; omega
          | false =>
            by_cases x32 : x = 32
            · subst x32
              have AT2 : Hid (At s i b l l0 gs (j + 1) b' sv false false) := .inl ⟨rfl, by omega, l', HSV.out, by rw [← HFL.out, flow_on hjs HNB.out (.inr (by rw [HX.out]; decide))]⟩
              go_wp2
              go_roundw
              case rel => exact ⟨j + 1, b', sv, false, false, by go_num, rfl, rfl, rfl, rfl, by omega, by omega, AT2.out, HB.out⟩
              case measure => simp [intOf]; omega
            have g32 : (x == 32) = false := by simp [x32]
            by_cases x9 : x = 9
            · subst x9
              have AT2 : Hid (At s i b l l0 gs (j + 1) b' sv false false) := .inl ⟨rfl, by omega, l', HSV.out, by rw [← HFL.out, flow_on hjs HNB.out (.inr (by rw [HX.out]; decide))]⟩
              go_wp2
              go_roundw
              case rel => exact ⟨j + 1, b', sv, false, false, by go_num, rfl, rfl, rfl, rfl, by omega, by omega, AT2.out, HB.out⟩
              case measure => simp [intOf]; omega
            have g9 : (x == 9) = false := by simp [x9]
            by_cases x35 : x = 35
            · subst x35
              have AT2 : Hid (At s i b l l0 gs (j + 1) b' sv true false) := .inl ⟨rfl, by omega, l', HSV.out, by rw [← HFL.out, flow_hash hjs HX.out]⟩
              go_wp2
              go_roundw
              case rel => exact ⟨j + 1, b', sv, true, false, by go_num, rfl, rfl, rfl, rfl, by omega, by omega, AT2.out, HB.out⟩
              case measure => simp [intOf]; omega
            exfalso
            have := HFL.out
            rw [flow_stop hjs HNB.out (by rw [HX.out]; unfold isBlk; omega) (by rw [HX.out]; exact x35)] at this
            simp only [Option.some.injEq, Prod.mk.injEq] at this
            exact hjeq this.1
      · have hz0 : ¬ (j : Int) < (st : Int) := by omega
        obtain rfl : j = st := by omega
        rcases HAT.out with ⟨a1, a2, l', a3, a4⟩ | ⟨a1, a2, a3, a4, a5⟩
        · subst a1
          have eij : i = j := by omega
          subst eij
          have hne : byteAt s i ≠ 44 := by
            intro h44
            have := HST.out
            rw [stopAt_comma h44] at this
            omega
          have hce : byteAt s i = c := HC.out.resolve_left hne
          obtain ⟨k1, k2, k3⟩ := flow_here a4
          subst k1
          have hsg : sv = gs := by rw [a3, ← HGS.out, k2]
          subst hsg
          clear a3 a4 k2 HAT HF HC HST HGS hne
          by_cases his : i < s.size
          · obtain ⟨n1, n2, n3, n4⟩ := k3 his
            subst n2
            have ix := fun W => index_in his (i := (i : Int)) rfl W
            rw [hce] at ix n1 n3 n4
            have his' : (i : Int) < (s.size : Int) := by omega
            unfold isBrk at n1
            unfold isBlk at n3
            have m1 : (c == 32) = false := by rw [beq_eq_false_iff_ne]; omega
            have m2 : (c == 9) = false := by rw [beq_eq_false_iff_ne]; omega
            have m3 : (c == 10) = false := by rw [beq_eq_false_iff_ne]; omega
            have m4 : (c == 13) = false := by rw [beq_eq_false_iff_ne]; omega
            have m5 : (c == 35) = false := by rw [beq_eq_false_iff_ne]; omega
            clear n1 n3 n4 k3 hce
            go_wp2
            go_ret
            exact ⟨by simp, HB.out⟩
          · rw [byteAt_out his] at hce
            subst hce
            have his' : decide ((i : Int) < (s.size : Int)) = false := decide_eq_false (by omega)
            clear k3
            go_wp2
            go_ret
            exact ⟨by simp, HB.out⟩
        · subst a1 a4 a5
          clear HAT a2 a3
          go_wp2
          go_ret
          exact ⟨by simp, HB.out⟩

theorem FnEndOfEntryBookkeepingMatchesPassedText_proved : Rows.FnEndOfEntryBookkeepingMatchesPassedTextToldSaid := card5 walk5
#print axioms FnEndOfEntryBookkeepingMatchesPassedText_proved
end Go.Proofs.Qxb6612529aFmt
