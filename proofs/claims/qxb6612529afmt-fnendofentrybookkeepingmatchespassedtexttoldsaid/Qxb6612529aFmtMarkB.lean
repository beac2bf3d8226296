/-
  The parser's atMarker, atAnyMarker.
-/
import Derived.Test.Qxb6612529aFmtStop
import Derived.Lib.IndexBytes
namespace Go.Proofs.Qxb6612529aFmt
open Go Go.RowKit

theorem space_any (c : Int) (w : World) : Calls Tryf.prog 34 #[.int .u8 c] w fun e w' => e = .returned (.bool (isSp c)) ∧ w = w' := by
  obtain ⟨m, hm⟩ : ∃ m, isSp c = m := ⟨_, rfl⟩
  rw [hm]
  by_cases h0 : c = 0
  · subst h0
    have : m = true := by rw [← hm]; rfl
    subst this
    clear hm
    go_enter Tryf.func34, Tryf.ntmps34
    go_wp2
    go_ret
    exact ⟨rfl, rfl⟩
  have g0 : (c == 0) = false := by simp [h0]
  by_cases h1 : isBlk c
  · have hd : decide (isBlk c) = true := decide_eq_true h1
    have : m = true := by rw [← hm]; unfold isSp; unfold isBlk at h1; rcases h1 with rfl | rfl <;> rfl
    subst this
    clear hm
    go_enter Tryf.func34, Tryf.ntmps34
    go_wp2_with (go_at_call 29; refine (blank_any _ _).mono ?_; rintro e w1 ⟨rfl, rfl⟩; rw [hd])
    go_ret
    exact ⟨rfl, rfl⟩
  · have hd : decide (isBlk c) = false := decide_eq_false h1
    have hb : decide (isBrk c) = m := by
      rw [← hm, Bool.eq_iff_iff, decide_eq_true_iff]
      unfold isBlk at h1
      simp [isSp, isBrk]
      omega
    clear hm
    go_enter Tryf.func34, Tryf.ntmps34
    go_wp2_with (first
      | (go_at_call 29; refine (blank_any _ _).mono ?_; rintro e w1 ⟨rfl, rfl⟩; rw [hd])
      | (go_at_call 25; refine (break_any _ _).mono ?_; rintro e w1 ⟨rfl, rfl⟩; rw [hb]))
    go_ret
    exact ⟨rfl, rfl⟩

theorem prefix_raw (t p : ByteArray) (w : World) (ht : t.size ≤ 1048576) (hp : p.size = 3) :
    Calls Tryf.prog 33 #[.string t, .string p] w fun e w' => e = .returned (.bool (decide (3 ≤ t.size) && ((t.extract 0 3).toList == p.toList))) ∧ w = w' := by
  by_cases h3 : 3 ≤ t.size
  · have h3' : ¬ (t.size : Int) < 3 := by omega
    have hd : decide ((3 : Int) ≤ (t.size : Int)) = true := decide_eq_true (by omega)
    rw [decide_eq_true h3]
    go_enter Tryf.func33, Tryf.ntmps33
    go_wp2
    go_ret
    exact ⟨rfl, rfl⟩
  · rw [decide_eq_false h3]
    have hd : decide ((3 : Int) ≤ (t.size : Int)) = false := decide_eq_false (by omega)
    go_enter Tryf.func33, Tryf.ntmps33
    go_wp2
    go_ret
    exact ⟨rfl, rfl⟩

theorem three_list (s : ByteArray) (q : Nat) (h : q + 3 ≤ s.size) : ((s.extract q s.size).extract 0 3).toList = [s[q], s[q + 1], s[q + 2]] := by
  rw [ByteArray.toList_eq, Lib.extract_data, Lib.extract_to_end]
  have hl : s.data.toList.length = s.size := rfl
  rw [List.drop_zero, List.drop_eq_getElem_cons (i := q) (by omega), List.drop_eq_getElem_cons (i := q + 1) (by omega), List.drop_eq_getElem_cons (i := q + 1 + 1) (by omega)]
  rfl

theorem three_eq (s : ByteArray) (q : Nat) (x : UInt8) (hq : q ≤ s.size) : (decide (3 ≤ (s.extract q s.size).size) && (((s.extract q s.size).extract 0 3).toList == (ByteArray.mk #[x, x, x]).toList)) = three s q (x.toNat : Int) := by
  have hsz : (s.extract q s.size).size = s.size - q := by simp
  rw [hsz]
  unfold three
  by_cases h : q + 3 ≤ s.size
  · rw [decide_eq_true h, decide_eq_true (by omega : 3 ≤ s.size - q), three_list s q h, Bool.true_and, Bool.true_and]
    have e : (ByteArray.mk #[x, x, x]).toList = [x, x, x] := ByteArray.toList_mk [x, x, x]
    rw [e, byteAt_in (by omega : q < s.size), byteAt_in (by omega : q + 1 < s.size), byteAt_in (by omega : q + 2 < s.size)]
    have k : ∀ a : UInt8, ((a.toNat : Int) == (x.toNat : Int)) = (a == x) := fun a => by
      rw [Bool.eq_iff_iff, beq_iff_eq, beq_iff_eq]
      constructor
      · intro h; exact UInt8.toNat_inj.1 (by omega)
      · intro h; rw [h]
    rw [k, k, k]
    simp [List.cons_beq_cons, Bool.and_assoc]
  · rw [decide_eq_false h, decide_eq_false (by omega : ¬ 3 ≤ s.size - q)]
    rfl

theorem quiet_same {f : FuncId} {args : Array Value} {w : World} {n : Nat} {v : Value} (h : Calls Tryf.prog f args (w.drewN n) fun e w' => e = .returned v ∧ w.drewN n = w') : Calls Tryf.prog f args (w.drewN n) fun e w'' => e = .returned v ∧ ∃ m, w'' = w.drewN m :=
  h.mono fun _ _ ⟨he, hm⟩ => ⟨he, n, hm.symm⟩

theorem prefix_of (s : ByteArray) (q : Nat) (x : UInt8) (m : Bool) (hm : three s q (x.toNat : Int) = m) (w : World) (hn : s.size ≤ 1048576) (hq : q ≤ s.size) :
    Calls Tryf.prog 33 #[.string (s.extract q s.size), .string (ByteArray.mk #[x, x, x])] w fun e w' => e = .returned (.bool m) ∧ w = w' := by
  have h := prefix_raw (s.extract q s.size) (ByteArray.mk #[x, x, x]) w (by simp; omega) rfl
  rw [three_eq s q x hq, hm] at h
  exact h

theorem space_of (c : Int) (m : Bool) (hm : isSp c = m) (w : World) : Calls Tryf.prog 34 #[.int .u8 c] w fun e w' => e = .returned (.bool m) ∧ w = w' := by
  subst hm
  exact space_any c w

set_option maxHeartbeats 1000000 in
theorem atMarker_any (P : Nat) (s : ByteArray) (q : Nat) (ln : Int) (x : UInt8) (w : World) (h : Parser w P s q ln q) (hn : s.size ≤ 1048576) (hq : q ≤ s.size) :
    Calls Tryf.prog 31 #[.pointer (some ⟨P, 0, none⟩), .string (ByteArray.mk #[x, x, x])] w fun e w' => e = .returned (.bool (three s q (x.toNat : Int) && isSp (byteAt s (q + 3)))) ∧ ∃ n, w' = w.drewN n := by
  have HP := hide h
  have c0 := h.src
  have c1 := h.pos
  clear h
  obtain ⟨m, hm⟩ : ∃ m, three s q (x.toNat : Int) = m := ⟨_, rfl⟩
  obtain ⟨y, hy⟩ : ∃ y, byteAt s (q + 3) = y := ⟨_, rfl⟩
  obtain ⟨b, hb⟩ : ∃ b, isSp y = b := ⟨_, rfl⟩
  rw [hm, hy, hb]
  have HM := hide hm
  have HY := hide hy
  have HB := hide hb
  clear hm hy hb
  cases m with
  | true =>
    go_enter Tryf.func31, Tryf.ntmps31
    go_wp2
    go_quiet (first
      | (go_at_call 32; exact Calls.quiet_of (column_any P s q ln _ (HP.out.drewN _)))
      | (go_at_call 33; exact quiet_same (prefix_of s q x true HM.out _ hn hq))
      | (go_at_call 28; exact Calls.quiet_of (HY.out ▸ at_any P s q ln q 3 _ (HP.out.drewN _) (by omega) (by omega)))
      | (go_at_call 34; exact quiet_same (space_of y b HB.out _)))
    go_wp2
    go_ret
    exact ⟨rfl, _, rfl⟩
  | false =>
    go_enter Tryf.func31, Tryf.ntmps31
    go_wp2
    go_quiet (first
      | (go_at_call 32; exact Calls.quiet_of (column_any P s q ln _ (HP.out.drewN _)))
      | (go_at_call 33; exact quiet_same (prefix_of s q x false HM.out _ hn hq)))
    go_wp2
    go_ret
    exact ⟨rfl, _, rfl⟩

theorem atAnyMarker_any (P : Nat) (s : ByteArray) (q : Nat) (ln : Int) (w : World) (h : Parser w P s q ln q) (hn : s.size ≤ 1048576) (hq : q ≤ s.size) :
    Calls Tryf.prog 27 #[.pointer (some ⟨P, 0, none⟩)] w fun e w' => e = .returned (.bool (marker s q)) ∧ ∃ n, w' = w.drewN n := by
  have HP := hide h
  clear h
  have e : marker s q = ((three s q 45 && isSp (byteAt s (q + 3))) || (three s q 46 && isSp (byteAt s (q + 3)))) := by
    rw [marker_eq, Bool.and_or_distrib_right]
  rw [e]
  clear e
  obtain ⟨b1, h1⟩ : ∃ b, (three s q 45 && isSp (byteAt s (q + 3))) = b := ⟨_, rfl⟩
  obtain ⟨b2, h2⟩ : ∃ b, (three s q 46 && isSp (byteAt s (q + 3))) = b := ⟨_, rfl⟩
  rw [h1, h2]
  have k1 : ∀ n, Calls Tryf.prog 31 #[.pointer (some ⟨P, 0, none⟩), .string (ByteArray.mk #[45, 45, 45])] (w.drewN n) fun e w' => e = .returned (.bool b1) ∧ ∃ m, w' = (w.drewN n).drewN m := fun n => by
    have := atMarker_any P s q ln 45 (w.drewN n) (HP.out.drewN n) hn hq
    rw [← h1]
    exact this
  have k2 : ∀ n, Calls Tryf.prog 31 #[.pointer (some ⟨P, 0, none⟩), .string (ByteArray.mk #[46, 46, 46])] (w.drewN n) fun e w' => e = .returned (.bool b2) ∧ ∃ m, w' = (w.drewN n).drewN m := fun n => by
    have := atMarker_any P s q ln 46 (w.drewN n) (HP.out.drewN n) hn hq
    rw [← h2]
    exact this
  have k0 : Calls Tryf.prog 31 #[.pointer (some ⟨P, 0, none⟩), .string (ByteArray.mk #[45, 45, 45])] w fun e w' => e = .returned (.bool b1) ∧ ∃ m, w' = w.drewN m := by
    have := atMarker_any P s q ln 45 w HP.out hn hq
    rw [← h1]
    exact this
  have K0 := hide k0
  have K2 := hide k2
  clear h1 h2 k1 k2 k0
  cases b1 with
  | true =>
    go_enter Tryf.func27, Tryf.ntmps27
    go_wp2_with fail
    refine K0.out.mono ?_
    rintro e w1 ⟨rfl, n, rfl⟩
    go_wp2
    go_ret
    exact ⟨rfl, _, rfl⟩
  | false =>
    go_enter Tryf.func27, Tryf.ntmps27
    go_wp2_with fail
    refine K0.out.mono ?_
    rintro e w1 ⟨rfl, n, rfl⟩
    go_wp2_with fail
    refine (K2.out n).mono ?_
    rintro e w1 ⟨rfl, n2, rfl⟩
    go_wp2
    go_ret
    exact ⟨rfl, _, rfl⟩
end Go.Proofs.Qxb6612529aFmt
