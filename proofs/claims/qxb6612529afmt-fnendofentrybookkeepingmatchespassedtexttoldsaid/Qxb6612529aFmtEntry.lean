/-
  endOfEntry, and the thin functions of the laws.
-/
import Derived.Test.Qxb6612529aFmtSkip
namespace Go.Proofs.Qxb6612529aFmt
open Go Go.RowKit

/-- Where endOfEntry stops, the flow space ending at i. -/
def stopAt (s : ByteArray) (i : Nat) : Nat := if byteAt s i = 44 then i + 1 else i

set_option maxHeartbeats 1000000 in
theorem endOfEntry_any (P : Nat) (s : ByteArray) (p : Nat) (line : Int) (ls i b l : Nat) (c : Int) (w : World) (h : Parser w P s p line ls) (hn : s.size ≤ 1048576) (hp : p ≤ s.size) (hl1 : 1 ≤ line) (hl2 : line ≤ 9223372036854775807) (hf : flow s p 0 0 false = some (i, b, l)) (hc : byteAt s i = 44 ∨ byteAt s i = c) :
    Calls Tryf.prog 18 #[.pointer (some ⟨P, 0, none⟩), .int .u8 c] w fun e w' => e = .returned (.tuple #[]) ∧ Parser w' P s (stopAt s i) (wrap64 (line + b)) (startOf b l ls) ∧ Below P w w' := by
  have H := hide h
  have HF := hide hf
  have hi := (flow_bounds _ _ _ _ _ (Nat.le_refl _) hp hf).2.1
  clear h hf
  obtain ⟨t, ht⟩ : ∃ t, stopAt s i = t := ⟨_, rfl⟩
  rw [ht]
  unfold stopAt at ht
  have HT := hide ht
  clear ht
  go_enter Tryf.func18, Tryf.ntmps18
  go_wp2_with fail
  refine (skipFlow_any P s p line ls i b l w H.out hn hp hl1 hl2 HF.out).mono ?_
  rintro e w1 ⟨rfl, r1, r2⟩
  have R1 := hide r1
  have R2 := hide r2
  clear r1 r2
  go_wp2_with fail
  refine (peek_any P s i _ _ w1 R1.out (by omega)).mono ?_
  rintro e w2 ⟨rfl, q, rfl⟩
  obtain ⟨x, hx⟩ : ∃ x, byteAt s i = x := ⟨_, rfl⟩
  rw [hx] at hc HT ⊢
  clear hx
  by_cases h44 : x = 44
  · subst h44
    have c1 := R1.out.pos
    have f1 := R1.out.free 1
    have RR := hide (R1.out.drewN q)
    clear hc
    go_wp2
    go_end0
    refine ⟨rfl, ?_, (R2.out.trans (below_drewN P w1 q)).setCell (Nat.le_refl _) _⟩
    rw [← HT.out]
    exact RR.out.set1 (i + 1)
  · obtain rfl : x = c := hc.resolve_left h44
    have g44 : (x == 44) = false := by simp [h44]
    have RR := hide (R1.out.drewN q)
    clear hc
    go_wp2
    go_end0
    refine ⟨rfl, ?_, R2.out.trans (below_drewN P w1 q)⟩
    rw [← HT.out, if_neg h44]
    exact RR.out

theorem newParser_any (s : ByteArray) (pos line ls : Int) (w : World) :
    Calls Tryf.prog 12 #[.string s, .int .i64 pos, .int .i64 line, .int .i64 ls] w fun e w' => e = .returned (.pointer (some ⟨w.heap.size, 0, none⟩)) ∧ ∃ v1 v2, w' = w.alloc (.cells #[.string s, .int .i64 pos, .int .i64 line, .int .i64 ls, v1, v2] 44) := by
  go_enter Tryf.func12, Tryf.ntmps12
  go_wp2
  go_ret
  exact ⟨rfl, _, _, rfl⟩

theorem state_any (P : Nat) (s : ByteArray) (p : Nat) (ln : Int) (ls : Nat) (w : World) (h : Parser w P s p ln ls) :
    Calls Tryf.prog 14 #[.pointer (some ⟨P, 0, none⟩)] w fun e w' => e = .returned (.tuple #[.int .i64 (p : Int), .int .i64 ln, .int .i64 (ls : Int)]) ∧ ∃ q, w' = w.drewN q := by
  have c1 := h.pos
  have c2 := h.line
  have c3 := h.start
  clear h
  go_enter Tryf.func14, Tryf.ntmps14
  go_wp2
  go_quiet (fail)
  go_wp2
  go_ret3
  exact ⟨rfl, _, rfl⟩

theorem zzEnd_any (P : Nat) (s : ByteArray) (p : Nat) (line : Int) (ls i b l : Nat) (c : Int) (w : World) (h : Parser w P s p line ls) (hn : s.size ≤ 1048576) (hp : p ≤ s.size) (hl1 : 1 ≤ line) (hl2 : line ≤ 9223372036854775807) (hf : flow s p 0 0 false = some (i, b, l)) (hc : byteAt s i = 44 ∨ byteAt s i = c) :
    Calls Tryf.prog 13 #[.pointer (some ⟨P, 0, none⟩), .int .u8 c] w fun e w' => e = .returned (.tuple #[]) ∧ Parser w' P s (stopAt s i) (wrap64 (line + b)) (startOf b l ls) ∧ Below P w w' := by
  have H := hide h
  have HF := hide hf
  have HC := hide hc
  clear h hf hc
  go_enter Tryf.func13, Tryf.ntmps13
  go_wp2_with fail
  refine (endOfEntry_any P s p line ls i b l c w H.out hn hp hl1 hl2 HF.out HC.out).mono ?_
  rintro e w1 ⟨rfl, r1, r2⟩
  have R := hide (And.intro r1 r2)
  clear r1 r2
  go_wp2
  go_end0
  exact ⟨rfl, R.out.1, R.out.2⟩

theorem parser_new {w : World} {s : ByteArray} {p : Nat} {line : Int} {ls : Nat} {v1 v2 : Value} : Parser (w.alloc (.cells #[.string s, .int .i64 (p : Int), .int .i64 line, .int .i64 (ls : Int), v1, v2] 44)) w.heap.size s p line ls :=
  ⟨by simp, by simp, by simp, by simp, fun j => by simp⟩
end Go.Proofs.Qxb6612529aFmt
