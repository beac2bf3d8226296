/-
  zzMarkerAt, and the parser's atMarker, atAnyMarker.
-/
import Derived.Test.Qxb6612529aFmtParser
namespace Go.Proofs.Qxb6612529aFmt
open Go Go.RowKit

def isSp (x : Int) : Bool := x == 0 || x == 32 || x == 9 || x == 10 || x == 13

/-- Three bytes of the one kind at q. -/
def three (s : ByteArray) (q : Nat) (x : Int) : Bool := decide (q + 3 ≤ s.size) && (byteAt s q == x && byteAt s (q + 1) == x && byteAt s (q + 2) == x)

theorem marker_eq (s : ByteArray) (q : Nat) : marker s q = ((three s q 45 || three s q 46) && isSp (byteAt s (q + 3))) := by
  unfold marker three isSp
  cases decide (q + 3 ≤ s.size) <;> simp

set_option maxHeartbeats 2000000 in
theorem markerAt_any (s : ByteArray) (q : Nat) (w : World) (hn : s.size ≤ 1048576) (hq : q ≤ s.size) :
    Calls Tryf.prog 17 #[.string s, .int .i64 (q : Int)] w fun e w' => e = .returned (.bool (marker s q)) ∧ w = w' := by
  obtain ⟨m, hm⟩ : ∃ m, marker s q = m := ⟨_, rfl⟩
  rw [hm]
  rw [marker_eq] at hm
  unfold three at hm
  by_cases h3 : q + 3 ≤ s.size
  · have i0 := fun W => index_in (s := s) (k := q) (by omega) (i := (q : Int)) rfl W
    have i1 := fun W => index_in (s := s) (k := q + 1) (by omega) (i := (q : Int) + 1) (by omega) W
    have i2 := fun W => index_in (s := s) (k := q + 2) (by omega) (i := (q : Int) + 2) (by omega) W
    have i3 : q + 3 < s.size → ∀ W, _ := fun h W => index_in (s := s) (k := q + 3) h (i := (q : Int) + 3) (by omega) W
    have o3 : ¬ q + 3 < s.size → byteAt s (q + 3) = 0 := byteAt_out
    obtain ⟨x0, e0⟩ : ∃ x, byteAt s q = x := ⟨_, rfl⟩
    obtain ⟨x1, e1⟩ : ∃ x, byteAt s (q + 1) = x := ⟨_, rfl⟩
    obtain ⟨x2, e2⟩ : ∃ x, byteAt s (q + 2) = x := ⟨_, rfl⟩
    obtain ⟨x3, e3⟩ : ∃ x, byteAt s (q + 3) = x := ⟨_, rfl⟩
    rw [e0] at i0 hm
    rw [e1] at i1 hm
    rw [e2] at i2 hm
    rw [e3] at i3 o3 hm
    have I3 := hide i3
    have O3 := hide o3
    clear e0 e1 e2 e3 i3 o3
    have hd3 : decide (q + 3 ≤ s.size) = true := decide_eq_true h3
    rw [hd3, Bool.true_and, Bool.true_and] at hm
    have h3' : ¬ (s.size : Int) < (q : Int) + 3 := by omega
    by_cases a0 : x0 = 45
    · subst a0
      by_cases b1 : x1 = 45
      · subst b1
        by_cases b2 : x2 = 45
        · subst b2
          by_cases h4 : q + 3 < s.size
          · have i3 := I3.out h4
            have h4' : (((q : Int) + 3) == (s.size : Int)) = false := by simp; omega
            by_cases y0 : x3 = 0
            · subst y0
              have hmt : m = true := by rw [← hm]; simp [isSp]
              subst hmt
              clear hm
              go_enter Tryf.func17, Tryf.ntmps17
              go_wp2
              go_ret
              exact ⟨rfl, rfl⟩
            have z0 : (x3 == 0) = false := by simp [y0]
            by_cases y32 : x3 = 32
            · subst y32
              have hmt : m = true := by rw [← hm]; simp [isSp]
              subst hmt
              clear hm
              go_enter Tryf.func17, Tryf.ntmps17
              go_wp2
              go_ret
              exact ⟨rfl, rfl⟩
            have z32 : (x3 == 32) = false := by simp [y32]
            by_cases y9 : x3 = 9
            · subst y9
              have hmt : m = true := by rw [← hm]; simp [isSp]
              subst hmt
              clear hm
              go_enter Tryf.func17, Tryf.ntmps17
              go_wp2
              go_ret
              exact ⟨rfl, rfl⟩
            have z9 : (x3 == 9) = false := by simp [y9]
            by_cases y10 : x3 = 10
            · subst y10
              have hmt : m = true := by rw [← hm]; simp [isSp]
              subst hmt
              clear hm
              go_enter Tryf.func17, Tryf.ntmps17
              go_wp2
              go_ret
              exact ⟨rfl, rfl⟩
            have z10 : (x3 == 10) = false := by simp [y10]
            by_cases y13 : x3 = 13
            · subst y13
              have hmt : m = true := by rw [← hm]; simp [isSp]
              subst hmt
              clear hm
              go_enter Tryf.func17, Tryf.ntmps17
              go_wp2
              go_ret
              exact ⟨rfl, rfl⟩
            have z13 : (x3 == 13) = false := by simp [y13]
            have hmf : m = false := by rw [← hm]; simp [isSp, y0, y32, y9, y10, y13]
            subst hmf
            clear hm
            go_enter Tryf.func17, Tryf.ntmps17
            go_wp2
            go_ret
            exact ⟨rfl, rfl⟩
          · have o := O3.out h4
            have h4' : (((q : Int) + 3) == (s.size : Int)) = true := by simp; omega
            have hmt : m = true := by rw [← hm, o]; simp [isSp]
            subst hmt
            clear hm o
            go_enter Tryf.func17, Tryf.ntmps17
            go_wp2
            go_ret
            exact ⟨rfl, rfl⟩
        · have g2 : (x2 == 45) = false := by simp [b2]
          have hmf : m = false := by rw [← hm]; simp [b2]
          subst hmf
          clear hm
          go_enter Tryf.func17, Tryf.ntmps17
          go_wp2
          go_ret
          exact ⟨rfl, rfl⟩
      · have g1 : (x1 == 45) = false := by simp [b1]
        have hmf : m = false := by rw [← hm]; simp [b1]
        subst hmf
        clear hm
        go_enter Tryf.func17, Tryf.ntmps17
        go_wp2
        go_ret
        exact ⟨rfl, rfl⟩
    · have g0 : (x0 == 45) = false := by simp [a0]
      by_cases a1 : x0 = 46
      · subst a1
        by_cases b1 : x1 = 46
        · subst b1
          by_cases b2 : x2 = 46
          · subst b2
            by_cases h4 : q + 3 < s.size
            · have i3 := I3.out h4
              have h4' : (((q : Int) + 3) == (s.size : Int)) = false := by simp; omega
              by_cases y0 : x3 = 0
              · subst y0
                have hmt : m = true := by rw [← hm]; simp [isSp]
                subst hmt
                clear hm
                go_enter Tryf.func17, Tryf.ntmps17
                go_wp2
                go_ret
                exact ⟨rfl, rfl⟩
              have z0 : (x3 == 0) = false := by simp [y0]
              by_cases y32 : x3 = 32
              · subst y32
                have hmt : m = true := by rw [← hm]; simp [isSp]
                subst hmt
                clear hm
                go_enter Tryf.func17, Tryf.ntmps17
                go_wp2
                go_ret
                exact ⟨rfl, rfl⟩
              have z32 : (x3 == 32) = false := by simp [y32]
              by_cases y9 : x3 = 9
              · subst y9
                have hmt : m = true := by rw [← hm]; simp [isSp]
                subst hmt
                clear hm
                go_enter Tryf.func17, Tryf.ntmps17
                go_wp2
                go_ret
                exact ⟨rfl, rfl⟩
              have z9 : (x3 == 9) = false := by simp [y9]
              by_cases y10 : x3 = 10
              · subst y10
                have hmt : m = true := by rw [← hm]; simp [isSp]
                subst hmt
                clear hm
                go_enter Tryf.func17, Tryf.ntmps17
                go_wp2
                go_ret
                exact ⟨rfl, rfl⟩
              have z10 : (x3 == 10) = false := by simp [y10]
              by_cases y13 : x3 = 13
              · subst y13
                have hmt : m = true := by rw [← hm]; simp [isSp]
                subst hmt
                clear hm
                go_enter Tryf.func17, Tryf.ntmps17
                go_wp2
                go_ret
                exact ⟨rfl, rfl⟩
              have z13 : (x3 == 13) = false := by simp [y13]
              have hmf : m = false := by rw [← hm]; simp [isSp, y0, y32, y9, y10, y13]
              subst hmf
              clear hm
              go_enter Tryf.func17, Tryf.ntmps17
              go_wp2
              go_ret
              exact ⟨rfl, rfl⟩
            · have o := O3.out h4
              have h4' : (((q : Int) + 3) == (s.size : Int)) = true := by simp; omega
              have hmt : m = true := by rw [← hm, o]; simp [isSp]
              subst hmt
              clear hm o
              go_enter Tryf.func17, Tryf.ntmps17
              go_wp2
              go_ret
              exact ⟨rfl, rfl⟩
          · have g2 : (x2 == 46) = false := by simp [b2]
            have hmf : m = false := by rw [← hm]; simp [b2]
            subst hmf
            clear hm
            go_enter Tryf.func17, Tryf.ntmps17
            go_wp2
            go_ret
            exact ⟨rfl, rfl⟩
        · have g1 : (x1 == 46) = false := by simp [b1]
          have hmf : m = false := by rw [← hm]; simp [b1]
          subst hmf
          clear hm
          go_enter Tryf.func17, Tryf.ntmps17
          go_wp2
          go_ret
          exact ⟨rfl, rfl⟩
      · have g0' : (x0 == 46) = false := by simp [a1]
        have hmf : m = false := by rw [← hm]; simp [a0, a1]
        subst hmf
        clear hm
        go_enter Tryf.func17, Tryf.ntmps17
        go_wp2
        go_ret
        exact ⟨rfl, rfl⟩
  · have hmf : m = false := by rw [← hm]; simp [h3]
    subst hmf
    have h3' : (s.size : Int) < (q : Int) + 3 := by omega
    clear hm
    go_enter Tryf.func17, Tryf.ntmps17
    go_wp2
    go_ret
    exact ⟨rfl, rfl⟩
end Go.Proofs.Qxb6612529aFmt
