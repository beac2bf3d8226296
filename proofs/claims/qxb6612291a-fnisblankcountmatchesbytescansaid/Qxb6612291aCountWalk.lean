/-
  The walk of FnIsBlankCountMatchesByteScan: the range over the runes, then the loop over the bytes.
-/
import Derived.Test.Qxb6612291aCount
import Derived.WalkKit
import Derived.ProofKit

namespace Go.Proofs.Qxb6612291a.fnIsBlankCountMatchesByteScan
open Go.RowKit

theorem wrap32_byte (b : UInt8) : wrap32 (b.toNat : Int) = (b.toNat : Int) := by
  have := b.toNat_lt
  unfold wrap32
  omega

theorem grown_iter (w : World) (s : ByteArray) (pos : Nat) : Grown w (w.iter s pos) := by
  refine ⟨World.keptBut_alloc w _ _, fun a => ?_, by show w.heap.size ≤ (w.heap.push _).size; simp⟩
  by_cases h : a.block = w.heap.size
  · have e1 : (w.iter s pos).heap[a.block]? = some (.stringIter s pos) := by rw [h]; exact World.iter_heap w s pos
    have e2 : w.heap[a.block]? = none := by rw [h]; simp
    simp [World.frozen?, e1, e2]
  · exact World.frozen?_alloc_old _ _ _ h

set_option maxHeartbeats 1000000 in
theorem walk (a0 : ByteArray) (w0 : a0.size ≤ maxLen) (w : World) :
    Calls Try.prog 4 #[.string a0] w fun e w' => e = .returned (.bool true) ∧ Grown w w' := by
  unfold maxLen at w0
  by_cases hbig : (1048576 : Int) < a0.size
  · go_enter Try.func4, Try.ntmps4
    go_wp2
    go_ret
    exact ⟨rfl, Grown.refl _⟩
  · go_enter Try.func4, Try.ntmps4
    go_wp2
    go_loopw [3] (fun n w' => ∃ pos : Nat, pos ≤ a0.size ∧ w' = w.iter a0 pos ∧ n = .int .i64 (cntTo a0 pos)) (fun _ w' => a0.size - w'.iterPos w.heap.size)
    case atStart => exact ⟨0, Nat.zero_le _, rfl, rfl⟩
    case round =>
      obtain ⟨pos, hpos, rfl, rfl⟩ := hrel
      have hle := cntTo_le a0 pos
      by_cases hp : pos < a0.size
      · have hnx : ∀ ty, (Instr.next (.pointer (some ⟨w.heap.size, 0, none⟩)) true ty).run Try.prog (w.iter a0 pos) = _ := fun ty => run_next_any w a0 pos ty hp
        obtain ⟨h1, h2, h3⟩ := cntTo_rune a0 pos hp
        have H3 : Hid (_ = _) := h3
        clear h3
        by_cases hb : blankB ((Utf8.decode a0 pos).1 : Int) = true
        · go_wp2_with (go_at_call 10; refine (zzIsBlank_any _ _).mono ?_; rintro e w' ⟨rfl, rfl⟩)
          go_roundw
          case rel => exact ⟨pos + (Utf8.decode a0 pos).2, h2, rfl, by rw [H3.out, if_pos hb]; go_num⟩
          case measure => simp; omega
        · have hb : blankB ((Utf8.decode a0 pos).1 : Int) = false := by simpa using hb
          go_wp2_with (go_at_call 10; refine (zzIsBlank_any _ _).mono ?_; rintro e w' ⟨rfl, rfl⟩)
          go_roundw
          case rel => exact ⟨pos + (Utf8.decode a0 pos).2, h2, rfl, by rw [H3.out, hb]; go_num⟩
          case measure => simp; omega
      · have hnx : ∀ ty, (Instr.next (.pointer (some ⟨w.heap.size, 0, none⟩)) true ty).run Try.prog (w.iter a0 pos) = _ := fun ty => run_next_end w a0 pos ty hp
        obtain rfl : pos = a0.size := by omega
        go_wp2
        go_loop [6, 7] (fun n i => ∃ k : Nat, k ≤ a0.size ∧ i = .int .i64 k ∧ n = .int .i64 (cntTo a0 k)) (fun _ i => a0.size - (intOf i).toNat)
        case atStart => exact ⟨0, Nat.zero_le _, rfl, rfl⟩
        case round =>
          obtain ⟨k, hk, rfl, rfl⟩ := hrel
          have hlk := cntTo_le a0 k
          by_cases hlt : k < a0.size
          · have H3 : Hid (_ = _) := cntTo_byte a0 k hlt
            have hlaw := blank_law ((a0[k]'hlt).toNat : Int)
            have HL : Hid (_ = _) := hlaw
            have hwr : wrap32 ((a0[k]'hlt).toNat : Int) = ((a0[k]'hlt).toNat : Int) := wrap32_byte _
            clear hlaw
            by_cases ha : ascB ((a0[k]'hlt).toNat : Int) = true
            · by_cases hb : brkB ((a0[k]'hlt).toNat : Int) = true
              · have HZ : Hid (cntTo a0 (k + 1) = cntTo a0 k) := by show _ = _; rw [H3.out, HL.out, ha, hb]; rfl
                go_wp2_with (first
                  | (go_at_call 8; refine (asc_any _ _).mono ?_; rintro e w' ⟨rfl, rfl⟩)
                  | (go_at_call 9; refine (brk_any _ _).mono ?_; rintro e w' ⟨rfl, rfl⟩))
                go_round
                case rel => exact ⟨k + 1, by omega, by go_num, by rw [HZ.out]⟩
                case measure => simp [intOf]; omega
              · have hb : brkB ((a0[k]'hlt).toNat : Int) = false := by simpa using hb
                have HZ : Hid (cntTo a0 (k + 1) = cntTo a0 k + 1) := by show _ = _; rw [H3.out, HL.out, ha, hb]; rfl
                go_wp2_with (first
                  | (go_at_call 8; refine (asc_any _ _).mono ?_; rintro e w' ⟨rfl, rfl⟩)
                  | (go_at_call 9; refine (brk_any _ _).mono ?_; rintro e w' ⟨rfl, rfl⟩))
                go_round
                case rel => exact ⟨k + 1, by omega, by go_num, by rw [HZ.out]; go_num⟩
                case measure => simp [intOf]; omega
            · have ha : ascB ((a0[k]'hlt).toNat : Int) = false := by simpa using ha
              have HZ : Hid (cntTo a0 (k + 1) = cntTo a0 k) := by show _ = _; rw [H3.out, HL.out, ha]; rfl
              go_wp2_with (first
                | (go_at_call 8; refine (asc_any _ _).mono ?_; rintro e w' ⟨rfl, rfl⟩)
                | (go_at_call 9; refine (brk_any _ _).mono ?_; rintro e w' ⟨rfl, rfl⟩))
              go_round
              case rel => exact ⟨k + 1, by omega, by go_num, by rw [HZ.out]⟩
              case measure => simp [intOf]; omega
          · obtain rfl : k = a0.size := by omega
            go_wp2
            go_ret
            exact ⟨by simp, grown_iter _ _ _⟩

#print axioms walk
end Go.Proofs.Qxb6612291a.fnIsBlankCountMatchesByteScan
