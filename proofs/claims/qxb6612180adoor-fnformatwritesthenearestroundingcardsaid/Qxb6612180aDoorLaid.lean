/-
  From the row's listed variables to what the walk asks of the world.
-/
import Derived.Test.Qxb6612180aDoorLaw
import Derived.ProofKit
import Derived.LaidMore
import Derived.OpenShut
import Derived.Stop.Joined
namespace Go.Proofs.Qxb6612180aDoor
open Go.ChangeShapes Go.WideShapes Go.ChangeAt Go.WideMaps Go.WideElems Go.RowKit

theorem own : ownKnob Tryd.prog.godebug = none := by kernel_rfl
theorem laidOut : laidOutB Tryd.prog = true := by kernel_rfl
/-- The program's own table, by its name in the row's list. -/
def tenName : String := Rows.fnFormatWritesTheNearestRoundingRow.named.getD 0 ""
theorem gTen : Tryd.prog.globalNamed tenName = some 0 := by kernel_rfl
theorem gTab : Tryd.prog.globalNamed tabName = some 1 := by kernel_rfl
theorem tTen : (Tryd.prog.globals[0]?).map (·.type) = some 38 := by kernel_rfl
theorem tTab : (Tryd.prog.globals[1]?).map (·.type) = some 54 := by kernel_rfl
theorem cells2 : Tryd.prog.cellsOf 2 = 1 := by kernel_rfl
theorem cells32 : Tryd.prog.cellsOf 32 = 1 := by kernel_rfl
theorem cells38 : Tryd.prog.cellsOf 38 = 19 := by kernel_rfl
theorem cells54 : Tryd.prog.cellsOf 54 = 20 := by kernel_rfl
def laid4 : List (String × DataW Unit) := Rows.fnFormatWritesTheNearestRoundingRow.laid
def tens : List Int := (List.range 19).map fun i => 10 ^ i

theorem datum_tab : (Rows.laid_internal_strconv_uint64pow10 : DataW Unit) = Lib.tabData .u64 Lib.pow10Tab := by rfl
theorem datum_ten : (Rows.laid_example_com_tenderbook_tenderbook_decimal_pow10 : DataW Unit) = Lib.tabData .i64 tens := by rfl

/-- The door's own heap meets the condition. -/
theorem door_met (os : Os) (args : Array Value) : laidMetH Tryd.prog laid4 ((World.doorLaid Tryd.prog 546 os).forCall (fun _ _ => 0) ⟨#[], args, []⟩).memory :=
  laidMetH_of_parts3 (fuel := 8) (laidMet_of_run' 8 (by kernel_rfl) (by kernel_rfl)) (by kernel_rfl) (by kernel_rfl)

/-- What the condition gives the walk. -/
theorem of_laid {W : World} (h : laidMetH Tryd.prog laid4 W) : Env W := by
  rw [MakeChecks.laidMetH_plain _ _ _ (by kernel_rfl)] at h
  obtain ⟨ps, ⟨g0, t0, cs0, f0, p0, q0, hg0, ht0, hv0, hd0, ⟨g1, t1, cs1, f1, p1, q1, hg1, ht1, hv1, hd1, ⟨g2, t2, cs2, f2, p2, q2, hg2, ht2, hv2, hd2, ⟨g3, t3, cs3, f3, p3, q3, hg3, ht3, hv3, hd3, _, _⟩, _⟩, _⟩, _⟩, _, _⟩ := h
  clear hd0 hd1 hv0 hv1
  obtain rfl := Option.some.inj (gTab.symm.trans hg2)
  obtain rfl := Option.some.inj (gTen.symm.trans hg3)
  obtain rfl := Option.some.inj (tTab.symm.trans ht2)
  obtain rfl := Option.some.inj (tTen.symm.trans ht3)
  rw [datum_tab] at hd2
  rw [datum_ten] at hd3
  have e2 := Lib.cells_of_tab Tryd.underlying54 Tryd.underlying32 cells32 cells54 hd2
  have e3 := Lib.cells_of_tab Tryd.underlying38 Tryd.underlying2 cells2 cells38 hd3
  have T2 : Lib.TabIs Tryd.prog W tabName .u64 Lib.pow10Tab := by
    unfold Lib.TabIs
    rw [← e2]
    exact hv2
  have T3 : Lib.TabIs Tryd.prog W tenName .i64 tens := by
    unfold Lib.TabIs
    rw [← e3]
    exact hv3
  have c3 : ∀ i, i ≤ 18 → W.cell? ⟨0, i, none⟩ = some (.int .i64 (10 ^ i)) := by
    intro i hi
    rw [T3.cell gTen i (by simp [tens]; omega)]
    simp [tens, List.getD, List.getElem?_range (show i < 19 by omega)]
  exact ⟨T2, World.block_lt_of_cell? _ _ (c3 0 (by omega)), c3⟩

#print axioms of_laid
#print axioms door_met
end Go.Proofs.Qxb6612180aDoor
