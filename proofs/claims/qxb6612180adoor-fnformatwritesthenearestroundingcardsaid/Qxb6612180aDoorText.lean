/-
  (Decimal).text: what it writes, as a plain function of coef, scale and places: the plain function, and the contracts that its walk takes.
-/
import Derived.Test.Qxb6612180aDoorInsert
namespace Go.Proofs.Qxb6612180aDoor
open Go Go.RowKit

theorem hide {p : Prop} (h : p) : Hid p := h
theorem ret_int {k : IntKind} {a b : Int} (h : a = b) : Ending.returned (.int k a) = .returned (.int k b) := by rw [h]

def sgn (coef : Int) : List UInt8 := if coef < 0 then [45] else []
def zs (k : Nat) : List UInt8 := List.replicate k 48
def dg (coef : Int) : List UInt8 := Lib.decDigits coef.natAbs
/-- The sign, leading zeros so that a digit stands before the point, the digits. -/
def body1 (coef : Int) (k : Nat) : List UInt8 := sgn coef ++ (zs k ++ dg coef)
/-- So many leading zeros. -/
def lead (coef : Int) (scale : Nat) : Nat := scale + 1 - (dg coef).length
def dot (coef : Int) (scale : Nat) : List UInt8 := ins ((body1 coef (lead coef scale)).length - scale) 46 (body1 coef (lead coef scale))
def textOf (coef : Int) (scale places : Nat) : List UInt8 :=
  if places = 0 then body1 coef (lead coef scale) else dot coef scale ++ zs (places - scale)

theorem zs_length (k : Nat) : (zs k).length = k := by simp [zs]
theorem sgn_le (coef : Int) : (sgn coef).length ≤ 1 := by unfold sgn; split <;> simp
theorem body1_length (coef : Int) (k : Nat) : (body1 coef k).length = (sgn coef).length + k + (dg coef).length := by
  unfold body1
  rw [List.length_append, List.length_append, zs_length]
  omega

theorem ins_body1 (coef : Int) (k : Nat) : ins (sgn coef).length 48 (body1 coef k) = body1 coef (k + 1) := by
  unfold ins body1
  rw [List.take_left, List.drop_left]
  rfl

theorem zs_snoc (k : Nat) : zs k ++ [48] = zs (k + 1) := by
  unfold zs
  rw [List.replicate_succ']

theorem dg_le (coef : Int) (h1 : -1000000000000000000 < coef) (h2 : coef < 1000000000000000000) : 1 ≤ (dg coef).length ∧ (dg coef).length ≤ 20 := by
  unfold dg
  refine ⟨?_, digits_le _ (by omega)⟩
  rw [Lib.decDigits_length]
  exact Lib.nDigits_pos _

/-- For a loop's measure. -/
def lenOf : Value → Nat | .slice _ n _ => n | _ => 0

theorem mag_any (x : Int) (w : World) (h1 : -1000000000000000000 < x) (h2 : x < 1000000000000000000) :
    Calls Tryd.prog 18 #[.int .i64 x] w fun e w' => e = .returned (.int .u64 x.natAbs) ∧ w = w' := by
  by_cases h : x < 0
  · go_enter Tryd.func18, Tryd.ntmps18
    go_wp2
    go_ret
    exact ⟨ret_int (by omega), rfl⟩
  · go_enter Tryd.func18, Tryd.ntmps18
    go_wp2
    go_ret
    exact ⟨ret_int (by omega), rfl⟩

theorem brow_new {B : Nat} {w : World} {g cap : Nat} {arr : Array Value} {t : TypeId} (hB : B ≤ g) (hg : g = w.heap.size) (hs : arr.size = cap) (h0 : cap ≠ 0) (hm : cap ≤ maxLen) : BRow B (w.alloc (.cells arr t)) g cap [] := by
  subst hg
  have hnew : (w.alloc (.cells arr t)).heap[w.heap.size]? = some (.cells arr t) := heap_alloc_new w _
  refine ⟨hB, Nat.zero_le _, hm, fun j u hu => by simp [bcells] at hu, fun j hj => ?_, fun j => ?_, ⟨t, cap, ?_, h0⟩⟩
  · rw [cell_of_block hnew, Array.getElem?_eq_getElem (by omega)]
    rfl
  · unfold World.frozen?
    rw [hnew]
    simp
  · unfold World.shape?
    rw [hnew]
    simp only [hs]

/-- strconv.AppendUint where there is room. -/
theorem appendUint_room {B g cap n : Nat} {bs : List UInt8} {u : Nat} {w : World} (h : BRow B w g cap bs) (hn : n = bs.length) (hu64 : u < 18446744073709551616) (hBw : B ≤ w.heap.size) (hb : bs.length + 20 ≤ 140737488355328) (hr : bs.length + (Lib.decDigits u).length ≤ cap)
    (htab : Lib.TabIs Tryd.prog w tabName .u64 Lib.pow10Tab) :
    Calls Tryd.prog 20 #[.slice (some ⟨g, 0, none⟩) n cap, .int .u64 u, .int .i64 10] w fun e w' => ∃ n', e = .returned (.slice (some ⟨g, 0, none⟩) n' cap) ∧ n' = (bs ++ Lib.decDigits u).length ∧ BRow B w' g cap (bs ++ Lib.decDigits u) ∧ Below B w w' := by
  subst hn
  refine (appendUint_any B g cap bs u hu64 w h hBw hb htab).mono ?_
  rintro e w' ⟨g', cap', rfl, r1, r2, r3⟩
  obtain ⟨rfl, rfl⟩ := r3 hr
  exact ⟨_, rfl, by rw [List.length_append], r1, r2⟩

/-- slices.Insert of one byte that the call itself lays, room. -/
theorem insert_new {B g cap n i : Nat} {iv cv : Int} {bs : List UInt8} {c : UInt8} {W : World} (h : BRow B W g cap bs) (hn : n = bs.length) (hiv : iv = (i : Int)) (hcv : cv = (c.toNat : Int)) (hi : i ≤ n) (hr : n + 1 ≤ cap) (hb : n + 1 ≤ 140737488355328) (hBw : B ≤ W.heap.size) :
    Calls Tryd.prog 21 #[.slice (some ⟨g, 0, none⟩) n cap, .int .i64 iv, .slice (some ⟨W.heap.size, 0, none⟩) 1 1] (W.alloc (.cells #[.int .u8 cv] 5)) fun e w' =>
      e = .returned (.slice (some ⟨g, 0, none⟩) (n + 1) cap) ∧ BRow B w' g cap (ins i c bs) ∧ Below B W w' := by
  subst hn hiv hcv
  have hnew : (W.alloc (.cells #[.int .u8 (c.toNat : Int)] 5)).heap[W.heap.size]? = some (.cells #[.int .u8 (c.toNat : Int)] 5) := heap_alloc_new W _
  have hvs : (W.alloc (.cells #[.int .u8 (c.toNat : Int)] 5)).cell? ⟨W.heap.size, 0, none⟩ = some (.int .u8 (c.toNat : Int)) := by rw [cell_of_block hnew]; rfl
  have hbel : Below B W (W.alloc (.cells #[.int .u8 (c.toNat : Int)] 5)) := (Below.refl B W).alloc hBw _
  have hsz : (W.alloc (.cells #[.int .u8 (c.toNat : Int)] 5)).heap.size = W.heap.size + 1 := by simp
  by_cases hlt : i < bs.length
  · refine (insert_shift (c := c) (h.alloc _) hlt hr (fun e => by have := h.lt; omega) hvs 5 1 ?_ (fun j => ?_)).mono ?_
    · unfold World.shape?; rw [hnew]; rfl
    · unfold World.frozen?; rw [hnew]; simp
    · rintro e w' ⟨rfl, r1, r2⟩
      exact ⟨rfl, r1, hbel.trans r2⟩
  · obtain rfl : i = bs.length := by omega
    refine (insert_end (c := c) (h.alloc _) (by omega) hr hb hvs).mono ?_
    rintro e w' ⟨rfl, r1, r2⟩
    exact ⟨rfl, r1, hbel.trans r2⟩

end Go.Proofs.Qxb6612180aDoor
