/-
  Laws on a row of bytes of the call's own, told by its cells (whatever the block's type tag: an array that is sliced, or a row that append made): BRow. No program in sight.
-/
import Derived.WalkKit
import Derived.Deep.AppendSrc
import Derived.Laws.BytesArg
import Derived.Deep.Draws
namespace Go.Proofs.Qxb6612180aDoor
open Go Go.RowKit

def bcells (l : List UInt8) : List Value := l.map fun b => Value.int .u8 (b.toNat : Int)

theorem bcells_length (l : List UInt8) : (bcells l).length = l.length := by simp [bcells]
theorem bcells_append (l m : List UInt8) : bcells (l ++ m) = bcells l ++ bcells m := by simp [bcells]
theorem bcells_one (l : List UInt8) : ∀ u ∈ bcells l, u.oneCell' = true := by
  intro u hu
  obtain ⟨_, _, rfl⟩ := List.mem_map.1 hu
  rfl

/-- bs.length bytes in block g, capacity cap, among the call's own blocks (from B on). -/
structure BRow (B : Nat) (w : World) (g cap : Nat) (bs : List UInt8) : Prop where
  ge : B ≤ g
  le : bs.length ≤ cap
  max : cap ≤ maxLen
  holds : ∀ j u, (bcells bs)[j]? = some u → w.cell? ⟨g, j, none⟩ = some u
  there : ∀ j, j < cap → (w.cell? ⟨g, j, none⟩).isSome = true
  free : ∀ j, w.frozen? ⟨g, j, none⟩ = false
  shp : ∃ t k, w.shape? g = some (t, k) ∧ k ≠ 0

theorem shape?_of_block {w w' : World} {g : Nat} (h : w'.heap[g]? = w.heap[g]?) : w'.shape? g = w.shape? g := by simp [World.shape?, h]

theorem shape?_setCell (w : World) (a : Addr) (v : Value) (g : Nat) : (w.setCell a v).shape? g = w.shape? g := by
  by_cases hb : a.block = g
  · unfold World.shape? World.setCell
    simp only [Array.getElem?_modify, hb, if_true]
    cases h : w.heap[g]? with
    | none => rfl
    | some o =>
      cases o with
      | cells c e r =>
        simp only [Option.map_some]
        split <;> simp
      | _ => rfl
  · exact shape?_of_block (Below.heap_setCell w a v g (fun e => hb e.symm))

theorem cell_of_block {w : World} {g : Nat} {arr : Array Value} {e : TypeId} {r : Nat × Nat} (h : w.heap[g]? = some (.cells arr e r)) (j : Nat) : w.cell? ⟨g, j, none⟩ = arr[j]? := by simp [World.cell?, h]

theorem shape?_setCells (b : Nat) : ∀ (vs : List Value) (o : Nat) (w : World) (g : Nat), (w.setCells b o vs).shape? g = w.shape? g
  | [], _, _, _ => rfl
  | v :: r, o, w, g => by rw [World.setCells, shape?_setCells b r, shape?_setCell]

theorem below_setCells {B : Nat} (b : Nat) (hb : B ≤ b) : ∀ (vs : List Value) (o : Nat) (w : World), Below B w (w.setCells b o vs)
  | [], _, w => Below.refl _ _
  | v :: r, o, w => by
    rw [World.setCells]
    exact ((Below.refl B w).setCell (p := ⟨b, o, none⟩) hb v).trans (below_setCells b hb r (o + 1) _)

/-- The row lies in one block: a world that has that block as it was has the row. -/
theorem BRow.carry {B : Nat} {w w' : World} {g cap : Nat} {bs : List UInt8} (h : BRow B w g cap bs) (e : w'.heap[g]? = w.heap[g]?) : BRow B w' g cap bs :=
  ⟨h.ge, h.le, h.max, fun j u hu => (World.cell?_of_block (a := ⟨g, j, none⟩) e).trans (h.holds j u hu), fun j hj => by rw [World.cell?_of_block (a := ⟨g, j, none⟩) e]; exact h.there j hj,
    fun j => (World.frozen?_of_block (a := ⟨g, j, none⟩) e).trans (h.free j), by rw [shape?_of_block e]; exact h.shp⟩

theorem BRow.lt {B : Nat} {w : World} {g cap : Nat} {bs : List UInt8} (h : BRow B w g cap bs) : g < w.heap.size := by
  obtain ⟨t, k, hs, _⟩ := h.shp
  rcases Nat.lt_or_ge g w.heap.size with hl | hl
  · exact hl
  · rw [World.shape?, Array.getElem?_eq_none hl] at hs
    cases hs

theorem BRow.alloc {B : Nat} {w : World} {g cap : Nat} {bs : List UInt8} (h : BRow B w g cap bs) (o : Obj) : BRow B (w.alloc o) g cap bs :=
  h.carry (Below.heap_alloc w o g h.lt)

theorem BRow.drewN {B : Nat} {w : World} {g cap : Nat} {bs : List UInt8} (h : BRow B w g cap bs) (n : Nat) : BRow B (w.drewN n) g cap bs := h.carry rfl

/-- Behind stores into the row's own block: the row as the cells then say. -/
theorem BRow.stored {B : Nat} {w : World} {g cap : Nat} {bs : List UInt8} (h : BRow B w g cap bs) (o : Nat) (vs : List Value) (bs' : List UInt8) (hle : bs'.length ≤ cap)
    (hin : o + vs.length ≤ cap) (hh : ∀ j u, (bcells bs')[j]? = some u → if o ≤ j ∧ j < o + vs.length then vs[j - o]? = some u else (bcells bs)[j]? = some u) : BRow B (w.setCells g o vs) g cap bs' := by
  have hth : ∀ j, j < vs.length → (w.cell? ⟨g, o + j, none⟩).isSome = true := fun j hj => h.there _ (by omega)
  refine ⟨h.ge, hle, h.max, fun j u hu => ?_, fun j hj => ?_, fun j => by rw [World.frozen?_setCells]; exact h.free j, by rw [shape?_setCells]; exact h.shp⟩
  · have hj := hh j u hu
    by_cases hr : o ≤ j ∧ j < o + vs.length
    · rw [if_pos hr] at hj
      have := World.cell?_setCells_in g vs o w hth (j - o) (by omega)
      rw [show o + (j - o) = j by omega] at this
      rw [this, ← hj, List.getElem?_eq_getElem]
    · rw [if_neg hr] at hj
      rw [World.cell?_setCells_out g vs o w ⟨g, j, none⟩ (fun _ _ => by show j < o ∨ o + vs.length ≤ j; omega)]
      exact h.holds j u hj
  · by_cases hr : o ≤ j ∧ j < o + vs.length
    · have := World.cell?_setCells_in g vs o w hth (j - o) (by omega)
      rw [show o + (j - o) = j by omega] at this
      rw [this]; rfl
    · rw [World.cell?_setCells_out g vs o w ⟨g, j, none⟩ (fun _ _ => by show j < o ∨ o + vs.length ≤ j; omega)]
      exact h.there j hj

section
variable {P : Program}

/-- append of bytes onto the row, out of whatever source. -/
theorem run_append_brow {B : Nat} {w : World} {g cap : Nat} {bs : List UInt8} (h : BRow B w g cap bs) (hBw : B ≤ w.heap.size) (t tx ty e : TypeId) (i : TypeInfo) (ht : P.underlying t = some (.slice e)) (hi : P.info? e = some i)
    (hz : i.zero = some (.int .u8 0)) (hsz : i.size = 1) (hby : i.bytes = 1) (x : Value) (ns : List UInt8) (hs : Src P 1 tx x ns.length (bcells ns) w) (hb : bs.length + ns.length ≤ 140737488355328) :
    ∃ g' cap' w', (Builtin.append_ #[t, tx] ty #[.slice (some ⟨g, 0, none⟩) bs.length cap, x]).run P w = .ok (.slice (some ⟨g', 0, none⟩) (bs.length + ns.length) cap') w' ∧
      BRow B w' g' cap' (bs ++ ns) ∧ Below B w w' ∧ (bs.length + ns.length ≤ cap → g' = g ∧ cap' = cap) := by
  by_cases hroom : bs.length + ns.length ≤ cap
  · have hr := run_append_room_src (P := P) w t tx ty e i ht hi g 0 bs.length cap x ns.length (bcells ns) (by rw [hsz]; exact hs) hroom
      (fun j hj => by rw [bcells_length] at hj; rw [hsz, Nat.mul_one, Nat.zero_add]; exact h.there _ (by omega)) (fun j _ => h.free _)
    rw [hsz, Nat.mul_one, Nat.zero_add] at hr
    refine ⟨g, cap, _, hr, h.stored _ _ _ (by simpa using hroom) (by rw [bcells_length]; exact hroom) (fun j u hu => ?_), below_setCells g h.ge _ _ _, fun _ => ⟨rfl, rfl⟩⟩
    rw [bcells_append] at hu
    rw [bcells_length]
    by_cases hj : j < bs.length
    · rw [if_neg (by omega)]
      rwa [List.getElem?_append_left (by rw [bcells_length]; exact hj)] at hu
    · rw [List.getElem?_append_right (by rw [bcells_length]; omega), bcells_length] at hu
      have := (List.getElem?_eq_some_iff.1 hu).1
      rw [bcells_length] at this
      rw [if_pos (by omega)]
      exact hu
  · have hold : (Builtin.firstCells i.size bs.length (.slice (some ⟨g, 0, none⟩) bs.length cap)).run P w.drew = .ok (bcells bs).toArray w.drew := by
      refine run_firstCells_some w.drew i.size bs.length ⟨g, 0, none⟩ bs.length cap (bcells bs) (by rw [bcells_length, hsz, Nat.mul_one]) (fun j u hu => ?_)
      rw [Go.WideShapes.add_plain, Nat.zero_add]
      exact h.holds j u hu
    have hm : bs.length + ns.length ≤ maxLen := by unfold maxLen; omega
    have hr := run_append_grow_src (P := P) w t tx ty e i (.int .u8 0) ht hi hz (some ⟨g, 0, none⟩) bs.length cap (bcells bs) hold x ns.length (bcells ns) (by rw [hsz]; exact hs) (by omega) (by unfold maxLen at hm; omega)
      (growslice_fits (by omega) (by rw [hby, Nat.mul_one]; exact hb))
    have hge := grownCap_ge w (bs.length + ns.length) cap e
    have hcm := grownCap_le_maxLen w (bs.length + ns.length) cap e hm
    generalize hcap' : grownCap w (bs.length + ns.length) cap e = cap' at hr hge hcm
    have hcs : ((bcells bs ++ bcells ns).toArray ++ Builtin.zeroCells (Value.int .u8 0).cells (cap' - (bs.length + ns.length))).size = cap' := by
      rw [Array.size_append, size_zeroCells, List.size_toArray, List.length_append, bcells_length, bcells_length]
      show bs.length + ns.length + (cap' - (bs.length + ns.length)) * 1 = cap'
      omega
    have hnew : (w.drew.alloc (.cells ((bcells bs ++ bcells ns).toArray ++ Builtin.zeroCells (Value.int .u8 0).cells (cap' - (bs.length + ns.length))) e)).heap[w.heap.size]? = some (.cells ((bcells bs ++ bcells ns).toArray ++ Builtin.zeroCells (Value.int .u8 0).cells (cap' - (bs.length + ns.length))) e) := heap_alloc_new w.drew _
    refine ⟨w.heap.size, cap', _, hr, ⟨hBw, by simpa using hge, hcm, fun j u hu => ?_, fun j hj => ?_, fun j => ?_, ⟨e, cap', ?_, ?_⟩⟩, ((Below.refl B w).drew).alloc hBw _, fun hc => absurd hc hroom⟩
    · rw [bcells_append] at hu
      rw [cell_of_block hnew, ← hu, ← Array.getElem?_toList, Array.toList_append]
      exact List.getElem?_append_left (List.getElem?_eq_some_iff.1 hu).1
    · rw [cell_of_block hnew, Array.getElem?_eq_getElem (by rw [hcs]; exact hj)]
      rfl
    · unfold World.frozen?
      rw [hnew]
      simp
    · unfold World.shape?
      rw [hnew]
      simp only [hcs]
    · omega

/-- .. for the walk. -/
theorem wpList_append_brow {B : Nat} {w : World} {ops : Array Oper} {rest : List Oper} {o : Oper} {a : Act} {Q : Exit → Act → World → Prop} (hg : o.guard = none) (s x : Operand) (t tx : TypeId)
    (hop : o.op = Op.call { callee := Callee.builtin Builtin.append, args := #[s, x], argTypes := #[t, tx] }) (e : TypeId) (i : TypeInfo) (ht : P.underlying t = some (.slice e)) (hi : P.info? e = some i)
    (hz : i.zero = some (.int .u8 0)) (hsz : i.size = 1) (hby : i.bytes = 1) {g cap n : Nat} {bs : List UInt8} (hs : a.eval s = .slice (some ⟨g, 0, none⟩) n cap) (hn : n = bs.length) (h : BRow B w g cap bs) (hBw : B ≤ w.heap.size)
    {xv : Value} (hx : a.eval x = xv) (ns : List UInt8) (hsrc : Src P 1 tx xv ns.length (bcells ns) w) (hb : bs.length + ns.length ≤ 140737488355328)
    (hK : ∀ g' cap' w', BRow B w' g' cap' (bs ++ ns) → Below B w w' → (bs.length + ns.length ≤ cap → g' = g ∧ cap' = cap) → wpList P ops Q rest (a.put o.dst (.slice (some ⟨g', 0, none⟩) (bs.length + ns.length) cap')) w') :
    wpList P ops Q (o :: rest) a w := by
  subst hn
  refine wpList_plain hg fun K hK' => ?_
  obtain ⟨g', cap', w', hrun, r1, r2, r3⟩ := run_append_brow (P := P) h hBw t tx o.type e i ht hi hz hsz hby xv ns hsrc hb
  unfold Oper.wp
  simp [execOp, hop, resolve, invoke, builtin, hs, hx, hrun, Result.andThen]
  exact hK' _ _ (hK g' cap' w' r1 r2 r3)

/-- A one-byte slice that the text lays ('append(b, c)'), as a source. -/
theorem src_one {t e : TypeId} (ht : P.underlying t = some (.slice e)) (w : World) (a : Nat) (c : UInt8) (hc : w.cell? ⟨a, 0, none⟩ = some (.int .u8 c.toNat)) : Src P 1 t (.slice (some ⟨a, 0, none⟩) 1 1) [c].length (bcells [c]) w :=
  Src.ofSlice w ht ⟨a, 0, none⟩ 1 1 (bcells [c]) rfl (fun j u hu => by
    match j, hu with
    | 0, hu => cases hu; exact hc) (bcells_one _)

/-- string(b). -/
theorem run_string_brow {B : Nat} {w : World} {g cap : Nat} {bs : List UInt8} (h : BRow B w g cap bs) {src e dst : TypeId} (hs : P.underlying src = some (.slice e)) (he : P.underlying e = some (.int .u8)) (hd : P.underlying dst = some .string) :
    (convert src dst (.slice (some ⟨g, 0, none⟩) bs.length cap)).run P w = .ok (.string ⟨bs.toArray⟩) w := by
  rw [run_convert_bytes_arg w src e hs he g 0 bs.length cap (bs.map fun b => (b.toNat : Int)) (by simp) (fun i hi' => by
    rw [Nat.zero_add]
    refine h.holds i _ ?_
    simp [bcells, List.getElem?_eq_getElem hi', List.getD]) dst hd]
  have : (bs.map fun b => (b.toNat : Int)).map (fun n => UInt8.ofNat n.toNat) = bs := by
    rw [List.map_map]
    conv => rhs; rw [← List.map_id bs]
    refine List.map_congr_left fun b _ => ?_
    simp
  unfold strOfNums
  rw [this]

end
end Go.Proofs.Qxb6612180aDoor
