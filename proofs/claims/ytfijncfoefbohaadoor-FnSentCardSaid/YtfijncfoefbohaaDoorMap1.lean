/- A header as the package makes it: a map with no field or with one. -/
import Derived.Test.YtfijncfoefbohaaDoorPtrs
import Derived.MapKept
import Derived.Carry
import Derived.Maps.OwnOps
namespace Go.Proofs.YtfijncfoefbohaaDoor
open Go Go.RowKit Go.MapKept

/-- Block b is a header without a field; with the field k, whose lines are v. -/
def Hdr0 (b : Nat) (w : World) : Prop := w.heap[b]? = some (.map #[] 0)
def Hdr1 (b : Nat) (k : ByteArray) (v : Value) (w : World) : Prop := ∃ c, w.heap[b]? = some (.map #[⟨.string k, v, 0⟩] c)
/-- The world with another map in block b. -/
def hdrPut (w : World) (b : Nat) (es : Array MapEntry) (c : Nat) : World := { w with heap := w.heap.setIfInBounds b (.map es c) }

theorem heap_below {w w' : World} {b : Nat} {x : Obj} (h : w.heap[b]? = some x) (hb : Below w.heap.size w w') : w'.heap[b]? = some x := (hb.block b (Array.getElem?_eq_some_iff.1 h).1).trans h
theorem Hdr0.kept {b : Nat} {w w' : World} (h : Hdr0 b w) (hb : Below w.heap.size w w') : Hdr0 b w' := heap_below h hb
theorem Hdr1.kept {b : Nat} {k : ByteArray} {v : Value} {w w' : World} (h : Hdr1 b k v w) (hb : Below w.heap.size w w') : Hdr1 b k v w' := by
  obtain ⟨c, h⟩ := h; exact ⟨c, heap_below h hb⟩
theorem Hdr0.new (w : World) : Hdr0 w.heap.size (w.alloc (.map #[] 0)) := (heap_alloc w _).1
theorem hdrPut_size (w : World) (b : Nat) (es : Array MapEntry) (c : Nat) : (hdrPut w b es c).heap.size = w.heap.size := by unfold hdrPut; simp
theorem hdrPut_at {w : World} {b : Nat} {x : Obj} (h : w.heap[b]? = some x) (es : Array MapEntry) (c : Nat) : (hdrPut w b es c).heap[b]? = some (.map es c) := (heap_set h).1
theorem hdrPut_grown (w : World) (b : Nat) (es : Array MapEntry) (c : Nat) : w.grownBy (hdrPut w b es c) (some b) :=
  ⟨rfl, rfl, rfl, by rw [hdrPut_size]; exact Nat.le_refl _, fun r' _ hne => by unfold hdrPut; simp [show ¬ b = r' from fun e => hne (by rw [e])]⟩
theorem hdrPut_below {B b : Nat} {w w' : World} (hb : Below B w w') (hB : B ≤ b) (es : Array MapEntry) (c : Nat) : Below B w (hdrPut w' b es c) :=
  hb.trans ⟨rfl, rfl, rfl, by rw [hdrPut_size]; exact Nat.le_refl _, fun r' hr => by unfold hdrPut; simp [show ¬ b = r' by omega]⟩

theorem ba_self (k : ByteArray) : (k == k) = true := by simp [bytes_beq]
theorem findNow_one (k : ByteArray) (v : Value) : Instr.findNow .string (.string k) [⟨.string k, v, 0⟩] 0 = some (some (0, v)) := by
  simp [Instr.findNow, Instr.sameNow, ba_self]
theorem undStr : Tryd.prog.underlying 9 = some .string := Tryd.underlying9
theorem isKeyStr (k : ByteArray) : IsKey .string (.string k) := trivial
theorem run_look0 {w : World} {b : Nat} (k : ByteArray) (h : Hdr0 b w) : (Instr.lookup 75 (.map (some b)) (.string k) false).run Tryd.prog w = .ok (.slice none 0 0) w := by
  have h2 := run_checkKey (P := Tryd.prog) (w := w) undStr (isKeyStr k) true 9999
  have h3 : (Instr.findKey 9 (.string k) []).run Tryd.prog w = .ok none w := run_findKey undStr rfl
  have hz : (zeroValue 24).run Tryd.prog w = .ok (.slice none 0 0) w := by kernel_rfl
  simp [Instr.lookup, run_underlying Tryd.underlying75, MapKept.run_getObj_map h, h2, h3, hz, Result.andThen]
theorem run_look1 {w : World} {b : Nat} {k : ByteArray} {v : Value} (h : Hdr1 b k v w) : (Instr.lookup 75 (.map (some b)) (.string k) false).run Tryd.prog w = .ok v w := by
  obtain ⟨c, h⟩ := h
  have h2 := run_checkKey (P := Tryd.prog) (w := w) undStr (isKeyStr k) false 9999
  have h3 : (Instr.findKey 9 (.string k) [⟨.string k, v, 0⟩]).run Tryd.prog w = .ok (some (0, v)) w := run_findKey undStr (findNow_one k _)
  simp [Instr.lookup, run_underlying Tryd.underlying75, MapKept.run_getObj_map h, h2, h3, Result.andThen]
theorem run_put0 {w : World} {b : Nat} (k : ByteArray) (v : Value) (h : Hdr0 b w) : (Instr.mapUpdate 75 (.map (some b)) (.string k) v).run Tryd.prog w = .ok () (hdrPut w b #[⟨.string k, v, 0⟩] 1) := by
  have h2 := run_checkKey (P := Tryd.prog) (w := w) undStr (isKeyStr k) false 9999
  have h3 : (Instr.findKey 9 (.string k) []).run Tryd.prog w = .ok none w := run_findKey undStr rfl
  simp [Instr.mapUpdate, run_underlying Tryd.underlying75, MapKept.run_getObj_map h, h2, h3, MapKept.run_setObj_map _ h, Result.andThen, hdrPut]
theorem run_stays (w : World) (k : ByteArray) : (Instr.keyThatStays (.string k) (.string k)).run Tryd.prog w = .ok (.string k) w := by
  exact run_keyThatStays (d := .string) (k := .string k) trivial
theorem run_put1 {w : World} {b c : Nat} {k : ByteArray} {v0 : Value} (v : Value) (h : w.heap[b]? = some (.map #[⟨.string k, v0, 0⟩] c)) : (Instr.mapUpdate 75 (.map (some b)) (.string k) v).run Tryd.prog w = .ok () (hdrPut w b #[⟨.string k, v, 0⟩] c) := by
  have h2 := run_checkKey (P := Tryd.prog) (w := w) undStr (isKeyStr k) false 9999
  have h3 : (Instr.findKey 9 (.string k) [⟨.string k, v0, 0⟩]).run Tryd.prog w = .ok (some (0, v0)) w := run_findKey undStr (findNow_one k _)
  simp [Instr.mapUpdate, run_underlying Tryd.underlying75, MapKept.run_getObj_map h, h2, h3, run_stays, MapKept.run_setObj_map _ h, Result.andThen, hdrPut]

section
variable {w : World} {ops : Array Oper} {rest : List Oper} {o : Oper} {a : Act} {Q : Exit → Act → World → Prop}
theorem wpList_look0 (hg : o.guard = none) (m x : Operand) (hop : o.op = Op.lookup 75 m x false) (b : Nat) (k : ByteArray) (hm : a.eval m = .map (some b)) (hx : a.eval x = .string k) (h : Hdr0 b w)
    (hK : wpList Tryd.prog ops Q rest (a.put o.dst (.slice none 0 0)) w) : wpList Tryd.prog ops Q (o :: rest) a w := by
  refine wpList_plain hg fun K' hK' => ?_
  unfold Oper.wp
  simp [execOp, hop, hm, hx, run_look0 k h, Result.andThen]
  exact hK' _ _ hK
theorem wpList_look1 (hg : o.guard = none) (m x : Operand) (hop : o.op = Op.lookup 75 m x false) (b : Nat) (k : ByteArray) (v : Value) (hm : a.eval m = .map (some b)) (hx : a.eval x = .string k) (h : Hdr1 b k v w)
    (hK : wpList Tryd.prog ops Q rest (a.put o.dst v) w) : wpList Tryd.prog ops Q (o :: rest) a w := by
  refine wpList_plain hg fun K' hK' => ?_
  unfold Oper.wp
  simp [execOp, hop, hm, hx, run_look1 h, Result.andThen]
  exact hK' _ _ hK
theorem wpList_insert0 (hg : o.guard = none) (m x v : Operand) (hop : o.op = Op.insert 75 m x v) (b : Nat) (k : ByteArray) (u : Value) (hm : a.eval m = .map (some b)) (hx : a.eval x = .string k) (hv : a.eval v = u) (h : Hdr0 b w)
    (hK : wpList Tryd.prog ops Q rest (a.put o.dst undef) (hdrPut w b #[⟨.string k, u, 0⟩] 1)) : wpList Tryd.prog ops Q (o :: rest) a w := by
  refine wpList_plain hg fun K' hK' => ?_
  unfold Oper.wp
  simp [execOp, hop, hm, hx, hv, run_put0 k u h, Result.andThen]
  exact hK' _ _ hK
theorem wpList_update0 (hg : o.guard = none) (m x v : Operand) (hop : o.op = Op.mapUpdate 75 m x v) (b : Nat) (k : ByteArray) (u : Value) (hm : a.eval m = .map (some b)) (hx : a.eval x = .string k) (hv : a.eval v = u) (h : Hdr0 b w)
    (hK : wpList Tryd.prog ops Q rest (a.put o.dst undef) (hdrPut w b #[⟨.string k, u, 0⟩] 1)) : wpList Tryd.prog ops Q (o :: rest) a w := by
  refine wpList_plain hg fun K' hK' => ?_
  unfold Oper.wp
  simp [execOp, hop, hm, hx, hv, run_put0 k u h, Result.andThen]
  exact hK' _ _ hK
theorem wpList_update1 (hg : o.guard = none) (m x v : Operand) (hop : o.op = Op.mapUpdate 75 m x v) (b c : Nat) (k : ByteArray) (u v0 : Value) (hm : a.eval m = .map (some b)) (hx : a.eval x = .string k) (hv : a.eval v = u) (h : w.heap[b]? = some (.map #[⟨.string k, v0, 0⟩] c))
    (hK : wpList Tryd.prog ops Q rest (a.put o.dst undef) (hdrPut w b #[⟨.string k, u, 0⟩] c)) : wpList Tryd.prog ops Q (o :: rest) a w := by
  refine wpList_plain hg fun K' hK' => ?_
  unfold Oper.wp
  simp [execOp, hop, hm, hx, hv, run_put1 u h, Result.andThen]
  exact hK' _ _ hK
end
end Go.Proofs.YtfijncfoefbohaaDoor
