/- Slices of pointers to cookies, slices of cookies, slices of texts: what of the call's own stands while more memory is made. -/
import Derived.Test.YtfijncfoefbohaaGreatDoorFits
import Derived.Test.YtfijncfoefbohaaGreatDoorPairs
import Derived.Test.YtfijncfoefbohaaGreatDoorVal
namespace Go.Proofs.YtfijncfoefbohaaGreatDoor
open Go Go.RowKit

theorem ptrInfo : (Tryz.prog.info? 47).map (fun i => (i.zero, i.size, i.bytes)) = some (some (.pointer none), 1, 8) := by kernel_rfl

/-- As wpList_app1, the world's size under a name. -/
theorem wpList_app1' {P : Program} {W : World} {ops : Array Oper} {rest : List Oper} {o : Oper} {a : Act} {Q : Exit → Act → World → Prop} (hgd : o.guard = none) (s x : Operand) (t e : TypeId)
    (ho : o.op = .call { callee := .builtin .append, args := #[s, x], argTypes := #[t, t] })
    (z : Value) (bytes : Nat) (ht : P.underlying t = some (.slice e)) (hinfo : (P.info? e).map (fun i => (i.zero, i.size, i.bytes)) = some (some z, 1, bytes)) (hzs : z.cells.size = 1)
    (B : Nat) (v : Value) (n : Nat) (xs : List Value) (hs : a.eval s = v) (hown : W.ownsRow B e 1 v n xs) (u : Value) (hu : u.oneCell' = true) (H : Nat) (hH : W.heap.size = H)
    (hx : a.eval x = .slice (some ⟨H, 0, none⟩) 1 1) (hn : (n + 1) * bytes ≤ 140737488355328) (hm : n < 9223372036854775807) (hB : B ≤ W.heap.size)
    (h : ∀ g cap w1, w1.ownsRow B e 1 (.slice (some ⟨g, 0, none⟩) (n + 1) cap) (n + 1) (xs ++ [u]) → Below B W w1 → W.grownBy w1 v.ownBlock → (some g = v.ownBlock ∨ W.heap.size ≤ g) → B ≤ g →
      wpList P ops Q rest (a.put o.dst (.slice (some ⟨g, 0, none⟩) (n + 1) cap)) w1) :
    wpList P ops Q (o :: rest) a (W.alloc (.cells #[u] e)) := by
  subst hH
  exact wpList_app1 hgd s x t e ho z bytes ht hinfo hzs B v n xs hs hown u hu hx hn hm hB h

/-- Two rows of different element types never lie in one block. -/
theorem own_far {w : World} {B e T n size : Nat} {v : Value} {xs : List Value} {g : Nat} {cs : Array Value} (h : w.ownsRow B e size v n xs) (hg : w.heap[g]? = some (.cells cs T (0, 0))) (hne : e ≠ T) : some g ≠ v.ownBlock := by
  rcases h.2 with ⟨rfl, _⟩ | ⟨g', cap, cur, rfl, _, hh, _⟩
  · simp [Value.ownBlock]
  · intro he
    have h2 : g = g' := by simpa [Value.ownBlock] using he
    subst h2
    rw [hg] at hh
    simp only [Option.some.injEq, Obj.cells.injEq] at hh
    exact hne hh.2.1.symm

/-- A row of texts in block g. -/
def PartsAt (g : Nat) (xs : List ByteArray) (w : World) : Prop := ∃ cur, w.heap[g]? = some (.cells cur 9 (0, 0)) ∧ cur.toList.take xs.length = xs.map Value.string
theorem PartsAt.of_own {w : World} {B g cap : Nat} {xs : List ByteArray} (h : w.ownsRow B 9 1 (.slice (some ⟨g, 0, none⟩) xs.length cap) xs.length (xs.map Value.string)) : PartsAt g xs w := by
  rcases h.2 with ⟨h1, _⟩ | ⟨g', cap', cur, h1, _, hh, _, _, _, ht⟩
  · cases h1
  · cases h1
    exact ⟨cur, hh, by rw [Nat.mul_one] at ht; exact ht⟩
theorem PartsAt.lt {g : Nat} {xs : List ByteArray} {w : World} (h : PartsAt g xs w) : g < w.heap.size := by
  obtain ⟨cur, hc, _⟩ := h
  exact (Array.getElem?_eq_some_iff.1 hc).1
theorem PartsAt.cell {g : Nat} {xs : List ByteArray} {w : World} (h : PartsAt g xs w) {k : Nat} (hk : k < xs.length) : w.cell? ⟨g, k, none⟩ = some (.string xs[k]) := by
  obtain ⟨cur, hc, ht⟩ := h
  rw [Lib.cell_of_heap hc]
  have h1 : (cur.toList.take xs.length)[k]? = some (.string xs[k]) := by rw [ht]; simp [hk]
  rw [List.getElem?_take_of_lt hk] at h1
  simpa using h1
theorem PartsAt.kept {g : Nat} {xs : List ByteArray} {w w' : World} (h : PartsAt g xs w) (hb : Below w.heap.size w w') : PartsAt g xs w' := by
  have hl := h.lt
  obtain ⟨cur, hc, ht⟩ := h
  exact ⟨cur, (hb.block g hl).trans hc, ht⟩
theorem PartsAt.grown {g : Nat} {xs : List ByteArray} {w w' : World} {B e size n : Nat} {v : Value} {ys : List Value} (h : PartsAt g xs w) (ho : w.ownsRow B e size v n ys) (hne : e ≠ 9) (hg : w.grownBy w' v.ownBlock) : PartsAt g xs w' := by
  have hl := h.lt
  obtain ⟨cur, hc, ht⟩ := h
  exact ⟨cur, (hg.block g hl (own_far ho hc hne)).trans hc, ht⟩

/-- A slice of pointers to cookies, each of which the call has made. -/
def PtrsAt (B : Nat) (l : List (Nat × Ck)) (v : Value) (w : World) : Prop :=
  w.ownsRow B 47 1 v l.length (l.map fun x => .pointer (some ⟨x.1, 0, none⟩)) ∧ ∀ x ∈ l, B ≤ x.1 ∧ CkAt x.1 x.2 w
theorem PtrsAt.kept {B : Nat} {l : List (Nat × Ck)} {v : Value} {w w' : World} (h : PtrsAt B l v w) (hb : Below w.heap.size w w') : PtrsAt B l v w' := by
  refine ⟨h.1.kept (row := none) ⟨hb.os, hb.tape, hb.output, hb.size, fun k hk _ => hb.block k hk⟩ ?_, fun x hx => ⟨(h.2 x hx).1, (h.2 x hx).2.below hb (h.2 x hx).2.lt⟩⟩
  cases hv : v.ownBlock <;> simp
theorem PtrsAt.push {B : Nat} {l : List (Nat × Ck)} {v v1 : Value} {w w1 : World} {c : Ck} (h : PtrsAt B l v w) (hB : B ≤ w.heap.size)
    (hown : w1.ownsRow B 47 1 v1 (l.length + 1) ((l.map fun x => .pointer (some ⟨x.1, 0, none⟩)) ++ [.pointer (some ⟨w.heap.size, 0, none⟩)]))
    (hg : (w.alloc (.cells c.cells 55)).grownBy w1 v.ownBlock) : PtrsAt B (l ++ [(w.heap.size, c)]) v1 w1 := by
  refine ⟨by simpa using hown, fun x hx => ?_⟩
  rcases List.mem_append.1 hx with hx | hx
  · obtain ⟨h1, h2⟩ := h.2 x hx
    refine ⟨h1, ?_⟩
    have h3 : (w.alloc (.cells c.cells 55)).heap[x.1]? = some (.cells x.2.cells 55 (0, 0)) := (Below.heap_alloc w _ _ h2.lt).trans h2
    exact (hg.block x.1 (Array.getElem?_eq_some_iff.1 h3).1 (own_far (h.1.alloc _) h3 (by decide))).trans h3
  · simp only [List.mem_singleton] at hx
    subst hx
    refine ⟨hB, ?_⟩
    have h3 := (alloc_at w c.cells 55).1
    exact (hg.block w.heap.size (Array.getElem?_eq_some_iff.1 h3).1 (own_far (h.1.alloc _) h3 (by decide))).trans h3
theorem PtrsAt.cell {B : Nat} {l : List (Nat × Ck)} {g cap : Nat} {w : World} (h : PtrsAt B l (.slice (some ⟨g, 0, none⟩) l.length cap) w) {k : Nat} (hk : k < l.length) : w.cell? ⟨g, k, none⟩ = some (.pointer (some ⟨l[k].1, 0, none⟩)) := by
  have h2 := h.1.cells (g := g) rfl k (.pointer (some ⟨l[k].1, 0, none⟩)) (by simp [hk])
  rw [Lib.add_plain] at h2
  simpa using h2
theorem PtrsAt.form {B : Nat} {l : List (Nat × Ck)} {v : Value} {w : World} (h : PtrsAt B l v w) : ∃ ao cap, v = .slice ao l.length cap := own_shape h.1

/-- A slice of cookies (plain data) that the call has made. -/
def AggsAt (B : Nat) (l : List Ck) (v : Value) (w : World) : Prop := w.ownsRow B 35 12 v l.length (l.flatMap fun c => c.cells.toList)
theorem AggsAt.kept {B : Nat} {l : List Ck} {v : Value} {w w' : World} (h : AggsAt B l v w) (hb : Below w.heap.size w w') : AggsAt B l v w' := by
  refine World.ownsRow.kept h (row := none) ⟨hb.os, hb.tape, hb.output, hb.size, fun k hk _ => hb.block k hk⟩ ?_
  cases hv : v.ownBlock <;> simp
theorem flat12 {l : List Ck} {k j : Nat} (hk : k < l.length) (hj : j < 12) : (l.flatMap fun c => c.cells.toList)[12 * k + j]? = l[k].cells[j]? := by
  induction l generalizing k with
  | nil => cases hk
  | cons c l ih =>
    rw [List.flatMap_cons]
    have hc : c.cells.toList.length = 12 := rfl
    cases k with
    | zero => rw [Nat.mul_zero, Nat.zero_add, List.getElem?_append_left (by omega)]; simp
    | succ k =>
      rw [List.getElem?_append_right (by omega), hc, show 12 * (k + 1) + j - 12 = 12 * k + j by omega, ih (by simpa using hk)]
      simp
theorem AggsAt.cell {B : Nat} {l : List Ck} {g cap : Nat} {w : World} (h : AggsAt B l (.slice (some ⟨g, 0, none⟩) l.length cap) w) {k j : Nat} (hk : k < l.length) (hj : j < 12) : w.cell? ⟨g, 12 * k + j, none⟩ = l[k].cells[j]? := by
  have hjl : j < l[k].cells.size := hj
  have h1 := flat12 hk hj
  rw [Array.getElem?_eq_getElem hjl] at h1 ⊢
  have h2 := World.ownsRow.cells h (g := g) rfl (12 * k + j) _ h1
  rw [Lib.add_plain] at h2
  simpa using h2
theorem ck_one (c : Ck) : ∀ u ∈ c.cells.toList, u.oneCell' = true := by
  intro u hu
  unfold Ck.cells at hu
  simp only [List.mem_cons, List.not_mem_nil, or_false] at hu
  rcases hu with rfl | rfl | rfl | rfl | rfl | rfl | rfl | rfl | rfl | rfl | rfl | rfl <;> rfl

/-- The five errors of the package: each variable holds one that is not nil. -/
def ErrAt (g : Nat) (w : World) : Prop := ∃ tp a, w.cell? ⟨g, 0, none⟩ = some (.iface tp (.pointer (some a)))
theorem ErrAt.kept {g : Nat} {w w' : World} (h : ErrAt g w) (hb : Below w.heap.size w w') : ErrAt g w' := by
  obtain ⟨tp, a, hc⟩ := h
  have hlt : g < w.heap.size := by
    rcases Nat.lt_or_ge g w.heap.size with h' | h'
    · exact h'
    · simp [World.cell?, Array.getElem?_eq_none h'] at hc
  exact ⟨tp, a, by rw [hb.cell (p := ⟨g, 0, none⟩) hlt]; exact hc⟩
end Go.Proofs.YtfijncfoefbohaaGreatDoor
