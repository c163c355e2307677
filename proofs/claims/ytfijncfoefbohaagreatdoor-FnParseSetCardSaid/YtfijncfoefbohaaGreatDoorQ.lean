/- Regions that draw their order, walked once in the text's order, at a class of worlds C (the older blocks as they were: calls that make memory are let in). -/
import Derived.Test.YtfijncfoefbohaaGreatDoorWorks
import Derived.Deep.QuietTactic
import Derived.BigQuiet
namespace Go.Proofs.YtfijncfoefbohaaGreatDoor
open Go Go.RowKit

theorem wp_region_C {P : Program} {C : World → Prop} {id : Nat} {Q : Exit → Act → World → Prop} {a : Act} {w : World} {l : List Oper} (hm : P.follows .mixedOrders = true) (hB : Region.lexB .any l.toArray = true)
    (hC : C w.drew) (h : wpQuiet P l.toArray C (fun a' => ∀ w', C w' → Q .normal a' w') l a) : (Code.region id l.toArray true).wp P Q a w :=
  wp_region_quiet (C := C) hm hB hC (by simpa using h)

/-- The class: w1's blocks stand. -/
def Over (w1 w' : World) : Prop := Below w1.heap.size w1 w'
theorem Over.refl (w1 : World) : Over w1 w1.drew := (Below.refl _ _).drew
theorem Over.next {w1 w w' : World} (h : Over w1 w) (hb : Below w.heap.size w w') : Over w1 w' := h.trans (hb.mono h.size)
theorem Over.cell {w1 w : World} (h : Over w1 w) {p : Addr} {v : Value} (hc : w1.cell? p = some v) : w.cell? p = some v := by
  have hlt : p.block < w1.heap.size := by
    rcases Nat.lt_or_ge p.block w1.heap.size with h' | h'
    · exact h'
    · simp [World.cell?, Array.getElem?_eq_none h'] at hc
  rw [Below.cell h hlt]; exact hc
/-- A world over w1. -/
structure OverT (w1 : World) where
  w : World
  h : Over w1 w
instance (w1 : World) : Nonempty (OverT w1) := ⟨⟨_, Over.refl w1⟩⟩
theorem OverT.next {w1 w' : World} {q : OverT w1} (hb : Below q.w.heap.size q.w w') : ∃ q' : OverT w1, w' = q'.w := ⟨⟨w', q.h.next hb⟩, rfl⟩
theorem OverT.start (w1 : World) : ∃ q : OverT w1, w1.drew = q.w := ⟨⟨_, Over.refl w1⟩, rfl⟩
theorem OverT.same {w1 w' : World} {q : OverT w1} (h : w' = q.w) : ∃ q' : OverT w1, w' = q'.w := ⟨q, h⟩
theorem ck_cells {w : World} {N T : Nat} {c : Ck} (h : w.heap[N]? = some (.cells c.cells T (0, 0))) : w.cell? ⟨N, 0, none⟩ = some (.string c.name) ∧ w.cell? ⟨N, 1, none⟩ = some (.string c.value) ∧ w.cell? ⟨N, 2, none⟩ = some (.bool c.quoted) ∧ w.cell? ⟨N, 3, none⟩ = some (.string c.path) ∧ w.cell? ⟨N, 4, none⟩ = some (.string c.domain) ∧ w.cell? ⟨N, 5, none⟩ = some (.int .i64 c.age) ∧ w.cell? ⟨N, 6, none⟩ = some (.bool c.secure) ∧ w.cell? ⟨N, 7, none⟩ = some (.bool c.http) ∧ w.cell? ⟨N, 8, none⟩ = some (.int .i64 c.site) ∧ w.cell? ⟨N, 9, none⟩ = some (.bool c.part) ∧ w.cell? ⟨N, 10, none⟩ = some (.string c.raw) ∧ w.cell? ⟨N, 11, none⟩ = some (.slice c.uo c.un c.uc) := by
  refine ⟨?_, ?_, ?_, ?_, ?_, ?_, ?_, ?_, ?_, ?_, ?_, ?_⟩ <;> (rw [Lib.cell_of_heap h]; rfl)
theorem heap_keep {w : World} {N : Nat} {x : Obj} (h : w.heap[N]? = some x) (o : Obj) : (w.alloc o).heap[N]? = some x := by
  rw [Below.heap_alloc w o N (Array.getElem?_eq_some_iff.1 h).1]; exact h
/-- A list of one element that the call has laid into block g. -/
theorem own_one {w : World} {B g e T : Nat} {u : Value} (hT : T = e) (h : w.heap[g]? = some (.cells #[u] T (0, 0))) (hB : B ≤ g) : w.ownsRow B e 1 (.slice (some ⟨g, 0, none⟩) 1 1) 1 [u] := by
  subst hT
  refine ⟨rfl, .inr ⟨g, 1, #[u], rfl, hB, h, ?_⟩⟩
  exact ⟨Nat.le_refl _, by decide, rfl, rfl⟩
theorem own_pos {w : World} {B e n : Nat} {v : Value} {xs : List Value} (h : w.ownsRow B e 1 v n xs) (hn : 0 < n) : ∃ g cap, v = .slice (some ⟨g, 0, none⟩) n cap ∧ n ≤ maxLen := by
  rcases h.2 with ⟨_, h0⟩ | ⟨g, cap, cur, rfl, _, _, h3, h4, _⟩
  · omega
  · exact ⟨g, cap, rfl, by omega⟩
theorem blk_later {wx wy : World} {g : Nat} {x : Obj} (hb : Below wx.heap.size wx wy) (h : wx.heap[g]? = some x) : wy.heap[g]? = some x := (hb.block g (Array.getElem?_eq_some_iff.1 h).1).trans h
theorem blk_new (w : World) (cs : Array Value) (t : TypeId) : (w.alloc (.cells cs t)).heap[w.heap.size]? = some (.cells cs t (0, 0)) := (alloc_at w cs t).1
theorem alloc_sz (w : World) (o : Obj) : (w.alloc o).heap.size = w.heap.size + 1 := by show (w.heap.push o).size = _; simp
end Go.Proofs.YtfijncfoefbohaaGreatDoor
