/- Arguments opened: []bool, []int; slices that came in, element by element. -/
import Derived.Test.YtfijncfoefbohaaGreatDoorFits
import Derived.Deep.Grids
import Derived.ChangeSlices
namespace Go.Proofs.YtfijncfoefbohaaGreatDoor
open Go Go.RowKit Go.Joins Go.ChangeShapes Go.WideShapes Go.Deep

/-- A []bool value. -/
def BlsAt (xs : List Bool) (v : Value) (w : World) : Prop :=
  (v = .slice none 0 0 ∧ xs = []) ∨
  ∃ (a : Addr) (cap : Nat), v = .slice (some a) xs.length cap ∧ xs.length ≤ cap ∧ cap ≤ maxLen ∧ (∀ i (h : i < xs.length), w.cell? (a.add i) = some (.bool xs[i]))
/-- A []int value. -/
def ItsAt (xs : List Int) (v : Value) (w : World) : Prop :=
  (v = .slice none 0 0 ∧ xs = []) ∨
  ∃ (a : Addr) (cap : Nat), v = .slice (some a) xs.length cap ∧ xs.length ≤ cap ∧ cap ≤ maxLen ∧ (∀ i (h : i < xs.length), w.cell? (a.add i) = some (.int .i64 xs[i])) ∧ (∀ x ∈ xs, -9223372036854775808 ≤ x ∧ x ≤ 9223372036854775807)

section
variable {H : Type} {enc : TypeId × Value → H} {w : World} {base : Nat} {held : Bool}
theorem open_its1 {fuel : Nat} {v : Value} {x : DataW H × List MemPlace} (h : DataW.trod enc Tryz.prog w base (fun _ => true) held fuel 22 [v] = some x) : ∃ xs, ItsAt xs v w := by
  rcases open_ints Tryz.underlying22 Tryz.underlying3 (by kernel_rfl) h with ⟨h1, _⟩ | ⟨a, len, cap, zs, h1, _, hlc, hcm, hzl, _, hc, hw⟩
  · exact ⟨[], .inl ⟨by simpa using h1, rfl⟩⟩
  · simp only [if_true] at hzl
    have hlt : (zs.take len).length = len := by rw [List.length_take]; omega
    refine ⟨zs.take len, .inr ⟨a, cap, by rw [hlt]; simpa using h1, by omega, hcm, ?_, fun x hx => wf64 (hw x (List.mem_of_mem_take hx))⟩⟩
    intro i hi
    rw [hlt] at hi
    rw [hc i (by omega), List.getElem_take, List.getD_eq_getElem?_getD, List.getElem?_eq_getElem (by omega)]
    rfl
set_option maxRecDepth 100000 in
theorem open_its {r : Reach} {b0 : Nat} {v : Value} {d : DataW H} {ps : List MemPlace} (hv : Value.okWide Tryz.prog w r b0 22 v) (h : DataW.Trod enc Tryz.prog w base (fun _ => true) held 22 v d ps) : ∃ xs, ItsAt xs v w := by
  obtain ⟨a, len, cap, rfl⟩ := okWide_slice Tryz.underlying22 hv
  obtain ⟨fuel, hf⟩ := h
  exact open_its1 (by simpa [Value.cells] using hf)
end

/-- The element-wise form. -/
theorem StrsAt.form {xs : List ByteArray} {v : Value} {w : World} (h : StrsAt xs v w) : ∃ ao cap, v = .slice ao xs.length cap ∧ ∀ i (hi : i < xs.length), ∃ a, ao = some a ∧ w.cell? (a.add i) = some (.string xs[i]) := by
  rcases h with ⟨rfl, rfl⟩ | ⟨a, cap, rfl, _, _, hc, _⟩
  · exact ⟨none, 0, rfl, fun i hi => by cases hi⟩
  · exact ⟨some a, cap, rfl, fun i hi => ⟨a, rfl, hc i hi⟩⟩
theorem BlsAt.form {xs : List Bool} {v : Value} {w : World} (h : BlsAt xs v w) : ∃ ao cap, v = .slice ao xs.length cap ∧ ∀ i (hi : i < xs.length), ∃ a, ao = some a ∧ w.cell? (a.add i) = some (.bool xs[i]) := by
  rcases h with ⟨rfl, rfl⟩ | ⟨a, cap, rfl, _, _, hc⟩
  · exact ⟨none, 0, rfl, fun i hi => by cases hi⟩
  · exact ⟨some a, cap, rfl, fun i hi => ⟨a, rfl, hc i hi⟩⟩
theorem BlsAt.len {xs : List Bool} {v : Value} {w : World} (h : BlsAt xs v w) : xs.length ≤ maxLen := by
  rcases h with ⟨_, rfl⟩ | ⟨a, cap, _, h1, h2, _⟩
  · exact Nat.zero_le _
  · omega
theorem cell_lt {w : World} {p : Addr} {u : Value} (h : w.cell? p = some u) : p.block < w.heap.size := by
  rcases Nat.lt_or_ge p.block w.heap.size with h' | h'
  · exact h'
  · simp [World.cell?, Array.getElem?_eq_none h'] at h
theorem cell_keep {w w' : World} {p : Addr} {u : Value} (h : w.cell? p = some u) (hb : Below w.heap.size w w') : w'.cell? p = some u := by
  rw [hb.cell (cell_lt h)]; exact h
end Go.Proofs.YtfijncfoefbohaaGreatDoor
