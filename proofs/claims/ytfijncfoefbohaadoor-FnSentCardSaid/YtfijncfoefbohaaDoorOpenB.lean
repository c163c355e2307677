/- Arguments opened: []bool, []int; slices that came in, element by element. -/
import Derived.Test.YtfijncfoefbohaaDoorFits
import Derived.Deep.Grids
import Derived.ChangeSlices
namespace Go.Proofs.YtfijncfoefbohaaDoor
open Go Go.RowKit Go.Joins Go.ChangeShapes Go.WideShapes Go.Deep

/-- A []bool value. -/
def BlsAt (xs : List Bool) (v : Value) (w : World) : Prop :=
  (v = .slice none 0 0 ∧ xs = []) ∨
  ∃ (a : Addr) (cap : Nat), v = .slice (some a) xs.length cap ∧ xs.length ≤ cap ∧ cap ≤ maxLen ∧ (∀ i (h : i < xs.length), w.cell? (a.add i) = some (.bool xs[i]))

section
variable {H : Type} {enc : TypeId × Value → H} {w : World} {base : Nat} {held : Bool}
theorem open_bls1 {fuel : Nat} {v : Value} {x : DataW H × List MemPlace} (h : DataW.trod enc Tryd.prog w base (fun _ => true) held fuel 45 [v] = some x) : ∃ xs, BlsAt xs v w := by
  rcases open_bools Tryd.underlying45 Tryd.underlying4 (by kernel_rfl) h with ⟨h1, _⟩ | ⟨a, len, cap, B, h1, _, hlc, hcm, _, hc⟩
  · exact ⟨[], .inl ⟨by simpa using h1, rfl⟩⟩
  · refine ⟨(List.range len).map B, .inr ⟨a, cap, by simpa using h1, by simpa using hlc, hcm, ?_⟩⟩
    intro i hi
    rw [hc i (by simp at hi; omega)]
    simp
set_option maxRecDepth 100000 in
theorem open_bls {r : Reach} {b0 : Nat} {v : Value} {d : DataW H} {ps : List MemPlace} (hv : Value.okWide Tryd.prog w r b0 45 v) (h : DataW.Trod enc Tryd.prog w base (fun _ => true) held 45 v d ps) : ∃ xs, BlsAt xs v w := by
  obtain ⟨a, len, cap, rfl⟩ := okWide_slice Tryd.underlying45 hv
  obtain ⟨fuel, hf⟩ := h
  exact open_bls1 (by simpa [Value.cells] using hf)
end

/-- The element-wise form. -/
theorem StrsAt.form {xs : List ByteArray} {v : Value} {w : World} (h : StrsAt xs v w) : ∃ ao cap, v = .slice ao xs.length cap ∧ ∀ i (hi : i < xs.length), ∃ a, ao = some a ∧ w.cell? (a.add i) = some (.string xs[i]) := by
  rcases h with ⟨rfl, rfl⟩ | ⟨a, cap, rfl, _, _, hc, _⟩
  · exact ⟨none, 0, rfl, fun i hi => by cases hi⟩
  · exact ⟨some a, cap, rfl, fun i hi => ⟨a, rfl, hc i hi⟩⟩
theorem BlsAt.form {xs : List Bool} {v : Value} {w : World} (h : BlsAt xs v w) : ∃ ao cap, v = .slice ao xs.length cap ∧ ∀ i (hi : i < xs.length), ∃ a, ao = some a ∧ w.cell? (a.add i) = some (.bool xs[i]) := by
  rcases h with ⟨rfl, rfl⟩ | ⟨a, cap, rfl, _, _, hc⟩
  · exact ⟨none, 0, rfl, fun i hi => by cases hi⟩
  · exact ⟨some a, cap, rfl, fun i hi => ⟨a, rfl, hc i hi⟩⟩
theorem BlsAt.len {xs : List Bool} {v : Value} {w : World} (h : BlsAt xs v w) : xs.length ≤ maxLen := by
  rcases h with ⟨_, rfl⟩ | ⟨a, cap, _, h1, h2, _⟩
  · exact Nat.zero_le _
  · omega
theorem cell_lt {w : World} {p : Addr} {u : Value} (h : w.cell? p = some u) : p.block < w.heap.size := by
  rcases Nat.lt_or_ge p.block w.heap.size with h' | h'
  · exact h'
  · simp [World.cell?, Array.getElem?_eq_none h'] at h
theorem cell_keep {w w' : World} {p : Addr} {u : Value} (h : w.cell? p = some u) (hb : Below w.heap.size w w') : w'.cell? p = some u := by
  rw [hb.cell (cell_lt h)]; exact h
end Go.Proofs.YtfijncfoefbohaaDoor
