/- Texts with '; ' between them, parted at ';'. -/
import Derived.Test.YtfijncfoefbohaaGreatDoorPairs
namespace Go.Proofs.YtfijncfoefbohaaGreatDoor
open Go Go.RowKit

def no59 (l : List UInt8) : Prop := ∀ x ∈ l, x ≠ 59
def items (A : List (List UInt8)) : List UInt8 := (A.map fun p => 59 :: 32 :: p).flatten

theorem split_items (A : List (List UInt8)) : ∀ (a : List UInt8), no59 a → (∀ p ∈ A, no59 p) → splitL 59 (a ++ items A) = a :: A.map (fun p => 32 :: p) := by
  induction A with
  | nil => intro a ha _; unfold items; simp [splitL_none 59 a ha]
  | cons p A ih =>
    intro a ha hA
    have h1 : a ++ items (p :: A) = a ++ 59 :: ((32 :: p) ++ items A) := by unfold items; simp
    rw [h1, splitL_hit 59 a _ ha, ih (32 :: p) ?_ (fun q hq => hA q (by simp [hq]))]
    · simp
    · intro x hx
      rcases List.mem_cons.1 hx with rfl | hx
      · decide
      · exact hA p (by simp) x hx

theorem items_app (A B : List (List UInt8)) : items (A ++ B) = items A ++ items B := by unfold items; simp

/-! ### Pairs in a line -/
def pairT (p : Pair) : List UInt8 := p.1 ++ 61 :: quoL p.2.1 p.2.2
def lineT : List Pair → List UInt8
  | [] => []
  | p :: r => pairT p ++ items (r.map pairT)
theorem lineT_one (p : Pair) : lineT [p] = pairT p := by simp [lineT, items]
theorem lineT_snoc {r : List Pair} (h : r ≠ []) (p : Pair) : lineT (r ++ [p]) = lineT r ++ 59 :: 32 :: pairT p := by
  cases r with
  | nil => exact absurd rfl h
  | cons a m => simp [lineT, items]
def goodP (p : Pair) : Prop := tokS p.1 = true ∧ allB valB p.2.1 = true ∧ (p.2.2 = false → ∀ b ∈ p.2.1, spU b = false)
theorem pairT_no59 {p : Pair} (h : goodP p) : no59 (pairT p) := by
  obtain ⟨h1, h2, -⟩ := h
  intro x hx
  unfold pairT at hx
  rcases List.mem_append.1 hx with hx | hx
  · exact (tok_byte (tok_mem h1 x hx)).2.1
  · rcases List.mem_cons.1 hx with rfl | hx
    · decide
    · have h3 : ∀ y ∈ p.2.1, y ≠ 59 := fun y hy => (val_byte (allB_mem h2 y hy)).1
      unfold quoL at hx
      split at hx
      · rcases List.mem_cons.1 hx with rfl | hx
        · decide
        · rcases List.mem_append.1 hx with hx | hx
          · exact h3 x hx
          · simp at hx; subst hx; decide
      · exact h3 x hx
theorem line_split (p : Pair) (r : List Pair) (h : ∀ q ∈ p :: r, goodP q) : splitL 59 (lineT (p :: r)) = pairT p :: r.map fun q => 32 :: pairT q := by
  unfold lineT
  rw [split_items _ _ (pairT_no59 (h p (by simp)))]
  · simp
  · intro q hq
    obtain ⟨y, hy, rfl⟩ := List.mem_map.1 hq
    exact pairT_no59 (h y (by simp [hy]))
/-- A LINE OF GOOD PAIRS IS READ AS THEY ARE. -/
theorem line_pairs (p : Pair) (r : List Pair) (h : ∀ q ∈ p :: r, goodP q) : (splitL 59 (lineT (p :: r))).map pairOf = (p :: r).map some := by
  rw [line_split p r h]
  simp only [List.map_cons, List.map_map]
  congr 1
  · exact pair_good (h p (by simp)).1 (h p (by simp)).2.1 (h p (by simp)).2.2
  · refine List.map_congr_left fun q hq => ?_
    have := h q (by simp [hq])
    exact pair_good' this.1 this.2.1 this.2.2
theorem map_some_inj {α : Type} {a b : List α} (h : a.map some = b.map some) : a = b := by
  have := congrArg (List.filterMap id) h
  simpa using this
theorem count_split (l : List UInt8) : l.count 59 + 1 = (splitL 59 l).length := (splitL_length 59 l).symm
end Go.Proofs.YtfijncfoefbohaaGreatDoor
