/- The reference's Split: the parts of a text between separators, in a new slice. -/
import Derived.Test.YtfijncfoefbohaaGreatDoorKit
import Derived.Test.YtfijncfoefbohaaGreatDoorStr
namespace Go.Proofs.YtfijncfoefbohaaGreatDoor
open Go Go.RowKit

/-- A new slice of strings: the texts xs, in a block of the call's own. -/
def NewStrs (w w' : World) (e : Ending) (xs : List ByteArray) : Prop :=
  ∃ g cap, e = .returned (.slice (some ⟨g, 0, none⟩) xs.length cap) ∧ w'.ownsRow w.heap.size 9 1 (.slice (some ⟨g, 0, none⟩) xs.length cap) xs.length (xs.map Value.string) ∧ Below w.heap.size w w'

def SplitAt (s : ByteArray) (c : UInt8) (k fr : Nat) (xs : List ByteArray) : Prop :=
  xs.map (·.data.toList) ++ splitL c (s.data.toList.drop fr) = splitL c s.data.toList ∧ (∀ x ∈ (s.data.toList.drop fr).take (k - fr), x ≠ c)

theorem splitAt_start (s : ByteArray) (c : UInt8) : SplitAt s c 0 0 [] := ⟨by simp, by simp⟩
theorem splitAt_miss {s : ByteArray} {c : UInt8} {k fr : Nat} {xs : List ByteArray} (h : SplitAt s c k fr xs) (hk : k < s.size) (hf : fr ≤ k) (hne : s[k] ≠ c) : SplitAt s c (k + 1) fr xs := by
  refine ⟨h.1, fun x hx => ?_⟩
  have hl : k - fr < (s.data.toList.drop fr).length := by simp; omega
  rw [show k + 1 - fr = (k - fr) + 1 from by omega, List.take_succ_eq_append_getElem hl, List.mem_append] at hx
  rcases hx with hx | hx
  · exact h.2 x hx
  · simp only [List.getElem_drop, List.mem_singleton] at hx
    subst hx
    rw [getElem_list s k hk] at hne
    simpa [show fr + (k - fr) = k from by omega] using hne
theorem splitAt_hit {s : ByteArray} {c : UInt8} {k fr : Nat} {xs : List ByteArray} (h : SplitAt s c k fr xs) (hk : k < s.size) (hf : fr ≤ k) (he : s[k] = c) : SplitAt s c (k + 1) (k + 1) (xs ++ [s.extract fr k]) := by
  refine ⟨?_, by simp⟩
  rw [← h.1, List.map_append, List.append_assoc]
  congr 1
  have hl : k < s.data.toList.length := by simpa using hk
  have hd : s.data.toList.drop fr = (s.data.toList.drop fr).take (k - fr) ++ c :: s.data.toList.drop (k + 1) := by
    conv => lhs; rw [← List.take_append_drop (k - fr) (s.data.toList.drop fr)]
    rw [List.drop_drop, show fr + (k - fr) = k from by omega, List.drop_eq_getElem_cons hl, ← getElem_list s k hk, he]
  rw [hd, splitL_hit c _ _ h.2]
  simp only [List.map_cons, List.map_nil, Lib.extract_data, List.cons_append, List.nil_append]
theorem splitAt_end {s : ByteArray} {c : UInt8} {k fr : Nat} {xs : List ByteArray} (h : SplitAt s c k fr xs) (hk : s.size ≤ k) : (xs ++ [s.extract fr s.size]).map (·.data.toList) = splitL c s.data.toList := by
  have h2 : ∀ x ∈ s.data.toList.drop fr, x ≠ c := fun x hx => h.2 x (by rw [List.take_of_length_le (by simp; omega)]; exact hx)
  rw [← h.1, splitL_none c _ h2, List.map_append]
  simp only [List.map_cons, List.map_nil, Lib.extract_data]
  rw [List.take_of_length_le (by simp)]

end Go.Proofs.YtfijncfoefbohaaGreatDoor
