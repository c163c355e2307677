/- zzReplaceAll with one byte sought and '-' in its place; sanitizeCookieName. -/
import Derived.Test.YtfijncfoefbohaaGreatDoorSan
import Derived.Test.YtfijncfoefbohaaGreatDoorIdx
import Derived.Lib.AppendStr
namespace Go.Proofs.YtfijncfoefbohaaGreatDoor
open Go Go.RowKit

def subL (c : UInt8) (l : List UInt8) : List UInt8 := l.map fun x => if x = c then 45 else x
theorem subL_len (c : UInt8) (l : List UInt8) : (subL c l).length = l.length := by unfold subL; rw [List.length_map]
theorem subL_none {c : UInt8} {l : List UInt8} (h : ∀ x ∈ l, x ≠ c) : subL c l = l := by
  unfold subL
  conv => rhs; rw [← List.map_id l]
  exact List.map_congr_left fun x hx => by rw [if_neg (h x hx)]; rfl
theorem subL_app (c : UInt8) (a b : List UInt8) : subL c (a ++ b) = subL c a ++ subL c b := List.map_append
theorem hasB_not {c : UInt8} {l : List UInt8} (h : hasB c l = false) : ∀ x ∈ l, x ≠ c := by
  rw [← cutA_none h]; exact cutA_ne
theorem subL_hit {c : UInt8} {l : List UInt8} (h : hasB c l = true) : subL c l = cutA c l ++ 45 :: subL c (l.drop ((cutA c l).length + 1)) := by
  have hlt := cutA_lt h
  have hs : l = cutA c l ++ c :: l.drop ((cutA c l).length + 1) := cut_parts h
  conv => lhs; rw [hs]
  rw [subL_app, subL_none cutA_ne]
  show cutA c l ++ (if c = c then (45 : UInt8) else c) :: subL c _ = _
  rw [if_pos rfl]

/-- A cookie's name as it is sent. -/
def nameL (l : List UInt8) : List UInt8 := subL 13 (subL 10 l)

theorem nameL_none {l : List UInt8} (h : ∀ x ∈ l, x ≠ 10 ∧ x ≠ 13) : nameL l = l := by
  unfold nameL
  rw [subL_none (fun x hx => (h x hx).1), subL_none (fun x hx => (h x hx).2)]
theorem subL_mem {c : UInt8} {l : List UInt8} : ∀ x ∈ subL c l, x = 45 ∨ x ≠ c ∧ x ∈ l := by
  intro x hx
  unfold subL at hx
  rw [List.mem_map] at hx
  obtain ⟨a, ha, rfl⟩ := hx
  by_cases h : a = c
  · rw [if_pos h]; exact .inl rfl
  · rw [if_neg h]; exact .inr ⟨h, ha⟩
theorem nameL_clean (l : List UInt8) : ∀ x ∈ nameL l, x ≠ 10 ∧ x ≠ 13 := by
  intro x hx
  rcases subL_mem x hx with rfl | ⟨h1, h2⟩
  · decide
  · rcases subL_mem x h2 with rfl | ⟨h3, _⟩
    · decide
    · exact ⟨h3, h1⟩
theorem nameL_len (l : List UInt8) : (nameL l).length = l.length := by unfold nameL; rw [subL_len, subL_len]
theorem tok_clean {l : List UInt8} (h : tokS l = true) : ∀ x ∈ l, x ≠ 10 ∧ x ≠ 13 := by
  unfold tokS allB at h
  simp only [Bool.and_eq_true, List.all_eq_true] at h
  intro x hx
  have h2 := h.2 x hx
  constructor
  · rintro rfl; revert h2; decide
  · rintro rfl; revert h2; decide
end Go.Proofs.YtfijncfoefbohaaGreatDoor
