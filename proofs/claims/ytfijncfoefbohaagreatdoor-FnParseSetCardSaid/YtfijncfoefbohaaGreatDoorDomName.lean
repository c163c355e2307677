/- The reference's DomainName. -/
import Derived.Test.YtfijncfoefbohaaGreatDoorDom
namespace Go.Proofs.YtfijncfoefbohaaGreatDoor
open Go Go.RowKit

def domParts (l : List UInt8) : List (List UInt8) := if (splitL 46 l).getLast?.getD [] = [] ∧ 1 < (splitL 46 l).length then (splitL 46 l).dropLast else splitL 46 l
def domOk (ps : List (List UInt8)) : Bool := ps.all labB && ps.any (anyB letB)
def undot (l : List UInt8) : List UInt8 := if headN l == 46 then l.tail else l
def domB (l : List UInt8) : Bool := !(decide (255 < l.length)) && (!l.isEmpty && domOk (domParts (undot l)))

theorem dom_cases (xs : List ByteArray) (l : List UInt8) (hx : xs.map (·.data.toList) = splitL 46 l) (hn : 1 ≤ xs.length) : ∃ m, m ≤ xs.length ∧ domParts l = (xs.take m).map (·.data.toList) ∧
    ((xs.length = 1 ∧ m = xs.length) ∨ (1 < xs.length ∧ m = xs.length - 1 ∧ ∃ z, z.toList = [] ∧ ∃ h : xs.length - 1 < xs.length, xs[xs.length - 1] = z) ∨
      (1 < xs.length ∧ m = xs.length ∧ ∃ z, z.toList.isEmpty = false ∧ ∃ h : xs.length - 1 < xs.length, xs[xs.length - 1] = z)) := by
  have hlen : (splitL 46 l).length = xs.length := by rw [← hx]; simp
  have hlast : (splitL 46 l).getLast?.getD [] = (xs[xs.length - 1]'(by omega)).data.toList := by
    rw [← hx, List.getLast?_eq_getElem?]
    simp [List.getElem?_eq_getElem (show xs.length - 1 < xs.length by omega)]
  unfold domParts
  rw [hlen, hlast, ← hx]
  by_cases h1 : xs.length = 1
  · exact ⟨xs.length, Nat.le_refl _, by rw [if_neg (by omega), List.take_length], .inl ⟨h1, rfl⟩⟩
  · by_cases h2 : (xs[xs.length - 1]'(by omega)).data.toList = []
    · exact ⟨xs.length - 1, by omega, by rw [if_pos ⟨h2, by omega⟩, List.dropLast_eq_take, List.map_take, List.length_map], .inr (.inl ⟨by omega, rfl, _, by rw [Lib.toList_data]; exact h2, _, rfl⟩)⟩
    · exact ⟨xs.length, Nat.le_refl _, by rw [if_neg (fun h => h2 h.1), List.take_length], .inr (.inr ⟨by omega, rfl, _, by rw [Lib.toList_data]; rw [List.isEmpty_eq_false_iff]; exact h2, _, rfl⟩)⟩
theorem dom_fin {s : ByteArray} {l : List UInt8} {ps : List (List UInt8)} (h : ¬ 255 < s.size) (he : s.toList.isEmpty = false) (hl : l = undot s.data.toList) (hp : domParts l = ps) : domB s.data.toList = domOk ps := by
  rw [Lib.toList_data] at he
  unfold domB
  rw [← hl, hp, he, ← Lib.size_eq, show decide (255 < s.size) = false from by rw [decide_eq_false_iff_not]; exact h]; simp
theorem domOk_true {ps : List (List UInt8)} (h : ps.all labB = true) : domOk ps = ps.any (anyB letB) := by unfold domOk; rw [h]; rfl
theorem domOk_false {ps : List (List UInt8)} {p : List UInt8} (hm : p ∈ ps) (h : labB p = false) : domOk ps = false := by
  unfold domOk
  rw [List.all_eq_false.2 ⟨p, hm, by simp [h]⟩]; rfl
theorem take_any_succ (xs : List ByteArray) (k : Nat) (hk : k < xs.length) (f : List UInt8 → Bool) :
    ((xs.take (k + 1)).map (·.data.toList)).any f = (((xs.take k).map (·.data.toList)).any f || f xs[k].data.toList) := by
  rw [List.take_succ_eq_append_getElem hk, List.map_append, List.any_append]; simp
theorem take_all_succ (xs : List ByteArray) (k : Nat) (hk : k < xs.length) (f : List UInt8 → Bool) :
    ((xs.take (k + 1)).map (·.data.toList)).all f = (((xs.take k).map (·.data.toList)).all f && f xs[k].data.toList) := by
  rw [List.take_succ_eq_append_getElem hk, List.map_append, List.all_append]; simp
theorem any_succ (p : Int → Bool) (s : ByteArray) (k : Nat) (h : k < s.size) : anyB p (s.data.toList.take (k + 1)) = (anyB p (s.data.toList.take k) || p (s[k].toNat : Int)) := by
  rw [take_snoc s k h]; unfold anyB; rw [List.any_append]; simp
theorem mem_take_of {xs : List ByteArray} {k m : Nat} (hk : k < xs.length) (hm : k < m) : xs[k].data.toList ∈ (xs.take m).map (·.data.toList) := by
  rw [List.mem_map]
  refine ⟨xs[k], ?_, rfl⟩
  rw [List.mem_take_iff_getElem]
  exact ⟨k, by omega, rfl⟩

end Go.Proofs.YtfijncfoefbohaaGreatDoor
