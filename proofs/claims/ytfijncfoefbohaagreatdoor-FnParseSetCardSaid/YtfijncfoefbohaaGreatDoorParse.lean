/- ParseCookie: the pairs of a line, or an error. -/
import Derived.Test.YtfijncfoefbohaaGreatDoorPtrs
import Derived.Test.YtfijncfoefbohaaGreatDoorItems
namespace Go.Proofs.YtfijncfoefbohaaGreatDoor
open Go Go.RowKit

def pairC (c : Ck) : Pair := (c.name.data.toList, c.value.data.toList, c.quoted)
def ckOf (x y : ByteArray) (q : Bool) : Ck := ⟨x, y, q, ⟨#[]⟩, ⟨#[]⟩, 0, false, false, 0, false, ⟨#[]⟩, none, 0, 0⟩
def ReadOk (line : List UInt8) (l : List (Nat × Ck)) : Prop := (splitL 59 line).map pairOf = l.map (fun x => some (pairC x.2)) ∧ cntL 59 line ≤ 2999
def ReadNo (line : List UInt8) : Prop := 3000 ≤ cntL 59 line ∨ ∃ p ∈ splitL 59 line, pairOf p = none
def ParsePost (line : List UInt8) (w : World) (e : Ending) (w' : World) : Prop :=
  ((∃ v l, e = .returned (.tuple #[v, .nilIface]) ∧ PtrsAt w.heap.size l v w' ∧ ReadOk line l) ∨
   (∃ tp a, e = .returned (.tuple #[.slice none 0 0, .iface tp (.pointer (some a))]) ∧ ReadNo line)) ∧ Below w.heap.size w w'

theorem ParsePost.err {line : List UInt8} {w w' : World} {tp : TypeId} {a : Addr} (h : ReadNo line) (hb : Below w.heap.size w w') :
    ParsePost line w (.returned (.tuple #[.slice none 0 0, .iface tp (.pointer (some a))])) w' := ⟨.inr ⟨tp, a, rfl, h⟩, hb⟩
theorem ParsePost.ok {line : List UInt8} {w w' : World} {v : Value} {l : List (Nat × Ck)} (hp : PtrsAt w.heap.size l v w') (h : ReadOk line l) (hb : Below w.heap.size w w') :
    ParsePost line w (.returned (.tuple #[v, .nilIface])) w' := ⟨.inl ⟨v, l, rfl, hp, h⟩, hb⟩

theorem blank_line {line : List UInt8} (h0 : cntL 59 line = 0) (ht : trimL line = []) : ReadNo line := by
  right
  have h1 : ∀ x ∈ line, x ≠ 59 := by
    intro x hx e
    subst e
    unfold cntL at h0
    rw [List.count_eq_zero] at h0
    exact h0 hx
  refine ⟨line, by rw [splitL_none 59 line h1]; simp, ?_⟩
  unfold pairOf
  rw [ht]; rfl

/-- One part is read. -/
theorem pairOf_no {p : List UInt8} (h : pairOk (trimL p) = false) : pairOf p = none := by unfold pairOf; rw [h]; rfl
theorem pairOf_yes {p : List UInt8} (h : pairOk (trimL p) = true) : pairOf p = some (pairIs (trimL p)) := by unfold pairOf; rw [if_pos h]
theorem no_of {line : List UInt8} {xs : List ByteArray} (hxs : xs.map (·.data.toList) = splitL 59 line) {k : Nat} (hk : k < xs.length) (h : pairOf xs[k].data.toList = none) : ReadNo line :=
  .inr ⟨_, by rw [← hxs]; exact List.mem_map.2 ⟨xs[k], List.getElem_mem hk, rfl⟩, h⟩
def Taken (xs : List ByteArray) (k : Nat) (l : List (Nat × Ck)) : Prop := ((xs.take k).map fun x => pairOf x.data.toList) = l.map fun x => some (pairC x.2)
theorem Taken.push {xs : List ByteArray} {k : Nat} {l : List (Nat × Ck)} {b : Nat} {c : Ck} (h : Taken xs k l) (hk : k < xs.length) (hp : pairOf xs[k].data.toList = some (pairC c)) : Taken xs (k + 1) (l ++ [(b, c)]) := by
  unfold Taken at *
  rw [List.take_succ_eq_append_getElem hk, List.map_append, h]
  simp [hp]
theorem Taken.all {line : List UInt8} {xs : List ByteArray} {k : Nat} {l : List (Nat × Ck)} (h : Taken xs k l) (hk : xs.length ≤ k) (hxs : xs.map (·.data.toList) = splitL 59 line) (hc : cntL 59 line ≤ 2999) : ReadOk line l := by
  refine ⟨?_, hc⟩
  unfold Taken at h
  rw [List.take_of_length_le hk] at h
  rw [← hxs, List.map_map]
  exact h

theorem trimL_len (l : List UInt8) : (trimL l).length ≤ l.length := by
  unfold trimL rtrim ltrim
  rw [List.length_reverse]
  refine Nat.le_trans (List.dropWhile_sublist _).length_le ?_
  rw [List.length_reverse]
  exact (List.dropWhile_sublist _).length_le
theorem trim_size {t p : ByteArray} (h : t.data.toList = trimL p.data.toList) (hp : p.size ≤ 4398046511104) : t.size < 9223372036854775807 ∧ t.size ≤ 4398046511104 := by
  have := trimL_len p.data.toList
  rw [← h, ← Lib.size_eq, ← Lib.size_eq] at this
  omega
theorem cutA_size {c : UInt8} {x t : ByteArray} (h : x.data.toList = cutA c t.data.toList) (ht : t.size < 9223372036854775807) (hp : t.size ≤ 4398046511104) : x.size ≤ maxLen ∧ x.size ≤ 4398046511104 := by
  have h1 := cutA_le (c := c) (l := t.data.toList)
  rw [← h, ← Lib.size_eq, ← Lib.size_eq] at h1
  unfold maxLen; omega
theorem cutB_size {c : UInt8} {x t : ByteArray} (h : x.data.toList = cutB c t.data.toList) (hp : t.size ≤ 4398046511104) : x.size ≤ maxLen ∧ x.size ≤ 4398046511104 := by
  have h1 : (cutB c t.data.toList).length ≤ t.data.toList.length := by unfold cutB; rw [List.length_drop]; omega
  rw [← h, ← Lib.size_eq, ← Lib.size_eq] at h1
  unfold maxLen; omega
theorem alloc_sz' (w : World) (o : Obj) : (w.alloc o).heap.size = w.heap.size + 1 := by show (w.heap.push o).size = _; simp
theorem below_drewN {B : Nat} {a w : World} (h : Below B a w) (n : Nat) : Below B a (w.drewN n) := h.trans ⟨rfl, rfl, rfl, Nat.le_refl _, fun _ _ => rfl⟩

end Go.Proofs.YtfijncfoefbohaaGreatDoor
