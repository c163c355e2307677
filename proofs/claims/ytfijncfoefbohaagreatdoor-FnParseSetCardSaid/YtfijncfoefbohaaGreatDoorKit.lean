/- Small laws for the walks: append of one element, facts on worlds, lists of strings. -/
import Derived.Test.YtfijncfoefbohaaGreatDoorProg
import Derived.WalkKit
import Derived.WalkLawsBesides
import Derived.WalkSpells
import Derived.BigGuardPart
import Derived.Lib.Hide
import Derived.Lib.Strings
import Derived.Maps.AppendAt
namespace Go.Proofs.YtfijncfoefbohaaGreatDoor
open Go Go.RowKit

/-- append(s, x) of one element of one cell, s nil or a row of the call's own. -/
theorem wpList_app1 {P : Program} {W : World} {ops : Array Oper} {rest : List Oper} {o : Oper} {a : Act} {Q : Exit → Act → World → Prop} (hgd : o.guard = none) (s x : Operand) (t e : TypeId)
    (ho : o.op = .call { callee := .builtin .append, args := #[s, x], argTypes := #[t, t] })
    (z : Value) (bytes : Nat) (ht : P.underlying t = some (.slice e)) (hinfo : (P.info? e).map (fun i => (i.zero, i.size, i.bytes)) = some (some z, 1, bytes)) (hzs : z.cells.size = 1)
    (B : Nat) (v : Value) (n : Nat) (xs : List Value) (hs : a.eval s = v) (hown : W.ownsRow B e 1 v n xs) (u : Value) (hu : u.oneCell' = true)
    (hx : a.eval x = .slice (some ⟨W.heap.size, 0, none⟩) 1 1) (hn : (n + 1) * bytes ≤ 140737488355328) (hm : n < 9223372036854775807) (hB : B ≤ W.heap.size)
    (h : ∀ g cap w1, w1.ownsRow B e 1 (.slice (some ⟨g, 0, none⟩) (n + 1) cap) (n + 1) (xs ++ [u]) → Below B W w1 → W.grownBy w1 v.ownBlock → (some g = v.ownBlock ∨ W.heap.size ≤ g) → B ≤ g →
      wpList P ops Q rest (a.put o.dst (.slice (some ⟨g, 0, none⟩) (n + 1) cap)) w1) :
    wpList P ops Q (o :: rest) a (W.alloc (.cells #[u] e)) := by
  obtain ⟨i, hi, hz0, hz1, hz2⟩ := info_parts hinfo
  refine wpList_append_own_at _ hgd s x t ho B e i z 1 bytes ht hi hz0 hz1 hz2 hzs (by omega) v n xs hs (hown.alloc _) ⟨W.heap.size, 0, none⟩ 1 1 [u] hx rfl (cell_one_new _ _ _)
    (by intro y hy; simp at hy; subst hy; exact hu) (by unfold maxLen; omega) hn (by simp; omega) ?_
  intro v' w1 hown' hg hnil hat
  rcases hown'.2 with ⟨_, h0⟩ | ⟨g, cap, cur, rfl, hbg, _⟩
  · omega
  · have hg1 : W.grownBy w1 v.ownBlock := (World.grownBy_alloc W _ _).trans hg
    refine h g cap w1 hown' ?_ hg1 ?_ hbg
    · exact (Below.refl B W).grown hg1 hB (fun k hk => (hown.lt k hk).1)
    · rcases hat with h1 | h1
      · exact .inl (by simpa [Value.ownBlock] using h1)
      · refine .inr ?_
        simp [Value.ownBlock] at h1
        omega

theorem bcell {B : Nat} {W w1 : World} (hb : Below B W w1) : (∀ b o, b < B → w1.cell? ⟨b, o, none⟩ = W.cell? ⟨b, o, none⟩) ∧ (∀ b o, b < B → w1.frozen? ⟨b, o, none⟩ = W.frozen? ⟨b, o, none⟩) :=
  ⟨fun b o h => hb.cell (p := ⟨b, o, none⟩) h, fun b o h => hb.frozen (p := ⟨b, o, none⟩) h⟩

/-! ### A text cut at a byte -/
def splitL (c : UInt8) : List UInt8 → List (List UInt8)
  | [] => [[]]
  | a :: l => if a = c then [] :: splitL c l else match splitL c l with
    | [] => [[a]]
    | p :: r => (a :: p) :: r
theorem splitL_ne (c : UInt8) (l : List UInt8) : splitL c l ≠ [] := by
  cases l with
  | nil => simp [splitL]
  | cons a l =>
    unfold splitL
    split
    · simp
    · split <;> simp
theorem splitL_none (c : UInt8) (p : List UInt8) (h : ∀ x ∈ p, x ≠ c) : splitL c p = [p] := by
  induction p with
  | nil => rfl
  | cons a p ih =>
    unfold splitL
    rw [if_neg (h a (by simp)), ih (fun x hx => h x (by simp [hx]))]
theorem splitL_hit (c : UInt8) (p r : List UInt8) (h : ∀ x ∈ p, x ≠ c) : splitL c (p ++ c :: r) = p :: splitL c r := by
  induction p with
  | nil => simp [splitL]
  | cons a p ih =>
    rw [List.cons_append, splitL, if_neg (h a (by simp)), ih (fun x hx => h x (by simp [hx]))]
theorem splitL_length (c : UInt8) (l : List UInt8) : (splitL c l).length = l.count c + 1 := by
  induction l with
  | nil => rfl
  | cons a l ih =>
    unfold splitL
    by_cases h : a = c
    · rw [if_pos h, List.length_cons, ih, h, List.count_cons_self]
    · rw [if_neg h, List.count_cons_of_ne h, ← ih]
      split
      · rename_i h1; exact absurd h1 (splitL_ne c l)
      · rename_i p r h1; rw [h1]; rfl
theorem splitL_length_le (c : UInt8) (l : List UInt8) : (splitL c l).length ≤ l.length + 1 := by
  rw [splitL_length]; have := List.count_le_length (a := c) (l := l); omega

theorem splitL_mem_le (c : UInt8) (l : List UInt8) : ∀ p ∈ splitL c l, p.length ≤ l.length := by
  induction l with
  | nil => intro p hp; simp [splitL] at hp; simp [hp]
  | cons a l ih =>
    intro p hp
    unfold splitL at hp
    split at hp
    · rw [List.mem_cons] at hp
      rcases hp with rfl | hp
      · simp
      · have := ih p hp; rw [List.length_cons]; omega
    · split at hp
      · rename_i h1; exact absurd h1 (splitL_ne c l)
      · rename_i q r h1
        rw [List.mem_cons] at hp
        rcases hp with rfl | hp
        · have := ih q (by rw [h1]; simp); simpa using this
        · have := ih p (by rw [h1]; simp [hp]); rw [List.length_cons]; omega

theorem strInfo : (Tryz.prog.info? 9).map (fun i => (i.zero, i.size, i.bytes)) = some (some (.string ⟨#[]⟩), 1, 16) := by kernel_rfl
end Go.Proofs.YtfijncfoefbohaaGreatDoor
