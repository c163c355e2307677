/- Pairs of a line of cookies as the package reads them: plain lists. -/
import Derived.Test.YtfijncfoefbohaaGreatDoorTrim
namespace Go.Proofs.YtfijncfoefbohaaGreatDoor
open Go Go.RowKit

abbrev Pair := List UInt8 × List UInt8 × Bool
def pairOk (s : List UInt8) : Bool := hasB 61 s && (tokS (cutA 61 s) && allB valB (stripL (cutB 61 s) true))
def pairIs (s : List UInt8) : Pair := (cutA 61 s, stripL (cutB 61 s) true, qB (cutB 61 s) true)
/-- One pair, as ParseCookie reads it. -/
def pairOf (p : List UInt8) : Option Pair := if pairOk (trimL p) then some (pairIs (trimL p)) else none

theorem rtrim_id {l : List UInt8} (h : ∀ b, l.getLast? = some b → spU b = false) : rtrim l = l := by
  rcases List.eq_nil_or_concat l with rfl | ⟨m, b, rfl⟩
  · rfl
  · rw [List.concat_eq_append] at *
    exact rtrim_no (h b (by simp))
theorem ltrim_id {l : List UInt8} (h : ∀ b, l.head? = some b → spU b = false) : ltrim l = l := by
  cases l with
  | nil => rfl
  | cons a m => exact ltrim_no (h a rfl)
theorem trim_id {l : List UInt8} (h1 : ∀ b, l.head? = some b → spU b = false) (h2 : ∀ b, l.getLast? = some b → spU b = false) : trimL l = l := by
  unfold trimL; rw [ltrim_id h1, rtrim_id h2]
theorem trim_blank (l : List UInt8) : trimL (32 :: l) = trimL l := by unfold trimL; rw [ltrim_yes (by decide)]

theorem splitL_cons (c a : UInt8) (l : List UInt8) : splitL c (a :: l) = (if a = c then [] :: splitL c l else match splitL c l with
    | [] => [[a]]
    | p :: r => (a :: p) :: r) := rfl
theorem splitL_app (c : UInt8) (a b : List UInt8) : splitL c (a ++ c :: b) = splitL c a ++ splitL c b := by
  induction a with
  | nil => simp [splitL]
  | cons x a ih =>
    rw [List.cons_append, splitL_cons, splitL_cons]
    by_cases h : x = c
    · rw [if_pos h, if_pos h, ih]; rfl
    · rw [if_neg h, if_neg h, ih]
      cases hs : splitL c a with
      | nil => exact absurd hs (splitL_ne c a)
      | cons p r => rfl

theorem cutA_eq {c : UInt8} {n x : List UInt8} (h : ∀ b ∈ n, b ≠ c) : cutA c (n ++ c :: x) = n := takeWhile_of h
theorem cutB_eq {c : UInt8} {n x : List UInt8} (h : ∀ b ∈ n, b ≠ c) : cutB c (n ++ c :: x) = x := by
  unfold cutB; rw [cutA_eq h]
  have : (n ++ c :: x) = (n ++ [c]) ++ x := by simp
  rw [this, List.drop_left' (by simp)]
theorem hasB_eq {c : UInt8} {n x : List UInt8} : hasB c (n ++ c :: x) = true := by unfold hasB; simp

theorem tok_mem {l : List UInt8} (h : tokS l = true) : ∀ b ∈ l, tokB b.toNat = true := by
  unfold tokS allB at h
  simp only [Bool.and_eq_true, List.all_eq_true] at h
  exact h.2
theorem tok_ne {l : List UInt8} (h : tokS l = true) : l ≠ [] := by rintro rfl; simp [tokS] at h
theorem tok_byte {b : UInt8} (h : tokB b.toNat = true) : b ≠ 61 ∧ b ≠ 59 ∧ b ≠ 34 ∧ spU b = false := by
  refine ⟨?_, ?_, ?_, ?_⟩
  · rintro rfl; revert h; decide
  · rintro rfl; revert h; decide
  · rintro rfl; revert h; decide
  · unfold tokB at h; rw [decide_eq_true_eq] at h
    unfold spU spB; rw [decide_eq_false_iff_not]; omega
theorem oct_byte {b : UInt8} (h : octB b.toNat = true) : b ≠ 59 ∧ b ≠ 34 ∧ spU b = false ∧ valB b.toNat = true := by
  refine ⟨?_, ?_, ?_, ?_⟩
  · rintro rfl; revert h; decide
  · rintro rfl; revert h; decide
  · unfold octB at h; rw [decide_eq_true_eq] at h
    unfold spU spB; rw [decide_eq_false_iff_not]; omega
  · rw [← valB_oct]; rw [h]; rfl
theorem val_byte {b : UInt8} (h : valB b.toNat = true) : b ≠ 59 ∧ b ≠ 34 ∧ (spU b = true → b = 32) := by
  refine ⟨?_, ?_, ?_⟩
  · rintro rfl; revert h; decide
  · rintro rfl; revert h; decide
  · intro h2
    unfold valB at h; rw [decide_eq_true_eq] at h
    unfold spU spB at h2; rw [decide_eq_true_eq] at h2
    refine UInt8.toNat_inj.1 ?_
    show b.toNat = 32
    omega
theorem allB_mem {p : Int → Bool} {l : List UInt8} (h : allB p l = true) : ∀ b ∈ l, p b.toNat = true := by
  unfold allB at h; exact List.all_eq_true.1 h
theorem allB_of {p : Int → Bool} {l : List UInt8} (h : ∀ b ∈ l, p b.toNat = true) : allB p l = true := by
  unfold allB; exact List.all_eq_true.2 h

/-! ### A value as it is written, read back -/
def quoL (v : List UInt8) (q : Bool) : List UInt8 := if q then 34 :: (v ++ [34]) else v
theorem quo_q {v : List UInt8} (q : Bool) (h : ∀ b ∈ v, b ≠ 34) : qB (quoL v q) true = q := by
  cases q
  · show qB v true = false
    unfold qB
    cases v with
    | nil => rfl
    | cons a m =>
      have ha : a ≠ 34 := h a (by simp)
      have : ((((a :: m).head?.getD 0).toNat : Int) == 34) = false := by
        rw [beq_eq_false_iff_ne]
        intro e
        exact ha (UInt8.toNat_inj.1 (by show a.toNat = 34; simp only [List.head?_cons, Option.getD_some] at e; omega))
      rw [this]; simp
  · show qB (34 :: (v ++ [34])) true = true
    unfold qB
    simp [List.getLast?_cons]
theorem quo_strip {v : List UInt8} (q : Bool) (h : ∀ b ∈ v, b ≠ 34) : stripL (quoL v q) true = v := by
  unfold stripL
  rw [quo_q q h]
  cases q
  · rfl
  · show ((34 :: (v ++ [34])).tail).dropLast = v
    simp

theorem pair_head {n x : List UInt8} (hn : tokS n = true) : ∀ b, (n ++ 61 :: x).head? = some b → spU b = false := by
  intro b hb
  cases n with
  | nil => exact absurd rfl (tok_ne hn)
  | cons a m =>
    simp only [List.cons_append, List.head?_cons, Option.some.injEq] at hb
    subst hb
    exact (tok_byte (tok_mem hn a (by simp))).2.2.2
theorem pair_last {n v : List UInt8} {q : Bool} (hv : q = false → ∀ b ∈ v, spU b = false) : ∀ b, (n ++ 61 :: quoL v q).getLast? = some b → spU b = false := by
  intro b hb
  cases q
  · have h1 := hv rfl
    change (n ++ 61 :: v).getLast? = some b at hb
    rw [List.getLast?_append, List.getLast?_cons] at hb
    simp only [Option.some_or, Option.some.injEq] at hb
    cases hg : v.getLast? with
    | none => rw [hg] at hb; subst hb; decide
    | some y =>
      rw [hg] at hb
      simp only [Option.getD_some] at hb
      subst hb
      exact h1 _ (List.mem_of_getLast? hg)
  · change (n ++ 61 :: (34 :: (v ++ [34]))).getLast? = some b at hb
    have : n ++ 61 :: (34 :: (v ++ [34])) = (n ++ 61 :: 34 :: v) ++ [34] := by simp
    rw [this, List.getLast?_concat] at hb
    simp only [Option.some.injEq] at hb
    subst hb; decide
/-- A PAIR THAT IS WRITTEN WELL IS READ. -/
theorem pair_good {n v : List UInt8} {q : Bool} (hn : tokS n = true) (hv : allB valB v = true) (hb : q = false → ∀ b ∈ v, spU b = false) : pairOf (n ++ 61 :: quoL v q) = some (n, v, q) := by
  have h61 : ∀ b ∈ n, b ≠ 61 := fun b hb => (tok_byte (tok_mem hn b hb)).1
  have h34 : ∀ b ∈ v, b ≠ 34 := fun b hb => (val_byte (allB_mem hv b hb)).2.1
  unfold pairOf
  rw [trim_id (pair_head hn) (pair_last hb)]
  unfold pairOk pairIs
  rw [cutA_eq h61, cutB_eq h61, hasB_eq, hn, quo_strip q h34, quo_q q h34, hv]
  rfl
theorem pair_good' {n v : List UInt8} {q : Bool} (hn : tokS n = true) (hv : allB valB v = true) (hb : q = false → ∀ b ∈ v, spU b = false) : pairOf (32 :: (n ++ 61 :: quoL v q)) = some (n, v, q) := by
  have := pair_good hn hv hb
  unfold pairOf at *
  rw [trim_blank]; exact this

/-! ### A pair that is none -/
def blankL (l : List UInt8) : Bool := (cutA 61 l).any spU || (!l.isEmpty && (spU (l.head?.getD 0) || spU (l.getLast?.getD 0)))
theorem not_blank_trim {l : List UInt8} (h : blankL l = false) : trimL l = l := by
  unfold blankL at h
  rw [Bool.or_eq_false_iff] at h
  have h2 := h.2
  cases l with
  | nil => rfl
  | cons a m =>
    simp only [List.isEmpty_cons, Bool.not_false, Bool.true_and, Bool.or_eq_false_iff] at h2
    refine trim_id ?_ ?_
    · intro b hb; simp only [List.head?_cons, Option.some.injEq] at hb; subst hb; exact h2.1
    · intro b hb; rw [hb] at h2; exact h2.2
theorem pair_bad {l : List UInt8} (h : blankL l = false) (hbad : pairOk l = false) : pairOf (32 :: l) = none ∧ pairOf l = none := by
  unfold pairOf
  rw [trim_blank, not_blank_trim h, hbad]
  exact ⟨rfl, rfl⟩
theorem bad_part {a p b : List UInt8} (hp : ∀ x ∈ p, x ≠ 59) : (32 :: p) ∈ splitL 59 (a ++ [59, 32] ++ p ++ [59, 32] ++ b) := by
  have h1 : a ++ [59, 32] ++ p ++ [59, 32] ++ b = a ++ 59 :: ((32 :: p) ++ 59 :: (32 :: b)) := by simp
  have h2 : ∀ x ∈ (32 :: p), x ≠ 59 := by
    intro x hx
    rcases List.mem_cons.1 hx with rfl | hx
    · decide
    · exact hp x hx
  rw [h1, splitL_app, splitL_app, splitL_none 59 _ h2]
  simp
end Go.Proofs.YtfijncfoefbohaaGreatDoor
