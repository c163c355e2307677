/- Lines of Cookie as readCookies reads them: plain lists. -/
import Derived.Test.YtfijncfoefbohaaDoorItems
namespace Go.Proofs.YtfijncfoefbohaaDoor
open Go Go.RowKit

def rdName (p : List UInt8) : List UInt8 := trimL (cutA 61 (trimL p))
def rdVal (p : List UInt8) : List UInt8 := stripL (cutB 61 (trimL p)) true
def rdIs (p : List UInt8) : Pair := (rdName p, rdVal p, qB (cutB 61 (trimL p)) true)
def rdOk (f p : List UInt8) : Bool := tokS (rdName p) && ((f.isEmpty || f == rdName p) && allB valB (rdVal p))
/-- What one part of a line gives; f: the name that is asked for. -/
def rdPart (f p : List UInt8) : List Pair := if rdOk f p then [rdIs p] else []
def rdRest (f l : List UInt8) : List Pair := (splitL 59 l).flatMap (rdPart f)
def rdLine (f line : List UInt8) : List Pair := rdRest f (trimL line)
def rdAll (f : List UInt8) (lines : List (List UInt8)) : List Pair := lines.flatMap (rdLine f)

theorem trimL_nil : trimL [] = [] := rfl
theorem rdPart_blank {f p : List UInt8} (h : trimL p = []) : rdPart f p = [] := by
  unfold rdPart rdOk rdName
  rw [h]; rfl
theorem rdPart_no {f p : List UInt8} (h : rdOk f p = false) : rdPart f p = [] := by unfold rdPart; rw [h]; rfl
theorem rdPart_yes {f p : List UInt8} (h : rdOk f p = true) : rdPart f p = [rdIs p] := by unfold rdPart; rw [h]; rfl
theorem rdRest_nil (f : List UInt8) : rdRest f [] = [] := by
  unfold rdRest splitL
  simp [rdPart_blank (f := f) trimL_nil]
theorem rdRest_step (f l : List UInt8) : rdRest f l = rdPart f (cutA 59 l) ++ rdRest f (cutB 59 l) := by
  rcases h : hasB 59 l with _ | _
  · rw [cutA_none h, cutB_none h, rdRest_nil, List.append_nil]
    unfold rdRest
    rw [splitL_none 59 l]
    · simp
    · intro x hx e
      subst e
      unfold hasB at h
      rw [List.contains_eq_any_beq] at h
      have := List.any_eq_false.1 h 59 hx
      simp at this
  · conv => lhs; rw [cut_parts h]
    unfold rdRest
    rw [splitL_hit 59 _ _ cutA_ne, List.flatMap_cons]
theorem rdAll_nil (f : List UInt8) : rdAll f [] = [] := rfl
theorem rdAll_cons (f l : List UInt8) (r : List (List UInt8)) : rdAll f (l :: r) = rdRest f (trimL l) ++ rdAll f r := by unfold rdAll rdLine; rw [List.flatMap_cons]
theorem rdAll_app (f : List UInt8) (a b : List (List UInt8)) : rdAll f (a ++ b) = rdAll f a ++ rdAll f b := by unfold rdAll; rw [List.flatMap_append]
theorem rdAll_mem {f : List UInt8} {lines : List (List UInt8)} {p : Pair} (h : p ∈ rdAll f lines) : tokS p.1 = true ∧ allB valB p.2.1 = true ∧ (f = [] ∨ f = p.1) := by
  unfold rdAll rdLine rdRest at h
  obtain ⟨l, -, h⟩ := List.mem_flatMap.1 h
  obtain ⟨q, -, h⟩ := List.mem_flatMap.1 h
  unfold rdPart at h
  split at h
  · rename_i hk
    simp only [List.mem_singleton] at h
    subst h
    unfold rdOk at hk
    simp only [Bool.and_eq_true, Bool.or_eq_true, beq_iff_eq, List.isEmpty_iff] at hk
    exact ⟨hk.1, hk.2.2, hk.2.1⟩
  · cases h

/-! ### How many there are -/
def cntAll : List (List UInt8) → Nat
  | [] => 0
  | l :: r => (cntL 59 l + 1) + cntAll r
theorem cntAll_app (a b : List (List UInt8)) : cntAll (a ++ b) = cntAll a + cntAll b := by
  induction a with
  | nil => simp [cntAll]
  | cons x a ih => simp only [List.cons_append, cntAll, ih]; omega
theorem rdPart_len (f p : List UInt8) : (rdPart f p).length ≤ 1 := by unfold rdPart; split <;> simp
theorem rdRest_len (f l : List UInt8) : (rdRest f l).length ≤ cntL 59 l + 1 := by
  unfold rdRest cntL
  rw [count_split]
  generalize splitL 59 l = ps
  induction ps with
  | nil => simp
  | cons p ps ih =>
    rw [List.flatMap_cons, List.length_append, List.length_cons]
    have := rdPart_len f p
    omega
theorem trim_sub (l : List UInt8) : (trimL l).Sublist l := by
  unfold trimL rtrim ltrim
  have h1 : (List.dropWhile spU (List.dropWhile spU l).reverse).reverse.Sublist (List.dropWhile spU l).reverse.reverse := (List.dropWhile_sublist _).reverse
  rw [List.reverse_reverse] at h1
  exact h1.trans (List.dropWhile_sublist _)
theorem cnt_trim (l : List UInt8) : cntL 59 (trimL l) ≤ cntL 59 l := (trim_sub l).count_le 59
theorem rdAll_len (f : List UInt8) (lines : List (List UInt8)) : (rdAll f lines).length ≤ cntAll lines := by
  induction lines with
  | nil => exact Nat.le_refl _
  | cons l r ih =>
    rw [rdAll_cons, List.length_append]
    have h1 := rdRest_len f (trimL l)
    have h2 := cnt_trim l
    unfold cntAll
    omega

/-! ### A line of good pairs -/
theorem rd_good {f n v : List UInt8} {q : Bool} (hn : tokS n = true) (hv : allB valB v = true) (hb : q = false → ∀ b ∈ v, spU b = false) :
    rdPart f (n ++ 61 :: quoL v q) = (if f.isEmpty || f == n then [(n, v, q)] else []) ∧ rdPart f (32 :: (n ++ 61 :: quoL v q)) = (if f.isEmpty || f == n then [(n, v, q)] else []) := by
  have h61 : ∀ b ∈ n, b ≠ 61 := fun b hb => (tok_byte (tok_mem hn b hb)).1
  have h34 : ∀ b ∈ v, b ≠ 34 := fun b hb => (val_byte (allB_mem hv b hb)).2.1
  have ht : trimL n = n := by
    have h : ∀ b ∈ n, spU b = false := fun b hb => (tok_byte (tok_mem hn b hb)).2.2.2
    exact trim_id (fun b hb => h b (List.mem_of_head? hb)) (fun b hb => h b (List.mem_of_getLast? hb))
  have hl : trimL (n ++ 61 :: quoL v q) = n ++ 61 :: quoL v q := trim_id (pair_head hn) (pair_last hb)
  have key : ∀ p, trimL p = n ++ 61 :: quoL v q → rdPart f p = (if f.isEmpty || f == n then [(n, v, q)] else []) := by
    intro p hp
    unfold rdPart rdOk rdIs rdName rdVal
    rw [hp, cutA_eq h61, cutB_eq h61, ht, hn, quo_strip q h34, quo_q q h34, hv, Bool.true_and, Bool.and_true]
  exact ⟨key _ hl, key _ (by rw [trim_blank]; exact hl)⟩
theorem line_read (f : List UInt8) (ps : List Pair) (h : ∀ q ∈ ps, goodP q) : rdLine f (lineT ps) = ps.filter fun q => f.isEmpty || f == q.1 := by
  cases ps with
  | nil => unfold rdLine lineT; rw [trimL_nil, rdRest_nil]; rfl
  | cons p r =>
    have htr : trimL (lineT (p :: r)) = lineT (p :: r) := by
      refine trim_id ?_ ?_
      · intro b hb
        have h3 : lineT (p :: r) = p.1 ++ 61 :: (quoL p.2.1 p.2.2 ++ items (r.map pairT)) := by
          show pairT p ++ items (r.map pairT) = _
          unfold pairT; simp
        rw [h3] at hb
        exact pair_head (h p (by simp)).1 b hb
      · intro b hb
        rcases List.eq_nil_or_concat r with rfl | ⟨m, q, rfl⟩
        · rw [lineT_one] at hb
          exact pair_last (h p (by simp)).2.2 b hb
        · rw [List.concat_eq_append] at *
          rw [← List.cons_append, lineT_snoc (by simp)] at hb
          have h3 : lineT (p :: m) ++ 59 :: 32 :: pairT q = (lineT (p :: m) ++ 59 :: 32 :: q.1) ++ 61 :: quoL q.2.1 q.2.2 := by unfold pairT; simp
          rw [h3] at hb
          exact pair_last (h q (by simp)).2.2 b hb
    unfold rdLine rdRest
    have h4 : rdPart f (pairT p) = _ := (rd_good (h p (by simp)).1 (h p (by simp)).2.1 (h p (by simp)).2.2).1
    rw [htr, line_split p r h, List.flatMap_cons, h4, List.filter_cons]
    have hr : (r.map fun q => 32 :: pairT q).flatMap (rdPart f) = r.filter fun q => f.isEmpty || f == q.1 := by
      have h2 : ∀ q ∈ r, goodP q := fun q hq => h q (by simp [hq])
      clear htr h
      induction r with
      | nil => rfl
      | cons q r ih =>
        rw [List.map_cons, List.flatMap_cons, ih (fun x hx => h2 x (by simp [hx])), List.filter_cons]
        have h5 : rdPart f (32 :: pairT q) = _ := (rd_good (f := f) (h2 q (by simp)).1 (h2 q (by simp)).2.1 (h2 q (by simp)).2.2).2
        rw [h5]
        split <;> rfl
    rw [hr]
    split <;> rfl
theorem line_count (ps : List Pair) (h : ∀ q ∈ ps, goodP q) : cntL 59 (lineT ps) + 1 ≤ ps.length + 1 := by
  cases ps with
  | nil => simp [lineT, cntL]
  | cons p r =>
    unfold cntL
    rw [count_split, line_split p r h]
    simp
end Go.Proofs.YtfijncfoefbohaaDoor
