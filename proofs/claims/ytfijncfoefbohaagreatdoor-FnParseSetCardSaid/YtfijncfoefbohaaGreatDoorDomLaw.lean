/- The plain law: the byte-by-byte test of a cookie's domain name is the reference's: labels with at least one letter. -/
import Derived.Test.YtfijncfoefbohaaGreatDoorDom
namespace Go.Proofs.YtfijncfoefbohaaGreatDoor
open Go Go.RowKit

def icStep (last : Int) (ok : Bool) (pl : Nat) (c : Int) : Option (Int × Bool × Nat) :=
  if letB c then some (c, true, pl + 1)
  else if digB c then some (c, ok, pl + 1)
  else if c = 45 then (if last = 46 then none else some (c, ok, pl + 1))
  else if c = 46 then (if last = 46 ∨ last = 45 then none else if 63 < pl ∨ pl = 0 then none else some (c, ok, 0))
  else none
def icRun : List UInt8 → Int → Bool → Nat → Bool
  | [], last, ok, pl => if last = 45 ∨ 63 < pl then false else ok
  | c :: l, last, ok, pl => match icStep last ok pl (c.toNat : Int) with
    | none => false
    | some (a, b, p) => icRun l a b p

def allLab (seen : Bool) (t : List UInt8) : Bool :=
  (if (splitL 46 t).getLast?.getD [] = [] ∧ (seen = true ∨ 1 < (splitL 46 t).length) then (splitL 46 t).dropLast else splitL 46 t).all labB
def lastOf (p : List UInt8) : Int := if p = [] then 46 else lastN p

theorem splitL_part (c : UInt8) (p : List UInt8) (a : UInt8) (l : List UInt8) (hp : ∀ x ∈ p, x ≠ c) (ha : a ≠ c) : ∃ q r, splitL c (p ++ a :: l) = (p ++ a :: q) :: r := by
  induction p with
  | nil =>
    rw [List.nil_append, splitL, if_neg ha]
    cases h : splitL c l with
    | nil => exact absurd h (splitL_ne c l)
    | cons q r => exact ⟨q, r, rfl⟩
  | cons b p ih =>
    obtain ⟨q, r, h⟩ := ih (fun x hx => hp x (by simp [hx]))
    refine ⟨q, r, ?_⟩
    rw [List.cons_append, splitL, if_neg (hp b (by simp)), h]
    rfl
theorem allLab_bad (seen : Bool) (t x : List UInt8) (r : List (List UInt8)) (h : splitL 46 t = x :: r) (hx : x ≠ []) (hl : labB x = false) : allLab seen t = false := by
  unfold allLab
  rw [h]
  split
  · rename_i h2
    cases r with
    | nil => exact absurd h2.1 (by simpa using hx)
    | cons y r => simp [hl]
  · simp [hl]
theorem allLab_dot (seen : Bool) (p l : List UInt8) (hp : ∀ x ∈ p, x ≠ 46) : allLab seen (p ++ 46 :: l) = (labB p && allLab true l) := by
  unfold allLab
  rw [splitL_hit 46 p l hp]
  cases h : splitL 46 l with
  | nil => exact absurd h (splitL_ne 46 l)
  | cons y r =>
    have e : (p :: y :: r).getLast?.getD [] = (y :: r).getLast?.getD [] := by simp
    rw [e]
    by_cases h2 : (y :: r).getLast?.getD [] = []
    · rw [if_pos ⟨h2, .inr (by simp)⟩, if_pos ⟨h2, .inl rfl⟩]; rfl
    · rw [if_neg (fun k => h2 k.1), if_neg (fun k => h2 k.1)]; rfl

theorem u8_ne {c : UInt8} {n : Nat} (hn : n < 256) (h : (c.toNat : Int) ≠ n) : c ≠ UInt8.ofNat n := by
  rintro rfl
  apply h
  simp [UInt8.toNat_ofNat, Nat.mod_eq_of_lt hn]
theorem host_ne (p : List UInt8) (h : allB hostB p = true) : ∀ x ∈ p, x ≠ 46 := by
  intro x hx e
  have := (List.all_eq_true.1 h) x hx
  subst e
  revert this
  decide
theorem allB_append (f : Int → Bool) (p q : List UInt8) : allB f (p ++ q) = (allB f p && allB f q) := by unfold allB; exact List.all_append ..
theorem anyB_append (f : Int → Bool) (p q : List UInt8) : anyB f (p ++ q) = (anyB f p || anyB f q) := by unfold anyB; exact List.any_append ..
theorem lastOf_snoc (p : List UInt8) (c : UInt8) : lastOf (p ++ [c]) = (c.toNat : Int) := by unfold lastOf lastN; simp
theorem headN_snoc (p : List UInt8) (c : UInt8) : headN (p ++ [c]) = if p = [] then (c.toNat : Int) else headN p := by
  unfold headN; cases p <;> simp
theorem lastOf_host (p : List UInt8) (h : allB hostB p = true) (hp : p ≠ []) : hostB (lastOf p) = true := by
  unfold lastOf lastN
  rw [if_neg hp]
  rw [List.getLast?_eq_some_getLast hp]
  exact (List.all_eq_true.1 h) _ (List.getLast_mem hp)

structure Good (p : List UInt8) (ok seen : Bool) : Prop where
  host : allB hostB p = true
  head : p ≠ [] → headN p ≠ 45
  lets : anyB letB p = true → ok = true
  start : p = [] → seen = false → ok = false

theorem icRun_all (l : List UInt8) : ∀ (p : List UInt8) (ok seen : Bool), Good p ok seen → icRun l (lastOf p) ok p.length = (allLab seen (p ++ l) && (ok || anyB letB (p ++ l))) := by
  induction l with
  | nil =>
    intro p ok seen g
    rw [List.append_nil]
    have hs : splitL 46 p = [p] := splitL_none 46 p (host_ne p g.host)
    unfold icRun allLab
    rw [hs]
    by_cases hp : p = []
    · subst hp
      cases seen
      · have := g.start rfl rfl
        subst this
        simp [lastOf]
        decide
      · simp [lastOf, anyB]
    · rw [show (if [p].getLast?.getD [] = [] ∧ (seen = true ∨ 1 < [p].length) then [p].dropLast else [p]) = [p] from if_neg (by simp [hp])]
      have hlo : (ok || anyB letB p) = ok := by
        cases h : anyB letB p
        · simp
        · rw [g.lets h]; rfl
      rw [hlo]
      have hlen : 1 ≤ p.length := by cases p <;> simp at hp ⊢
      have hlab : labB p = (decide (p.length ≤ 63) && (lastN p != 45)) := by
        unfold labB
        have h1 : (headN p != 45) = true := by simpa using g.head hp
        rw [g.host, h1, show decide (1 ≤ p.length) = true from by simpa using hlen]; simp
      have hlast : lastOf p = lastN p := by unfold lastOf; rw [if_neg hp]
      rw [hlast]
      simp only [List.all_cons, List.all_nil, Bool.and_true, hlab]
      by_cases h1 : lastN p = 45
      · simp [h1]
      · by_cases h2 : 63 < p.length
        · have : decide (p.length ≤ 63) = false := by rw [decide_eq_false_iff_not]; omega
          rw [if_pos (.inr h2), this]; simp
        · have : decide (p.length ≤ 63) = true := by rw [decide_eq_true_eq]; omega
          have h3 : (lastN p != 45) = true := by simpa using h1
          rw [if_neg (fun h => h.elim h1 h2), this, h3]; simp
  | cons c l ih =>
    intro p ok seen g
    unfold icRun icStep
    have hsn : p ++ c :: l = (p ++ [c]) ++ l := by simp
    have hlen : (p ++ [c]).length = p.length + 1 := by simp
    by_cases h1 : letB (c.toNat : Int) = true
    · rw [if_pos h1]
      have g' : Good (p ++ [c]) true seen := by
        refine ⟨?_, ?_, fun _ => rfl, fun h => by simp at h⟩
        · rw [allB_append, g.host]; simp [allB, hostB, h1]
        · intro _
          rw [headN_snoc]
          split
          · intro h; rw [h] at h1; revert h1; decide
          · exact g.head ‹_›
      have := ih (p ++ [c]) true seen g'
      rw [lastOf_snoc, hlen] at this
      simp only [this, hsn]
      rw [anyB_append, anyB_append]
      have h3 : anyB letB [c] = true := by unfold anyB; simp [h1]
      simp [h3]
    · rw [if_neg h1]
      have h1' : letB (c.toNat : Int) = false := by simpa using h1
      by_cases h2 : digB (c.toNat : Int) = true
      · rw [if_pos h2]
        have g' : Good (p ++ [c]) ok seen := by
          refine ⟨?_, ?_, ?_, fun h => by simp at h⟩
          · rw [allB_append, g.host]; simp [allB, hostB, h2]
          · intro _
            rw [headN_snoc]
            split
            · intro h; rw [h] at h2; revert h2; decide
            · exact g.head ‹_›
          · intro h
            rw [anyB_append] at h
            have h3 : anyB letB [c] = false := by unfold anyB; simp [h1']
            rw [h3, Bool.or_false] at h
            exact g.lets h
        have := ih (p ++ [c]) ok seen g'
        rw [lastOf_snoc, hlen] at this
        simp only [this, hsn]
      · rw [if_neg h2]
        have h2' : digB (c.toNat : Int) = false := by simpa using h2
        by_cases h3 : (c.toNat : Int) = 45
        · rw [if_pos h3]
          have hc : c ≠ 46 := by rintro rfl; revert h3; decide
          by_cases hp : p = []
          · subst hp
            have : lastOf [] = 46 := rfl
            rw [if_pos this]
            obtain ⟨q, r, hs⟩ := splitL_part 46 [] c l (by simp) hc
            rw [allLab_bad seen _ _ r hs (by simp) (by unfold labB headN; simp [h3])]
            rfl
          · have hne : lastOf p ≠ 46 := by
              intro h
              have := lastOf_host p g.host hp
              rw [h] at this
              revert this
              decide
            rw [if_neg hne]
            have g' : Good (p ++ [c]) ok seen := by
              refine ⟨?_, ?_, ?_, fun h => by simp at h⟩
              · rw [allB_append, g.host]; simp [allB, hostB, h3]
              · intro _
                rw [headN_snoc, if_neg hp]
                exact g.head hp
              · intro h
                rw [anyB_append] at h
                have h3 : anyB letB [c] = false := by unfold anyB; simp [h1']
                rw [h3, Bool.or_false] at h
                exact g.lets h
            have := ih (p ++ [c]) ok seen g'
            rw [lastOf_snoc, hlen] at this
            simp only [this, hsn]
        · rw [if_neg h3]
          by_cases h4 : (c.toNat : Int) = 46
          · rw [if_pos h4]
            have hc : c = 46 := by apply UInt8.toNat_inj.1; have : c.toNat = 46 := by omega
                                   rw [this]; rfl
            subst hc
            rw [allLab_dot seen p l (host_ne p g.host), anyB_append]
            by_cases hp : p = []
            · subst hp
              have : lastOf [] = 46 := rfl
              rw [if_pos (.inl this)]
              have : labB [] = false := by decide
              rw [this]; rfl
            · have hne : lastOf p ≠ 46 := by
                intro h
                have := lastOf_host p g.host hp
                rw [h] at this
                revert this
                decide
              have hlen1 : 1 ≤ p.length := by cases p <;> simp at hp ⊢
              have hlast : lastOf p = lastN p := by unfold lastOf; rw [if_neg hp]
              have hlab : labB p = (decide (p.length ≤ 63) && (lastN p != 45)) := by
                unfold labB
                have h1 : (headN p != 45) = true := by simpa using g.head hp
                rw [g.host, h1, show decide (1 ≤ p.length) = true from by simpa using hlen1]; simp
              by_cases h5 : lastN p = 45
              · rw [if_pos (.inr (by rw [hlast]; exact h5)), hlab]
                simp [h5]
              · rw [if_neg (by rw [hlast] at hne ⊢; intro h; rcases h with h | h; exact hne h; exact h5 h)]
                by_cases h6 : 63 < p.length
                · rw [if_pos (.inl h6), hlab]
                  have : decide (p.length ≤ 63) = false := by rw [decide_eq_false_iff_not]; omega
                  rw [this]; rfl
                · rw [if_neg (by omega), hlab]
                  have : decide (p.length ≤ 63) = true := by rw [decide_eq_true_eq]; omega
                  rw [this]
                  have g' : Good [] ok true := ⟨rfl, fun h => absurd rfl h, fun h => by simp [anyB] at h, fun _ h => by cases h⟩
                  have := ih [] ok true g'
                  simp only [List.length_nil, List.nil_append] at this
                  have e46 : lastOf [] = (46 : Int) := rfl
                  rw [e46] at this
                  simp only [h4, this]
                  have hb : (lastN p != 45) = true := by simpa using h5
                  rw [hb]
                  have hd : anyB letB (46 :: l) = anyB letB l := rfl
                  rw [hd]
                  cases hq : anyB letB p
                  · simp
                  · rw [g.lets hq]; simp
          · rw [if_neg h4]
            have hc : c ≠ 46 := by rintro rfl; exact h4 rfl
            obtain ⟨q, r, hs⟩ := splitL_part 46 p c l (host_ne p g.host) hc
            have hbad : labB (p ++ c :: q) = false := by
              apply labB_no
              rw [allB_append]
              have : hostB (c.toNat : Int) = false := by unfold hostB; rw [h1', h2']; simpa using h3
              simp [allB, this]
            rw [allLab_bad seen _ _ r hs (by simp) hbad]
            rfl

theorem any_split (t : List UInt8) : (splitL 46 t).any (anyB letB) = anyB letB t := by
  induction t with
  | nil => rfl
  | cons a t ih =>
    unfold splitL
    by_cases h : a = 46
    · subst h
      rw [if_pos rfl, List.any_cons, ih]
      rfl
    · rw [if_neg h]
      cases h2 : splitL 46 t with
      | nil => exact absurd h2 (splitL_ne 46 t)
      | cons q r =>
        rw [h2] at ih
        simp only [List.any_cons] at ih ⊢
        have e : anyB letB (a :: t) = (letB a.toNat || anyB letB t) := rfl
        have e2 : anyB letB (a :: q) = (letB a.toNat || anyB letB q) := rfl
        rw [e, ← ih, e2, Bool.or_assoc]
theorem any_dropLast (ps : List (List UInt8)) (h : ps.getLast?.getD [] = []) : ps.dropLast.any (anyB letB) = ps.any (anyB letB) := by
  cases hp : ps with
  | nil => rfl
  | cons a r =>
    have hne : ps ≠ [] := by rw [hp]; simp
    rw [← hp]
    conv => rhs; rw [← List.dropLast_concat_getLast hne]
    rw [List.any_append]
    rw [List.getLast?_eq_some_getLast hne] at h
    simp at h
    rw [h]
    simp [anyB]
theorem domOk_run (t : List UInt8) : icRun t 46 false 0 = (allLab false t && anyB letB t) := by
  have := icRun_all t [] false false ⟨rfl, fun h => absurd rfl h, fun h => by simp [anyB] at h, fun _ _ => rfl⟩
  exact this
end Go.Proofs.YtfijncfoefbohaaGreatDoor
