/- The plain law of FnSet: the written cookie, parted at ';', is its first part and then the attributes. -/
import Derived.Test.YtfijncfoefbohaaGreatDoorAttr
import Derived.Test.YtfijncfoefbohaaGreatDoorItems
namespace Go.Proofs.YtfijncfoefbohaaGreatDoor
open Go Go.RowKit

theorem items_opt (b : Bool) (p : List UInt8) : items (optL b p) = if b then 59 :: 32 :: p else [] := by cases b <;> simp [items, optL]

/-- The attributes in the order in which they are written. -/
def writtenL (c : Ck) : List (List UInt8) :=
  optL (!c.path.toList.isEmpty) (pPath ++ keepB pathB c.path.data.toList) ++ optL (!c.domain.toList.isEmpty && vdB c.domain.data.toList) (pDomain ++ undot c.domain.data.toList) ++ optL (decide (0 < c.age)) (pAge ++ digL c.age.toNat) ++ optL (decide (c.age < 0)) pAge0 ++ optL c.http pHttp ++ optL c.secure pSecure ++ optL (c.site == 4) pNone ++ optL (c.site == 2) pLax ++ optL (c.site == 3) pStrict ++ optL c.part pPart

theorem isEmpty_size (s : ByteArray) : s.toList.isEmpty = decide (s.size = 0) := by
  rw [Lib.toList_data, Lib.size_eq]
  cases s.data.toList <;> simp

theorem setAll_items (c : Ck) : setAll c = setA c ++ items (writtenL c) := by
  unfold setAll writtenL
  simp only [items_app, items_opt, isEmpty_size, List.append_assoc]
  congr 1
  congr 1
  · unfold setPath
    by_cases h : c.path.size = 0
    · simp [h]
    · simp [h, sPath, pPath]
  congr 1
  · unfold setDomain
    by_cases h : c.domain.size = 0
    · simp [h]
    · rcases hv : vdB c.domain.data.toList with _ | _
      · simp [h]
      · simp [h, sDomain, pDomain]
  rw [← List.append_assoc (if decide (0 < c.age) = true then _ else _)]
  congr 1
  · unfold setAge
    by_cases h : 0 < c.age
    · have h2 : ¬ c.age < 0 := by omega
      have h3 : c.age.toNat ≠ 0 := by omega
      simp [h, h2, h3, sAge, pAge, digL]
    · by_cases h2 : c.age < 0
      · simp [h, h2, sAge0, pAge0]
      · simp [h, h2]
  congr 1
  congr 1
  rw [← List.append_assoc (if (c.site == 4) = true then _ else _), ← List.append_assoc _ (if (c.site == 3) = true then _ else _)]
  congr 1
  unfold setSite
  by_cases h4 : c.site = 4
  · simp [h4, sSite, sNone, pNone]
  · by_cases h2 : c.site = 2
    · simp [h2, sSite, sLax, pLax]
    · by_cases h3 : c.site = 3
      · simp [h3, sSite, sStrict, pStrict]
      · simp [h2, h3, h4]

theorem optL_perm {α : Type} (A B C : List α) : (A ++ B ++ C).length = (A ++ C ++ B).length := by simp; omega
theorem written_len (c : Ck) : (writtenL c).length = (attrL c (vdB c.domain.data.toList)).length := by
  unfold writtenL attrL
  simp only [List.length_append]
  omega
theorem attr_written (c : Ck) : ∀ p ∈ attrL c (vdB c.domain.data.toList), p ∈ writtenL c := by
  unfold writtenL attrL
  intro p hp
  simp only [List.mem_append] at hp ⊢
  rcases hp with (((((((((h | h) | h) | h) | h) | h) | h) | h) | h) | h) <;> simp [h]

theorem no59_of {p : Int → Bool} (hp : p 59 = false) {l : List UInt8} (h : allB p l = true) : no59 l := by
  intro x hx e
  subst e
  unfold allB at h
  rw [List.all_eq_true] at h
  have h2 := h _ hx
  change p 59 = true at h2
  rw [hp] at h2; cases h2
theorem no59_keep {p : Int → Bool} (hp : p 59 = false) (l : List UInt8) : no59 (keepB p l) := by
  intro x hx e
  subst e
  unfold keepB at hx
  rw [List.mem_filter] at hx
  have h2 := hx.2
  change p 59 = true at h2
  rw [hp] at h2; cases h2
theorem no59_app {a b : List UInt8} (ha : no59 a) (hb : no59 b) : no59 (a ++ b) := by
  intro x hx
  rcases List.mem_append.1 hx with h | h
  · exact ha x h
  · exact hb x h
theorem no59_writ {l : List UInt8} {q : Bool} (h : no59 l) : no59 (writL l q) := by
  unfold writL
  split
  · intro x hx
    rcases List.mem_cons.1 hx with rfl | hx
    · decide
    · rcases List.mem_append.1 hx with h1 | h1
      · exact h x h1
      · simp at h1; subst h1; decide
  · exact h
theorem no59_setA {c : Ck} (ht : tokS c.name.data.toList = true) : no59 (setA c) := by
  unfold setA
  unfold tokS at ht
  simp only [Bool.and_eq_true] at ht
  exact no59_app (no59_app (no59_of (by decide) ht.2) (by intro x hx; simp at hx; subst hx; decide)) (no59_writ (no59_keep (by decide) _))

theorem mem_split {c x : UInt8} (hx : x ≠ c) : ∀ (l : List UInt8), x ∈ l → ∃ p ∈ splitL c l, x ∈ p := by
  intro l
  induction l with
  | nil => intro h; cases h
  | cons a l ih =>
    intro h
    unfold splitL
    by_cases ha : a = c
    · rw [if_pos ha]
      rcases List.mem_cons.1 h with rfl | h
      · exact absurd ha hx
      · obtain ⟨p, hp, hxp⟩ := ih h
        exact ⟨p, by simp [hp], hxp⟩
    · rw [if_neg ha]
      cases hs : splitL c l with
      | nil => exact absurd hs (splitL_ne c l)
      | cons q qs =>
        rcases List.mem_cons.1 h with rfl | h
        · exact ⟨x :: q, by simp, by simp⟩
        · obtain ⟨p, hp, hxp⟩ := ih h
          rw [hs] at hp
          rcases List.mem_cons.1 hp with rfl | hp
          · exact ⟨a :: p, by simp, by simp [hxp]⟩
          · exact ⟨p, by simp [hp], hxp⟩

theorem domParts_mem {l p : List UInt8} (hp : p ∈ splitL 46 l) (hne : p ≠ []) : p ∈ domParts l := by
  unfold domParts
  split
  · rename_i h
    have h2 : splitL 46 l ≠ [] := splitL_ne 46 l
    have h3 := List.dropLast_concat_getLast h2
    rw [← h3] at hp
    rcases List.mem_append.1 hp with h4 | h4
    · exact h4
    · simp only [List.mem_singleton] at h4
      rw [List.getLast?_eq_some_getLast h2] at h
      exact absurd (h4.trans h.1) hne
  · exact hp

theorem dom_bytes {l : List UInt8} (h : domB l = true) : no59 (undot l) := by
  unfold domB domOk at h
  simp only [Bool.and_eq_true, List.all_eq_true] at h
  intro x hx e
  subst e
  obtain ⟨p, hp, hxp⟩ := mem_split (c := 46) (x := 59) (by decide) _ hx
  have h2 := h.2.2.1 p (domParts_mem hp (by intro e; subst e; cases hxp))
  unfold labB at h2
  simp only [Bool.and_eq_true] at h2
  exact no59_of (by decide) h2.1 59 hxp rfl

theorem ip_bytes : ∀ (l : List UInt8) (f d n : Nat), ipRun l f d n = true → no59 l := by
  intro l
  induction l with
  | nil => intro _ _ _ _ x hx; cases hx
  | cons a l ih =>
    intro f d n h x hx
    cases hs : ipStep f d n a.toNat with
    | none => rw [ipRun_none hs] at h; cases h
    | some r =>
      obtain ⟨f', d', n'⟩ := r
      rw [ipRun_some hs] at h
      rcases List.mem_cons.1 hx with rfl | hx
      · intro e
        subst e
        unfold ipStep at hs
        rw [if_neg (by decide), if_neg (by intro h1; have := h1.1; revert this; decide)] at hs
        cases hs
      · exact ih f' d' n' h x hx
theorem undot_sub {l : List UInt8} : ∀ x ∈ undot l, x ∈ l := by
  intro x hx
  unfold undot at hx
  split at hx
  · exact List.mem_of_mem_tail hx
  · exact hx
theorem vd_bytes {l : List UInt8} (h : vdB l = true) : no59 (undot l) := by
  unfold vdB at h
  rcases Bool.or_eq_true_iff.1 h with h | h
  · exact dom_bytes h
  · simp only [Bool.and_eq_true] at h
    intro x hx
    exact ip_bytes l 1 0 0 h.1 x (undot_sub x hx)
theorem dig_bytes : ∀ (n : Nat), no59 (digL n) := by
  intro n
  induction n using Nat.strongRecOn with
  | _ n ih =>
    rcases Nat.eq_zero_or_pos n with h | h
    · subst h; intro x hx; cases hx
    · rw [digL_step n h]
      refine no59_app (ih (n / 10) (by omega)) ?_
      intro x hx e
      simp only [List.mem_singleton] at hx
      rw [hx] at e
      have := congrArg UInt8.toNat e
      rw [UInt8.toNat_ofNat'] at this
      revert this
      have h2 : n % 10 < 10 := by omega
      show (48 + n % 10) % 2 ^ 8 = 59 → False
      omega
theorem opt_mem {b : Bool} {p q : List UInt8} (h : q ∈ optL b p) : b = true ∧ q = p := by
  cases b <;> simp [optL] at h
  exact ⟨rfl, h⟩
theorem written_bytes (c : Ck) : ∀ p ∈ writtenL c, no59 p := by
  unfold writtenL
  intro p hp
  simp only [List.mem_append] at hp
  rcases hp with (((((((((h | h) | h) | h) | h) | h) | h) | h) | h) | h) <;> (obtain ⟨hb, rfl⟩ := opt_mem h)
  · exact no59_app (by unfold pPath no59; decide) (no59_keep (by decide) _)
  · simp only [Bool.and_eq_true] at hb
    exact no59_app (by unfold pDomain no59; decide) (vd_bytes hb.2)
  · exact no59_app (by unfold pAge no59; decide) (dig_bytes _)
  all_goals (first | (unfold pAge0 no59; decide) | (unfold pHttp no59; decide) | (unfold pSecure no59; decide) | (unfold pNone no59; decide) | (unfold pLax no59; decide) | (unfold pStrict no59; decide) | (unfold pPart no59; decide))

/-- THE PLAIN LAW. -/
theorem set_parts (c : Ck) (ht : tokS c.name.data.toList = true) : splitL 59 (setL c) = setA c :: (writtenL c).map (fun p => 32 :: p) := by
  unfold setL
  rw [ht, if_pos rfl, setAll_items]
  exact split_items _ _ (no59_setA ht) (written_bytes c)
end Go.Proofs.YtfijncfoefbohaaGreatDoor
