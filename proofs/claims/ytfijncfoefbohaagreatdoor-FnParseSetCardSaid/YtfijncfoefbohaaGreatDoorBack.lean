/- What is written is read back: plain laws on numbers, on one attribute, on a written cookie. -/
import Derived.Test.YtfijncfoefbohaaGreatDoorSetS
import Derived.Test.YtfijncfoefbohaaGreatDoorSetLaw
import Derived.Lib.ItoaLen
namespace Go.Proofs.YtfijncfoefbohaaGreatDoor
open Go Go.RowKit

/-! ### Numbers -/
def foldD (acc : Nat) (l : List UInt8) : Nat := l.foldl (fun a b => a * 10 + (b.toNat - 48)) acc
theorem foldD_cons (acc : Nat) (c : UInt8) (r : List UInt8) : foldD acc (c :: r) = foldD (acc * 10 + (c.toNat - 48)) r := by unfold foldD; rw [List.foldl_cons]
theorem foldD_le : ∀ (l : List UInt8) (acc : Nat), acc ≤ foldD acc l
  | [], _ => Nat.le_refl _
  | c :: r, acc => by
    rw [foldD_cons]
    have := foldD_le r (acc * 10 + (c.toNat - 48))
    omega
def digs (l : List UInt8) : Prop := ∀ b ∈ l, 48 ≤ b.toNat ∧ b.toNat ≤ 57
theorem parse_fold : ∀ (l : List UInt8) (acc : Nat), digs l → foldD acc l < 1844674407370955162 → Lib.parseUint10 acc l = .ok (foldD acc l)
  | [], acc, _, _ => rfl
  | c :: r, acc, h, hf => by
    have hc := h c (by simp)
    rw [foldD_cons] at hf ⊢
    have h2 := foldD_le r (acc * 10 + (c.toNat - 48))
    unfold Lib.parseUint10
    rw [if_pos hc, if_neg (by omega), if_neg (by omega)]
    exact parse_fold r _ (fun b hb => h b (by simp [hb])) hf
theorem num_digits {l : List UInt8} (hd : digs l) (hne : l ≠ []) (hlt : foldD 0 l < 1844674407370955162) : numOf? l = some (foldD 0 l : Int) := by
  cases l with
  | nil => exact absurd rfl hne
  | cons c r =>
    have hc := hd c (by simp)
    have hp := parse_fold (c :: r) 0 hd hlt
    unfold numOf? Lib.atoiAll
    simp only
    rw [if_neg (show ¬ (c.toNat = 43 ∨ c.toNat = 45) by omega)]
    unfold Lib.parseMag
    rw [if_neg (by simp), hp]
    simp only
    have h45 : ¬ c.toNat = 45 := by omega
    simp only [h45, not_false_eq_true, true_and, false_and, if_false]
    rw [if_neg (by omega)]
theorem num_minus {l : List UInt8} (hd : digs l) (hne : l ≠ []) (hlt : foldD 0 l < 1844674407370955162) : numOf? (45 :: l) = some (-(foldD 0 l : Int)) := by
  have hp := parse_fold l 0 hd hlt
  unfold numOf? Lib.atoiAll
  simp only
  rw [if_pos (show ((45 : UInt8).toNat = 43 ∨ (45 : UInt8).toNat = 45) by decide)]
  unfold Lib.parseMag
  rw [if_neg hne, hp]
  simp only
  have h45 : (45 : UInt8).toNat = 45 := rfl
  simp only [h45, not_true_eq_false, true_and, false_and, if_false, if_true]
  rw [if_neg (by omega)]
theorem foldD_app (a b : List UInt8) (acc : Nat) : foldD acc (a ++ b) = foldD (foldD acc a) b := by unfold foldD; rw [List.foldl_append]
theorem dig_all (n : Nat) : digs (digL n) ∧ foldD 0 (digL n) = n ∧ (0 < n → ∃ c r, digL n = c :: r ∧ c ≠ 48) := by
  induction n using Nat.strongRecOn with
  | _ n ih =>
    rcases Nat.eq_zero_or_pos n with h | h
    · subst h; exact ⟨fun x hx => (by cases hx), rfl, fun h => (by omega)⟩
    · obtain ⟨i1, i2, i3⟩ := ih (n / 10) (by omega)
      have hb : (UInt8.ofNat (48 + n % 10)).toNat = 48 + n % 10 := by
        rw [UInt8.toNat_ofNat']
        have : n % 10 < 10 := by omega
        show (48 + n % 10) % 2 ^ 8 = _
        omega
      rw [digL_step n h]
      refine ⟨?_, ?_, fun _ => ?_⟩
      · intro b hm
        rcases List.mem_append.1 hm with hm | hm
        · exact i1 b hm
        · simp only [List.mem_singleton] at hm
          rw [hm, hb]; omega
      · rw [foldD_app, i2]
        unfold foldD
        simp only [List.foldl_cons, List.foldl_nil]
        rw [hb]; omega
      · rcases Nat.eq_zero_or_pos (n / 10) with h0 | h0
        · refine ⟨UInt8.ofNat (48 + n % 10), [], by rw [h0]; rfl, fun e => ?_⟩
          have := congrArg UInt8.toNat e
          rw [hb] at this
          change 48 + n % 10 = 48 at this
          omega
        · obtain ⟨c, r, h1, h2⟩ := i3 h0
          exact ⟨c, r ++ [UInt8.ofNat (48 + n % 10)], by rw [h1]; rfl, h2⟩
theorem age_digits {l : List UInt8} (hd : digs l) (hlt : foldD 0 l < 1844674407370955162) (c : UInt8) (r : List UInt8) (he : l = c :: r) (h48 : c = 48 → foldD 0 l = 0) : ageOf l = some (if foldD 0 l = 0 then -1 else (foldD 0 l : Int)) := by
  unfold ageOf
  rw [num_digits hd (by rw [he]; simp) hlt]
  simp only
  rw [if_neg]
  · congr 1
    by_cases h : foldD 0 l = 0
    · rw [if_pos h, if_pos (by omega)]
    · rw [if_neg h, if_neg (by omega)]
  · rintro ⟨h1, h2⟩
    rw [he] at h2
    simp only [List.head?_cons, Option.some.injEq] at h2
    exact h1 (by rw [h48 h2]; rfl)
theorem age_minus {l : List UInt8} (hd : digs l) (hne : l ≠ []) (hlt : foldD 0 l < 1844674407370955162) : ageOf (45 :: l) = some (-1) := by
  unfold ageOf
  rw [num_minus hd hne hlt]
  simp only
  rw [if_neg]
  · rw [if_pos (by omega)]
  · rintro ⟨h1, h2⟩
    simp at h2

/-! ### One attribute -/
theorem tok_pr {l : List UInt8} (h : tokS l = true) : allB prB l = true := allB_of fun b hb => by
  have h2 := tok_mem h b hb
  unfold tokB at h2
  rw [decide_eq_true_eq] at h2
  unfold prB
  rw [decide_eq_true_eq]
  omega
theorem oct_val {l : List UInt8} (h : allB octB l = true) : allB valB l = true := allB_of fun b hb => (oct_byte (allB_mem h b hb)).2.2.2
theorem part_trim {K v : List UInt8} (hK : tokS K = true) (hv : allB octB v = true) : trimL (32 :: (K ++ 61 :: v)) = K ++ 61 :: v := by
  rw [trim_blank]
  exact trim_id (pair_head hK) (pair_last (q := false) (v := v) (fun _ b hb => (oct_byte (allB_mem hv b hb)).2.2.1))
theorem tok_trim {K : List UInt8} (hK : tokS K = true) : trimL K = K := by
  have h : ∀ b ∈ K, spU b = false := fun b hb => (tok_byte (tok_mem hK b hb)).2.2.2
  exact trim_id (fun b hb => h b (List.mem_of_head? hb)) (fun b hb => h b (List.mem_of_getLast? hb))
theorem step_attr {c : PC} {K v : List UInt8} (hK : tokS K = true) (hv : allB octB v = true) : attrStep c (32 :: (K ++ 61 :: v)) = setAttr c (K ++ 61 :: v) (Lib.toLowerA K) v := by
  have h61 : ∀ b ∈ K, b ≠ 61 := fun b hb => (tok_byte (tok_mem hK b hb)).1
  have ht := part_trim hK hv
  rw [step_set (by rw [ht]; simp) (by rw [ht, cutA_eq h61]; exact tok_pr hK) (by rw [ht, cutB_eq h61]; exact oct_val hv), ht, cutA_eq h61, cutB_eq h61]
theorem step_flag {c : PC} {K : List UInt8} (hK : tokS K = true) : attrStep c (32 :: K) = setAttr c K (Lib.toLowerA K) [] := by
  have h61 : hasB 61 K = false := by
    unfold hasB
    rw [List.contains_eq_any_beq]
    refine List.any_eq_false.2 fun b hb => ?_
    have := (tok_byte (tok_mem hK b hb)).1
    intro e
    have e2 : 61 = b := by simpa using e
    exact this e2.symm
  have ht : trimL (32 :: K) = K := by rw [trim_blank]; exact tok_trim hK
  rw [step_set (by rw [ht]; exact tok_ne hK) (by rw [ht, cutA_none h61]; exact tok_pr hK) (by rw [ht, cutB_none h61]; rfl), ht, cutA_none h61, cutB_none h61]

/-! ### The line -/
def lastOk (l : List UInt8) : Prop := l ≠ [] ∧ ∀ b, l.getLast? = some b → spU b = false
theorem trim_items (A : List (List UInt8)) (a : List UInt8) (ha : ∀ b, a.head? = some b → spU b = false) (hl : lastOk a) (hA : ∀ p ∈ A, lastOk p) : trimL (a ++ items A) = a ++ items A := by
  refine trim_id ?_ ?_
  · intro b hb
    cases a with
    | nil => exact absurd rfl hl.1
    | cons x m => exact ha b (by simpa using hb)
  · intro b hb
    rcases List.eq_nil_or_concat A with rfl | ⟨B, p, rfl⟩
    · rw [show items ([] : List (List UInt8)) = [] from rfl, List.append_nil] at hb
      exact hl.2 b hb
    · rw [List.concat_eq_append] at *
      obtain ⟨h1, h2⟩ := hA p (by simp)
      have h3 : a ++ items (B ++ [p]) = (a ++ items B ++ [59, 32]) ++ p := by rw [items_app]; unfold items; simp
      rw [h3, List.getLast?_append] at hb
      cases hg : p.getLast? with
      | none => rw [List.getLast?_eq_none_iff] at hg; exact absurd hg h1
      | some y =>
        rw [hg] at hb
        simp only [Option.some_or, Option.some.injEq] at hb
        subst hb
        exact h2 _ hg
theorem lastOk_pair {K v : List UInt8} (hv : allB octB v = true) : lastOk (K ++ 61 :: v) :=
  ⟨by simp, pair_last (q := false) (v := v) (fun _ b hb => (oct_byte (allB_mem hv b hb)).2.2.1)⟩
theorem lastOk_tok {K : List UInt8} (hK : tokS K = true) : lastOk K :=
  ⟨tok_ne hK, fun b hb => (tok_byte (tok_mem hK b (List.mem_of_getLast? hb))).2.2.2⟩
theorem writL_quo {v : List UInt8} {q : Bool} : writL v q = quoL v (q || anyB blankB v) := rfl
theorem val_noblank {v : List UInt8} (hv : allB valB v = true) (hb : anyB blankB v = false) : ∀ b ∈ v, spU b = false := by
  intro b h
  rcases hs : spU b with _ | _
  · rfl
  · have h1 := (val_byte (allB_mem hv b h)).2.2 hs
    subst h1
    unfold anyB at hb
    have h2 := List.any_eq_false.1 hb 32 h
    exact absurd (show blankB (32 : UInt8).toNat = true by decide) h2

theorem dom_oct {l : List UInt8} (h : domB l = true) : allB octB (undot l) = true := by
  unfold domB domOk at h
  simp only [Bool.and_eq_true, List.all_eq_true] at h
  refine allB_of fun x hx => ?_
  by_cases h46 : x = 46
  · subst h46; decide
  · obtain ⟨p, hp, hxp⟩ := mem_split (c := 46) (x := x) h46 _ hx
    have h2 := h.2.2.1 p (domParts_mem hp (by intro e; subst e; cases hxp))
    unfold labB at h2
    simp only [Bool.and_eq_true] at h2
    have h3 := allB_mem h2.1 x hxp
    unfold hostB letB digB at h3
    unfold octB
    simp only [Bool.or_eq_true, decide_eq_true_eq, beq_iff_eq] at h3 ⊢
    omega

theorem fold_opt (b : Bool) (p : List UInt8) (pc : PC) : ((optL b p).map (fun p => 32 :: p)).foldl attrStep pc = if b then attrStep pc (32 :: p) else pc := by cases b <;> rfl

/-- WHAT A WRITTEN COOKIE IS READ AS. -/
def backPC (c : Ck) : PC := ⟨c.name.data.toList, c.value.data.toList, c.quoted || anyB blankB c.value.data.toList, c.path.data.toList, c.domain.data.toList, if c.age < 0 then -1 else c.age, c.secure, c.http, c.site, c.part, setL c, []⟩
structure BackOk (c : Ck) : Prop where
  name : tokS c.name.data.toList = true
  value : allB valB c.value.data.toList = true
  path : allB octB c.path.data.toList = true
  domain : c.domain.data.toList = [] ∨ (domB c.domain.data.toList = true ∧ undot c.domain.data.toList = c.domain.data.toList)
  age : c.age ≤ 999999999
  site : c.site = 0 ∨ c.site = 2 ∨ c.site = 3 ∨ c.site = 4
theorem oct_path {l : List UInt8} (h : allB octB l = true) : keepB pathB l = l := keepB_all (allB_of fun b hb => by
  have h2 := allB_mem h b hb
  unfold octB at h2
  rw [decide_eq_true_eq] at h2
  unfold pathB
  rw [decide_eq_true_eq]
  omega)
theorem dig_oct {l : List UInt8} (h : digs l) : allB octB l = true := allB_of fun b hb => by
  have := h b hb
  unfold octB
  rw [decide_eq_true_eq]
  omega

theorem written_last {c : Ck} (h : BackOk c) : ∀ p ∈ writtenL c, lastOk p := by
  unfold writtenL
  intro p hp
  simp only [List.mem_append] at hp
  rcases hp with (((((((((h1 | h1) | h1) | h1) | h1) | h1) | h1) | h1) | h1) | h1) <;> (obtain ⟨hb, rfl⟩ := opt_mem h1)
  · rw [oct_path h.path]
    exact lastOk_pair (K := [80, 97, 116, 104]) h.path
  · have h2 : allB octB (undot c.domain.data.toList) = true := by
      rcases h.domain with h3 | h3
      · rw [h3]; rfl
      · exact dom_oct h3.1
    exact lastOk_pair (K := [68, 111, 109, 97, 105, 110]) h2
  · exact lastOk_pair (K := [77, 97, 120, 45, 65, 103, 101]) (dig_oct (dig_all _).1)
  · exact lastOk_pair (K := [77, 97, 120, 45, 65, 103, 101]) (v := [48]) (by decide)
  · exact lastOk_tok (by decide)
  · exact lastOk_tok (by decide)
  · exact lastOk_pair (K := [83, 97, 109, 101, 83, 105, 116, 101]) (v := [78, 111, 110, 101]) (by decide)
  · exact lastOk_pair (K := [83, 97, 109, 101, 83, 105, 116, 101]) (v := [76, 97, 120]) (by decide)
  · exact lastOk_pair (K := [83, 97, 109, 101, 83, 105, 116, 101]) (v := [83, 116, 114, 105, 99, 116]) (by decide)
  · exact lastOk_tok (by decide)

theorem toList_nil {s : ByteArray} (h : s.toList.isEmpty = true) : s.data.toList = [] := by rw [← Lib.toList_data]; simpa using h
theorem back_fold {c : Ck} (h : BackOk c) (n v r : List UInt8) (q : Bool) : ((writtenL c).map (fun p => 32 :: p)).foldl attrStep ⟨n, v, q, [], [], 0, false, false, 0, false, r, []⟩ =
    ⟨n, v, q, c.path.data.toList, c.domain.data.toList, if c.age < 0 then -1 else c.age, c.secure, c.http, c.site, c.part, r, []⟩ := by
  unfold writtenL
  simp only [List.map_append, List.foldl_append, fold_opt]
  have e1 : ∀ pc : PC, pc.path = [] → (if (!c.path.toList.isEmpty) = true then attrStep pc (32 :: (pPath ++ keepB pathB c.path.data.toList)) else pc) = { pc with path := c.path.data.toList } := by
    intro pc hp
    rcases hb : c.path.toList.isEmpty with _ | _
    · rw [if_pos (by rfl), oct_path h.path]
      exact (step_attr (K := [80, 97, 116, 104]) (by decide) h.path).trans (set_path _ _ _)
    · rw [if_neg (by simp), toList_nil hb, ← hp]
  have e2 : ∀ pc : PC, pc.domain = [] → (if (!c.domain.toList.isEmpty && vdB c.domain.data.toList) = true then attrStep pc (32 :: (pDomain ++ undot c.domain.data.toList)) else pc) = { pc with domain := c.domain.data.toList } := by
    intro pc hp
    rcases hb : c.domain.toList.isEmpty with _ | _
    · rcases h.domain with h3 | h3
      · rw [Lib.toList_data, h3] at hb; cases hb
      · have hv : vdB c.domain.data.toList = true := by unfold vdB; rw [h3.1]; rfl
        rw [hv, if_pos (by rfl)]
        have h4 := dom_oct h3.1
        rw [h3.2] at h4 ⊢
        exact (step_attr (K := [68, 111, 109, 97, 105, 110]) (by decide) h4).trans (set_domain _ _ _)
    · rw [if_neg (by simp), toList_nil hb, ← hp]
  have e3 : ∀ pc : PC, pc.age = 0 → (if decide (c.age < 0) = true then attrStep (if decide (0 < c.age) = true then attrStep pc (32 :: (pAge ++ digL c.age.toNat)) else pc) (32 :: pAge0) else (if decide (0 < c.age) = true then attrStep pc (32 :: (pAge ++ digL c.age.toNat)) else pc)) = { pc with age := if c.age < 0 then -1 else c.age } := by
    intro pc hp
    by_cases h0 : 0 < c.age
    · have h1 : ¬ c.age < 0 := by omega
      obtain ⟨d1, d2, d3⟩ := dig_all c.age.toNat
      obtain ⟨x, m, d4, d5⟩ := d3 (by omega)
      have ha := age_digits d1 (by rw [d2]; have := h.age; omega) x m d4 (fun e => absurd e d5)
      rw [d2, if_neg (show ¬ c.age.toNat = 0 by omega)] at ha
      rw [if_neg (by simpa using h1), if_pos (by simpa using h0), if_neg h1]
      refine (step_attr (K := [77, 97, 120, 45, 65, 103, 101]) (by decide) (dig_oct d1)).trans ((set_age _ _ _ _ ha).trans ?_)
      rw [show ((c.age.toNat : Nat) : Int) = c.age by omega]
    · by_cases h1 : c.age < 0
      · rw [if_pos (by simpa using h1), if_neg (by simpa using h0), if_pos h1]
        exact (step_attr (K := [77, 97, 120, 45, 65, 103, 101]) (v := [48]) (by decide) (by decide)).trans (set_age _ _ _ _ (by decide))
      · rw [if_neg (by simpa using h1), if_neg (by simpa using h0), if_neg h1, show c.age = 0 by omega, ← hp]
  have e4 : ∀ pc : PC, pc.http = false → (if c.http = true then attrStep pc (32 :: pHttp) else pc) = { pc with http := c.http } := by
    intro pc hp
    rcases hb : c.http with _ | _
    · rw [if_neg (by simp), ← hp]
    · rw [if_pos rfl]
      exact (step_flag (by decide)).trans (set_http _ _ _)
  have e5 : ∀ pc : PC, pc.secure = false → (if c.secure = true then attrStep pc (32 :: pSecure) else pc) = { pc with secure := c.secure } := by
    intro pc hp
    rcases hb : c.secure with _ | _
    · rw [if_neg (by simp), ← hp]
    · rw [if_pos rfl]
      exact (step_flag (by decide)).trans (set_secure _ _ _)
  have s4 : ∀ pc : PC, attrStep pc (32 :: pNone) = { pc with site := 4 } := fun pc => (step_attr (K := [83, 97, 109, 101, 83, 105, 116, 101]) (v := [78, 111, 110, 101]) (by decide) (by decide)).trans (set_same _ _ _)
  have s2 : ∀ pc : PC, attrStep pc (32 :: pLax) = { pc with site := 2 } := fun pc => (step_attr (K := [83, 97, 109, 101, 83, 105, 116, 101]) (v := [76, 97, 120]) (by decide) (by decide)).trans (set_same _ _ _)
  have s3 : ∀ pc : PC, attrStep pc (32 :: pStrict) = { pc with site := 3 } := fun pc => (step_attr (K := [83, 97, 109, 101, 83, 105, 116, 101]) (v := [83, 116, 114, 105, 99, 116]) (by decide) (by decide)).trans (set_same _ _ _)
  have e6 : ∀ pc : PC, pc.site = 0 → (if (c.site == 3) = true then attrStep (if (c.site == 2) = true then attrStep (if (c.site == 4) = true then attrStep pc (32 :: pNone) else pc) (32 :: pLax) else (if (c.site == 4) = true then attrStep pc (32 :: pNone) else pc)) (32 :: pStrict) else (if (c.site == 2) = true then attrStep (if (c.site == 4) = true then attrStep pc (32 :: pNone) else pc) (32 :: pLax) else (if (c.site == 4) = true then attrStep pc (32 :: pNone) else pc))) = { pc with site := c.site } := by
    intro pc hp
    rw [s4, s2, s3]
    rcases h.site with hb | hb | hb | hb <;> rw [hb]
    · show pc = _; rw [← hp]
    · rfl
    · rfl
    · rfl
  have e7 : ∀ pc : PC, pc.part = false → (if c.part = true then attrStep pc (32 :: pPart) else pc) = { pc with part := c.part } := by
    intro pc hp
    rcases hb : c.part with _ | _
    · rw [if_neg (by simp), ← hp]
    · rw [if_pos rfl]
      exact (step_flag (by decide)).trans (set_part _ _ _)
  rw [e1 _ rfl, e2 _ rfl, e3 _ rfl, e4 _ rfl, e5 _ rfl, e6 _ rfl, e7 _ rfl]

/-- THE PLAIN LAW: a written cookie is read back. -/
theorem set_back {c : Ck} (h : BackOk c) : setP (setL c) = some (backPC c) := by
  have hsp := set_parts c h.name
  have hA : setA c = c.name.data.toList ++ 61 :: quoL c.value.data.toList (c.quoted || anyB blankB c.value.data.toList) := by
    unfold setA
    rw [keepB_all h.value, writL_quo]
    simp
  have h61 : ∀ b ∈ c.name.data.toList, b ≠ 61 := fun b hb => (tok_byte (tok_mem h.name b hb)).1
  have h34 : ∀ b ∈ c.value.data.toList, b ≠ 34 := fun b hb => (val_byte (allB_mem h.value b hb)).2.1
  have hq : (c.quoted || anyB blankB c.value.data.toList) = false → ∀ b ∈ c.value.data.toList, spU b = false := by
    intro hf
    rw [Bool.or_eq_false_iff] at hf
    exact val_noblank h.value hf.2
  have hal : lastOk (setA c) := ⟨by rw [hA]; simp, by rw [hA]; exact pair_last hq⟩
  have hah : ∀ b, (setA c).head? = some b → spU b = false := by rw [hA]; exact pair_head h.name
  have htr : trimL (setL c) = setL c := by
    unfold setL
    rw [h.name, if_pos rfl, setAll_items]
    exact trim_items _ _ hah hal (written_last h)
  have hta : trimL (setA c) = setA c := trim_id hah hal.2
  have hho : headOk (setA c) = true := by
    unfold headOk
    rw [hA, hasB_eq, cutA_eq h61, cutB_eq h61, tok_trim h.name, h.name, quo_strip _ h34, h.value]
    rfl
  unfold setP
  rw [htr, hsp]
  simp only [hta, hho, if_true]
  congr 1
  have hh : headIs (setL c) (setA c) = ⟨c.name.data.toList, c.value.data.toList, c.quoted || anyB blankB c.value.data.toList, [], [], 0, false, false, 0, false, setL c, []⟩ := by
    unfold headIs
    rw [hA, cutA_eq h61, cutB_eq h61, tok_trim h.name, quo_strip _ h34, quo_q _ h34]
  rw [hh]
  exact back_fold h _ _ _ _
theorem setL_len' (c : Ck) (h : CkFits c) : (setL c).length ≤ 4398046511104 := by
  unfold setL
  split
  case isFalse => simp
  have k1 := keepB_le valB c.value.data.toList
  have k2 := keepB_le pathB c.path.data.toList
  have k3 : (undot c.domain.data.toList).length ≤ c.domain.data.toList.length := by unfold undot; split <;> simp
  have k4 : (writL (keepB valB c.value.data.toList) c.quoted).length ≤ (keepB valB c.value.data.toList).length + 2 := by unfold writL; split <;> simp
  have k5 : 0 < c.age → (Lib.decDigits c.age.toNat).length ≤ 21 := fun h0 => by
    have h2 := Lib.itoa_length_le c.age h.age0 h.age1
    unfold Lib.itoa at h2
    rw [if_neg (by omega)] at h2
    exact h2
  have n1 := h.name; have n2 := h.value; have n3 := h.path; have n4 := h.domain
  rw [Lib.size_eq] at n1 n2 n3 n4
  have a1 : (setA c).length ≤ 4294967298 := by unfold setA; simp only [List.length_append, List.length_cons, List.length_nil]; omega
  have a2 : (setPath c).length ≤ 2147483654 := by unfold setPath sPath; split <;> simp only [List.length_append, List.length_cons, List.length_nil] <;> omega
  have a3 : (setDomain c).length ≤ 2147483656 := by unfold setDomain sDomain; split <;> simp only [List.length_append, List.length_cons, List.length_nil] <;> omega
  have a4 : (setAge c).length ≤ 40 := by
    unfold setAge sAge sAge0
    split
    · rename_i h0; have := k5 h0; simp only [List.length_append, List.length_cons, List.length_nil]; omega
    · split <;> simp
  have a5 : (setHttp c).length ≤ 20 := by unfold setHttp sHttp; split <;> simp
  have a6 : (setSecure c).length ≤ 20 := by unfold setSecure sSecure; split <;> simp
  have a7 : (setSite c).length ≤ 40 := by unfold setSite sSite sNone sLax sStrict; split <;> (try split) <;> (try split) <;> simp
  have a8 : (setPart c).length ≤ 20 := by unfold setPart sPart; split <;> simp
  unfold setAll
  simp only [List.length_append]
  omega
end Go.Proofs.YtfijncfoefbohaaGreatDoor
