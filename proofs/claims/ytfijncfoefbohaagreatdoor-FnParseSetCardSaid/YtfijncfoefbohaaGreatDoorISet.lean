/- impl.ParseSet; plain laws of what a line sets. -/
import Derived.Test.YtfijncfoefbohaaGreatDoorParseSet
import Derived.Test.YtfijncfoefbohaaGreatDoorAll
namespace Go.Proofs.YtfijncfoefbohaaGreatDoor
open Go Go.RowKit

/-! ### Plain laws -/
theorem setAttr_keeps (c : PC) (p k v : List UInt8) : (setAttr c p k v).name = c.name ∧ (setAttr c p k v).value = c.value ∧ (setAttr c p k v).quoted = c.quoted ∧ (setAttr c p k v).raw = c.raw ∧ (-1 ≤ c.age → -1 ≤ (setAttr c p k v).age) := by
  unfold setAttr
  by_cases h1 : k = kSame
  · rw [if_pos h1]; exact ⟨rfl, rfl, rfl, rfl, fun h => h⟩
  rw [if_neg h1]
  by_cases h2 : k = kSecure
  · rw [if_pos h2]; exact ⟨rfl, rfl, rfl, rfl, fun h => h⟩
  rw [if_neg h2]
  by_cases h3 : k = kHttp
  · rw [if_pos h3]; exact ⟨rfl, rfl, rfl, rfl, fun h => h⟩
  rw [if_neg h3]
  by_cases h4 : k = kDomain
  · rw [if_pos h4]; exact ⟨rfl, rfl, rfl, rfl, fun h => h⟩
  rw [if_neg h4]
  by_cases h5 : k = kAge
  · rw [if_pos h5]
    have ha : ∀ n, ageOf v = some n → -1 ≤ n := by
      intro n hn
      unfold ageOf at hn
      split at hn
      · cases hn
      · split at hn
        · cases hn
        · simp only [Option.some.injEq] at hn
          split at hn <;> omega
    cases hv : ageOf v with
    | none => exact ⟨rfl, rfl, rfl, rfl, fun h => h⟩
    | some n => exact ⟨rfl, rfl, rfl, rfl, fun _ => ha n hv⟩
  rw [if_neg h5]
  by_cases h6 : k = kPath
  · rw [if_pos h6]; exact ⟨rfl, rfl, rfl, rfl, fun h => h⟩
  rw [if_neg h6]
  by_cases h7 : k = kPart
  · rw [if_pos h7]; exact ⟨rfl, rfl, rfl, rfl, fun h => h⟩
  rw [if_neg h7]; exact ⟨rfl, rfl, rfl, rfl, fun h => h⟩
theorem attrStep_keeps (c : PC) (p : List UInt8) : (attrStep c p).name = c.name ∧ (attrStep c p).value = c.value ∧ (attrStep c p).quoted = c.quoted ∧ (attrStep c p).raw = c.raw ∧ (-1 ≤ c.age → -1 ≤ (attrStep c p).age) := by
  unfold attrStep
  split
  · exact ⟨rfl, rfl, rfl, rfl, fun h => h⟩
  split
  · exact ⟨rfl, rfl, rfl, rfl, fun h => h⟩
  split
  · exact ⟨rfl, rfl, rfl, rfl, fun h => h⟩
  exact setAttr_keeps c _ _ _
theorem fold_keeps : ∀ (r : List (List UInt8)) (c : PC), (r.foldl attrStep c).name = c.name ∧ (r.foldl attrStep c).value = c.value ∧ (r.foldl attrStep c).quoted = c.quoted ∧ (r.foldl attrStep c).raw = c.raw ∧ (-1 ≤ c.age → -1 ≤ (r.foldl attrStep c).age)
  | [], _ => ⟨rfl, rfl, rfl, rfl, fun h => h⟩
  | p :: r, c => by
    obtain ⟨h1, h2, h3, h4, h5⟩ := attrStep_keeps c p
    obtain ⟨k1, k2, k3, k4, k5⟩ := fold_keeps r (attrStep c p)
    rw [List.foldl_cons]
    exact ⟨k1.trans h1, k2.trans h2, k3.trans h3, k4.trans h4, fun h => k5 (h5 h)⟩
/-- WHATEVER LINE SETS A COOKIE. -/
theorem setP_sound {line : List UInt8} {pc : PC} (h : setP line = some pc) : tokS pc.name = true ∧ allB valB pc.value = true ∧ pc.raw = line ∧ -1 ≤ pc.age := by
  unfold setP at h
  split at h
  · cases h
  · rename_i p r hs
    split at h
    · rename_i hk
      simp only [Option.some.injEq] at h
      obtain ⟨h1, h2, h3, h4, h5⟩ := fold_keeps r (headIs line (trimL p))
      rw [h] at h1 h2 h4 h5
      unfold headOk at hk
      simp only [Bool.and_eq_true] at hk
      refine ⟨by rw [h1]; exact hk.2.1, by rw [h2]; exact hk.2.2, by rw [h4]; rfl, h5 (by show (-1 : Int) ≤ 0; decide)⟩
    · cases h

theorem stripL_len (l : List UInt8) (q : Bool) : (stripL l q).length ≤ l.length := by
  unfold stripL
  split
  · rw [List.length_dropLast, List.length_tail]; omega
  · exact Nat.le_refl _
theorem cutB_len (c : UInt8) (l : List UInt8) : (cutB c l).length ≤ l.length := by unfold cutB; rw [List.length_drop]; omega
theorem setP_len {line : List UInt8} {pc : PC} (h : setP line = some pc) : pc.name.length ≤ line.length ∧ pc.value.length ≤ line.length := by
  unfold setP at h
  split at h
  · cases h
  · rename_i p r hs
    split at h
    · rename_i hk
      simp only [Option.some.injEq] at h
      obtain ⟨h1, h2, -, -, -⟩ := fold_keeps r (headIs line (trimL p))
      rw [h] at h1 h2
      have hp := splitL_mem_le 59 (trimL line) p (by rw [hs]; simp)
      have hl := trimL_len line
      have hp2 := trimL_len p
      have hq : (cutA 61 (trimL p)).length ≤ (trimL p).length := cutA_le
      have hq2 := cutB_len 61 (trimL p)
      refine ⟨?_, ?_⟩
      · rw [h1]
        have := trimL_len (cutA 61 (trimL p))
        show (trimL (cutA 61 (trimL p))).length ≤ _
        omega
      · rw [h2]
        have := stripL_len (cutB 61 (trimL p)) true
        show (stripL (cutB 61 (trimL p)) true).length ≤ _
        omega
    · cases h
theorem splitL_head (c : UInt8) (l : List UInt8) : ∃ r, splitL c l = cutA c l :: r := by
  induction l with
  | nil => exact ⟨[], rfl⟩
  | cons a l ih =>
    obtain ⟨r, hr⟩ := ih
    rw [splitL_cons]
    by_cases h : a = c
    · subst h
      rw [if_pos rfl, cutA_cons_eq]
      exact ⟨_, rfl⟩
    · rw [if_neg h, hr, cutA_cons_ne h]
      exact ⟨r, rfl⟩
theorem rtrim_mid (a r : List UInt8) : ∃ r2, rtrim (a ++ 59 :: r) = a ++ 59 :: r2 := by
  unfold rtrim
  rw [List.reverse_append, List.reverse_cons, List.append_assoc, List.dropWhile_append]
  have h59 : ([59] ++ a.reverse).dropWhile spU = [59] ++ a.reverse := by
    rw [List.cons_append, List.nil_append, List.dropWhile_cons_of_neg (by decide)]
  split
  · rw [h59]; exact ⟨[], by simp⟩
  · exact ⟨(List.dropWhile spU r.reverse).reverse, by simp⟩
theorem trim_first {line : List UInt8} (h : blankL (cutA 59 line) = false) : trimL (cutA 59 (trimL line)) = cutA 59 line := by
  have ht := not_blank_trim h
  rcases hb : hasB 59 line with _ | _
  · have h1 : cutA 59 line = line := cutA_none hb
    rw [h1] at ht ⊢
    rw [ht, h1, ht]
  · have hd := cut_parts hb
    have hl : ltrim line = line := by
      refine ltrim_id fun b hbh => ?_
      rw [hd] at hbh
      cases hc : cutA 59 line with
      | nil => rw [hc] at hbh; simp at hbh; subst hbh; decide
      | cons x m =>
        rw [hc] at hbh h
        simp only [List.cons_append, List.head?_cons, Option.some.injEq] at hbh
        subst hbh
        unfold blankL at h
        simp only [Bool.or_eq_false_iff, List.isEmpty_cons, Bool.not_false, Bool.true_and, List.head?_cons, Option.getD_some] at h
        exact h.2.1
    obtain ⟨r2, hr⟩ := rtrim_mid (cutA 59 line) (cutB 59 line)
    have h2 : trimL line = cutA 59 line ++ 59 :: r2 := by
      unfold trimL
      rw [hl]
      conv => lhs; rw [hd]
      exact hr
    rw [h2, cutA_eq cutA_ne, ht]
/-- A LINE WHOSE FIRST PART IS NO PAIR SETS NO COOKIE. -/
theorem setP_bad {line : List UInt8} (h : blankL (cutA 59 line) = false) (hbad : pairOk (cutA 59 line) = false) : setP line = none := by
  obtain ⟨r, hr⟩ := splitL_head 59 (trimL line)
  unfold setP
  rw [hr]
  simp only [trim_first h]
  have hw : trimL (cutA 61 (cutA 59 line)) = cutA 61 (cutA 59 line) := by
    have h3 : ∀ b ∈ cutA 61 (cutA 59 line), spU b = false := by
      intro b hb
      unfold blankL at h
      rw [Bool.or_eq_false_iff] at h
      have := List.any_eq_false.1 h.1 b hb
      simpa using this
    exact trim_id (fun b hb => h3 b (List.mem_of_head? hb)) (fun b hb => h3 b (List.mem_of_getLast? hb))
  have h4 : headOk (cutA 59 line) = false := by unfold headOk; rw [hw]; exact hbad
  rw [h4]; rfl

/-! ### impl.ParseSet -/
def ckZ : Ck := ⟨⟨#[]⟩, ⟨#[]⟩, false, ⟨#[]⟩, ⟨#[]⟩, 0, false, false, 0, false, ⟨#[]⟩, none, 0, 0⟩
def ISet (line : List UInt8) (w : World) (e : Ending) (w' : World) : Prop :=
  ((∃ (c : Ck) (pc : PC), e = .returned (.tuple #[.agg c.cells, .bool true]) ∧ setP line = some pc ∧ CkEq c pc ∧ UnpAt w.heap.size c pc.unp w') ∨
   (setP line = none ∧ e = .returned (.tuple #[.agg ckZ.cells, .bool false]))) ∧ Below w.heap.size w w'
theorem UnpAt.kept {B : Nat} {c : Ck} {l : List (List UInt8)} {w w' : World} (h : UnpAt B c l w) (hb : Below w.heap.size w w') : UnpAt B c l w' := by
  obtain ⟨us, h1, h2⟩ := h
  refine ⟨us, h1.kept (row := none) ⟨hb.os, hb.tape, hb.output, hb.size, fun k hk _ => hb.block k hk⟩ ?_, h2⟩
  cases hv : (Value.slice c.uo c.un c.uc).ownBlock <;> simp
theorem UnpAt.lower {B B' : Nat} {c : Ck} {l : List (List UInt8)} {w : World} (h : UnpAt B c l w) (hB : B' ≤ B) : UnpAt B' c l w := by
  obtain ⟨us, h1, h2⟩ := h
  exact ⟨us, own_lower h1 hB, h2⟩
theorem results_cell_tmp {P : Program} {fn : Func} {p q : Tmp} {ty : TypeId} (h : fn.results = #[.cell p ty, .tmp q]) (tmps : Array Value) (w : World) (g : Nat) (t : TypeId) (cs : Array Value) (fr : Nat × Nat) (d : TypeDesc) (u : Value)
    (hp : tmps.getD p undef = .pointer (some ⟨g, 0, none⟩)) (hq : tmps.getD q undef = u) (hg : w.heap[g]? = some (.cells cs t fr))
    (hu : P.underlying ty = some d) (hd : (match d with | .struct _ | .array _ _ => true | _ => false) = true) (hi : (P.info? ty).map (·.size) = some cs.size) :
    (results fn tmps).run P w = .ok (.tuple #[.agg cs, u]) w := by
  have hp' : tmps[p]?.getD undef = .pointer (some ⟨g, 0, none⟩) := by simpa using hp
  have hq' : tmps[q]?.getD undef = u := by simpa using hq
  simp [results, h, hp', hq', asAddr, run_loadVar_row w g t ty cs fr d hg hu hd hi]

set_option maxHeartbeats 4000000 in
set_option maxRecDepth 100000 in
theorem i_ParseSet_any (line : ByteArray) (w : World) (hs : line.size ≤ 4398046511104) (he : ErrsS w) (hv : NumVars w) :
    Calls Tryz.prog 8 #[.string line] w (ISet line.data.toList w) := by
  have hal := alloc_at w ckZ.cells 35
  have HE := Lib.hid (he.kept hal.2.1)
  have HV := Lib.hid (hv.kept hal.2.1)
  have HAL := Lib.hid hal
  clear hal he hv
  go_enter Tryz.func8, Tryz.ntmps8
  go_wp2_with fail
  refine (parseSet_any line (w.alloc (.cells ckZ.cells 35)) hs HE.out HV.out).mono ?_
  rintro e w1 ⟨⟨b, c, pc, rfl, hset, hat, hBb, heq, hun⟩ | ⟨hset, tp, a, rfl⟩, hb1⟩
  · have HB1 := Lib.hid hb1
    have HAT := Lib.hid hat
    have HSET := Lib.hid hset
    have HEQ := Lib.hid heq
    have HUN := Lib.hid hun
    have HN1 : Hid (w1.heap[w.heap.size]? = some (.cells ckZ.cells 35 (0, 0))) := Lib.hid ((hb1.block _ HAL.out.2.2).trans HAL.out.1)
    clear hb1 hat hset heq hun hBb
    go_wp2_with fail
    refine (i_plain_any b c w1 HAT.out).mono ?_
    rintro e w2 ⟨rfl, hb2⟩
    have hn2 : w2.heap[w.heap.size]? = some (.cells ckZ.cells 35 (0, 0)) := (hb2.block _ (Array.getElem?_eq_some_iff.1 HN1.out).1).trans HN1.out
    have HB2 := Lib.hid hb2
    clear hb2
    go_wp2_with (refine wpList_store_row rfl _ (.tmp 2) (.tmp 15) rfl w.heap.size c.cells rfl rfl _ _ hn2 (by kernel_rfl) rfl (by rw [← Array.all_toList]; exact List.all_eq_true.2 (ck_one c)) ?_; refine Hid.out ?_)
    have e1 : (w2.setRow w.heap.size c.cells).heap[w.heap.size]? = some (.cells c.cells 35 (0, 0)) := setRow_heap w2 _ _ _ _ _ hn2
    have hbw2 : Below w.heap.size w w2 := (HAL.out.2.1.trans (HB1.out.mono (Nat.le_of_lt HAL.out.2.2))).trans (HB2.out.mono (Nat.le_trans (Nat.le_of_lt HAL.out.2.2) HB1.out.size))
    have e2 : Below w.heap.size w (w2.setRow w.heap.size c.cells) := below_setRow hbw2 (Nat.le_refl _) _
    have e3 : UnpAt w.heap.size c pc.unp (w2.setRow w.heap.size c.cells) := by
      obtain ⟨us, u1, u2⟩ := HUN.out.kept HB2.out
      refine ⟨us, own_lower (u1.kept (row := some w.heap.size) ⟨rfl, rfl, rfl, by simp, fun k _ hk => setRow_other w2 _ k _ (fun e => hk (by rw [e]))⟩ (.inr ?_)) (Nat.le_of_lt HAL.out.2.2), u2⟩
      intro e
      have := (u1.lt _ e).1
      have := HAL.out.2.2
      omega
    generalize w2.setRow w.heap.size c.cells = w3 at e1 e2 e3 ⊢
    have E1 := Lib.hid e1
    have R : Hid (ISet line.data.toList w (.returned (.tuple #[.agg c.cells, .bool true])) w3) := Lib.hid ⟨.inl ⟨c, pc, rfl, HSET.out, HEQ.out, e3⟩, e2⟩
    clear e1 e2 e3 hn2 hbw2
    refine Lib.hid ?_
    go_wp2_with fail
    (try simp only [Exit.inBlock, Exit.then])
    exact bodyPost_ret (v := .tuple #[.agg c.cells, .bool true]) (results_cell_tmp rfl _ _ w.heap.size 35 c.cells (0, 0) _ (.bool true) rfl rfl E1.out Tryz.underlying35 rfl (by kernel_rfl)) rfl R.out
  · have hn1 : w1.heap[w.heap.size]? = some (.cells ckZ.cells 35 (0, 0)) := (hb1.block _ HAL.out.2.2).trans HAL.out.1
    have HB1 := Lib.hid hb1
    have HSET := Lib.hid hset
    clear hb1 hset
    go_wp2_with (refine wpList_store_row rfl _ (.tmp 2) (.tmp 13) rfl w.heap.size ckZ.cells rfl rfl _ _ hn1 (by kernel_rfl) rfl (by rw [← Array.all_toList]; exact List.all_eq_true.2 (ck_one ckZ)) ?_; refine Hid.out ?_)
    have e1 : (w1.setRow w.heap.size ckZ.cells).heap[w.heap.size]? = some (.cells ckZ.cells 35 (0, 0)) := setRow_heap w1 _ _ _ _ _ hn1
    have e2 : Below w.heap.size w (w1.setRow w.heap.size ckZ.cells) := below_setRow (HAL.out.2.1.trans (HB1.out.mono (Nat.le_of_lt HAL.out.2.2))) (Nat.le_refl _) _
    generalize w1.setRow w.heap.size ckZ.cells = w3 at e1 e2 ⊢
    have E1 := Lib.hid e1
    have R : Hid (ISet line.data.toList w (.returned (.tuple #[.agg ckZ.cells, .bool false])) w3) := Lib.hid ⟨.inr ⟨HSET.out, rfl⟩, e2⟩
    clear e1 e2 hn1
    refine Lib.hid ?_
    go_wp2_with fail
    (try simp only [Exit.inBlock, Exit.then])
    refine bodyPost_ret (v := .tuple #[.agg ckZ.cells, .bool false]) ?_ rfl R.out
    exact results_cell_tmp rfl _ _ w.heap.size 35 ckZ.cells (0, 0) _ (.bool false) rfl rfl E1.out Tryz.underlying35 rfl (by kernel_rfl)
end Go.Proofs.YtfijncfoefbohaaGreatDoor
