/- FnSent returns true at every input. -/
import Derived.Test.YtfijncfoefbohaaDoorSent
import Derived.Test.YtfijncfoefbohaaDoorQ
namespace Go.Proofs.YtfijncfoefbohaaDoor
open Go Go.RowKit

/-- append(out, c), c a cookie by value; where the new row lies. -/
theorem wpList_app12b {W : World} {ops : Array Oper} {rest : List Oper} {o : Oper} {a : Act} {Q : Exit → Act → World → Prop} (hgd : o.guard = none) (s x : Operand)
    (ho : o.op = .call { callee := .builtin .append, args := #[s, x], argTypes := #[41, 41] })
    (B : Nat) (v : Value) (l : List Ck) (hs : a.eval s = v) (hown : AggsAt B l v W) (c : Ck)
    (hx : a.eval x = .slice (some ⟨W.heap.size, 0, none⟩) 1 1) (hn : l.length ≤ 3000000) (hB : B ≤ W.heap.size)
    (h : ∀ v1 w1, AggsAt B (l ++ [c]) v1 w1 → Below B W w1 → W.grownBy w1 v.ownBlock → (v1.ownBlock = v.ownBlock ∨ v1.ownBlock = some (W.heap.size + 1)) → wpList Tryd.prog ops Q rest (a.put o.dst v1) w1) :
    wpList Tryd.prog ops Q (o :: rest) a (W.alloc (.cells c.cells 26)) := by
  obtain ⟨i, hi, hz0, hz1, hz2⟩ := info_parts aggInfo
  refine wpList_append_own_at _ hgd s x _ ho B _ i _ 12 144 Tryd.underlying41 hi hz0 hz1 hz2 rfl (by omega) v l.length _ hs (World.ownsRow.alloc hown _) ⟨W.heap.size, 0, none⟩ 1 1 c.cells.toList hx rfl ?_
    (ck_one c) (by unfold maxLen; omega) (by omega) (by rw [alloc_sz']; omega) ?_
  · intro j u hj
    rw [Lib.add_plain, Nat.zero_add, Lib.cell_of_heap (alloc_at W c.cells 26).1]
    simpa using hj
  intro v' w1 hown' hg hnil hat
  have hg1 : W.grownBy w1 v.ownBlock := (World.grownBy_alloc W _ _).trans hg
  rw [alloc_sz'] at hat
  refine h v' w1 ?_ ((Below.refl B W).grown hg1 hB (fun k hk => (World.ownsRow.lt hown k hk).1)) hg1 hat
  unfold AggsAt
  rw [List.flatMap_append, List.length_append]
  simpa using hown'
/-- Two rows do not lie in one block. -/
def Apart (v u : Value) : Prop := ∀ g, v.ownBlock = some g → u.ownBlock ≠ some g
theorem Apart.symm {v u : Value} (h : Apart v u) : Apart u v := fun g h1 h2 => h g h2 h1
theorem AggsAt.grown {B : Nat} {l : List Ck} {v u : Value} {w w' : World} (h : AggsAt B l u w) (hg : w.grownBy w' v.ownBlock) (ha : Apart v u) : AggsAt B l u w' := by
  refine World.ownsRow.kept h hg ?_
  by_cases hu : u.ownBlock = none
  · exact .inl hu
  · refine .inr (fun e => ?_)
    obtain ⟨g, hg2⟩ := Option.ne_none_iff_exists'.1 hu
    exact ha g (e.symm.trans hg2) hg2
theorem Apart.next {B : Nat} {l : List Ck} {v v1 u : Value} {w : World} {n : Nat} (h : Apart v u) (hu : AggsAt B l u w) (hn : w.heap.size ≤ n) (hat : v1.ownBlock = v.ownBlock ∨ v1.ownBlock = some n) : Apart v1 u := by
  intro g h1 h2
  rcases hat with h3 | h3
  · exact h g (h3 ▸ h1) h2
  · rw [h3] at h1
    cases h1
    have := (World.ownsRow.lt hu _ h2).2
    omega

def ckN (n v : ByteArray) : Ck := ckOf n v false
def allN (ns vs : List ByteArray) : List Ck := List.zipWith ckN ns vs
def wantB (f : List UInt8) (c : Ck) : Bool := f.isEmpty || f == c.name.data.toList
theorem allN_take {ns vs : List ByteArray} {k : Nat} (h1 : k < ns.length) (h2 : k < vs.length) : (allN ns vs).take (k + 1) = (allN ns vs).take k ++ [ckN ns[k] vs[k]] := by
  have hl : k < (allN ns vs).length := by unfold allN; rw [List.length_zipWith]; omega
  have he : (allN ns vs)[k] = ckN ns[k] vs[k] := by simp only [allN, List.getElem_zipWith]
  rw [List.take_succ_eq_append_getElem hl, he]
theorem allN_len {ns vs : List ByteArray} (h : ns.length ≤ vs.length) : (allN ns vs).length = ns.length := by unfold allN; rw [List.length_zipWith]; omega
theorem goodS {c : Ck} (h1 : tokS c.name.data.toList = true) (h2 : allB valB c.value.data.toList = true) : goodP (sentP c) := by
  refine ⟨h1, h2, fun hq b hb => ?_⟩
  change (c.quoted || anyB blankB c.value.data.toList) = false at hq
  rw [Bool.or_eq_false_iff] at hq
  rcases hs : spU b with _ | _
  · rfl
  · have h3 := (val_byte (allB_mem h2 b hb)).2.2 hs
    subst h3
    have h4 := hq.2
    unfold anyB at h4
    have h5 := List.any_eq_false.1 h4 32 hb
    exact absurd (show blankB (32 : UInt8).toNat = true by decide) h5
theorem parse_sent {ps : List Pair} (hg : ∀ p ∈ ps, goodP p) (hn : ps.length ≤ 100) {line : List UInt8} (hl : line = lineT ps) :
    (∀ cs2, ReadOk' line cs2 → 0 < ps.length ∧ cs2.length = ps.length) ∧ (ReadNo line → ps.length = 0) := by
  subst hl
  cases ps with
  | nil =>
    refine ⟨fun cs2 h => ?_, fun _ => rfl⟩
    obtain ⟨h1, _⟩ := h
    have h2 : (splitL 59 (lineT [])).map pairOf = [none] := by unfold lineT splitL; simp; decide
    rw [h2] at h1
    cases cs2 <;> simp at h1
  | cons p r =>
    have h2 := line_pairs p r hg
    have h3 := congrArg List.length h2
    rw [List.length_map, List.length_map, ← count_split] at h3
    refine ⟨fun cs2 h => ⟨by simp, ?_⟩, ?_⟩
    · have h4 := h.1
      rw [h2] at h4
      have h5 := congrArg List.length h4
      simpa using h5.symm
    · rintro (h4 | ⟨q, hq, hnn⟩)
      · unfold cntL at h4; omega
      · have h5 : none ∈ (splitL 59 (lineT (p :: r))).map pairOf := List.mem_map.2 ⟨q, hq, hnn⟩
        rw [h2] at h5
        simp at h5
theorem fits_allS {xs : List ByteArray} (h : fitsL xs = true) : xs.length ≤ 2147483647 ∧ ∀ i (hi : i < xs.length), xs[i].size ≤ 2147483647 := by
  unfold fitsL at h
  simp only [Bool.and_eq_true, decide_eq_true_eq, List.all_eq_true] at h
  exact ⟨h.1, fun i hi => h.2 _ (List.getElem_mem hi)⟩
/-- Under way in FnSent's first loop. -/
structure SentS (w : World) (B : Nat) (ns vs : List ByteArray) (f : List UInt8) (k : Nat) (v u : Value) (wr : World) : Prop where
  kv : k ≤ vs.length
  k100 : k ≤ 100
  ok : ∀ j (h1 : j < ns.length) (h2 : j < vs.length), j < k → tokS ns[j].data.toList = true ∧ allB valB vs[j].data.toList = true
  l : AggsAt B ((allN ns vs).take k) v wr
  wt : AggsAt B (((allN ns vs).take k).filter (wantB f)) u wr
  ap : Apart v u
  be : Below B w wr

set_option maxHeartbeats 8000000 in
set_option maxRecDepth 100000 in
theorem fnSent_walk (v1 : Value) (ns : List ByteArray) (v2 : Value) (vs : List ByteArray) (flt : ByteArray) (w : World) (h1 : StrsAt ns v1 w) (h2 : StrsAt vs v2 w) (h3 : flt.size ≤ maxLen) (he : ErrsAt w) :
    Calls Tryd.prog 11 #[v1, v2, .string flt] w fun e w' => e = .returned (.bool true) ∧ Below w.heap.size w w' := by
  obtain ⟨B, hB⟩ : ∃ B, B = w.heap.size := ⟨_, rfl⟩
  have HB := Lib.hid hB
  have hB0 : B ≤ w.heap.size := by omega
  clear hB
  have K1 := Lib.hid h1
  have K2 := Lib.hid h2
  obtain ⟨ao1, cap1, rfl, hc1⟩ := h1.form
  obtain ⟨ao2, cap2, rfl, hc2⟩ := h2.form
  have HC1 := Lib.hid hc1
  have HC2 := Lib.hid hc2
  have HE := Lib.hid he
  clear h1 h2 he hc1 hc2
  rcases hf1 : fitsL ns with _ | _
  · have F1 := Lib.hid hf1
    clear hf1
    go_enter Tryd.func11, Tryd.ntmps11
    go_wp2_with (go_at_call 36; refine (zzFits2_any ns _ _ K1.out).mono ?_; rintro e w' ⟨rfl, rfl⟩; rw [F1.out])
    go_ret
    exact ⟨rfl, Below.refl _ _⟩
  have F1 := Lib.hid hf1
  obtain ⟨g1, s1⟩ := fits_allS hf1
  clear hf1
  rcases hf2 : fitsL vs with _ | _
  · have F2 := Lib.hid hf2
    clear hf2
    go_enter Tryd.func11, Tryd.ntmps11
    go_wp2_with (first
      | (go_at_call 36; (with_reducible refine (zzFits2_any ns _ _ K1.out).mono ?_); rintro e w' ⟨rfl, rfl⟩; rw [F1.out])
      | (go_at_call 36; (with_reducible refine (zzFits2_any vs _ _ K2.out).mono ?_); rintro e w' ⟨rfl, rfl⟩; rw [F2.out]))
    go_ret
    exact ⟨rfl, Below.refl _ _⟩
  have F2 := Lib.hid hf2
  obtain ⟨g2, s2⟩ := fits_allS hf2
  clear hf2
  have S1 := Lib.hid s1
  have S2 := Lib.hid s2
  clear s1 s2
  by_cases h4 : (2147483647 : Int) < (flt.size : Int)
  · have d3 : decide ((2147483647 : Int) < (flt.size : Int)) = true := by rw [decide_eq_true_eq]; exact h4
    go_enter Tryd.func11, Tryd.ntmps11
    go_wp2_with (first
      | (go_at_call 36; (with_reducible refine (zzFits2_any ns _ _ K1.out).mono ?_); rintro e w' ⟨rfl, rfl⟩; rw [F1.out])
      | (go_at_call 36; (with_reducible refine (zzFits2_any vs _ _ K2.out).mono ?_); rintro e w' ⟨rfl, rfl⟩; rw [F2.out]))
    go_ret
    exact ⟨rfl, Below.refl _ _⟩
  have d3 : decide ((2147483647 : Int) < (flt.size : Int)) = false := by rw [decide_eq_false_iff_not]; exact h4
  go_enter Tryd.func11, Tryd.ntmps11
  go_wp2_with (first
      | (go_at_call 36; (with_reducible refine (zzFits2_any ns _ _ K1.out).mono ?_); rintro e w' ⟨rfl, rfl⟩; rw [F1.out])
      | (go_at_call 36; (with_reducible refine (zzFits2_any vs _ _ K2.out).mono ?_); rintro e w' ⟨rfl, rfl⟩; rw [F2.out]))
  go_loopw [7, 8, 33] (fun v u i wr => ∃ k : Nat, k ≤ ns.length ∧ i = .int .i64 k ∧ SentS w B ns vs flt.data.toList k v u wr) (fun _ _ i _ => ns.length - (intOf i).toNat)
  case atStart => exact ⟨0, Nat.zero_le _, rfl, Nat.zero_le _, Nat.zero_le _, fun j _ _ h => absurd h (Nat.not_lt_zero _), ⟨rfl, .inl ⟨rfl, rfl⟩⟩, ⟨rfl, .inl ⟨rfl, rfl⟩⟩, fun g h => (by cases h), Below.refl _ _⟩
  case round =>
    obtain ⟨k, hk, rfl, hS⟩ := hrel
    have HS := Lib.hid hS
    have hkv := hS.kv
    have hk100 := hS.k100
    have hBw : B ≤ wr.heap.size := Nat.le_trans hB0 hS.be.size
    clear hS
    by_cases hlt : k < ns.length
    case neg =>
      have hd : decide (k < ns.length) = false := by rw [decide_eq_false_iff_not]; exact hlt
      have hkn : k = ns.length := by omega
      have hal : (allN ns vs).length = ns.length := allN_len (by omega)
      have htk : (allN ns vs).take k = allN ns vs := List.take_of_length_le (by omega)
      have hl0 := HS.out.l
      have hw0 := HS.out.wt
      rw [htk] at hl0 hw0
      have HBE := Lib.hid HS.out.be
      have hok : ∀ c ∈ allN ns vs, tokS c.name.data.toList = true ∧ allB valB c.value.data.toList = true ∧ c.name.size ≤ 2147483647 ∧ c.value.size ≤ 2147483647 ∧ c.quoted = false := by
        intro c hc
        obtain ⟨j, hj, rfl⟩ := List.mem_iff_getElem.1 hc
        have h1 : j < ns.length := by omega
        have h2 : j < vs.length := by omega
        have he : (allN ns vs)[j] = ckN ns[j] vs[j] := by simp only [allN, List.getElem_zipWith]
        rw [he]
        obtain ⟨a1, a2⟩ := HS.out.ok j h1 h2 (by omega)
        exact ⟨a1, a2, S1.out j h1, S2.out j h2, rfl⟩
      have HOK := Lib.hid hok
      obtain ⟨cs, hcs⟩ : ∃ cs, allN ns vs = cs := ⟨_, rfl⟩
      rw [hcs] at hl0 hw0 hal HOK
      have hn100 : cs.length ≤ 100 := by omega
      have HL := Lib.hid hl0
      have HW := Lib.hid hw0
      have HGP : Hid (∀ p ∈ cs.map sentP, goodP p) := Lib.hid (fun p hp => by
        obtain ⟨c, hc, rfl⟩ := List.mem_map.1 hp
        exact goodS (HOK.out c hc).1 (HOK.out c hc).2.1)
      have HAL := Lib.hid hal
      clear hal hl0 hw0 hcs hok htk HS hlt HC1 HC2 S1 S2 K1 K2 F1 F2
      go_wp2_with fail
      refine (i_Sent_any B cs _ _ HL.out hn100 (fun j hj => by
        obtain ⟨q1, q2, q3, q4, -⟩ := HOK.out cs[j] (List.getElem_mem hj)
        exact ⟨q1, q2, q3, q4⟩)).mono ?_
      rintro e w2 ⟨⟨x, rfl, hx, hxz⟩, hb2⟩
      have HX := Lib.hid hx
      have HL2 := Lib.hid (HL.out.kept hb2)
      have HW2 := Lib.hid (HW.out.kept hb2)
      have HBE2 := Lib.hid (HBE.out.trans (hb2.mono hBw))
      have hBw2 : B ≤ w2.heap.size := Nat.le_trans hBw hb2.size
      clear hx hb2 HL HW HBE
      obtain ⟨a1, a2, a3⟩ := alloc_at w2 #[.string x] 9
      have hst : StrsAt [x] (.slice (some ⟨w2.heap.size, 0, none⟩) 1 1) (w2.alloc (.cells #[.string x] 9)) := by
        refine .inr ⟨⟨w2.heap.size, 0, none⟩, 1, rfl, Nat.le_refl _, by decide, ?_, ?_⟩
        · intro j hj
          have hj0 : j = 0 := by simp at hj; omega
          subst hj0
          rw [add_nought, Lib.cell_of_heap a1]; rfl
        · intro y hy
          simp only [List.mem_singleton] at hy
          subst hy; unfold maxLen; omega
      have hcnt : cntAll (dats [x]) ≤ 3000 := by
        have h1 := line_count (cs.map sentP) HGP.out
        rw [List.length_map] at h1
        show (cntL 59 x.data.toList + 1) + 0 ≤ 3000
        rw [HX.out]; omega
      have HST := Lib.hid hst
      have HL3 := Lib.hid (HL2.out.kept a2)
      have HW3 := Lib.hid (HW2.out.kept a2)
      have HBE3 := Lib.hid (HBE2.out.trans (a2.mono hBw2))
      have hBw3 : B ≤ (w2.alloc (.cells #[.string x] 9)).heap.size := Nat.le_trans hBw2 a2.size
      clear hst a1 a2 a3 HL2 HW2 HBE2
      go_wp2_with fail
      refine (i_Read_any [x] flt _ _ HST.out hcnt (fun j hj => by
        have hj0 : j = 0 := by simp at hj; omega
        subst hj0; exact hxz)).mono ?_
      rintro e w4 ⟨⟨vg, cg, rfl, hag, hcg, hlg⟩, hb4⟩
      have HAG := Lib.hid (show AggsAt B cg vg w4 from own_lower hag hBw3)
      have hcg2 : cg.map pairC = (cs.filter (wantB flt.data.toList)).map sentP := by
        rw [hcg]
        show rdAll flt.data.toList [x.data.toList] = _
        rw [HX.out]
        have h1 : rdAll flt.data.toList [lineT (cs.map sentP)] = rdLine flt.data.toList (lineT (cs.map sentP)) := by unfold rdAll; simp
        rw [h1, line_read _ _ HGP.out, List.filter_map]
        rfl
      have HCG := Lib.hid hcg2
      have HL4 := Lib.hid (HL3.out.kept hb4)
      have HW4 := Lib.hid (HW3.out.kept hb4)
      have HBE4 := Lib.hid (HBE3.out.trans (hb4.mono hBw3))
      have hBw4 : B ≤ w4.heap.size := Nat.le_trans hBw3 hb4.size
      clear hag hcg hcg2 hb4 HL3 HW3 HBE3 HST
      go_wp2_with fail
      refine (i_Parse_any x w4 hxz (HE.out.kept (HB.out ▸ HBE4.out))).mono ?_
      have HPS := Lib.hid (parse_sent HGP.out (by rw [List.length_map]; exact hn100) HX.out)
      intro e w5 hip
      have hip2 : (∃ va ca, e = .returned (.tuple #[va, .bool (decide (0 < cs.length))]) ∧ AggsAt w4.heap.size ca va w5 ∧ ca.length = cs.length) ∧ Below w4.heap.size w4 w5 := by
        obtain ⟨⟨va, ca, rfl, ha, hr⟩ | ⟨rfl, hr⟩, hb⟩ := hip
        · obtain ⟨p1, p2⟩ := HPS.out.1 ca hr
          rw [List.length_map] at p1 p2
          exact ⟨⟨va, ca, by rw [show decide (0 < cs.length) = true from by rw [decide_eq_true_iff]; exact p1], ha, p2⟩, hb⟩
        · have p1 := HPS.out.2 hr
          rw [List.length_map] at p1
          exact ⟨⟨.slice none 0 0, [], by rw [show decide (0 < cs.length) = false from by rw [decide_eq_false_iff_not]; omega], ⟨rfl, .inl ⟨rfl, rfl⟩⟩, by rw [p1]; rfl⟩, hb⟩
      clear hip
      obtain ⟨⟨va, ca, rfl, haa, hca⟩, hb5⟩ := hip2
      have HAG5 := Lib.hid (HAG.out.kept hb5)
      have HL5 := Lib.hid (HL4.out.kept hb5)
      have HW5 := Lib.hid (HW4.out.kept hb5)
      have HBE5 := Lib.hid (HBE4.out.trans (hb5.mono hBw4))
      have hBw5 : B ≤ w5.heap.size := Nat.le_trans hBw4 hb5.size
      obtain ⟨oa, pa, rfl⟩ := agg_shape haa
      obtain ⟨ol, pl, rfl⟩ := agg_shape HL5.out
      obtain ⟨ow, pw, rfl⟩ := agg_shape HW5.out
      obtain ⟨og, pg, rfl⟩ := agg_shape HAG5.out
      have hlg2 : cg.length = (cs.filter (wantB flt.data.toList)).length := by have := congrArg List.length HCG.out; simpa using this
      rw [hca, hlg2]
      have HLG := Lib.hid hlg2
      obtain ⟨wt, hwt⟩ : ∃ wt, cs.filter (wantB flt.data.toList) = wt := ⟨_, rfl⟩
      rw [hwt] at HCG HW5 HLG ⊢
      have HWM : Hid (∀ c ∈ wt, c.quoted = false ∧ c.value.size ≤ maxLen) := Lib.hid (fun c hc => by
        rw [← hwt] at hc
        obtain ⟨q1, q2, q3, q4, q5⟩ := HOK.out c (List.mem_filter.1 hc).1
        exact ⟨q5, by unfold maxLen; omega⟩)
      have hwl : wt.length ≤ 100 := by rw [← hwt]; exact Nat.le_trans (List.length_filter_le _ _) hn100
      clear haa hb5 hlg2 hwt HAG HL4 HW4 HBE4 HPS HGP HOK
      have hq1 : ((wt.length : Int) == (wt.length : Int)) = true := by simp
      have hq2 : ((cs.length : Int) == (cs.length : Int)) = true := by simp
      obtain ⟨nl, hnl⟩ : ∃ nl, cs.length = nl := ⟨_, rfl⟩
      obtain ⟨nw, hnw⟩ : ∃ nw, wt.length = nw := ⟨_, rfl⟩
      have HNW := Lib.hid hnw
      rw [hnl] at hq2 ⊢
      rw [hnw] at hq1 hwl ⊢
      clear hnl hnw hn100 hcnt
      obtain ⟨q3, hq3, hq4⟩ : ∃ q, decide (0 < nl) = q ∧ decide ((0 : Int) < (nl : Int)) = q := ⟨decide (0 < nl), rfl, by rw [Bool.eq_iff_iff, decide_eq_true_iff, decide_eq_true_iff]; omega⟩
      rw [hq3]
      rcases q3 with _ | _
      all_goals
        go_wp2_with (go_at_call 16; refine (works_any _).mono ?_; rintro e w6 ⟨rfl, hb6⟩; have HB6 := Lib.hid hb6; clear hb6)
        go_loopw [118] (fun i wr => ∃ k2 : Nat, k2 ≤ nw ∧ i = .int .i64 k2 ∧ Below w6.heap.size w6 wr) (fun i _ => nw - (intOf i).toNat)
        case atStart => exact ⟨0, Nat.zero_le _, rfl, Below.refl _ _⟩
        case round =>
          obtain ⟨k2, hk2, rfl, hb⟩ := hrel
          have HKR := Lib.hid hb
          have HK : Hid (Below w5.heap.size w5 wr) := Lib.hid (HB6.out.trans (hb.mono HB6.out.size))
          clear hb
          by_cases hlt : k2 < nw
          case neg =>
            have hd2 : decide (k2 < nw) = false := by rw [decide_eq_false_iff_not]; exact hlt
            go_wp2
            go_ret
            exact ⟨rfl, HB.out ▸ (HBE5.out.trans (HK.out.mono hBw5))⟩
          have hd2 : decide (k2 < nw) = true := by rw [decide_eq_true_iff]; exact hlt
          have hkw : k2 < wt.length := by rw [HNW.out]; exact hlt
          have hkg : k2 < cg.length := by rw [HLG.out, HNW.out]; exact hlt
          obtain ⟨gg, rfl⟩ : ∃ g, og = some ⟨g, 0, none⟩ := by
            rcases HAG5.out.2 with ⟨_, h1⟩ | ⟨g, cap', cur, h1, _⟩
            · omega
            · cases h1; exact ⟨g, rfl⟩
          obtain ⟨gw, rfl⟩ : ∃ g, ow = some ⟨g, 0, none⟩ := by
            rcases HW5.out.2 with ⟨_, h1⟩ | ⟨g, cap', cur, h1, _⟩
            · omega
            · cases h1; exact ⟨g, rfl⟩
          have hgx := (HAG5.out.kept HK.out).all hkg
          have hwx := (HW5.out.kept HK.out).all hkw
          have hpe : pairC cg[k2] = sentP wt[k2] := by
            have h1 : (cg.map pairC)[k2]'(by simpa using hkg) = (wt.map sentP)[k2]'(by simpa using hkw) := by
              have h2 := HCG.out
              simp only [h2]
            simpa only [List.getElem_map] using h1
          obtain ⟨d0, dz⟩ := HWM.out wt[k2] (List.getElem_mem hkw)
          obtain ⟨c, hc⟩ : ∃ c, cg[k2] = c := ⟨_, rfl⟩
          obtain ⟨d, hd⟩ : ∃ d, wt[k2] = d := ⟨_, rfl⟩
          rw [hc] at hgx hpe
          rw [hd] at hwx hpe d0 dz
          have p1 : c.name = d.name := ba_ext (congrArg (fun p => p.1) hpe)
          have p2 : c.value = d.value := ba_ext (congrArg (fun p => p.2.1) hpe)
          have p3 : c.quoted = anyB blankB d.value.data.toList := by
            have h1 : c.quoted = (d.quoted || anyB blankB d.value.data.toList) := congrArg (fun p => p.2.2) hpe
            rw [h1, d0]; rfl
          have HP1 := Lib.hid p1
          have HP2 := Lib.hid p2
          have HP3 := Lib.hid p3
          obtain ⟨x0, x1, x2, x3, x4, x5, x6, x7, x8, x9, x10, x11⟩ := hgx
          obtain ⟨z0, z1, z2, z3, z4, z5, z6, z7, z8, z9, z10, z11⟩ := hwx
          clear hc hd hpe p1 p2 p3 d0
          go_upto_region 22 with fail
          obtain ⟨a1, a2, a3⟩ := alloc_at wr c.cells 26
          unfold Ck.cells at a1 a2 a3
          generalize wr.alloc (.cells #[.string c.name, .string c.value, .bool c.quoted, .string c.path, .string c.domain, .int .i64 c.age, .bool c.secure, .bool c.http, .int .i64 c.site, .bool c.part, .string c.raw, .slice c.uo c.un c.uc] 26) = w8 at a1 a2 a3 ⊢
          have HB8 : Hid (Below w6.heap.size w6 w8) := Lib.hid (HKR.out.trans (a2.mono HKR.out.size))
          have e0 := cell_keep z0 a2
          have e1 := cell_keep z1 a2
          obtain ⟨y0, y1, y2, -, -, -, -, -, -, -, -, -⟩ := ck_cells (c := c) a1
          have sr0 : (c.name.toList == d.name.toList) = true := by rw [HP1.out]; simp
          have sr1 : (c.value.toList == d.value.toList) = true := by rw [HP2.out]; simp
          obtain ⟨qb, hqb⟩ : ∃ qb, c.quoted = qb := ⟨_, rfl⟩
          have BK : Hid (∀ q : OverT w8, Calls Tryd.prog 41 #[.string d.value] q.w fun e w' => e = .returned (.bool qb) ∧ w' = q.w) := Lib.hid (fun q => (s_Blank_any d.value q.w dz).mono fun e w' h => ⟨by rw [h.1, ← HP3.out, hqb], h.2.symm⟩)
          rw [hqb] at y2
          have sr2 : (qb == qb) = true := by simp
          generalize wr.heap.size = N at *
          have f0 : ∀ q : OverT w8, q.w.cell? ⟨N, 0, none⟩ = some (.string c.name) := fun q => q.h.cell y0
          have f1 : ∀ q : OverT w8, q.w.cell? ⟨N, 1, none⟩ = some (.string c.value) := fun q => q.h.cell y1
          have f2 : ∀ q : OverT w8, q.w.cell? ⟨N, 2, none⟩ = some (.bool qb) := fun q => q.h.cell y2
          have f3 : ∀ q : OverT w8, q.w.cell? ⟨gw, k2 * 12, none⟩ = some (.string d.name) := fun q => q.h.cell e0
          have f4 : ∀ q : OverT w8, q.w.cell? ⟨gw, k2 * 12 + 1, none⟩ = some (.string d.value) := fun q => q.h.cell e1
          clear x0 x1 x2 x3 x4 x5 x6 x7 x8 x9 x10 x11 y0 y1 y2 z0 z1 z2 z3 z4 z5 z6 z7 z8 z9 z10 z11 e0 e1 a1 a2 a3
          refine wp_region_C (C := fun w' => ∃ q : OverT w8, w' = q.w) (by kernel_rfl) (by kernel_rfl) (OverT.start w8) ?_
          repeat (go_big_quiet_step ((first
            | (go_at_call 41; (with_reducible refine (BK.out _).mono ?_); exact fun e w' h => ⟨h.1, OverT.same h.2⟩))))
          refine wpQuiet_nil ?_
          rintro _ ⟨q, rfl⟩
          go_wp2
          go_roundw
          case rel => exact ⟨k2 + 1, by omega, by go_num, HB8.out.trans (q.h.mono HB8.out.size)⟩
          case measure => simp [intOf]; omega
    have hd : decide (k < ns.length) = true := by rw [decide_eq_true_iff]; exact hlt
    obtain ⟨b1, rfl, hck1⟩ := HC1.out k hlt
    have hcn := cell_keep hck1 (HB.out ▸ HS.out.be)
    have zn := S1.out k hlt
    have HWK : Hid (∀ w', Below wr.heap.size wr w' → Below w.heap.size w w') := Lib.hid (fun w' h => HB.out ▸ (HS.out.be.trans (h.mono hBw)))
    by_cases e1 : k < vs.length
    case neg =>
      have t1 : decide (vs.length ≤ k) = true := by rw [decide_eq_true_iff]; omega
      go_wp2_with fail
      refine (works_any _).mono ?_; rintro e w2 ⟨rfl, hb2⟩
      have HB2 := Lib.hid (HWK.out _ hb2)
      clear hb2
      go_wp2
      go_ret
      exact ⟨rfl, HB2.out⟩
    have t1 : decide (vs.length ≤ k) = false := by rw [decide_eq_false_iff_not]; omega
    by_cases e3 : k < 100
    case neg =>
      have t3 : decide ((100 : Int) ≤ (k : Int)) = true := by rw [decide_eq_true_iff]; omega
      have t3' : decide (100 ≤ k) = true := by rw [decide_eq_true_iff]; omega
      go_wp2_with fail
      refine (works_any _).mono ?_; rintro e w2 ⟨rfl, hb2⟩
      have HB2 := Lib.hid (HWK.out _ hb2)
      clear hb2
      go_wp2
      go_ret
      exact ⟨rfl, HB2.out⟩
    have t3 : decide ((100 : Int) ≤ (k : Int)) = false := by rw [decide_eq_false_iff_not]; omega
    have t3' : decide (100 ≤ k) = false := by rw [decide_eq_false_iff_not]; omega
    obtain ⟨b2, rfl, hck2⟩ := HC2.out k e1
    have hcv := cell_keep hck2 (HB.out ▸ HS.out.be)
    have zv := S2.out k e1
    have HTA := Lib.hid (allN_take hlt e1)
    have HOK2 : Hid (tokS ns[k].data.toList = true → allB valB vs[k].data.toList = true → ∀ j (h1 : j < ns.length) (h2 : j < vs.length), j < k + 1 → tokS ns[j].data.toList = true ∧ allB valB vs[j].data.toList = true) := Lib.hid (fun ht hv j h1 h2 hj => by
      by_cases hjk : j < k
      · exact HS.out.ok j h1 h2 hjk
      · have : j = k := by omega
        subst this
        exact ⟨ht, hv⟩)
    obtain ⟨n, hn⟩ : ∃ n, ns[k] = n := ⟨_, rfl⟩
    obtain ⟨x, hx⟩ : ∃ x, vs[k] = x := ⟨_, rfl⟩
    rw [hn] at hcn zn HTA HOK2
    rw [hx] at hcv zv HTA HOK2
    have hnm : n.size ≤ maxLen := by unfold maxLen; omega
    have hxm : x.size ≤ maxLen := by unfold maxLen; omega
    clear hn hx hck1 hck2
    rcases htk : tokS n.data.toList with _ | _
    · have HTK := Lib.hid htk
      clear htk
      go_wp2_with (first
        | (go_at_call 21; refine (s_Token_any n _ hnm).mono ?_; rintro e w' ⟨rfl, rfl⟩; rw [HTK.out])
        | (go_at_call 16; refine (works_any _).mono ?_; rintro e w2 ⟨rfl, hb2⟩; have HB2 := Lib.hid (HWK.out _ hb2); clear hb2))
      go_ret
      exact ⟨rfl, HB2.out⟩
    have HTK := Lib.hid htk
    clear htk
    rcases hvl : allB valB x.data.toList with _ | _
    · have HVL := Lib.hid hvl
      clear hvl
      go_wp2_with (first
        | (go_at_call 21; refine (s_Token_any n _ hnm).mono ?_; rintro e w' ⟨rfl, rfl⟩; rw [HTK.out])
        | (go_at_call 30; refine (s_Wide_any x _ hxm).mono ?_; rintro e w' ⟨rfl, rfl⟩; rw [HVL.out])
        | (go_at_call 16; refine (works_any _).mono ?_; rintro e w2 ⟨rfl, hb2⟩; have HB2 := Lib.hid (HWK.out _ hb2); clear hb2))
      go_ret
      exact ⟨rfl, HB2.out⟩
    have HVL := Lib.hid hvl
    clear hvl
    go_upto_region 10 with (first
        | (go_at_call 21; refine (s_Token_any n _ hnm).mono ?_; rintro e w' ⟨rfl, rfl⟩; rw [HTK.out])
        | (go_at_call 30; refine (s_Wide_any x _ hxm).mono ?_; rintro e w' ⟨rfl, rfl⟩; rw [HVL.out]))
    --APPEND
    obtain ⟨a1, a2, a3⟩ := alloc_at wr #[.string n, .string x, .bool false, .string ⟨#[]⟩, .string ⟨#[]⟩, .int .i64 0, .bool false, .bool false, .int .i64 0, .bool false, .string ⟨#[]⟩, .slice none 0 0] 26
    have hsz2 : (wr.alloc (.cells #[.string n, .string x, .bool false, .string ⟨#[]⟩, .string ⟨#[]⟩, .int .i64 0, .bool false, .bool false, .int .i64 0, .bool false, .string ⟨#[]⟩, .slice none 0 0] 26)).heap.size = wr.heap.size + 1 := alloc_sz' _ _
    generalize wr.alloc (.cells #[.string n, .string x, .bool false, .string ⟨#[]⟩, .string ⟨#[]⟩, .int .i64 0, .bool false, .bool false, .int .i64 0, .bool false, .string ⟨#[]⟩, .slice none 0 0] 26) = w2 at a1 a2 a3 hsz2 ⊢
    have hNv : some wr.heap.size ≠ u7.ownBlock := fun e => by have := (World.ownsRow.lt HS.out.l _ e.symm).2; omega
    have HL2 := Lib.hid (HS.out.l.kept a2)
    have HWT2 := Lib.hid (HS.out.wt.kept a2)
    have HBE2 := Lib.hid (HS.out.be.trans (a2.mono hBw))
    have hBw2 : B ≤ w2.heap.size := Nat.le_trans hBw a2.size
    have HA1 := Lib.hid a1
    have hN2 : wr.heap.size < w2.heap.size := a3
    generalize wr.heap.size = N at a1 hNv HA1 hN2 ⊢
    have y0 : w2.cell? ⟨N, 0, none⟩ = some (.string n) := by rw [Lib.cell_of_heap a1]; rfl
    have y1 : w2.cell? ⟨N, 1, none⟩ = some (.string x) := by rw [Lib.cell_of_heap a1]; rfl
    have y2 : w2.cell? ⟨N, 2, none⟩ = some (.bool false) := by rw [Lib.cell_of_heap a1]; rfl
    have y3 : w2.cell? ⟨N, 3, none⟩ = some (.string ⟨#[]⟩) := by rw [Lib.cell_of_heap a1]; rfl
    have y4 : w2.cell? ⟨N, 4, none⟩ = some (.string ⟨#[]⟩) := by rw [Lib.cell_of_heap a1]; rfl
    have y5 : w2.cell? ⟨N, 5, none⟩ = some (.int .i64 0) := by rw [Lib.cell_of_heap a1]; rfl
    have y6 : w2.cell? ⟨N, 6, none⟩ = some (.bool false) := by rw [Lib.cell_of_heap a1]; rfl
    have y7 : w2.cell? ⟨N, 7, none⟩ = some (.bool false) := by rw [Lib.cell_of_heap a1]; rfl
    have y8 : w2.cell? ⟨N, 8, none⟩ = some (.int .i64 0) := by rw [Lib.cell_of_heap a1]; rfl
    have y9 : w2.cell? ⟨N, 9, none⟩ = some (.bool false) := by rw [Lib.cell_of_heap a1]; rfl
    have y10 : w2.cell? ⟨N, 10, none⟩ = some (.string ⟨#[]⟩) := by rw [Lib.cell_of_heap a1]; rfl
    have y11 : w2.cell? ⟨N, 11, none⟩ = some (.slice none 0 0) := by rw [Lib.cell_of_heap a1]; rfl
    clear a1 a2 a3 hsz2
    have hcl : ((allN ns vs).take k).length ≤ 3000000 := by rw [List.length_take]; omega
    have hwl : (((allN ns vs).take k).filter (wantB flt.data.toList)).length ≤ 3000000 := Nat.le_trans (List.length_filter_le _ _) hcl
    go_wp2_with (at_builtin; refine wpList_app12b rfl (.tmp 66) (.tmp 68) rfl B _ _ rfl HL2.out (ckN n x) rfl ?c1 hBw2 ?_)
    case c1 => exact hcl
    intro v3 w3 hl3 hb3 hg3 hat3
    have HWT3 := Lib.hid (HWT2.out.grown hg3 HS.out.ap)
    have HAP3 : Hid (Apart v3 u8) := Lib.hid (HS.out.ap.next HWT2.out (Nat.le_succ _) hat3)
    have hl3' := hl3
    rw [← HTA.out] at hl3'
    have HL3 := Lib.hid hl3'
    have HBE3 := Lib.hid (HBE2.out.trans hb3)
    have hBw3 : B ≤ w3.heap.size := Nat.le_trans hBw2 hb3.size
    have a3' := (hg3.block N hN2 hNv).trans HA1.out
    have HFS : Hid (∀ q : Bool, wantB flt.data.toList (ckN n x) = q → ((allN ns vs).take (k + 1)).filter (wantB flt.data.toList) = ((allN ns vs).take k).filter (wantB flt.data.toList) ++ (if q then [ckN n x] else [])) := Lib.hid (fun q hq => by
      rw [HTA.out, List.filter_append]
      congr 1
      cases q <;> simp [hq])
    have HOK3 := Lib.hid (HOK2.out HTK.out HVL.out)
    clear hl3 hl3' hb3 hg3 hat3 HA1 hN2 hNv HOK2 HBE2 HL2 HWT2 y0 y1 y2 y3 y4 y5 y6 y7 y8 y9 y10 y11
    have z0 : w3.cell? ⟨N, 0, none⟩ = some (.string n) := by rw [Lib.cell_of_heap a3']; rfl
    have z1 : w3.cell? ⟨N, 1, none⟩ = some (.string x) := by rw [Lib.cell_of_heap a3']; rfl
    have z2 : w3.cell? ⟨N, 2, none⟩ = some (.bool false) := by rw [Lib.cell_of_heap a3']; rfl
    have z3 : w3.cell? ⟨N, 3, none⟩ = some (.string ⟨#[]⟩) := by rw [Lib.cell_of_heap a3']; rfl
    have z4 : w3.cell? ⟨N, 4, none⟩ = some (.string ⟨#[]⟩) := by rw [Lib.cell_of_heap a3']; rfl
    have z5 : w3.cell? ⟨N, 5, none⟩ = some (.int .i64 0) := by rw [Lib.cell_of_heap a3']; rfl
    have z6 : w3.cell? ⟨N, 6, none⟩ = some (.bool false) := by rw [Lib.cell_of_heap a3']; rfl
    have z7 : w3.cell? ⟨N, 7, none⟩ = some (.bool false) := by rw [Lib.cell_of_heap a3']; rfl
    have z8 : w3.cell? ⟨N, 8, none⟩ = some (.int .i64 0) := by rw [Lib.cell_of_heap a3']; rfl
    have z9 : w3.cell? ⟨N, 9, none⟩ = some (.bool false) := by rw [Lib.cell_of_heap a3']; rfl
    have z10 : w3.cell? ⟨N, 10, none⟩ = some (.string ⟨#[]⟩) := by rw [Lib.cell_of_heap a3']; rfl
    have z11 : w3.cell? ⟨N, 11, none⟩ = some (.slice none 0 0) := by rw [Lib.cell_of_heap a3']; rfl
    have key : (flt.toList = [] ∨ (flt.toList.isEmpty = false ∧ ((flt.toList == n.toList) = true ∨ (flt.toList == n.toList) = false))) := by
      cases flt.toList with
      | nil => exact .inl rfl
      | cons a m => exact .inr ⟨rfl, by cases ((a :: m) == n.toList) <;> simp⟩
    have HW0 : Hid (flt.toList = [] → wantB flt.data.toList (ckN n x) = true) := Lib.hid (fun h => by unfold wantB; rw [← Lib.toList_data, h]; rfl)
    have HW1 : Hid (∀ q : Bool, flt.toList.isEmpty = false → (flt.toList == n.toList) = q → wantB flt.data.toList (ckN n x) = q) := Lib.hid (fun q h1 h2 => by
      unfold wantB
      rw [← Lib.toList_data, h1, ← h2]
      show (false || (flt.toList == n.data.toList)) = _
      rw [Lib.toList_data n]; rfl)
    clear a3'
    rcases key with q1 | ⟨q1, q2 | q2⟩
    case inr.inr =>
      have HWW := Lib.hid (HFS.out _ (HW1.out _ q1 q2))
      go_wp2
      go_roundw
      case rel => exact ⟨k + 1, by omega, by go_num, by omega, by omega, HOK3.out, HL3.out, by rw [HWW.out]; simpa using HWT3.out, HAP3.out, HBE3.out⟩
      case measure => simp [intOf]; omega
    all_goals
      have HWW : Hid (((allN ns vs).take (k + 1)).filter (wantB flt.data.toList) = ((allN ns vs).take k).filter (wantB flt.data.toList) ++ [ckN n x]) := Lib.hid (HFS.out true (by
        first
          | exact HW0.out q1
          | exact HW1.out _ q1 q2))
      go_wp2_with (at_builtin; refine wpList_app12b rfl (.tmp 77) (.tmp 79) rfl B _ _ rfl HWT3.out (ckN n x) rfl ?c1 hBw3 ?_)
      case c1 => exact hwl
      intro v4 w4 hl4 hb4 hg4 hat4
      have R1 := Lib.hid (HL3.out.grown hg4 HAP3.out.symm)
      have R2 : Hid (AggsAt B (((allN ns vs).take (k + 1)).filter (wantB flt.data.toList)) v4 w4) := Lib.hid (by rw [HWW.out]; exact hl4)
      have R3 : Hid (Apart v3 v4) := Lib.hid ((HAP3.out.symm.next HL3.out (Nat.le_succ _) hat4).symm)
      have R4 := Lib.hid (HBE3.out.trans hb4)
      clear hl4 hb4 hg4 hat4
      go_wp2
      go_roundw
      case rel => exact ⟨k + 1, by omega, by go_num, by omega, by omega, HOK3.out, R1.out, R2.out, R3.out, R4.out⟩
      case measure => simp [intOf]; omega
end Go.Proofs.YtfijncfoefbohaaDoor
