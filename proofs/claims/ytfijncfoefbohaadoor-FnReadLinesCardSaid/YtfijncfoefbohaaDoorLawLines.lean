/- FnReadLines returns true at every two lists of lines. -/
import Derived.Test.YtfijncfoefbohaaDoorReadC
import Derived.Test.YtfijncfoefbohaaDoorSame
import Derived.Test.YtfijncfoefbohaaDoorQ
import Derived.Laws.AppendOwnNone
namespace Go.Proofs.YtfijncfoefbohaaDoor
open Go Go.RowKit

theorem own_strs {B : Nat} {xs : List ByteArray} {v : Value} {w : World} (h : w.ownsRow B 9 1 v xs.length (xs.map Value.string)) (hz : ∀ x ∈ xs, x.size ≤ maxLen) : StrsAt xs v w := by
  rcases h.2 with ⟨rfl, h0⟩ | ⟨g, cap, cur, rfl, h2, h3, h4, h5, h6⟩
  · exact .inl ⟨rfl, List.eq_nil_of_length_eq_zero h0⟩
  · exact .inr ⟨⟨g, 0, none⟩, cap, rfl, h4, h5, fun i hi => h.cells (g := g) rfl i (.string xs[i]) (by simp [hi]), hz⟩
section
variable {W : World} {ops : Array Oper} {rest : List Oper} {o : Oper} {a : Act} {Q : Exit → Act → World → Prop}
/-- append(s, x...), texts. -/
theorem wpList_appStrs (hgd : o.guard = none) (s x : Operand) (ho : o.op = .call { callee := .builtin .append, args := #[s, x], argTypes := #[24, 24] })
    (B : Nat) (v : Value) (us : List ByteArray) (hs : a.eval s = v) (hown : W.ownsRow B 9 1 v us.length (us.map Value.string)) (xv : Value) (xs : List ByteArray) (hx : a.eval x = xv) (hxs : StrsAt xs xv W)
    (hn : us.length + xs.length ≤ 4294967296) (hB : B ≤ W.heap.size)
    (h : ∀ v' w', w'.ownsRow B 9 1 v' (us ++ xs).length ((us ++ xs).map Value.string) → Below B W w' → wpList Tryd.prog ops Q rest (a.put o.dst v') w') : wpList Tryd.prog ops Q (o :: rest) a W := by
  obtain ⟨i, hi, hz0, hz1, hz2⟩ := info_parts strInfo
  rcases hxs with ⟨rfl, rfl⟩ | ⟨ad, cap, rfl, h1, h2, h3, h4⟩
  · refine wpList_append_own_none hgd s x _ ho B 9 i 1 Tryd.underlying24 hi v us.length _ hs hown hx ?_
    exact h v W (by simpa using hown) (Below.refl _ _)
  · refine wpList_append_own_at _ hgd s x _ ho B 9 i _ 1 16 Tryd.underlying24 hi hz0 hz1 hz2 rfl (by omega) v us.length _ hs hown ad xs.length cap (xs.map Value.string) hx (by simp) ?_ ?_ (by unfold maxLen; omega) (by omega) hB ?_
    · intro j u hj
      rw [List.getElem?_map] at hj
      cases hg : xs[j]? with
      | none => rw [hg] at hj; cases hj
      | some y =>
        rw [hg] at hj
        simp only [Option.map_some, Option.some.injEq] at hj
        obtain ⟨hl, he⟩ := List.getElem?_eq_some_iff.1 hg
        rw [h3 j hl, he, hj]
    · intro u hu
      obtain ⟨y, _, rfl⟩ := List.mem_map.1 hu
      rfl
    · intro v' w' hown' hg _ _
      exact h v' w' (by simpa using hown') ((Below.refl B W).grown hg hB (fun k hk => (hown.lt k hk).1))
/-- append(s, x...), cookies. -/
theorem wpList_appCks (hgd : o.guard = none) (s x : Operand) (ho : o.op = .call { callee := .builtin .append, args := #[s, x], argTypes := #[41, 41] })
    (B B2 : Nat) (v : Value) (us : List Ck) (hs : a.eval s = v) (hown : AggsAt B us v W) (xv : Value) (xs : List Ck) (hx : a.eval x = xv) (hxs : AggsAt B2 xs xv W)
    (hn : us.length + xs.length ≤ 100000) (hB : B ≤ W.heap.size)
    (h : ∀ v' w', AggsAt B (us ++ xs) v' w' → Below B W w' → wpList Tryd.prog ops Q rest (a.put o.dst v') w') : wpList Tryd.prog ops Q (o :: rest) a W := by
  obtain ⟨i, hi, hz0, hz1, hz2⟩ := info_parts aggInfo
  rcases hxs.2 with ⟨rfl, h0⟩ | ⟨g, cap, cur, rfl, h2, h3, h4, h5, h6⟩
  · refine wpList_append_own_none hgd s x _ ho B 26 i 12 Tryd.underlying41 hi v us.length _ hs hown hx ?_
    have hx0 : xs = [] := List.eq_nil_of_length_eq_zero h0
    subst hx0
    exact h v W (by simpa using hown) (Below.refl _ _)
  · refine wpList_append_own_at _ hgd s x _ ho B 26 i _ 12 144 Tryd.underlying41 hi hz0 hz1 hz2 rfl (by omega) v us.length _ hs hown ⟨g, 0, none⟩ xs.length cap (xs.flatMap fun c => c.cells.toList) hx hxs.1 ?_ ?_ (by unfold maxLen; omega) (by omega) hB ?_
    · intro j u hj
      exact World.ownsRow.cells hxs (g := g) rfl j u hj
    · intro u hu
      obtain ⟨c, _, hc⟩ := List.mem_flatMap.1 hu
      exact ck_one c u hc
    · intro v' w' hown' hg _ _
      refine h v' w' ?_ ((Below.refl B W).grown hg hB (fun k hk => (World.ownsRow.lt hown k hk).1))
      unfold AggsAt
      rw [List.flatMap_append, List.length_append]
      exact hown'
end
theorem strs_new (w : World) : (w.alloc (.cells #[] 9)).ownsRow w.heap.size 9 1 (.slice (some ⟨w.heap.size, 0, none⟩) 0 0) ([] : List ByteArray).length (([] : List ByteArray).map Value.string) :=
  ⟨rfl, .inr ⟨w.heap.size, 0, #[], rfl, Nat.le_refl _, (alloc_at w #[] 9).1, Nat.le_refl _, by decide, rfl, rfl⟩⟩
theorem cks_new (w : World) : AggsAt w.heap.size [] (.slice (some ⟨w.heap.size, 0, none⟩) 0 0) (w.alloc (.cells #[] 26)) :=
  ⟨rfl, .inr ⟨w.heap.size, 0, #[], rfl, Nat.le_refl _, (alloc_at w #[] 26).1, Nat.le_refl _, by decide, rfl, rfl⟩⟩
theorem fits_all' {xs : List ByteArray} (h : fitsL xs = true) : xs.length ≤ 2147483647 ∧ ∀ i (hi : i < xs.length), xs[i].size ≤ 2147483647 := by
  unfold fitsL at h
  simp only [Bool.and_eq_true, decide_eq_true_eq, List.all_eq_true] at h
  exact ⟨h.1, fun i hi => h.2 _ (List.getElem_mem hi)⟩
theorem cnt_few {xs : List ByteArray} : cntAll (dats xs) ≤ xs.length + szSum xs := by
  induction xs with
  | nil => exact Nat.le_refl _
  | cons x r ih =>
    have h1 : cntL 59 x.data.toList ≤ x.size := by
      unfold cntL
      rw [Lib.size_eq]
      exact List.count_le_length
    have h2 : szSum (x :: r) = x.size + szSum r := by unfold szSum; simp
    have h3 : cntAll (dats (x :: r)) = (cntL 59 x.data.toList + 1) + cntAll (dats r) := rfl
    rw [h2, h3, List.length_cons]
    omega
theorem few_is' {xs : List ByteArray} (h : fewB xs = true) : xs.length ≤ 50 ∧ szSum xs ≤ 2000 := by
  unfold fewB at h
  simpa using h
theorem aggs_lower {B B2 : Nat} {l : List Ck} {v : Value} {w : World} (h : AggsAt B l v w) (hB : B2 ≤ B) : AggsAt B2 l v w := own_lower h hB
theorem agg_pos' {B n cap : Nat} {o : Option Addr} {cs : List Ck} {w : World} (h : AggsAt B cs (.slice o n cap) w) (h0 : 0 < cs.length) : ∃ g, o = some ⟨g, 0, none⟩ := by
  rcases h.2 with ⟨_, h1⟩ | ⟨g, cap', cur, h1, _⟩
  · omega
  · cases h1; exact ⟨g, rfl⟩
theorem stripL_len' (l : List UInt8) (q : Bool) : (stripL l q).length ≤ l.length := by
  unfold stripL
  split
  · rw [List.length_dropLast, List.length_tail]; omega
  · exact Nat.le_refl _
theorem rdAll_size {f : List UInt8} {lines : List (List UInt8)} {p : Pair} (h : p ∈ rdAll f lines) : ∃ l ∈ lines, p.1.length ≤ l.length ∧ p.2.1.length ≤ l.length := by
  unfold rdAll rdLine rdRest at h
  obtain ⟨l, hl, h⟩ := List.mem_flatMap.1 h
  obtain ⟨q, hq, h⟩ := List.mem_flatMap.1 h
  unfold rdPart at h
  split at h
  · simp only [List.mem_singleton] at h
    subst h
    have h1 := splitL_mem_le 59 (trimL l) q hq
    have h2 := trimL_len l
    have h3 := trimL_len q
    refine ⟨l, hl, ?_, ?_⟩
    · have h4 : (cutA 61 (trimL q)).length ≤ (trimL q).length := cutA_le
      have h5 := trimL_len (cutA 61 (trimL q))
      show (trimL (cutA 61 (trimL q))).length ≤ _
      omega
    · have h4 : (cutB 61 (trimL q)).length ≤ (trimL q).length := by unfold cutB; rw [List.length_drop]; omega
      have h5 := stripL_len' (cutB 61 (trimL q)) true
      show (stripL (cutB 61 (trimL q)) true).length ≤ _
      omega
  · cases h
/-- What a cookie that was read is. -/
theorem read_sound {f : List UInt8} {xs : List ByteArray} {cs : List Ck} (h : cs.map pairC = rdAll f (dats xs)) (hz : ∀ k (hk : k < xs.length), xs[k].size ≤ 2147483647) {k : Nat} (hk : k < cs.length) :
    tokS cs[k].name.data.toList = true ∧ allB valB cs[k].value.data.toList = true ∧ (f = [] ∨ f = cs[k].name.data.toList) ∧ cs[k].name.size ≤ maxLen ∧ cs[k].value.size ≤ maxLen := by
  have hm : pairC cs[k] ∈ rdAll f (dats xs) := by rw [← h]; exact List.mem_map.2 ⟨_, List.getElem_mem hk, rfl⟩
  obtain ⟨h1, h2, h3⟩ := rdAll_mem hm
  obtain ⟨l, hl, h4, h5⟩ := rdAll_size hm
  obtain ⟨x, hx, rfl⟩ := List.mem_map.1 hl
  obtain ⟨j, hj, rfl⟩ := List.mem_iff_getElem.1 hx
  have h6 := hz j hj
  rw [Lib.size_eq] at h6
  refine ⟨h1, h2, h3, ?_, ?_⟩
  · rw [Lib.size_eq]; unfold maxLen; change cs[k].name.data.toList.length ≤ _ at h4; omega
  · rw [Lib.size_eq]; unfold maxLen; change cs[k].value.data.toList.length ≤ _ at h5; omega
theorem pair_eq {a b : Ck} (h : pairC a = pairC b) : a.name = b.name ∧ a.value = b.value ∧ a.quoted = b.quoted :=
  ⟨ba_ext (congrArg (fun p => p.1) h), ba_ext (congrArg (fun p => p.2.1) h), congrArg (fun p => p.2.2) h⟩
theorem dats_app (a b : List ByteArray) : dats (a ++ b) = dats a ++ dats b := by unfold dats; rw [List.map_append]

set_option maxHeartbeats 8000000 in
set_option maxRecDepth 100000 in
theorem fnReadLines_walk (v1 : Value) (xs : List ByteArray) (v2 : Value) (ys : List ByteArray) (flt : ByteArray) (w : World) (h1 : StrsAt xs v1 w) (h2 : StrsAt ys v2 w) (h3 : flt.size ≤ maxLen) :
    Calls Tryd.prog 10 #[v1, v2, .string flt] w fun e w' => e = .returned (.bool true) ∧ Below w.heap.size w w' := by
  have K1 := Lib.hid h1
  have K2 := Lib.hid h2
  have Z1 := Lib.hid h1.mem
  have Z2 := Lib.hid h2.mem
  clear h1 h2
  rcases hf1 : fitsL xs with _ | _
  · have F1 := Lib.hid hf1
    clear hf1
    go_enter Tryd.func10, Tryd.ntmps10
    go_wp2_with (go_at_call 36; refine (zzFits2_any xs _ _ K1.out).mono ?_; rintro e w' ⟨rfl, rfl⟩; rw [F1.out])
    go_ret
    exact ⟨rfl, Below.refl _ _⟩
  have F1 := Lib.hid hf1
  obtain ⟨g1, s1⟩ := fits_all' hf1
  clear hf1
  rcases hf2 : fitsL ys with _ | _
  · have F2 := Lib.hid hf2
    clear hf2
    go_enter Tryd.func10, Tryd.ntmps10
    go_wp2_with (first
      | (go_at_call 36; (with_reducible refine (zzFits2_any xs _ _ K1.out).mono ?_); rintro e w' ⟨rfl, rfl⟩; rw [F1.out])
      | (go_at_call 36; (with_reducible refine (zzFits2_any ys _ _ K2.out).mono ?_); rintro e w' ⟨rfl, rfl⟩; rw [F2.out]))
    go_ret
    exact ⟨rfl, Below.refl _ _⟩
  have F2 := Lib.hid hf2
  obtain ⟨g2, s2⟩ := fits_all' hf2
  clear hf2
  have S1 := Lib.hid s1
  have S2 := Lib.hid s2
  clear s1 s2
  by_cases h4 : (2147483647 : Int) < (flt.size : Int)
  · have d3 : decide ((2147483647 : Int) < (flt.size : Int)) = true := by rw [decide_eq_true_eq]; exact h4
    go_enter Tryd.func10, Tryd.ntmps10
    go_wp2_with (first
      | (go_at_call 36; (with_reducible refine (zzFits2_any xs _ _ K1.out).mono ?_); rintro e w' ⟨rfl, rfl⟩; rw [F1.out])
      | (go_at_call 36; (with_reducible refine (zzFits2_any ys _ _ K2.out).mono ?_); rintro e w' ⟨rfl, rfl⟩; rw [F2.out]))
    go_ret
    exact ⟨rfl, Below.refl _ _⟩
  have d3 : decide ((2147483647 : Int) < (flt.size : Int)) = false := by rw [decide_eq_false_iff_not]; exact h4
  go_enter Tryd.func10, Tryd.ntmps10
  go_wp2_with (first
      | (go_at_call 36; (with_reducible refine (zzFits2_any xs _ _ K1.out).mono ?_); rintro e w' ⟨rfl, rfl⟩; rw [F1.out])
      | (go_at_call 36; (with_reducible refine (zzFits2_any ys _ _ K2.out).mono ?_); rintro e w' ⟨rfl, rfl⟩; rw [F2.out])
      | (at_builtin; refine wpList_appStrs rfl (.tmp 26) (.tmp 27) rfl w.heap.size _ [] rfl (strs_new w) _ xs rfl (K1.out.below ((Below.refl _ _).alloc (Nat.le_refl _) _)) ?c1 ?c2 ?_))
  case c1 => simp; omega
  case c2 => rw [alloc_sz']; omega
  intro u1 w1 ho1 hb1
  have HB1 : Hid (Below w.heap.size w w1) := Lib.hid (((Below.refl _ _).alloc (Nat.le_refl _) _).trans hb1)
  have HO1 := Lib.hid ho1
  clear ho1 hb1
  go_wp2_with (at_builtin; refine wpList_appStrs rfl (.tmp 28) (.tmp 29) rfl w.heap.size _ xs rfl HO1.out _ ys rfl (K2.out.below HB1.out) ?c1 HB1.out.size ?_)
  case c1 => omega
  intro u2 w2 ho2 hb2
  have HB2 : Hid (Below w.heap.size w w2) := Lib.hid (HB1.out.trans hb2)
  have HS12 : Hid (∀ k (hk : k < (xs ++ ys).length), (xs ++ ys)[k].size ≤ 2147483647) := Lib.hid (by
    intro k hk
    by_cases hx : k < xs.length
    · rw [List.getElem_append_left hx]; exact S1.out k hx
    · rw [List.getElem_append_right (by omega)]; exact S2.out _ _)
  have HZ12 : Hid (∀ x ∈ xs ++ ys, x.size ≤ maxLen) := Lib.hid (by
    intro x hx
    rcases List.mem_append.1 hx with h | h
    · exact Z1.out x h
    · exact Z2.out x h)
  have hl12 : (xs ++ ys).length ≤ 4294967294 := by rw [List.length_append]; omega
  have HST := Lib.hid (own_strs (xs := xs ++ ys) (by simpa using ho2) HZ12.out)
  clear ho2 hb2 HO1 HB1
  rcases hfw : fewB (xs ++ ys) with _ | _
  · have FW := Lib.hid hfw
    clear hfw
    go_wp2_with (first
      | (go_at_call 38; refine (few_any (xs ++ ys) _ _ HST.out hl12 HS12.out).mono ?_; rintro e w' ⟨rfl, rfl⟩; rw [FW.out])
      | (go_at_call 16; refine (works_any _).mono ?_; rintro e w3 ⟨rfl, hb3⟩; have HB3 := Lib.hid (HB2.out.trans (hb3.mono HB2.out.size)); clear hb3))
    go_ret
    exact ⟨rfl, HB3.out⟩
  have FW := Lib.hid hfw
  obtain ⟨fn, fs⟩ := few_is' hfw
  have hcn : cntAll (dats xs) + cntAll (dats ys) ≤ 2050 := by
    have := cnt_few (xs := xs ++ ys)
    rw [dats_app, cntAll_app] at this
    omega
  clear hfw fs
  go_wp2_with (go_at_call 38; refine (few_any (xs ++ ys) _ _ HST.out hl12 HS12.out).mono ?_; rintro e w' ⟨rfl, rfl⟩; rw [FW.out])
  refine (i_Read_any xs flt _ _ (K1.out.below HB2.out) (by omega) (fun k h => Nat.le_trans (S1.out k h) (by omega))).mono ?_
  rintro e w3 ⟨⟨x3, cx, rfl, hagx, hcx, hlx⟩, hb3⟩
  have HB3 := Lib.hid (HB2.out.trans (hb3.mono HB2.out.size))
  have HAX := Lib.hid (aggs_lower hagx HB2.out.size)
  have HCX := Lib.hid hcx
  clear hb3 hagx hcx HST
  go_wp2_with fail
  refine (i_Read_any ys flt _ _ (K2.out.below HB3.out) (by omega) (fun k h => Nat.le_trans (S2.out k h) (by omega))).mono ?_
  rintro e w4 ⟨⟨x4, cy, rfl, hagy, hcy, hly⟩, hb4⟩
  have HB4 := Lib.hid (HB3.out.trans (hb4.mono HB3.out.size))
  have HAX4 := Lib.hid (HAX.out.kept hb4)
  have HAY := Lib.hid (aggs_lower hagy HB3.out.size)
  have HCY := Lib.hid hcy
  clear hb4 hagy hcy HAX
  go_wp2_with (at_builtin; refine wpList_appStrs rfl (.tmp 40) (.tmp 41) rfl w4.heap.size _ [] rfl (strs_new w4) _ xs rfl ((K1.out.below HB4.out).below ((Below.refl _ _).alloc (Nat.le_refl _) _)) ?c1 ?c2 ?_)
  case c1 => simp; omega
  case c2 => rw [alloc_sz']; omega
  intro u5 w5 ho5 hb5
  have HW5 : Hid (Below w4.heap.size w4 w5) := Lib.hid (((Below.refl _ _).alloc (Nat.le_refl _) _).trans hb5)
  have HO5 := Lib.hid ho5
  clear ho5 hb5
  go_wp2_with (at_builtin; refine wpList_appStrs rfl (.tmp 42) (.tmp 43) rfl w4.heap.size _ xs rfl HO5.out _ ys rfl ((K2.out.below HB4.out).below HW5.out) ?c1 HW5.out.size ?_)
  case c1 => omega
  intro u6 w6 ho6 hb6
  have HW6 : Hid (Below w4.heap.size w4 w6) := Lib.hid (HW5.out.trans hb6)
  have HST6 := Lib.hid (own_strs (xs := xs ++ ys) (by simpa using ho6) HZ12.out)
  have HB6 := Lib.hid (HB4.out.trans (HW6.out.mono HB4.out.size))
  have HAX6 := Lib.hid (HAX4.out.kept HW6.out)
  have HAY6 := Lib.hid (HAY.out.kept HW6.out)
  clear ho6 hb6 HO5 HW5 HW6 HAX4 HAY HB4
  go_wp2_with fail
  refine (i_Read_any (xs ++ ys) flt _ _ HST6.out (by rw [dats_app, cntAll_app]; omega) (fun k h => Nat.le_trans (HS12.out k h) (by omega))).mono ?_
  rintro e w7 ⟨⟨x7, cz, rfl, hagz, hcz, hlz⟩, hb7⟩
  have HB7 := Lib.hid (HB6.out.trans (hb7.mono HB6.out.size))
  have HAX7 := Lib.hid (HAX6.out.kept hb7)
  have HAY7 := Lib.hid (HAY6.out.kept hb7)
  have HAZ7 := Lib.hid (aggs_lower hagz HB6.out.size)
  have hzz : cz.map pairC = (cx ++ cy).map pairC := by rw [List.map_append, hcz, HCX.out, HCY.out, dats_app, rdAll_app]
  have hlen : cz.length = cx.length + cy.length := by
    have := congrArg List.length hzz
    simpa using this
  have HCZ := Lib.hid hcz
  have HZZ := Lib.hid hzz
  clear hb7 hagz hcz hzz HAX6 HAY6 HST6 HB6
  obtain ⟨ax, px, rfl⟩ := agg_shape HAX7.out
  obtain ⟨ay, py, rfl⟩ := agg_shape HAY7.out
  obtain ⟨az, pz, rfl⟩ := agg_shape HAZ7.out
  have HLEN := Lib.hid hlen
  rw [hlen]
  obtain ⟨nx, hnx⟩ : ∃ n, cx.length = n := ⟨_, rfl⟩
  obtain ⟨ny, hny⟩ : ∃ n, cy.length = n := ⟨_, rfl⟩
  have HNX := Lib.hid hnx
  have HNY := Lib.hid hny
  rw [hnx] at hlx ⊢
  rw [hny] at hly ⊢
  clear hlen hnx hny
  have hq : (((nx + ny : Nat) : Int) == (nx : Int) + (ny : Int)) = true := by rw [beq_iff_eq]; omega
  go_wp2_with (go_at_call 16; refine (works_any _).mono ?_; rintro e w8 ⟨rfl, hb8⟩; have HB8 := Lib.hid (HB7.out.trans (hb8.mono HB7.out.size)); have HAX8 := Lib.hid (HAX7.out.kept hb8); have HAY8 := Lib.hid (HAY7.out.kept hb8); have HAZ8 := Lib.hid (HAZ7.out.kept hb8); clear hb8)
  clear HAX7 HAY7 HAZ7 HB7 HB3 HB2 hq
  have hB8 : w.heap.size ≤ w8.heap.size := HB8.out.size
  go_loopw [61] (fun i wr => ∃ k : Nat, k ≤ nx + ny ∧ i = .int .i64 k ∧ Below w8.heap.size w8 wr) (fun i _ => (nx + ny) - (intOf i).toNat)
  case atStart => exact ⟨0, Nat.zero_le _, rfl, Below.refl _ _⟩
  case round =>
    obtain ⟨k, hk, rfl, hb⟩ := hrel
    have HK := Lib.hid hb
    clear hb
    by_cases hlt : k < nx + ny
    case neg =>
      have hd1 : decide (k < nx + ny) = false := by rw [decide_eq_false_iff_not]; exact hlt
      have hd2 : decide ((k : Int) < (nx : Int) + (ny : Int)) = false := by rw [decide_eq_false_iff_not]; omega
      go_wp2
      go_ret
      exact ⟨rfl, HB8.out.trans (HK.out.mono hB8)⟩
    have hd1 : decide (k < nx + ny) = true := by rw [decide_eq_true_iff]; exact hlt
    have hd2 : decide ((k : Int) < (nx : Int) + (ny : Int)) = true := by rw [decide_eq_true_iff]; omega
    have hkz : k < cz.length := by rw [HLEN.out, HNX.out, HNY.out]; exact hlt
    have hkc : k < (cx ++ cy).length := by rw [List.length_append, HNX.out, HNY.out]; exact hlt
    obtain ⟨gz, rfl⟩ := agg_pos' HAZ8.out (Nat.lt_of_le_of_lt (Nat.zero_le _) hkz)
    obtain ⟨rs1, rs2, rs3, hcn1, hcv1⟩ := read_sound HCZ.out HS12.out hkz
    have hcx := (HAZ8.out.kept HK.out).all hkz
    have hpq : pairC cz[k] = pairC (cx ++ cy)[k] := by
      have h1 : (cz.map pairC)[k]'(by simpa using hkz) = ((cx ++ cy).map pairC)[k]'(by simpa using hkc) := by
        have h2 := HZZ.out
        simp only [h2]
      simpa only [List.getElem_map] using h1
    obtain ⟨c, hc⟩ : ∃ c, cz[k] = c := ⟨_, rfl⟩
    rw [hc] at hcx hpq rs1 rs2 rs3 hcn1 hcv1
    clear hc
    obtain ⟨d, hd⟩ : ∃ d, (cx ++ cy)[k] = d := ⟨_, rfl⟩
    rw [hd] at hpq
    obtain ⟨p1, p2, p3⟩ := pair_eq hpq
    have HD := Lib.hid hd
    have HP1 := Lib.hid p1
    have HP2 := Lib.hid p2
    have HP3 := Lib.hid p3
    have HTK := Lib.hid rs1
    have HVL := Lib.hid rs2
    have HFL := Lib.hid rs3
    obtain ⟨x0, x1, x2, x3, x4, x5, x6, x7, x8, x9, x10, x11⟩ := hcx
    clear hd p1 p2 p3 hpq rs1 rs2 rs3
    go_upto_region 11 with fail
    obtain ⟨a1, a2, a3⟩ := alloc_at wr c.cells 26
    unfold Ck.cells at a1 a2 a3
    generalize wr.alloc (.cells #[.string c.name, .string c.value, .bool c.quoted, .string c.path, .string c.domain, .int .i64 c.age, .bool c.secure, .bool c.http, .int .i64 c.site, .bool c.part, .string c.raw, .slice c.uo c.un c.uc] 26) = w9 at a1 a2 a3 ⊢
    have HA1 := Lib.hid a1
    have HB9 := Lib.hid (HK.out.trans (a2.mono HK.out.size))
    have hax9 := HAX8.out.kept HB9.out
    have hay9 := HAY8.out.kept HB9.out
    rw [HNX.out] at hax9
    rw [HNY.out] at hay9
    have HAX9 := Lib.hid hax9
    have HAY9 := Lib.hid hay9
    clear hax9 hay9
    generalize hN1 : wr.heap.size = N1 at a1 a2 a3 HA1 ⊢
    clear a1 a2 hN1 x0 x1 x2 x3 x4 x5 x6 x7 x8 x9 x10 x11
    go_wp2_with (at_builtin; refine wpList_appCks rfl (.tmp 66) (.tmp 67) rfl w9.heap.size w.heap.size _ [] rfl (cks_new w9) _ cx rfl (HAX9.out.kept ((Below.refl _ _).alloc (Nat.le_refl _) _)) ?c1 ?c2 ?_)
    case c1 => have := HNX.out; simp; omega
    case c2 => rw [alloc_sz']; omega
    intro u10 w10 ha10 hb10
    have HW10 : Hid (Below w9.heap.size w9 w10) := Lib.hid (((Below.refl _ _).alloc (Nat.le_refl _) _).trans hb10)
    have HA10 : Hid (AggsAt w9.heap.size cx u10 w10) := Lib.hid (by simpa using ha10)
    clear ha10 hb10
    go_wp2_with (at_builtin; refine wpList_appCks rfl (.tmp 68) (.tmp 69) rfl w9.heap.size w.heap.size _ cx rfl HA10.out _ cy rfl (HAY9.out.kept HW10.out) ?c1 HW10.out.size ?_)
    case c1 => have := HNX.out; have := HNY.out; omega
    intro u11 w11 ha11 hb11
    have HW11 : Hid (Below w9.heap.size w9 w11) := Lib.hid (HW10.out.trans hb11)
    obtain ⟨o11, c11, rfl⟩ := agg_shape ha11
    obtain ⟨gd, rfl⟩ := agg_pos' ha11 (Nat.lt_of_le_of_lt (Nat.zero_le _) hkc)
    have hdx := ha11.all hkc
    rw [HD.out] at hdx
    have hl11 : (cx ++ cy).length = nx + ny := by rw [List.length_append, HNX.out, HNY.out]
    rw [hl11]
    obtain ⟨z0, z1, z2, z3, z4, z5, z6, z7, z8, z9, z10, z11⟩ := hdx
    have HA11 := Lib.hid ((HW11.out.block _ a3).trans HA1.out)
    clear ha11 hb11 HA10 HW10 HA1
    go_upto_region 12 with fail
    obtain ⟨b1, b2, b3⟩ := alloc_at w11 d.cells 26
    unfold Ck.cells at b1 b2 b3
    generalize w11.alloc (.cells #[.string d.name, .string d.value, .bool d.quoted, .string d.path, .string d.domain, .int .i64 d.age, .bool d.secure, .bool d.http, .int .i64 d.site, .bool d.part, .string d.raw, .slice d.uo d.un d.uc] 26) = w12 at b1 b2 b3 ⊢
    have hlt11 : N1 < w11.heap.size := Nat.lt_of_lt_of_le a3 HW11.out.size
    have a12 := (b2.block _ hlt11).trans HA11.out
    have HB12 : Hid (Below w8.heap.size w8 w12) := Lib.hid ((HB9.out.trans (HW11.out.mono HB9.out.size)).trans (b2.mono (Nat.le_trans HB9.out.size HW11.out.size)))
    obtain ⟨x0, x1, x2, -, -, -, -, -, -, -, -, -⟩ := ck_cells (c := c) a12
    obtain ⟨y0, y1, y2, -, -, -, -, -, -, -, -, -⟩ := ck_cells (c := d) b1
    rw [← HP1.out] at y0
    rw [← HP2.out] at y1
    rw [← HP3.out] at y2
    have sr0 : (c.name.toList == c.name.toList) = true := by simp
    have sr1 : (c.value.toList == c.value.toList) = true := by simp
    clear a12 b1 b2 b3 z0 z1 z2 z3 z4 z5 z6 z7 z8 z9 z10 z11 hlt11
    generalize w11.heap.size = N2 at y0 y1 y2 ⊢
    rcases HFL.out with hfl | hfl
    · have e1 : flt.toList = [] := by rw [Lib.toList_data]; exact hfl
      clear hfl
      go_wp2_with (first | (go_at_call 21; refine (s_Token_any c.name _ hcn1).mono ?_; rintro e w' ⟨rfl, rfl⟩; rw [HTK.out]) | (go_at_call 30; refine (s_Wide_any c.value _ hcv1).mono ?_; rintro e w' ⟨rfl, rfl⟩; rw [HVL.out]))
      go_roundw
      case rel => exact ⟨k + 1, by omega, by go_num, HB12.out⟩
      case measure => simp [intOf]; omega
    · have e1 : (c.name.toList == flt.toList) = true := by rw [Lib.toList_data, Lib.toList_data, ← hfl]; simp
      have e2 : flt.toList.isEmpty = false := by
        rw [Lib.toList_data, hfl]
        have := tok_ne HTK.out
        cases hx : c.name.data.toList with
        | nil => exact absurd hx this
        | cons _ _ => rfl
      clear hfl
      go_wp2_with (first | (go_at_call 21; refine (s_Token_any c.name _ hcn1).mono ?_; rintro e w' ⟨rfl, rfl⟩; rw [HTK.out]) | (go_at_call 30; refine (s_Wide_any c.value _ hcv1).mono ?_; rintro e w' ⟨rfl, rfl⟩; rw [HVL.out]))
      go_roundw
      case rel => exact ⟨k + 1, by omega, by go_num, HB12.out⟩
      case measure => simp [intOf]; omega
end Go.Proofs.YtfijncfoefbohaaDoor
