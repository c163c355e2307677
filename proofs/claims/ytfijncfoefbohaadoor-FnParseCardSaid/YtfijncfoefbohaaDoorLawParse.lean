/- FnParse returns true at every input. -/
import Derived.Test.YtfijncfoefbohaaDoorAll
import Derived.Test.YtfijncfoefbohaaDoorOpenB
import Derived.Test.YtfijncfoefbohaaDoorLawClean
namespace Go.Proofs.YtfijncfoefbohaaDoor
open Go Go.RowKit

/-- The pairs that the three lists give. -/
def prs (ns vs : List ByteArray) (qs : List Bool) : List Pair := (ns.zip (vs.zip qs)).map fun x => (x.1.data.toList, x.2.1.data.toList, x.2.2)
theorem prs_get {ns vs : List ByteArray} {qs : List Bool} {k : Nat} (h1 : k < ns.length) (h2 : k < vs.length) (h3 : k < qs.length) (h : k < (prs ns vs qs).length) : (prs ns vs qs)[k] = (ns[k].data.toList, vs[k].data.toList, qs[k]) := by
  simp only [prs, List.getElem_map, List.getElem_zip]
theorem prs_take {ns vs : List ByteArray} {qs : List Bool} {k : Nat} (h1 : k < ns.length) (h2 : k < vs.length) (h3 : k < qs.length) :
    k < (prs ns vs qs).length ∧ (prs ns vs qs).take (k + 1) = (prs ns vs qs).take k ++ [(ns[k].data.toList, vs[k].data.toList, qs[k])] := by
  have hl : k < (prs ns vs qs).length := by unfold prs; simp; omega
  exact ⟨hl, by rw [List.take_succ_eq_append_getElem hl, prs_get h1 h2 h3]⟩
theorem prs_len {ns vs : List ByteArray} {qs : List Bool} (h1 : ns.length ≤ vs.length) (h2 : ns.length ≤ qs.length) : (prs ns vs qs).length = ns.length := by unfold prs; simp; omega

def LineIs (ns vs : List ByteArray) (qs : List Bool) (k : Nat) (line : ByteArray) : Prop :=
  k ≤ vs.length ∧ k ≤ qs.length ∧ k ≤ 100 ∧ line.data.toList = lineT ((prs ns vs qs).take k) ∧ (∀ p ∈ (prs ns vs qs).take k, goodP p) ∧ line.size ≤ k * 8589934592
theorem lineIs_zero (ns vs : List ByteArray) (qs : List Bool) : LineIs ns vs qs 0 ⟨#[]⟩ := ⟨Nat.zero_le _, Nat.zero_le _, Nat.zero_le _, rfl, by simp, Nat.le_refl _⟩
theorem oct_good {n v : List UInt8} {q : Bool} (hn : tokS n = true) (hv : allB octB v = true) : goodP (n, v, q) :=
  ⟨hn, allB_of fun b hb => (oct_byte (allB_mem hv b hb)).2.2.2, fun _ b hb => (oct_byte (allB_mem hv b hb)).2.2.1⟩
theorem lineIs_next {ns vs : List ByteArray} {qs : List Bool} {k : Nat} {line l2 : ByteArray} (h : LineIs ns vs qs k line) (h1 : k < ns.length) (h2 : k < vs.length) (h3 : k < qs.length) (h4 : k < 100)
    (hn : tokS ns[k].data.toList = true) (hv : allB octB vs[k].data.toList = true) (zn : ns[k].size ≤ 2147483647) (zv : vs[k].size ≤ 2147483647)
    (hl : l2.data.toList = (if k = 0 then line.data.toList else line.data.toList ++ [59, 32]) ++ (ns[k].data.toList ++ 61 :: quoL vs[k].data.toList qs[k])) : LineIs ns vs qs (k + 1) l2 := by
  obtain ⟨a1, a2, a3, a4, a5, a6⟩ := h
  refine ⟨h2, h3, h4, ?_, ?_, ?_⟩
  · rw [(prs_take h1 h2 h3).2, hl, a4]
    rcases Nat.eq_zero_or_pos k with h0 | h0
    · subst h0
      simp [pairT, lineT, items]
    · rw [if_neg (by omega), lineT_snoc]
      · simp [pairT]
      · intro e
        have h5 := congrArg List.length e
        have h6 := (prs_take h1 h2 h3).1
        rw [List.length_take, List.length_nil] at h5
        omega
  · intro p hp
    rw [(prs_take h1 h2 h3).2] at hp
    rcases List.mem_append.1 hp with hp | hp
    · exact a5 p hp
    · simp only [List.mem_singleton] at hp
      subst hp
      exact oct_good hn hv
  · rw [Lib.size_eq] at *
    rw [hl]
    have : (quoL vs[k].data.toList qs[k]).length ≤ vs[k].data.toList.length + 2 := by unfold quoL; split <;> simp
    simp only [List.length_append, List.length_cons]
    split <;> (try simp only [List.length_append, List.length_cons, List.length_nil]) <;> omega
theorem line_ok {ns vs : List ByteArray} {qs : List Bool} {line : ByteArray} (h : LineIs ns vs qs ns.length line) (h0 : 0 < ns.length) :
    (∀ cs, ReadOk' line.data.toList cs → cs.map pairC = prs ns vs qs) ∧ ¬ ReadNo line.data.toList := by
  obtain ⟨a1, a2, a3, a4, a5, a6⟩ := h
  have hl := prs_len a1 a2
  rw [List.take_of_length_le (by omega)] at a4 a5
  cases hp : prs ns vs qs with
  | nil => rw [hp] at hl; simp at hl; omega
  | cons p r =>
    rw [hp] at a4 a5 hl
    have h2 := line_pairs p r a5
    rw [← a4] at h2
    have h3 := congrArg List.length h2
    rw [List.length_map, List.length_map, ← count_split, hl] at h3
    refine ⟨fun cs hc => ?_, ?_⟩
    · rw [hc.1] at h2
      exact map_some_inj (by rw [List.map_map]; exact h2)
    · rintro (h4 | ⟨q, hq, hn⟩)
      · unfold cntL at h4; omega
      · have h5 : none ∈ (splitL 59 line.data.toList).map pairOf := List.mem_map.2 ⟨q, hq, hn⟩
        rw [h2] at h5
        simp at h5
theorem line_none {ns vs : List ByteArray} {qs : List Bool} {line : ByteArray} (h : LineIs ns vs qs 0 line) (cs : List Ck) : ¬ ReadOk' line.data.toList cs := by
  obtain ⟨a1, a2, a3, a4, a5, a6⟩ := h
  rintro ⟨h1, _⟩
  rw [a4] at h1
  have h2 : (splitL 59 (lineT (List.take 0 (prs ns vs qs)))).map pairOf = [none] := by simp [lineT, splitL]; decide
  rw [h2] at h1
  cases cs <;> simp at h1

theorem fits_mem {xs : List ByteArray} (h : fitsL xs = true) : xs.length ≤ 2147483647 ∧ ∀ i (hi : i < xs.length), xs[i].size ≤ 2147483647 := by
  unfold fitsL at h
  simp only [Bool.and_eq_true, decide_eq_true_eq, List.all_eq_true] at h
  exact ⟨h.1, fun i hi => h.2 _ (List.getElem_mem hi)⟩

set_option maxHeartbeats 4000000 in
set_option maxRecDepth 100000 in
theorem fnParse_walk (v1 : Value) (ns : List ByteArray) (v2 : Value) (vs : List ByteArray) (v3 : Value) (qs : List Bool) (w : World) (h1 : StrsAt ns v1 w) (h2 : StrsAt vs v2 w) (h3 : BlsAt qs v3 w) (he : ErrsAt w) :
    Calls Tryd.prog 9 #[v1, v2, v3] w fun e w' => e = .returned (.bool true) ∧ Below w.heap.size w w' := by
  have hq0 := h3.len
  unfold maxLen at hq0
  have K1 := Lib.hid h1
  have K2 := Lib.hid h2
  obtain ⟨ao1, cap1, rfl, hc1⟩ := h1.form
  obtain ⟨ao2, cap2, rfl, hc2⟩ := h2.form
  obtain ⟨ao3, cap3, rfl, hc3⟩ := h3.form
  have HC1 := Lib.hid hc1
  have HC2 := Lib.hid hc2
  have HC3 := Lib.hid hc3
  have HE := Lib.hid he
  clear h1 h2 h3 hc1 hc2 hc3 he
  rcases hf1 : fitsL ns with _ | _
  · have F1 := Lib.hid hf1
    clear hf1
    go_enter Tryd.func9, Tryd.ntmps9
    go_wp2_with (go_at_call 36; refine (zzFits2_any ns _ _ K1.out).mono ?_; rintro e w' ⟨rfl, rfl⟩; rw [F1.out])
    go_ret
    exact ⟨rfl, Below.refl _ _⟩
  have F1 := Lib.hid hf1
  obtain ⟨g1, s1⟩ := fits_mem hf1
  clear hf1
  rcases hf2 : fitsL vs with _ | _
  · have F2 := Lib.hid hf2
    clear hf2
    go_enter Tryd.func9, Tryd.ntmps9
    go_wp2_with (first
      | (go_at_call 36; (with_reducible refine (zzFits2_any ns _ _ K1.out).mono ?_); rintro e w' ⟨rfl, rfl⟩; rw [F1.out])
      | (go_at_call 36; (with_reducible refine (zzFits2_any vs _ _ K2.out).mono ?_); rintro e w' ⟨rfl, rfl⟩; rw [F2.out]))
    go_ret
    exact ⟨rfl, Below.refl _ _⟩
  have F2 := Lib.hid hf2
  obtain ⟨g2, s2⟩ := fits_mem hf2
  have S1 := Lib.hid s1
  have S2 := Lib.hid s2
  clear hf2 s1 s2
  by_cases h3 : qs.length ≤ 2147483647
  case neg =>
    have d3 : decide ((2147483647 : Int) < (qs.length : Int)) = true := by rw [decide_eq_true_eq]; omega
    go_enter Tryd.func9, Tryd.ntmps9
    go_wp2_with (first
      | (go_at_call 36; (with_reducible refine (zzFits2_any ns _ _ K1.out).mono ?_); rintro e w' ⟨rfl, rfl⟩; rw [F1.out])
      | (go_at_call 36; (with_reducible refine (zzFits2_any vs _ _ K2.out).mono ?_); rintro e w' ⟨rfl, rfl⟩; rw [F2.out]))
    go_ret
    exact ⟨rfl, Below.refl _ _⟩
  have d3 : decide ((2147483647 : Int) < (qs.length : Int)) = false := by rw [decide_eq_false_iff_not]; omega
  go_enter Tryd.func9, Tryd.ntmps9
  go_wp2_with (first
      | (go_at_call 36; (with_reducible refine (zzFits2_any ns _ _ K1.out).mono ?_); rintro e w' ⟨rfl, rfl⟩; rw [F1.out])
      | (go_at_call 36; (with_reducible refine (zzFits2_any vs _ _ K2.out).mono ?_); rintro e w' ⟨rfl, rfl⟩; rw [F2.out]))
  go_loop [7, 29] (fun ln i => ∃ (k : Nat) (line : ByteArray), k ≤ ns.length ∧ i = .int .i64 k ∧ ln = .string line ∧ LineIs ns vs qs k line) (fun _ i => ns.length - (intOf i).toNat)
  case atStart => exact ⟨0, ⟨#[]⟩, Nat.zero_le _, rfl, rfl, lineIs_zero _ _ _⟩
  case round =>
    obtain ⟨k, line, hk, rfl, rfl, hli⟩ := hrel
    have HLI := Lib.hid hli
    have hz := hli.2.2.2.2.2
    have hk100 := hli.2.2.1
    have hkv := hli.1
    have hkq := hli.2.1
    clear hli
    by_cases hlt : k < ns.length
    case neg =>
      have HK : Hid (k = ns.length) := Lib.hid (by omega)
      have hd : decide (k < ns.length) = false := by rw [decide_eq_false_iff_not]; exact hlt
      have hlz : line.size ≤ 4398046511104 := by omega
      clear hlt
      go_wp2_with fail
      refine (i_Parse_any line _ hlz HE.out).mono ?_
      rintro e w1 ⟨⟨v, cs, rfl, hag, hr⟩ | ⟨rfl, hr⟩, hb1⟩
      · rcases Nat.eq_zero_or_pos ns.length with h0 | h0
        · exact absurd hr (line_none (by have := HLI.out; rw [HK.out, h0] at this; exact this) cs)
        have hmap : cs.map pairC = prs ns vs qs := (line_ok (by have := HLI.out; rw [HK.out] at this; exact this) h0).1 cs hr
        have hcl : cs.length = ns.length := by
          have := congrArg List.length hmap
          rw [List.length_map, prs_len (by rw [← HK.out]; exact hkv) (by rw [← HK.out]; exact hkq)] at this
          exact this
        have hvl : ns.length ≤ vs.length := by rw [← HK.out]; exact hkv
        have hql : ns.length ≤ qs.length := by rw [← HK.out]; exact hkq
        obtain ⟨g, cap, rfl⟩ : ∃ g cap, v = .slice (some ⟨g, 0, none⟩) cs.length cap := by
          rcases hag.2 with ⟨_, h5⟩ | ⟨g, cap, cur, h5, _⟩
          · omega
          · exact ⟨g, cap, h5⟩
        have HAG := Lib.hid hag
        have HMAP := Lib.hid hmap
        have HCL := Lib.hid hcl
        have HB1 := Lib.hid hb1
        rw [hcl]
        have hz0 : ((ns.length : Int) == 0) = false := by rw [beq_eq_false_iff_ne]; omega
        have hz0' : (ns.length == 0) = false := by rw [beq_eq_false_iff_ne]; omega
        clear hag hmap hr hb1 hcl hd hz
        go_wp2
        go_loopw [114] (fun i wr => ∃ k2 : Nat, k2 ≤ ns.length ∧ i = .int .i64 k2 ∧ Below w1.heap.size w1 wr) (fun i _ => ns.length - (intOf i).toNat)
        case atStart => exact ⟨0, Nat.zero_le _, rfl, Below.refl _ _⟩
        case round =>
          obtain ⟨k2, hk2, rfl, hb2⟩ := hrel
          have HB2 := Lib.hid hb2
          clear hb2
          by_cases hlt : k2 < ns.length
          case neg =>
            have hd2 : decide (k2 < ns.length) = false := by rw [decide_eq_false_iff_not]; exact hlt
            go_wp2
            go_ret
            exact ⟨rfl, HB1.out.trans (HB2.out.mono HB1.out.size)⟩
          have hkc : k2 < cs.length := by rw [HCL.out]; exact hlt
          have hbw : Below w.heap.size w wr := HB1.out.trans (HB2.out.mono HB1.out.size)
          obtain ⟨b1, rfl, hck1⟩ := HC1.out k2 hlt
          obtain ⟨b2, rfl, hck2⟩ := HC2.out k2 (by omega)
          obtain ⟨b3, rfl, hck3⟩ := HC3.out k2 (by omega)
          have hd1 := cell_keep hck1 hbw
          have hd2 := cell_keep hck2 hbw
          have hd3 := cell_keep hck3 hbw
          have hce := (HAG.out.kept HB2.out).all hkc
          have hpe : pairC cs[k2] = (ns[k2].data.toList, vs[k2].data.toList, qs[k2]) := by
            have h5 : (cs.map pairC)[k2]'(by simpa using hkc) = (ns[k2].data.toList, vs[k2].data.toList, qs[k2]) := by
              have h6 : k2 < (prs ns vs qs).length := by rw [prs_len hvl hql]; exact hlt
              rw [← prs_get hlt (by omega) (by omega) h6]
              congr 1
            rw [← h5, List.getElem_map]
          obtain ⟨c, hc⟩ : ∃ c, cs[k2] = c := ⟨_, rfl⟩
          rw [hc] at hce hpe
          have q1 : ns[k2] = c.name := ba_ext (congrArg (fun p => p.1) hpe).symm
          have q2 : vs[k2] = c.value := ba_ext (congrArg (fun p => p.2.1) hpe).symm
          have q3 : qs[k2] = c.quoted := (congrArg (fun p => p.2.2) hpe).symm
          rw [q1] at hd1
          rw [q2] at hd2
          rw [q3] at hd3
          obtain ⟨x0, x1, x2, x3, x4, x5, x6, x7, x8, x9, x10, x11⟩ := hce
          have hlt' : decide (k2 < ns.length) = true := by rw [decide_eq_true_iff]; exact hlt
          clear hpe q1 q2 q3 hc hck1 hck2 hck3 hbw
          go_wp2_with fail
          obtain ⟨a1, a2, a3⟩ := alloc_at wr c.cells 26
          unfold Ck.cells at a1 a2 a3
          generalize wr.alloc (.cells #[.string c.name, .string c.value, .bool c.quoted, .string c.path, .string c.domain, .int .i64 c.age, .bool c.secure, .bool c.http, .int .i64 c.site, .bool c.part, .string c.raw, .slice c.uo c.un c.uc] 26) = w4 at a1 a2 a3 ⊢
          have y0 : w4.cell? ⟨wr.heap.size, 0, none⟩ = some (.string c.name) := by rw [Lib.cell_of_heap a1]; rfl
          have y1 : w4.cell? ⟨wr.heap.size, 1, none⟩ = some (.string c.value) := by rw [Lib.cell_of_heap a1]; rfl
          have y2 : w4.cell? ⟨wr.heap.size, 2, none⟩ = some (.bool c.quoted) := by rw [Lib.cell_of_heap a1]; rfl
          have z1 := cell_keep hd1 a2
          have z2 := cell_keep hd2 a2
          have z3 := cell_keep hd3 a2
          have hb4 : Below w1.heap.size w1 w4 := HB2.out.trans (a2.mono HB2.out.size)
          have HB4 := Lib.hid hb4
          clear x0 x1 x2 x3 x4 x5 x6 x7 x8 x9 x10 x11 hd1 hd2 hd3 a1 a2 a3 hb4
          go_quiet (fail)
          go_wp2
          go_roundw
          case rel => exact ⟨k2 + 1, by omega, by go_num, below_drewN HB4.out _⟩
          case measure => simp [intOf]; omega
      · rcases Nat.eq_zero_or_pos ns.length with h0 | h0
        · have HB1 := Lib.hid hb1
          have hz0 : ((ns.length : Int) == 0) = true := by rw [beq_iff_eq]; omega
          have hz0' : (ns.length == 0) = true := by rw [beq_iff_eq]; omega
          clear hr hb1 h0 hd
          go_wp2_with fail
          refine (works_any _).mono ?_; rintro e w2 ⟨rfl, hb2⟩
          have HB2 := Lib.hid (HB1.out.trans (hb2.mono HB1.out.size))
          clear hb2
          go_wp2
          go_ret
          exact ⟨rfl, HB2.out⟩
        · exact absurd hr (line_ok (by have := HLI.out; rw [HK.out] at this; exact this) h0).2
    obtain ⟨b1, rfl, hck1⟩ := HC1.out k hlt
    obtain ⟨n, hn⟩ : ∃ n, ns[k] = n := ⟨_, rfl⟩
    have zn := S1.out k hlt
    rw [hn] at hck1 zn
    have HN := Lib.hid hn
    clear hn
    by_cases e1 : k < vs.length
    case neg =>
      have t1 : decide (vs.length ≤ k) = true := by rw [decide_eq_true_iff]; omega
      go_wp2_with fail
      refine (works_any _).mono ?_; rintro e w2 ⟨rfl, hb2⟩
      go_wp2
      go_ret
      exact ⟨rfl, hb2⟩
    have t1 : decide (vs.length ≤ k) = false := by rw [decide_eq_false_iff_not]; omega
    by_cases e2 : k < qs.length
    case neg =>
      have t2 : decide (qs.length ≤ k) = true := by rw [decide_eq_true_iff]; omega
      go_wp2_with fail
      refine (works_any _).mono ?_; rintro e w2 ⟨rfl, hb2⟩
      go_wp2
      go_ret
      exact ⟨rfl, hb2⟩
    have t2 : decide (qs.length ≤ k) = false := by rw [decide_eq_false_iff_not]; omega
    by_cases e3 : k < 100
    case neg =>
      have t3 : decide ((100 : Int) ≤ (k : Int)) = true := by rw [decide_eq_true_iff]; omega
      have t3' : decide (100 ≤ k) = true := by rw [decide_eq_true_iff]; omega
      go_wp2_with fail
      refine (works_any _).mono ?_; rintro e w2 ⟨rfl, hb2⟩
      go_wp2
      go_ret
      exact ⟨rfl, hb2⟩
    have t3 : decide ((100 : Int) ≤ (k : Int)) = false := by rw [decide_eq_false_iff_not]; omega
    have t3' : decide (100 ≤ k) = false := by rw [decide_eq_false_iff_not]; omega
    rcases htk : tokS n.data.toList with _ | _
    · have TK := Lib.hid htk
      clear htk
      go_wp2_with (first
        | (go_at_call 21; refine (s_Token_any n _ (by unfold maxLen; omega)).mono ?_; rintro e w' ⟨rfl, rfl⟩; rw [TK.out])
        | (go_at_call 16; refine (works_any _).mono ?_; rintro e w2 ⟨rfl, hb2⟩))
      go_ret
      exact ⟨rfl, hb2⟩
    have TK := Lib.hid htk
    obtain ⟨b2, rfl, hck2⟩ := HC2.out k e1
    obtain ⟨x, hx⟩ : ∃ x, vs[k] = x := ⟨_, rfl⟩
    have zx := S2.out k e1
    rw [hx] at hck2 zx
    have HX := Lib.hid hx
    clear hx htk
    rcases hoc : allB octB x.data.toList with _ | _
    · have OC := Lib.hid hoc
      clear hoc
      go_wp2_with (first
        | (go_at_call 21; refine (s_Token_any n _ (by unfold maxLen; omega)).mono ?_; rintro e w' ⟨rfl, rfl⟩; rw [TK.out])
        | (go_at_call 37; refine (s_Octets_any x _ (by unfold maxLen; omega)).mono ?_; rintro e w' ⟨rfl, rfl⟩; rw [OC.out])
        | (go_at_call 16; refine (works_any _).mono ?_; rintro e w2 ⟨rfl, hb2⟩))
      go_ret
      exact ⟨rfl, hb2⟩
    have OC := Lib.hid hoc
    clear hoc
    obtain ⟨b3, rfl, hck3⟩ := HC3.out k e2
    have HNX : Hid (∀ l2 : ByteArray, l2.data.toList = (if k = 0 then line.data.toList else line.data.toList ++ [59, 32]) ++ (n.data.toList ++ 61 :: quoL x.data.toList qs[k]) → LineIs ns vs qs (k + 1) l2) := Lib.hid (fun l2 hl => by
      refine lineIs_next HLI.out hlt e1 e2 e3 (by rw [HN.out]; exact TK.out) (by rw [HX.out]; exact OC.out) (by rw [HN.out]; exact zn) (by rw [HX.out]; exact zx) ?_
      rw [HN.out, HX.out]; exact hl)
    obtain ⟨q, hq⟩ : ∃ q, qs[k] = q := ⟨_, rfl⟩
    rw [hq] at hck3 HNX
    clear hq
    have m1 : ¬ 9223372036854775807 < line.size + 2 := by omega
    have m2 : ¬ 9223372036854775807 < n.size + 2 := by omega
    have m3 : ¬ 9223372036854775807 < n.size + 2 + x.size := by omega
    have m4 : ¬ 9223372036854775807 < n.size + 2 + x.size + 1 := by omega
    have m5 : ¬ 9223372036854775807 < n.size + 1 := by omega
    have m6 : ¬ 9223372036854775807 < n.size + 1 + x.size := by omega
    have m7 : ¬ 9223372036854775807 < line.size + (n.size + 2 + x.size + 1) := by omega
    have m8 : ¬ 9223372036854775807 < line.size + 2 + (n.size + 2 + x.size + 1) := by omega
    have m9 : ¬ 9223372036854775807 < line.size + (n.size + 1 + x.size) := by omega
    have m10 : ¬ 9223372036854775807 < line.size + 2 + (n.size + 1 + x.size) := by omega
    rcases Nat.eq_zero_or_pos k with h0 | h0
    · have t4 : decide ((0 : Int) < (k : Int)) = false := by rw [decide_eq_false_iff_not]; omega
      have t4' : decide (0 < k) = false := by rw [decide_eq_false_iff_not]; omega
      have H0 := Lib.hid h0
      clear h0
      rcases q with _ | _
      all_goals
        go_wp2_with (first
          | (go_at_call 21; refine (s_Token_any n _ (by unfold maxLen; omega)).mono ?_; rintro e w' ⟨rfl, rfl⟩; rw [TK.out])
          | (go_at_call 37; refine (s_Octets_any x _ (by unfold maxLen; omega)).mono ?_; rintro e w' ⟨rfl, rfl⟩; rw [OC.out]))
        go_round
        case rel => exact ⟨k + 1, _, by omega, by go_num, rfl, HNX.out _ (by rw [if_pos H0.out]; simp [app_data, quoL])⟩
        case measure => simp [intOf]; omega
    · have t4 : decide ((0 : Int) < (k : Int)) = true := by rw [decide_eq_true_iff]; omega
      have t4' : decide (0 < k) = true := by rw [decide_eq_true_iff]; omega
      rcases q with _ | _
      all_goals
        go_wp2_with (first
          | (go_at_call 21; refine (s_Token_any n _ (by unfold maxLen; omega)).mono ?_; rintro e w' ⟨rfl, rfl⟩; rw [TK.out])
          | (go_at_call 37; refine (s_Octets_any x _ (by unfold maxLen; omega)).mono ?_; rintro e w' ⟨rfl, rfl⟩; rw [OC.out]))
        go_round
        case rel => exact ⟨k + 1, _, by omega, by go_num, rfl, HNX.out _ (by rw [if_neg (by omega)]; simp [app_data, quoL])⟩
        case measure => simp [intOf]; omega
end Go.Proofs.YtfijncfoefbohaaDoor
