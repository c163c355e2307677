/- FnParseSet: laws.part, append of a part. -/
import Derived.Test.YtfijncfoefbohaaGreatDoorLine
import Derived.Test.YtfijncfoefbohaaGreatDoorISet
import Derived.Test.YtfijncfoefbohaaGreatDoorOpen
import Derived.Test.YtfijncfoefbohaaGreatDoorQ
import Derived.Deep.RegionLaw
import Derived.Deep.AppendLies
namespace Go.Proofs.YtfijncfoefbohaaGreatDoor
open Go Go.RowKit

theorem pt_one (p : Pt) : ∀ u ∈ p.cells.toList, u.oneCell' = true := by
  intro u hu
  simp only [Pt.cells, List.mem_cons, List.not_mem_nil, or_false] at hu
  rcases hu with h | h | h | h <;> subst h <;> rfl
theorem ptInfo : (Tryz.prog.info? 28).map (fun i => (i.zero, i.size, i.bytes)) = some (some (.agg #[.int .i64 0, .string ⟨#[]⟩, .string ⟨#[]⟩, .int .i64 0]), 4, 48) := by kernel_rfl
/-- append(parts, p), p a part by value. -/
theorem wpList_app4 {W : World} {ops : Array Oper} {rest : List Oper} {o : Oper} {a : Act} {Q : Exit → Act → World → Prop} (hgd : o.guard = none) (s x : Operand)
    (ho : o.op = .call { callee := .builtin .append, args := #[s, x], argTypes := #[25, 25] })
    (B : Nat) (v : Value) (l : List Pt) (hs : a.eval s = v) (hown : PtsAt B l v W) (p : Pt)
    (hx : a.eval x = .slice (some ⟨W.heap.size, 0, none⟩) 1 1) (hn : l.length ≤ 3000000) (hB : B ≤ W.heap.size)
    (h : ∀ v1 w1, PtsAt B (l ++ [p]) v1 w1 → Below B W w1 → W.grownBy w1 v.ownBlock → v1 ≠ .slice none 0 0 → wpList Tryz.prog ops Q rest (a.put o.dst v1) w1) :
    wpList Tryz.prog ops Q (o :: rest) a (W.alloc (.cells p.cells 28)) := by
  obtain ⟨i, hi, hz0, hz1, hz2⟩ := info_parts ptInfo
  refine wpList_append_own_at _ hgd s x _ ho B _ i _ 4 48 Tryz.underlying25 hi hz0 hz1 hz2 rfl (by omega) v l.length _ hs (World.ownsRow.alloc hown _) ⟨W.heap.size, 0, none⟩ 1 1 p.cells.toList hx rfl ?_
    (pt_one p) (by unfold maxLen; omega) (by omega) (by rw [alloc_sz']; omega) ?_
  · intro j u hj
    rw [Lib.add_plain, Nat.zero_add, Lib.cell_of_heap (alloc_at W p.cells 28).1]
    simpa using hj
  intro v' w1 hown' hg hnil hat
  have hg1 : W.grownBy w1 v.ownBlock := (World.grownBy_alloc W _ _).trans hg
  refine h v' w1 ?_ ((Below.refl B W).grown hg1 hB (fun k hk => (World.ownsRow.lt hown k hk).1)) hg1 (fun e => by have := (hnil.1 e).2; omega)
  unfold PtsAt
  rw [List.flatMap_append, List.length_append]
  simpa using hown'
theorem ItsAt.form {xs : List Int} {v : Value} {w : World} (h : ItsAt xs v w) : ∃ ao cap, v = .slice ao xs.length cap ∧ ∀ i (hi : i < xs.length), ∃ a, ao = some a ∧ w.cell? (a.add i) = some (.int .i64 xs[i]) := by
  rcases h with ⟨rfl, rfl⟩ | ⟨a, cap, rfl, _, _, hc, _⟩
  · exact ⟨none, 0, rfl, fun i hi => by cases hi⟩
  · exact ⟨some a, cap, rfl, fun i hi => ⟨a, rfl, hc i hi⟩⟩
theorem fits_allP {xs : List ByteArray} (h : fitsL xs = true) : xs.length ≤ 2147483647 ∧ ∀ i (hi : i < xs.length), xs[i].size ≤ 2147483647 := by
  unfold fitsL at h
  simp only [Bool.and_eq_true, decide_eq_true_eq, List.all_eq_true] at h
  exact ⟨by omega, fun i hi => by have := h.2 _ (List.getElem_mem hi); omega⟩

set_option maxRecDepth 100000 in
theorem part_any (k l : Int) (n v : ByteArray) (w : World) :
    Calls Tryz.prog 6 #[.int .i64 k, .string n, .string v, .int .i64 l] w fun e w' => e = .returned (.agg #[.int .i64 k, .string n, .string v, .int .i64 l]) ∧ Below w.heap.size w w' := by
  obtain ⟨a1, a2, a3⟩ := alloc_at w (Pt.cells ⟨k, n, v, l⟩) 28
  go_enter Tryz.func6, Tryz.ntmps6
  go_wp2_with fail
  exact bodyPost_ret (v := .agg (Pt.cells ⟨k, n, v, l⟩)) (results_cell_row rfl _ _ w.heap.size 28 (Pt.cells ⟨k, n, v, l⟩) (0, 0) _ rfl a1 Tryz.underlying28 rfl (by kernel_rfl)) rfl ⟨rfl, a2⟩

theorem line_back {B : Nat} {n v : List UInt8} {q : Bool} {ps : List Pt} {line : ByteArray} {c : Ck} {w : World} (h : LineOk B n v q ps line c w) :
    setP line.data.toList = some { wantPC n v q ps with raw := line.data.toList } ∧ CkEq { c with raw := line } { wantPC n v q ps with raw := line.data.toList } ∧
    UnpAt B c (wantPC n v q ps).unp w ∧ line.size ≤ 4398046511104 := by
  refine ⟨?_, ⟨h.want.name, h.want.value, h.want.quoted, h.want.path, h.want.domain, h.want.age, h.want.secure, h.want.http, h.want.site, h.want.part, rfl⟩, h.unp, Nat.le_trans h.size (by omega)⟩
  rw [line_set h.tok h.oct (ts := ps.map textT) ?_ ?_ line.data.toList h.line]
  · unfold wantPC
    rw [List.map_map]
    exact congrArg some (fold_raw _ ⟨n, v, q, [], [], 0, false, false, 0, false, [], []⟩ line.data.toList)
  · intro t ht
    obtain ⟨p, hp, rfl⟩ := List.mem_map.1 ht
    exact text_last (h.texts p hp)
  · intro t ht
    obtain ⟨p, hp, rfl⟩ := List.mem_map.1 ht
    exact text_no59 (h.texts p hp)
theorem pts_app {B : Nat} {ps : List Pt} {p : Pt} {v : Value} {w : World} (h : w.ownsRow B 28 4 v (ps.length + 1) ((ps.flatMap fun p => p.cells.toList) ++ p.cells.toList)) : PtsAt B (ps ++ [p]) v w := by
  unfold PtsAt
  rw [List.flatMap_append, List.length_append]
  simpa using h
theorem hsz_app {ps : List Pt} {p : Pt} (h : ∀ p ∈ ps, p.name.size ≤ 2147483647 ∧ p.value.size ≤ 2147483647) (h2 : p.name.size ≤ 2147483647 ∧ p.value.size ≤ 2147483647) : ∀ u ∈ ps ++ [p], u.name.size ≤ 2147483647 ∧ u.value.size ≤ 2147483647 := by
  intro u hu
  rcases List.mem_append.1 hu with hu | hu
  · exact h u hu
  · rw [List.mem_singleton] at hu
    rw [hu]; exact h2
theorem pt_new (w : World) (p : Pt) : ∀ j u, p.cells.toList[j]? = some u → (w.alloc (.cells p.cells 28)).cell? ((⟨w.heap.size, 0, none⟩ : Addr).add j) = some u := by
  intro j u hj
  rw [Lib.add_plain, Nat.zero_add, Lib.cell_of_heap (alloc_at w p.cells 28).1]
  simpa using hj
set_option maxHeartbeats 8000000 in
set_option maxRecDepth 100000 in
theorem fnParseSet_walk (nm vl : ByteArray) (q : Bool) (v3 : Value) (ks : List Int) (v4 : Value) (ns : List ByteArray) (v5 : Value) (vs : List ByteArray) (v6 : Value) (ls : List Int) (w : World) (_hnm : nm.size ≤ maxLen) (_hvl : vl.size ≤ maxLen)
    (h3 : ItsAt ks v3 w) (h4 : StrsAt ns v4 w) (h5 : StrsAt vs v5 w) (h6 : ItsAt ls v6 w) (he : ErrsS w) (hv : NumVars w) :
    Calls Tryz.prog 3 #[.string nm, .string vl, .bool q, v3, v4, v5, v6] w fun e w' => e = .returned (.bool true) ∧ Below w.heap.size w w' := by
  obtain ⟨B, hB⟩ : ∃ B, B = w.heap.size := ⟨_, rfl⟩
  have HB := Lib.hid hB
  have hB0 : B ≤ w.heap.size := by omega
  clear hB _hnm _hvl
  have HS4 := Lib.hid h4
  have HS5 := Lib.hid h5
  obtain ⟨o3, n3, rfl, c3⟩ := h3.form
  obtain ⟨o4, n4, rfl, c4⟩ := h4.form
  obtain ⟨o5, n5, rfl, c5⟩ := h5.form
  obtain ⟨o6, n6, rfl, c6⟩ := h6.form
  have C3 := Lib.hid c3
  have C4 := Lib.hid c4
  have C5 := Lib.hid c5
  have C6 := Lib.hid c6
  have HE := Lib.hid he
  have HV := Lib.hid hv
  clear h3 h4 h5 h6 c3 c4 c5 c6 he hv
  by_cases k0 : (2147483647 : Int) < (nm.size : Int)
  · have dk0 : decide ((2147483647 : Int) < (nm.size : Int)) = true := by rw [decide_eq_true_eq]; exact k0
    go_enter Tryz.func3, Tryz.ntmps3
    go_wp2_with (first
      | (go_at_call 4; (with_reducible refine (zzFits2_any ns _ _ HS4.out).mono ?_); rintro e w' ⟨rfl, rfl⟩; rw [F1.out])
      | (go_at_call 4; (with_reducible refine (zzFits2_any vs _ _ HS5.out).mono ?_); rintro e w' ⟨rfl, rfl⟩; rw [F2.out]))
    go_ret
    exact ⟨rfl, Below.refl _ _⟩
  have dk0 : decide ((2147483647 : Int) < (nm.size : Int)) = false := by rw [decide_eq_false_iff_not]; exact k0
  by_cases k1 : (2147483647 : Int) < (vl.size : Int)
  · have dk1 : decide ((2147483647 : Int) < (vl.size : Int)) = true := by rw [decide_eq_true_eq]; exact k1
    go_enter Tryz.func3, Tryz.ntmps3
    go_wp2_with (first
      | (go_at_call 4; (with_reducible refine (zzFits2_any ns _ _ HS4.out).mono ?_); rintro e w' ⟨rfl, rfl⟩; rw [F1.out])
      | (go_at_call 4; (with_reducible refine (zzFits2_any vs _ _ HS5.out).mono ?_); rintro e w' ⟨rfl, rfl⟩; rw [F2.out]))
    go_ret
    exact ⟨rfl, Below.refl _ _⟩
  have dk1 : decide ((2147483647 : Int) < (vl.size : Int)) = false := by rw [decide_eq_false_iff_not]; exact k1
  by_cases k3 : (2147483647 : Int) < (ks.length : Int)
  · have dk3 : decide ((2147483647 : Int) < (ks.length : Int)) = true := by rw [decide_eq_true_eq]; exact k3
    go_enter Tryz.func3, Tryz.ntmps3
    go_wp2_with (first
      | (go_at_call 4; (with_reducible refine (zzFits2_any ns _ _ HS4.out).mono ?_); rintro e w' ⟨rfl, rfl⟩; rw [F1.out])
      | (go_at_call 4; (with_reducible refine (zzFits2_any vs _ _ HS5.out).mono ?_); rintro e w' ⟨rfl, rfl⟩; rw [F2.out]))
    go_ret
    exact ⟨rfl, Below.refl _ _⟩
  have dk3 : decide ((2147483647 : Int) < (ks.length : Int)) = false := by rw [decide_eq_false_iff_not]; exact k3
  rcases hf1 : fitsL ns with _ | _
  · have F1 := Lib.hid hf1
    clear hf1
    go_enter Tryz.func3, Tryz.ntmps3
    go_wp2_with (first
      | (go_at_call 4; (with_reducible refine (zzFits2_any ns _ _ HS4.out).mono ?_); rintro e w' ⟨rfl, rfl⟩; rw [F1.out])
      | (go_at_call 4; (with_reducible refine (zzFits2_any vs _ _ HS5.out).mono ?_); rintro e w' ⟨rfl, rfl⟩; rw [F2.out]))
    go_ret
    exact ⟨rfl, Below.refl _ _⟩
  have F1 := Lib.hid hf1
  have SF1 := Lib.hid (fits_allP hf1).2
  clear hf1
  rcases hf2 : fitsL vs with _ | _
  · have F2 := Lib.hid hf2
    clear hf2
    go_enter Tryz.func3, Tryz.ntmps3
    go_wp2_with (first
      | (go_at_call 4; (with_reducible refine (zzFits2_any ns _ _ HS4.out).mono ?_); rintro e w' ⟨rfl, rfl⟩; rw [F1.out])
      | (go_at_call 4; (with_reducible refine (zzFits2_any vs _ _ HS5.out).mono ?_); rintro e w' ⟨rfl, rfl⟩; rw [F2.out]))
    go_ret
    exact ⟨rfl, Below.refl _ _⟩
  have F2 := Lib.hid hf2
  have SF2 := Lib.hid (fits_allP hf2).2
  clear hf2
  by_cases k6 : (2147483647 : Int) < (ls.length : Int)
  · have dk6 : decide ((2147483647 : Int) < (ls.length : Int)) = true := by rw [decide_eq_true_eq]; exact k6
    go_enter Tryz.func3, Tryz.ntmps3
    go_wp2_with (first
      | (go_at_call 4; (with_reducible refine (zzFits2_any ns _ _ HS4.out).mono ?_); rintro e w' ⟨rfl, rfl⟩; rw [F1.out])
      | (go_at_call 4; (with_reducible refine (zzFits2_any vs _ _ HS5.out).mono ?_); rintro e w' ⟨rfl, rfl⟩; rw [F2.out]))
    go_ret
    exact ⟨rfl, Below.refl _ _⟩
  have dk6 : decide ((2147483647 : Int) < (ls.length : Int)) = false := by rw [decide_eq_false_iff_not]; exact k6
  go_enter Tryz.func3, Tryz.ntmps3
  go_wp2_with (first
      | (go_at_call 4; (with_reducible refine (zzFits2_any ns _ _ HS4.out).mono ?_); rintro e w' ⟨rfl, rfl⟩; rw [F1.out])
      | (go_at_call 4; (with_reducible refine (zzFits2_any vs _ _ HS5.out).mono ?_); rintro e w' ⟨rfl, rfl⟩; rw [F2.out]))
  clear dk0 dk1 dk3 dk6
  go_loopw [15, 53] (fun pv i wr => ∃ (k : Nat) (ps : List Pt), k ≤ ks.length ∧ k ≤ 30 ∧ i = .int .i64 k ∧ ps.length = k ∧ PtsAt B ps pv wr ∧ (∀ p ∈ ps, p.name.size ≤ 2147483647 ∧ p.value.size ≤ 2147483647) ∧ Below B w wr) (fun _ i _ => ks.length - (intOf i).toNat)
  case atStart => exact ⟨0, [], Nat.zero_le _, Nat.zero_le _, rfl, rfl, ⟨rfl, .inl ⟨rfl, rfl⟩⟩, fun p hp => (by cases hp), Below.refl _ _⟩
  case round =>
    obtain ⟨k, ps, hk, hk30, rfl, hpl, hpt, hsz, hbe⟩ := hrel
    have HPT := Lib.hid hpt
    have HSZ := Lib.hid hsz
    have HPL := Lib.hid hpl
    have HBEL := Lib.hid hbe
    have hBw : B ≤ wr.heap.size := Nat.le_trans hB0 hbe.size
    obtain ⟨po, pc, rfl, hpo⟩ := hpt.shape
    clear hpt hsz hpl hbe
    by_cases hlt : k < ks.length
    · have hd : decide (k < ks.length) = true := by rw [decide_eq_true_iff]; exact hlt
      have hdi : decide ((k : Int) < (ks.length : Int)) = true := by rw [decide_eq_true_iff]; omega
      have ck3 := fun w' (hb : Below w.heap.size w w') => (show ∃ a, o3 = some a ∧ w'.cell? (a.add k) = some (.int .i64 (ks[k]'hlt)) from by
        obtain ⟨a, ha, hc⟩ := C3.out k hlt
        exact ⟨a, ha, cell_keep hc hb⟩)
      obtain ⟨a3, rfl, hc3⟩ := ck3 wr (HB.out ▸ HBEL.out)
      clear ck3
      by_cases n1 : ns.length ≤ k
      · have dn : decide (ns.length ≤ k) = true := by rw [decide_eq_true_iff]; exact n1
        go_wp2_with (go_at_call 5; refine (works_any _).mono ?_; rintro e w3 ⟨rfl, hb3⟩; have HB3 := Lib.hid hb3; clear hb3)
        go_ret
        exact ⟨rfl, HB.out ▸ HBEL.out.trans (HB3.out.mono hBw)⟩
      have dn : decide (ns.length ≤ k) = false := by rw [decide_eq_false_iff_not]; exact n1
      by_cases n2 : vs.length ≤ k
      · have dv : decide (vs.length ≤ k) = true := by rw [decide_eq_true_iff]; exact n2
        go_wp2_with (go_at_call 5; refine (works_any _).mono ?_; rintro e w3 ⟨rfl, hb3⟩; have HB3 := Lib.hid hb3; clear hb3)
        go_ret
        exact ⟨rfl, HB.out ▸ HBEL.out.trans (HB3.out.mono hBw)⟩
      have dv : decide (vs.length ≤ k) = false := by rw [decide_eq_false_iff_not]; exact n2
      by_cases n3 : ls.length ≤ k
      · have dl : decide (ls.length ≤ k) = true := by rw [decide_eq_true_iff]; exact n3
        go_wp2_with (go_at_call 5; refine (works_any _).mono ?_; rintro e w3 ⟨rfl, hb3⟩; have HB3 := Lib.hid hb3; clear hb3)
        go_ret
        exact ⟨rfl, HB.out ▸ HBEL.out.trans (HB3.out.mono hBw)⟩
      have dl : decide (ls.length ≤ k) = false := by rw [decide_eq_false_iff_not]; exact n3
      by_cases n4 : 30 ≤ k
      · have d30 : decide ((30 : Int) ≤ (k : Int)) = true := by rw [decide_eq_true_iff]; omega
        go_wp2_with (go_at_call 5; refine (works_any _).mono ?_; rintro e w3 ⟨rfl, hb3⟩; have HB3 := Lib.hid hb3; clear hb3)
        go_ret
        exact ⟨rfl, HB.out ▸ HBEL.out.trans (HB3.out.mono hBw)⟩
      have d30 : decide ((30 : Int) ≤ (k : Int)) = false := by rw [decide_eq_false_iff_not]; omega
      obtain ⟨a4, rfl, hw4, hc4⟩ := (show ∃ a, o4 = some a ∧ w.cell? (a.add k) = some (.string (ns[k]'(by omega))) ∧ wr.cell? (a.add k) = some (.string (ns[k]'(by omega))) from by
        obtain ⟨a, ha, hc⟩ := C4.out k (by omega)
        exact ⟨a, ha, hc, cell_keep hc (HB.out ▸ HBEL.out)⟩)
      obtain ⟨a5, rfl, hw5, hc5⟩ := (show ∃ a, o5 = some a ∧ w.cell? (a.add k) = some (.string (vs[k]'(by omega))) ∧ wr.cell? (a.add k) = some (.string (vs[k]'(by omega))) from by
        obtain ⟨a, ha, hc⟩ := C5.out k (by omega)
        exact ⟨a, ha, hc, cell_keep hc (HB.out ▸ HBEL.out)⟩)
      obtain ⟨a6, rfl, hw6, hc6⟩ := (show ∃ a, o6 = some a ∧ w.cell? (a.add k) = some (.int .i64 (ls[k]'(by omega))) ∧ wr.cell? (a.add k) = some (.int .i64 (ls[k]'(by omega))) from by
        obtain ⟨a, ha, hc⟩ := C6.out k (by omega)
        exact ⟨a, ha, hc, cell_keep hc (HB.out ▸ HBEL.out)⟩)
      have hz4 := SF1.out k (by omega)
      have hz5 := SF2.out k (by omega)
      have i0k : (0 : Int) ≤ (k : Int) := by omega
      have iln : (k : Int) < (ns.length : Int) := by omega
      have ilv : (k : Int) < (vs.length : Int) := by omega
      have ill : (k : Int) < (ls.length : Int) := by omega
      have hln : decide (k < ns.length) = true := by rw [decide_eq_true_iff]; omega
      have hlv : decide (k < vs.length) = true := by rw [decide_eq_true_iff]; omega
      have hll : decide (k < ls.length) = true := by rw [decide_eq_true_iff]; omega
      obtain ⟨kk, hkk⟩ : ∃ kk, ks[k]'hlt = kk := ⟨_, rfl⟩
      obtain ⟨kn, hkn⟩ : ∃ kn, ns[k]'(by omega) = kn := ⟨_, rfl⟩
      obtain ⟨kv, hkv⟩ : ∃ kv, vs[k]'(by omega) = kv := ⟨_, rfl⟩
      obtain ⟨kl, hkl⟩ : ∃ kl, ls[k]'(by omega) = kl := ⟨_, rfl⟩
      rw [hkk] at hc3
      rw [hkn] at hc4 hz4 hw4
      rw [hkv] at hc5 hz5 hw5
      rw [hkl] at hc6 hw6
      have HW4 := Lib.hid hw4
      have HW5 := Lib.hid hw5
      have HW6 := Lib.hid hw6
      clear hw4 hw5 hw6
      clear hkk hkn hkv hkl
      go_upto_region 9 with fail
      have HZ : Hid (kn.size ≤ 2147483647 ∧ kv.size ≤ 2147483647) := Lib.hid ⟨hz4, hz5⟩
      clear hz4 hz5
      obtain ⟨i0, hi, hz0, hz1, hz2⟩ := info_parts ptInfo
      have HN1 : Hid (ps.length + 1 ≤ maxLen) := Lib.hid (by have := HPL.out; unfold maxLen; omega)
      have HN2 : Hid ((ps.length + 1) * 48 ≤ 140737488355328) := Lib.hid (by have := HPL.out; omega)
      have b3 : wr.cell? (a4.add k) = some (.string kn) ∧ wr.cell? (a5.add k) = some (.string kv) ∧ wr.cell? (a6.add k) = some (.int .i64 kl) := ⟨hc4, hc5, hc6⟩
      go_region_held3 (fun w' => w'.cell? (a4.add k) = some (.string kn) ∧ w'.cell? (a5.add k) = some (.string kv) ∧ w'.cell? (a6.add k) = some (.int .i64 kl)) (first | exact b3 | exact hk7 | exact hk3 | exact ⟨cell_keep hk3.1 ((Below.refl _ _).alloc (Nat.le_refl _) _), cell_keep hk3.2.1 ((Below.refl _ _).alloc (Nat.le_refl _) _), cell_keep hk3.2.2 ((Below.refl _ _).alloc (Nat.le_refl _) _)⟩) (first
        | (go_at_call 6; refine (part_any kk kl kn kv _).mono ?_; rintro e w2 ⟨rfl, hb2'⟩; have hb2 : Below wr.heap.size wr w2 := ⟨hb2'.os, hb2'.tape, hb2'.output, hb2'.size, hb2'.block⟩; have hk3 := (show w2.cell? (a4.add k) = some (.string kn) ∧ w2.cell? (a5.add k) = some (.string kv) ∧ w2.cell? (a6.add k) = some (.int .i64 kl) from ⟨cell_keep hc4 hb2, cell_keep hc5 hb2, cell_keep hc6 hb2⟩); have HB2 := Lib.hid hb2; clear hb2 hb2')
        | (refine step_append_lies _ (by rfl) _ _ _ (by rfl) B 28 i0 _ 4 48 Tryz.underlying25 hi hz0 hz1 hz2 rfl (by omega) (.slice po ps.length pc) ps.length (ps.flatMap fun p => p.cells.toList) (by rfl) (World.ownsRow.alloc (HPT.out.kept HB2.out) _) ⟨w2.heap.size, 0, none⟩ 1 1 (Pt.cells ⟨kk, kn, kv, kl⟩).toList (by rfl) (by rfl) (pt_new w2 ⟨kk, kn, kv, kl⟩) (pt_one ⟨kk, kn, kv, kl⟩) (by omega) HN1.out HN2.out (by rw [alloc_sz']; exact Nat.le_succ_of_le (Nat.le_trans hBw HB2.out.size)) _ rfl ?_; intro g7 cap7 w7 hown7 hg7 hat7 hlt7; have hb7 : Below B w w7 := HBEL.out.trans (((HB2.out.mono hBw).trans ((Below.refl B w2).alloc (Nat.le_trans hBw HB2.out.size) _)).grown hg7 (by rw [alloc_sz']; exact Nat.le_succ_of_le (Nat.le_trans hBw HB2.out.size)) (fun k hk => (World.ownsRow.lt HPT.out k hk).1)); have hk7 := (show w7.cell? (a4.add k) = some (.string kn) ∧ w7.cell? (a5.add k) = some (.string kv) ∧ w7.cell? (a6.add k) = some (.int .i64 kl) from ⟨cell_keep HW4.out (HB.out ▸ hb7), cell_keep HW5.out (HB.out ▸ hb7), cell_keep HW6.out (HB.out ▸ hb7)⟩); have HOWN7 := Lib.hid hown7; have HB7 := Lib.hid hb7; clear hown7 hg7 hat7 hlt7 hb7))
      all_goals
        go_wp2
        go_roundw
        case rel => exact ⟨k + 1, ps ++ [⟨kk, kn, kv, kl⟩], by omega, by omega, by go_num, by rw [List.length_append, HPL.out]; rfl, pts_app HOWN7.out, hsz_app HSZ.out HZ.out, HB7.out⟩
        case measure => simp [intOf]; omega
    · have hd : decide (k < ks.length) = false := by rw [decide_eq_false_iff_not]; exact hlt
      have hdi : decide ((k : Int) < (ks.length : Int)) = false := by rw [decide_eq_false_iff_not]; omega
      have hl30 : ps.length ≤ 30 := by have := HPL.out; omega
      have z1 : nm.size ≤ 2147483647 := by omega
      have z2 : vl.size ≤ 2147483647 := by omega
      have HLN := Lib.hid (line_any nm vl q ps (.slice po ps.length pc) wr z1 z2 HSZ.out hl30 HPT.out)
      have HBW : Hid (Below w.heap.size w wr) := Lib.hid (HB.out ▸ HBEL.out)
      clear hl30 z1 z2 hlt hk hk30 hpo k0 k1 k3 k6
      go_wp2_with fail
      refine HLN.out.mono ?_
      rintro e w2 ⟨⟨line, c, ok, rfl, hok⟩, hb2⟩
      have HOK := Lib.hid hok
      have HBW2 : Hid (Below w.heap.size w w2) := Lib.hid (HBW.out.trans (hb2.mono HBW.out.size))
      clear hok hb2 HLN
      unfold Ck.pcells
      go_upto_region 12 with fail
      obtain ⟨a1, a2, a3⟩ := alloc_at w2 c.pcells 31
      unfold Ck.pcells at a1 a2 a3
      generalize w2.alloc (.cells #[.string c.name, .string c.value, .bool c.quoted, .string c.path, .string c.domain, .int .i64 c.age, .bool c.secure, .bool c.http, .int .i64 c.site, .bool c.part, .slice c.uo c.un c.uc] 31) = w3 at a1 a2 a3 ⊢
      have HA2 := Lib.hid a2
      have HBW3 : Hid (Below w.heap.size w w3) := Lib.hid (HBW2.out.trans (a2.mono HBW2.out.size))
      obtain ⟨M, hM⟩ : ∃ M, w2.heap.size = M := ⟨_, rfl⟩
      rw [hM] at a1 a3 ⊢
      have HBM : Hid (w3.heap[M]? = some (.cells c.pcells 31 (0, 0))) := Lib.hid a1
      clear a1 a2 hM
      rcases Bool.eq_false_or_eq_true ok with hq | hq
      case inr =>
        subst hq
        go_wp2_with (go_at_call 5; refine (works_any _).mono ?_; rintro e w4 ⟨rfl, hb4⟩; have HB4 := Lib.hid hb4; clear hb4)
        go_ret
        exact ⟨rfl, HBW3.out.trans (HB4.out.mono HBW3.out.size)⟩
      subst hq
      obtain ⟨hset, hcq, hun, hzl⟩ := line_back (HOK.out rfl)
      have HSB := Lib.hid hset
      have HCQ := Lib.hid hcq
      have HUC := Lib.hid (hun.kept HA2.out)
      have HMLT := Lib.hid a3
      have HI := Lib.hid (i_ParseSet_any line w3 hzl (HE.out.kept HBW3.out) (HV.out.kept HBW3.out))
      clear hset hcq hun hzl HOK a3
      go_wp2_with fail
      refine HI.out.mono ?_
      rintro e w6 ⟨⟨d, pc', rfl, hset, heq, hun⟩ | ⟨hset, rfl⟩, hb6⟩
      · obtain rfl := Option.some.inj (hset.symm.trans HSB.out)
        have HEQ := Lib.hid heq
        have HUN := Lib.hid hun
        have HB6 := Lib.hid hb6
        have HBM6 := Lib.hid ((hb6.block _ HMLT.out).trans HBM.out)
        have HMLT6 := Lib.hid (Nat.lt_of_lt_of_le HMLT.out hb6.size)
        have HBW6 : Hid (Below w.heap.size w w6) := Lib.hid (HBW3.out.trans (hb6.mono HBW3.out.size))
        have HRAW : Hid (d.raw = line) := Lib.hid (ba_ext heq.raw)
        clear hset heq hun hb6 HI
        unfold Ck.cells
        go_upto_region 15 with fail
        obtain ⟨a1, a2, a3⟩ := alloc_at w6 d.cells 35
        unfold Ck.cells at a1 a2 a3
        generalize w6.alloc (.cells #[.string d.name, .string d.value, .bool d.quoted, .string d.path, .string d.domain, .int .i64 d.age, .bool d.secure, .bool d.http, .int .i64 d.site, .bool d.part, .string d.raw, .slice d.uo d.un d.uc] 35) = w8 at a1 a2 a3 ⊢
        have HA8 := Lib.hid a2
        obtain ⟨y0, y1, y2, y3, y4, y5, y6, y7, y8, y9, y10, y11⟩ := ck_cells (c := d) a1
        obtain ⟨x0, x1, x2, x3, x4, x5, x6, x7, x8, x9, x10⟩ := pck_cells ((a2.block _ HMLT6.out).trans HBM6.out)
        have HB8 : Hid (Below w.heap.size w w8) := Lib.hid (HBW6.out.trans (a2.mono HBW6.out.size))
        have SK : Hid (∀ q : OverT w8, Calls Tryz.prog 9 #[.agg d.pcells, .agg c.pcells] q.w fun e w' => e = .returned (.bool true) ∧ Below q.w.heap.size q.w w') :=
          Lib.hid (fun q => same_cks d { c with raw := line } _ 0 q.w HEQ.out HCQ.out (((HUN.out.kept HA8.out).kept q.h).lower (Nat.zero_le _)) ((((HUC.out.kept HB6.out).kept HA8.out).kept q.h).lower (Nat.zero_le _)))
        have PD : Hid (∀ q : OverT w8, Calls Tryz.prog 10 #[.agg d.cells] q.w fun e w' => e = .returned (.agg d.pcells) ∧ Below q.w.heap.size q.w w') := Lib.hid (fun q => plain_any d q.w)
        unfold Ck.cells at PD
        unfold Ck.pcells at SK PD
        have sr : (d.raw.toList == line.toList) = true := by rw [HRAW.out]; simp
        obtain ⟨L, hL⟩ : ∃ L, w6.heap.size = L := ⟨_, rfl⟩
        rw [hL] at y0 y1 y2 y3 y4 y5 y6 y7 y8 y9 y10 y11 ⊢
        have fd0 : ∀ q : OverT w8, q.w.cell? ⟨L, 0, none⟩ = some (.string d.name) := fun q => q.h.cell y0
        have fd1 : ∀ q : OverT w8, q.w.cell? ⟨L, 1, none⟩ = some (.string d.value) := fun q => q.h.cell y1
        have fd2 : ∀ q : OverT w8, q.w.cell? ⟨L, 2, none⟩ = some (.bool d.quoted) := fun q => q.h.cell y2
        have fd3 : ∀ q : OverT w8, q.w.cell? ⟨L, 3, none⟩ = some (.string d.path) := fun q => q.h.cell y3
        have fd4 : ∀ q : OverT w8, q.w.cell? ⟨L, 4, none⟩ = some (.string d.domain) := fun q => q.h.cell y4
        have fd5 : ∀ q : OverT w8, q.w.cell? ⟨L, 5, none⟩ = some (.int .i64 d.age) := fun q => q.h.cell y5
        have fd6 : ∀ q : OverT w8, q.w.cell? ⟨L, 6, none⟩ = some (.bool d.secure) := fun q => q.h.cell y6
        have fd7 : ∀ q : OverT w8, q.w.cell? ⟨L, 7, none⟩ = some (.bool d.http) := fun q => q.h.cell y7
        have fd8 : ∀ q : OverT w8, q.w.cell? ⟨L, 8, none⟩ = some (.int .i64 d.site) := fun q => q.h.cell y8
        have fd9 : ∀ q : OverT w8, q.w.cell? ⟨L, 9, none⟩ = some (.bool d.part) := fun q => q.h.cell y9
        have fd10 : ∀ q : OverT w8, q.w.cell? ⟨L, 10, none⟩ = some (.string d.raw) := fun q => q.h.cell y10
        have fd11 : ∀ q : OverT w8, q.w.cell? ⟨L, 11, none⟩ = some (.slice d.uo d.un d.uc) := fun q => q.h.cell y11
        have fm0 : ∀ q : OverT w8, q.w.cell? ⟨M, 0, none⟩ = some (.string c.name) := fun q => q.h.cell x0
        have fm1 : ∀ q : OverT w8, q.w.cell? ⟨M, 1, none⟩ = some (.string c.value) := fun q => q.h.cell x1
        have fm2 : ∀ q : OverT w8, q.w.cell? ⟨M, 2, none⟩ = some (.bool c.quoted) := fun q => q.h.cell x2
        have fm3 : ∀ q : OverT w8, q.w.cell? ⟨M, 3, none⟩ = some (.string c.path) := fun q => q.h.cell x3
        have fm4 : ∀ q : OverT w8, q.w.cell? ⟨M, 4, none⟩ = some (.string c.domain) := fun q => q.h.cell x4
        have fm5 : ∀ q : OverT w8, q.w.cell? ⟨M, 5, none⟩ = some (.int .i64 c.age) := fun q => q.h.cell x5
        have fm6 : ∀ q : OverT w8, q.w.cell? ⟨M, 6, none⟩ = some (.bool c.secure) := fun q => q.h.cell x6
        have fm7 : ∀ q : OverT w8, q.w.cell? ⟨M, 7, none⟩ = some (.bool c.http) := fun q => q.h.cell x7
        have fm8 : ∀ q : OverT w8, q.w.cell? ⟨M, 8, none⟩ = some (.int .i64 c.site) := fun q => q.h.cell x8
        have fm9 : ∀ q : OverT w8, q.w.cell? ⟨M, 9, none⟩ = some (.bool c.part) := fun q => q.h.cell x9
        have fm10 : ∀ q : OverT w8, q.w.cell? ⟨M, 10, none⟩ = some (.slice c.uo c.un c.uc) := fun q => q.h.cell x10
        clear y0 y1 y2 y3 y4 y5 y6 y7 y8 y9 y10 y11 x0 x1 x2 x3 x4 x5 x6 x7 x8 x9 x10 a1 a2 a3 hL
        refine wp_region_C (C := fun w' => ∃ q : OverT w8, w' = q.w) (by kernel_rfl) (by kernel_rfl) (OverT.start w8) ?_
        repeat (go_big_quiet_step ((first
          | (go_at_call 10; (with_reducible refine (PD.out _).mono ?_); exact fun e w' h => ⟨h.1, OverT.next h.2⟩)
          | (go_at_call 9; refine (SK.out _).mono ?_; exact fun e w' h => ⟨h.1, OverT.next h.2⟩))))
        refine wpQuiet_nil ?_
        rintro _ ⟨q, rfl⟩
        go_wp2
        all_goals
          go_ret
          exact ⟨rfl, HB8.out.trans (q.h.mono HB8.out.size)⟩
      · exact absurd (hset.symm.trans HSB.out) (by simp)
end Go.Proofs.YtfijncfoefbohaaGreatDoor
