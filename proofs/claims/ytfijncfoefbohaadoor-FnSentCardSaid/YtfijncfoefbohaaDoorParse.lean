/- ParseCookie: the pairs of a line, or an error. -/
import Derived.Test.YtfijncfoefbohaaDoorPtrs
import Derived.Test.YtfijncfoefbohaaDoorItems
namespace Go.Proofs.YtfijncfoefbohaaDoor
open Go Go.RowKit

def pairC (c : Ck) : Pair := (c.name.data.toList, c.value.data.toList, c.quoted)
def ckOf (x y : ByteArray) (q : Bool) : Ck := ⟨x, y, q, ⟨#[]⟩, ⟨#[]⟩, 0, false, false, 0, false, ⟨#[]⟩, none, 0, 0⟩
def ReadOk (line : List UInt8) (l : List (Nat × Ck)) : Prop := (splitL 59 line).map pairOf = l.map (fun x => some (pairC x.2)) ∧ cntL 59 line ≤ 2999
def ReadNo (line : List UInt8) : Prop := 3000 ≤ cntL 59 line ∨ ∃ p ∈ splitL 59 line, pairOf p = none
def ParsePost (line : List UInt8) (w : World) (e : Ending) (w' : World) : Prop :=
  ((∃ v l, e = .returned (.tuple #[v, .nilIface]) ∧ PtrsAt w.heap.size l v w' ∧ ReadOk line l) ∨
   (∃ tp a, e = .returned (.tuple #[.slice none 0 0, .iface tp (.pointer (some a))]) ∧ ReadNo line)) ∧ Below w.heap.size w w'

theorem numWithin_any (n : Int) (w : World) :
    Calls Tryd.prog 85 #[.int .i64 n] w fun e w' => e = .returned (.bool (decide (n ≤ 3000))) ∧ w = w' := by
  go_enter Tryd.func85, Tryd.ntmps85
  go_wp2
  go_ret
  exact ⟨rfl, rfl⟩

theorem ParsePost.err {line : List UInt8} {w w' : World} {tp : TypeId} {a : Addr} (h : ReadNo line) (hb : Below w.heap.size w w') :
    ParsePost line w (.returned (.tuple #[.slice none 0 0, .iface tp (.pointer (some a))])) w' := ⟨.inr ⟨tp, a, rfl, h⟩, hb⟩
theorem ParsePost.ok {line : List UInt8} {w w' : World} {v : Value} {l : List (Nat × Ck)} (hp : PtrsAt w.heap.size l v w') (h : ReadOk line l) (hb : Below w.heap.size w w') :
    ParsePost line w (.returned (.tuple #[v, .nilIface])) w' := ⟨.inl ⟨v, l, rfl, hp, h⟩, hb⟩

theorem blank_line {line : List UInt8} (h0 : cntL 59 line = 0) (ht : trimL line = []) : ReadNo line := by
  right
  have h1 : ∀ x ∈ line, x ≠ 59 := by
    intro x hx e
    subst e
    unfold cntL at h0
    rw [List.count_eq_zero] at h0
    exact h0 hx
  refine ⟨line, by rw [splitL_none 59 line h1]; simp, ?_⟩
  unfold pairOf
  rw [ht]; rfl

/-- One part is read. -/
theorem pairOf_no {p : List UInt8} (h : pairOk (trimL p) = false) : pairOf p = none := by unfold pairOf; rw [h]; rfl
theorem pairOf_yes {p : List UInt8} (h : pairOk (trimL p) = true) : pairOf p = some (pairIs (trimL p)) := by unfold pairOf; rw [if_pos h]
theorem no_of {line : List UInt8} {xs : List ByteArray} (hxs : xs.map (·.data.toList) = splitL 59 line) {k : Nat} (hk : k < xs.length) (h : pairOf xs[k].data.toList = none) : ReadNo line :=
  .inr ⟨_, by rw [← hxs]; exact List.mem_map.2 ⟨xs[k], List.getElem_mem hk, rfl⟩, h⟩
def Taken (xs : List ByteArray) (k : Nat) (l : List (Nat × Ck)) : Prop := ((xs.take k).map fun x => pairOf x.data.toList) = l.map fun x => some (pairC x.2)
theorem Taken.push {xs : List ByteArray} {k : Nat} {l : List (Nat × Ck)} {b : Nat} {c : Ck} (h : Taken xs k l) (hk : k < xs.length) (hp : pairOf xs[k].data.toList = some (pairC c)) : Taken xs (k + 1) (l ++ [(b, c)]) := by
  unfold Taken at *
  rw [List.take_succ_eq_append_getElem hk, List.map_append, h]
  simp [hp]
theorem Taken.all {line : List UInt8} {xs : List ByteArray} {k : Nat} {l : List (Nat × Ck)} (h : Taken xs k l) (hk : xs.length ≤ k) (hxs : xs.map (·.data.toList) = splitL 59 line) (hc : cntL 59 line ≤ 2999) : ReadOk line l := by
  refine ⟨?_, hc⟩
  unfold Taken at h
  rw [List.take_of_length_le hk] at h
  rw [← hxs, List.map_map]
  exact h

theorem trimL_len (l : List UInt8) : (trimL l).length ≤ l.length := by
  unfold trimL rtrim ltrim
  rw [List.length_reverse]
  refine Nat.le_trans (List.dropWhile_sublist _).length_le ?_
  rw [List.length_reverse]
  exact (List.dropWhile_sublist _).length_le
theorem trim_size {t p : ByteArray} (h : t.data.toList = trimL p.data.toList) (hp : p.size ≤ 4398046511104) : t.size < 9223372036854775807 ∧ t.size ≤ 4398046511104 := by
  have := trimL_len p.data.toList
  rw [← h, ← Lib.size_eq, ← Lib.size_eq] at this
  omega
theorem cutA_size {c : UInt8} {x t : ByteArray} (h : x.data.toList = cutA c t.data.toList) (ht : t.size < 9223372036854775807) (hp : t.size ≤ 4398046511104) : x.size ≤ maxLen ∧ x.size ≤ 4398046511104 := by
  have h1 := cutA_le (c := c) (l := t.data.toList)
  rw [← h, ← Lib.size_eq, ← Lib.size_eq] at h1
  unfold maxLen; omega
theorem cutB_size {c : UInt8} {x t : ByteArray} (h : x.data.toList = cutB c t.data.toList) (hp : t.size ≤ 4398046511104) : x.size ≤ maxLen ∧ x.size ≤ 4398046511104 := by
  have h1 : (cutB c t.data.toList).length ≤ t.data.toList.length := by unfold cutB; rw [List.length_drop]; omega
  rw [← h, ← Lib.size_eq, ← Lib.size_eq] at h1
  unfold maxLen; omega
theorem alloc_sz' (w : World) (o : Obj) : (w.alloc o).heap.size = w.heap.size + 1 := by show (w.heap.push o).size = _; simp
theorem below_drewN {B : Nat} {a w : World} (h : Below B a w) (n : Nat) : Below B a (w.drewN n) := h.trans ⟨rfl, rfl, rfl, Nat.le_refl _, fun _ _ => rfl⟩

set_option maxHeartbeats 4000000 in
set_option maxRecDepth 100000 in
theorem parseCookie_any (line : ByteArray) (w : World) (hs : line.size ≤ 4398046511104) (he : ErrsAt w) :
    Calls Tryd.prog 61 #[.string line] w (ParsePost line.data.toList w) := by
  obtain ⟨m, hm⟩ : ∃ m, cntL 59 line.data.toList = m := ⟨_, rfl⟩
  have hml : m ≤ 4398046511104 := by
    have := count_le line 59 line.size
    rw [take_all line _ (Nat.le_refl _), hm] at this
    omega
  have HM := Lib.hid hm
  have HE := Lib.hid he
  obtain ⟨t0, p0, e0⟩ := he.num
  obtain ⟨t1, p1, e1⟩ := he.blank
  clear he hm
  by_cases hc : m ≤ 2999
  case neg =>
    have hd : decide ((m : Int) + 1 ≤ 3000) = false := by rw [decide_eq_false_iff_not]; omega
    have HN : Hid (ReadNo line.data.toList) := Lib.hid (.inl (by rw [HM.out]; omega))
    go_enter Tryd.func61, Tryd.ntmps61
    go_wp2_with (first
      | (go_at_call 84; refine (zzCount_any _ _ 59 _ rfl hs).mono ?_; rintro e w' ⟨rfl, rfl⟩; rw [HM.out])
      | (go_at_call 85; refine (numWithin_any _ _).mono ?_; rintro e w' ⟨rfl, rfl⟩))
    go_quiet (fail)
    go_wp2
    go_ret2
    exact ParsePost.err HN.out (below_drewN (Below.refl _ _) _)
  have hd : decide ((m : Int) + 1 ≤ 3000) = true := by rw [decide_eq_true_iff]; omega
  obtain ⟨B, hB⟩ : ∃ B, B = w.heap.size := ⟨_, rfl⟩
  have HB := Lib.hid hB
  have hB0 : B ≤ w.heap.size := by omega
  clear hB
  obtain ⟨i0, hi, hz0, hz1, hz2⟩ := info_parts ptrInfo
  go_enter Tryd.func61, Tryd.ntmps61
  go_upto_region 4 with (first
      | (go_at_call 84; refine (zzCount_any _ _ 59 _ rfl hs).mono ?_; rintro e w' ⟨rfl, rfl⟩; rw [HM.out])
      | (go_at_call 85; refine (numWithin_any _ _).mono ?_; rintro e w' ⟨rfl, rfl⟩))
  go_cut [25] (fun v wx => (∃ b, v = .bool b ∧ (b = true → ReadNo line.data.toList)) ∧ w = wx)
  case first =>
    rcases Nat.eq_zero_or_pos m with h0 | h0
    · have hb : ((m : Int) + 1 == 1) = true := by rw [beq_iff_eq]; omega
      have HBL : Hid (∀ x : ByteArray, x.data.toList = trimL line.data.toList → x.toList.isEmpty = true → ReadNo line.data.toList) := Lib.hid (fun x hx h => blank_line (HM.out.trans h0) (by rw [← hx, ← Lib.toList_data]; simpa using h))
      clear h0
      go_wp2_with (go_at_call 86; refine (zzTrim_any _ _ hs).mono ?_; rintro e w' ⟨⟨x, rfl, hx⟩, rfl⟩; have HX := Lib.hid hx; clear hx)
      go_meet
      case rel => exact ⟨⟨_, rfl, fun h => HBL.out _ HX.out (by simpa using h)⟩, rfl⟩
    · have hb : ((m : Int) + 1 == 1) = false := by rw [beq_eq_false_iff_ne]; omega
      go_wp2
      go_meet
      case rel => exact ⟨⟨_, rfl, fun h => by cases h⟩, rfl⟩
  case rest =>
  obtain ⟨⟨b, rfl, hb⟩, rfl⟩ := hcut
  rcases b with _ | _
  case true =>
    have HN := Lib.hid (hb rfl)
    clear hb
    go_wp2
    go_quiet (fail)
    go_wp2
    go_ret2
    exact ParsePost.err HN.out (below_drewN (Below.refl _ _) _)
  clear hb e0 e1
  go_wp2_with (at_make; refine wpList_make_own _ rfl _ _ _ rfl B 79 i0 (.pointer none) 1 Tryd.underlying68 hi hz0 hz1 _ _ _ (m + 1) rfl rfl rfl ?c1 ?c2 ?c3 ?_)
  case c1 => rw [hz2]; omega
  case c2 => unfold maxLen; omega
  case c3 => omega
  intro w1 hown hg
  have hb1 : Below B w w1 := (Below.refl B w).grown hg hB0 (fun k hk => by cases hk)
  have hp1 : PtrsAt B [] (.slice (some ⟨w.heap.size, 0, none⟩) 0 (m + 1)) w1 := ⟨hown, fun x hx => by cases hx⟩
  clear hown hg
  generalize Value.slice (some ⟨w.heap.size, 0, none⟩) 0 (m + 1) = v0 at *
  have HB1 := Lib.hid hb1
  have HP1 := Lib.hid hp1
  clear hb1 hp1
  go_wp2_with fail
  refine (zzSplit_any _ _ 59 _ rfl hs).mono ?_
  rintro e w2 ⟨xs, ⟨g, cap, rfl, hownx, hb2⟩, hxs⟩
  have hb12 := HB1.out.trans (hb2.mono (by have := HB1.out.size; have := HB.out; omega))
  have hp2 := HP1.out.kept hb2
  have hpx : PartsAt g xs w2 := PartsAt.of_own hownx
  have hxl : xs.length ≤ 3000 := by
    have h1 := congrArg List.length hxs
    rw [List.length_map, ← count_split] at h1
    have h2 := HM.out
    unfold cntL at h2
    omega
  have hxm : ∀ k (h : k < xs.length), xs[k].size ≤ 4398046511104 := by
    intro k hk
    have h2 := splitL_mem_le 59 line.data.toList xs[k].data.toList (by rw [← hxs]; exact List.mem_map.2 ⟨_, List.getElem_mem hk, rfl⟩)
    rw [← Lib.size_eq, ← Lib.size_eq] at h2
    omega
  have HXS := Lib.hid hxs
  have HXM := Lib.hid hxm
  clear hxs hxm hownx hb2 HB1 HP1
  go_wp2
  go_loopw [5, 32] (fun v i wr => ∃ (k : Nat) (l : List (Nat × Ck)), k ≤ xs.length ∧ i = .int .i64 k ∧ l.length = k ∧ Taken xs k l ∧ PtrsAt B l v wr ∧ PartsAt g xs wr ∧ Below B w wr) (fun _ i _ => xs.length - (intOf i).toNat)
  case atStart => exact ⟨0, [], Nat.zero_le _, rfl, rfl, rfl, hp2, hpx, hb12⟩
  case round =>
    clear hp2 hpx hb12
    obtain ⟨k, l, hk, rfl, hll, htk, hptr, hpar, hbel⟩ := hrel
    have hBw : B ≤ wr.heap.size := Nat.le_trans hB0 hbel.size
    have HTK := Lib.hid htk
    have HLL := Lib.hid hll
    have HBEL := Lib.hid hbel
    have HPTR := Lib.hid hptr
    have HPAR := Lib.hid hpar
    have HERR := Lib.hid (HE.out.kept (HB.out ▸ hbel))
    clear htk hll hbel hptr hpar
    by_cases hlt : k < xs.length
    case neg =>
      have hd2 : decide ((k : Int) < (xs.length : Int)) = false := by rw [decide_eq_false_iff_not]; omega
      go_wp2
      go_ret2
      have h1 := HB.out
      rw [h1] at HBEL HPTR
      exact ParsePost.ok HPTR.out (HTK.out.all (by omega) HXS.out (by rw [HM.out]; exact hc)) HBEL.out
    have hck := HPAR.out.cell hlt
    have hps := HXM.out k hlt
    obtain ⟨p, hp⟩ : ∃ p, xs[k] = p := ⟨_, rfl⟩
    have HP := Lib.hid hp
    rw [hp] at hck hps
    clear hp
    obtain ⟨t2, p2, e2⟩ := HERR.out.eq
    obtain ⟨t3, p3, e3⟩ := HERR.out.name
    obtain ⟨t4, p4, e4⟩ := HERR.out.value
    have HNO : Hid (pairOk (trimL p.data.toList) = false → ReadNo line.data.toList) := Lib.hid (fun h => no_of HXS.out hlt (by rw [HP.out]; exact pairOf_no h))
    rcases hb : hasB 61 (trimL p.data.toList) with _ | _
    · have HN := Lib.hid (HNO.out (by unfold pairOk; rw [hb]; rfl))
      have HB1 := Lib.hid hb
      clear hb
      go_wp2_with (first
        | (go_at_call 86; refine (zzTrim_any _ _ hps).mono ?_; rintro e w' ⟨⟨t, rfl, ht⟩, rfl⟩; obtain ⟨hts, hts2⟩ := trim_size ht hps; have HT := Lib.hid ht; clear ht)
        | (go_at_call 88; refine (zzCut_any _ _ 61 _ rfl hts).mono ?_; rintro e w' ⟨⟨x, y, rfl, hx, hy⟩, m, rfl⟩; rw [HT.out, HB1.out]; have hxz := (cutA_size hx hts hts2).1; have hyz := (cutB_size hy hts2).1; have HX : Hid (x.data.toList = cutA 61 (trimL p.data.toList)) := Lib.hid (by rw [hx, HT.out]); have HY : Hid (y.data.toList = cutB 61 (trimL p.data.toList)) := Lib.hid (by rw [hy, HT.out]); clear hx hy))
      go_quiet (fail)
      go_wp2
      go_ret2
      exact ParsePost.err HN.out (HB.out ▸ below_drewN (below_drewN HBEL.out _) _)
    have HB1 := Lib.hid hb
    rcases htk : tokS (cutA 61 (trimL p.data.toList)) with _ | _
    · have HN := Lib.hid (HNO.out (by unfold pairOk; rw [hb, htk]; rfl))
      have HTK1 := Lib.hid htk
      clear hb htk
      go_wp2_with (first
        | (go_at_call 86; refine (zzTrim_any _ _ hps).mono ?_; rintro e w' ⟨⟨t, rfl, ht⟩, rfl⟩; obtain ⟨hts, hts2⟩ := trim_size ht hps; have HT := Lib.hid ht; clear ht)
        | (go_at_call 88; refine (zzCut_any _ _ 61 _ rfl hts).mono ?_; rintro e w' ⟨⟨x, y, rfl, hx, hy⟩, m, rfl⟩; rw [HT.out, HB1.out]; have hxz := (cutA_size hx hts hts2).1; have hyz := (cutB_size hy hts2).1; have HX : Hid (x.data.toList = cutA 61 (trimL p.data.toList)) := Lib.hid (by rw [hx, HT.out]); have HY : Hid (y.data.toList = cutB 61 (trimL p.data.toList)) := Lib.hid (by rw [hy, HT.out]); clear hx hy)
        | (go_at_call 71; refine (isToken_any x _ hxz).mono ?_; rintro e w' ⟨rfl, rfl⟩; rw [HX.out, HTK1.out]))
      go_quiet (fail)
      go_wp2
      go_ret2
      exact ParsePost.err HN.out (HB.out ▸ below_drewN (below_drewN HBEL.out _) _)
    have HTK1 := Lib.hid htk
    rcases hal : allB valB (stripL (cutB 61 (trimL p.data.toList)) true) with _ | _
    · have HN := Lib.hid (HNO.out (by unfold pairOk; rw [hb, htk, hal]; rfl))
      have HAL := Lib.hid hal
      clear hb htk hal
      go_wp2_with (first
        | (go_at_call 86; refine (zzTrim_any _ _ hps).mono ?_; rintro e w' ⟨⟨t, rfl, ht⟩, rfl⟩; obtain ⟨hts, hts2⟩ := trim_size ht hps; have HT := Lib.hid ht; clear ht)
        | (go_at_call 88; refine (zzCut_any _ _ 61 _ rfl hts).mono ?_; rintro e w' ⟨⟨x, y, rfl, hx, hy⟩, m, rfl⟩; rw [HT.out, HB1.out]; have hxz := (cutA_size hx hts hts2).1; have hyz := (cutB_size hy hts2).1; have HX : Hid (x.data.toList = cutA 61 (trimL p.data.toList)) := Lib.hid (by rw [hx, HT.out]); have HY : Hid (y.data.toList = cutB 61 (trimL p.data.toList)) := Lib.hid (by rw [hy, HT.out]); clear hx hy)
        | (go_at_call 71; refine (isToken_any x _ hxz).mono ?_; rintro e w' ⟨rfl, rfl⟩; rw [HX.out, HTK1.out])
        | (go_at_call 89; refine (pcv_any y true _ hyz).mono ?_; rintro e w' ⟨⟨z, rfl, hz⟩, rfl⟩; rw [HY.out, HAL.out]; rw [HY.out, HAL.out] at hz; have HZ := Lib.hid hz; clear hz))
      go_quiet (fail)
      go_wp2
      go_ret2
      exact ParsePost.err HN.out (HB.out ▸ below_drewN (below_drewN HBEL.out _) _)
    have HAL := Lib.hid hal
    have HPO : Hid (pairOf xs[k].data.toList = some (pairIs (trimL p.data.toList))) := Lib.hid (by rw [HP.out]; exact pairOf_yes (by unfold pairOk; rw [hb, htk, hal]; rfl))
    obtain ⟨q, hq⟩ : ∃ q, qB (cutB 61 (trimL p.data.toList)) true = q := ⟨_, rfl⟩
    have HQ := Lib.hid hq
    clear hb htk hal hq e2 e3 e4
    go_wp2_with (first
      | (go_at_call 86; refine (zzTrim_any _ _ hps).mono ?_; rintro e w' ⟨⟨t, rfl, ht⟩, rfl⟩; obtain ⟨hts, hts2⟩ := trim_size ht hps; have HT := Lib.hid ht; clear ht)
      | (go_at_call 88; refine (zzCut_any _ _ 61 _ rfl hts).mono ?_; rintro e w' ⟨⟨x, y, rfl, hx, hy⟩, m, hw'⟩; have HBW : Hid (Below wr.heap.size wr w') := Lib.hid (hw' ▸ below_drewN (Below.refl _ _) _); clear hw'; rw [HT.out, HB1.out]; have hxz := (cutA_size hx hts hts2).1; have hyz := (cutB_size hy hts2).1; have HX : Hid (x.data.toList = cutA 61 (trimL p.data.toList)) := Lib.hid (by rw [hx, HT.out]); have HY : Hid (y.data.toList = cutB 61 (trimL p.data.toList)) := Lib.hid (by rw [hy, HT.out]); clear hx hy)
      | (go_at_call 71; refine (isToken_any x _ hxz).mono ?_; rintro e w' ⟨rfl, rfl⟩; rw [HX.out, HTK1.out])
      | (go_at_call 89; refine (pcv_any y true _ hyz).mono ?_; rintro e w' ⟨⟨z, rfl, hz⟩, rfl⟩; rw [HY.out, HAL.out, HQ.out]; rw [HY.out, HAL.out] at hz; have HZ := Lib.hid hz; clear hz)
      | (at_builtin; refine wpList_app1' rfl (.tmp 60) (.tmp 66) _ _ rfl _ _ Tryd.underlying68 ptrInfo rfl B _ _ _ rfl (World.ownsRow.alloc (HPTR.out.kept HBW.out).1 _) (.pointer (some ⟨w'.heap.size, 0, none⟩)) rfl (w'.heap.size + 1) (alloc_sz' _ _) rfl ?d1 ?d2 ?d3 ?_))
    case d1 => have := HLL.out; omega
    case d2 => have := HLL.out; omega
    case d3 => have h1 := HBW.out.size; rw [alloc_sz']; omega
    intro g2 cap2 w3 hown1 hb3 hg1 hat hBg
    have hp0 := HPTR.out.kept HBW.out
    have hBw' : B ≤ w'.heap.size := Nat.le_trans hBw HBW.out.size
    have R := hp0.push (c := ckOf x z q) hBw' hown1 hg1
    have hpar' := ((HPAR.out.kept HBW.out).kept ((Below.refl _ _).alloc (Nat.le_refl _) _)).grown (hp0.1.alloc _) (by decide) hg1
    have hbel' := ((HBEL.out.trans (HBW.out.mono hBw)).alloc hBw' _).trans hb3
    have htk' := HTK.out.push (b := w'.heap.size) (c := ckOf x z q) hlt (HPO.out.trans (by unfold pairIs pairC ckOf; rw [HX.out, HZ.out, HQ.out]; simp))
    have HTK' := Lib.hid htk'
    clear hown1 hb3 hg1 hat hp0 htk'
    go_wp2
    go_roundw
    case rel => exact ⟨k + 1, _, by omega, by go_num, by rw [List.length_append, HLL.out]; rfl, HTK'.out, R, hpar', hbel'⟩
    case measure => simp [intOf]; omega
end Go.Proofs.YtfijncfoefbohaaDoor
