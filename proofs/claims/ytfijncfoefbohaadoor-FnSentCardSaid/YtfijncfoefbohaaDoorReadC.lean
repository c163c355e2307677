/- readCookies, ZZReadCookies, impl.Read: the cookies of lines, those with a name alone if one is asked for. -/
import Derived.Test.YtfijncfoefbohaaDoorAll
import Derived.Test.YtfijncfoefbohaaDoorReadP
import Derived.Test.YtfijncfoefbohaaDoorMap1
import Derived.Test.YtfijncfoefbohaaDoorOpenB
import Derived.Test.YtfijncfoefbohaaDoorLawClean
namespace Go.Proofs.YtfijncfoefbohaaDoor
open Go Go.RowKit

def kCookie : ByteArray := ⟨#[67, 111, 111, 107, 105, 101]⟩
theorem add_nought (a : Addr) : a.add 0 = a := by unfold Addr.add; split <;> simp_all
def dats (xs : List ByteArray) : List (List UInt8) := xs.map fun x => x.data.toList
def RcPost (f : List UInt8) (xs : List ByteArray) (w : World) (e : Ending) (w' : World) : Prop :=
  (∃ v l, e = .returned v ∧ PtrsAt w.heap.size l v w' ∧ (l.map fun x => pairC x.2) = rdAll f (dats xs) ∧ l.length ≤ 3000) ∧ Below w.heap.size w w'
theorem ptrs_empty' (B : Nat) (w : World) (hB : B ≤ w.heap.size) : PtrsAt B [] (.slice (some ⟨w.heap.size, 0, none⟩) 0 0) (w.alloc (.cells #[] 79)) :=
  ⟨⟨rfl, .inr ⟨w.heap.size, 0, #[], rfl, hB, (alloc_at w #[] 79).1, Nat.le_refl _, by decide, rfl, rfl⟩⟩, fun x hx => by cases hx⟩
theorem dats_drop {xs : List ByteArray} {k : Nat} (hk : k < xs.length) : (dats xs).drop k = xs[k].data.toList :: (dats xs).drop (k + 1) := by
  unfold dats
  rw [← List.map_drop, List.drop_eq_getElem_cons hk, List.map_cons, List.map_drop]
theorem cnt_take {xs : List ByteArray} {k : Nat} (hk : k < xs.length) : cntAll ((dats xs).take (k + 1)) = cntAll ((dats xs).take k) + (cntL 59 xs[k].data.toList + 1) := by
  unfold dats
  rw [← List.map_take, ← List.map_take, List.take_succ_eq_append_getElem hk, List.map_append, cntAll_app]
  simp [cntAll]
theorem cnt_le {xs : List ByteArray} (k : Nat) : cntAll ((dats xs).take k) ≤ cntAll (dats xs) := by
  conv => rhs; rw [← List.take_append_drop k (dats xs), cntAll_app]
  omega
theorem cnt_len : ∀ (ls : List (List UInt8)), ls.length ≤ cntAll ls
  | [] => Nat.le_refl _
  | l :: r => by
    have := cnt_len r
    unfold cntAll
    rw [List.length_cons]
    omega
theorem cnt_head {xs : List ByteArray} (h : 0 < xs.length) : cntL 59 xs[0].data.toList + 1 ≤ cntAll (dats xs) := by
  have h1 := cnt_take h
  have h2 := cnt_le (xs := xs) 1
  simp only [List.take_zero, Nat.zero_add] at h1
  omega
/-- Under way: what has been read and what is still to come. -/
def RdAt (f : List UInt8) (xs : List ByteArray) (l : List (Nat × Ck)) (r : List Pair) : Prop := (l.map fun x => pairC x.2) ++ r = rdAll f (dats xs)
theorem RdAt.len {f : List UInt8} {xs : List ByteArray} {l : List (Nat × Ck)} {r : List Pair} (h : RdAt f xs l r) : l.length ≤ cntAll (dats xs) := by
  have h1 := congrArg List.length h
  rw [List.length_append, List.length_map] at h1
  have h2 := rdAll_len f (dats xs)
  omega
theorem RdAt.push {f : List UInt8} {xs : List ByteArray} {l : List (Nat × Ck)} {r : List Pair} {b : Nat} {c : Ck} (h : RdAt f xs l (pairC c :: r)) : RdAt f xs (l ++ [(b, c)]) r := by
  unfold RdAt at *
  rw [List.map_append, List.append_assoc]
  exact h

set_option maxHeartbeats 8000000 in
set_option maxRecDepth 100000 in
theorem readCookies_any (b : Nat) (xs : List ByteArray) (flt : ByteArray) (v : Value) (w : World) (hh : Hdr1 b kCookie v w) (hs : StrsAt xs v w) (hn : cntAll (dats xs) ≤ 3000) (hz : ∀ k (h : k < xs.length), xs[k].size ≤ 4398046511104) :
    Calls Tryd.prog 90 #[.map (some b), .string flt] w (RcPost flt.data.toList xs w) := by
  obtain ⟨B, hB⟩ : ∃ B, B = w.heap.size := ⟨_, rfl⟩
  have HB := Lib.hid hB
  have hB0 : B ≤ w.heap.size := by omega
  clear hB
  have hxl : xs.length ≤ 3000 := by
    have := cnt_len (dats xs)
    unfold dats at this
    rw [List.length_map] at this
    unfold dats at hn
    omega
  obtain ⟨i0, hi, hz0, hz1, hz2⟩ := info_parts ptrInfo
  obtain ⟨ao, cap, rfl, hc⟩ := hs.form
  have HH := Lib.hid hh
  have HC := Lib.hid hc
  have HZ := Lib.hid hz
  have HNN := Lib.hid hn
  clear hh hs hc hz hn
  rcases Nat.eq_zero_or_pos xs.length with h0 | h0
  · have hd : ((xs.length : Int) == 0) = true := by rw [beq_iff_eq]; omega
    have hd' : (xs.length == 0) = true := by rw [beq_iff_eq]; omega
    have HX : Hid (xs = []) := Lib.hid (List.eq_nil_of_length_eq_zero h0)
    clear h0
    go_enter Tryd.func90, Tryd.ntmps90
    go_wp2_with (at_lookup; refine wpList_look1 rfl _ _ rfl b kCookie _ rfl rfl HH.out ?_)
    go_ret
    have h1 := HB.out
    subst h1
    exact ⟨⟨_, [], rfl, ptrs_empty' _ _ (Nat.le_refl _), by rw [HX.out]; rfl, Nat.zero_le _⟩, (Below.refl _ _).alloc (Nat.le_refl _) _⟩
  have hd : ((xs.length : Int) == 0) = false := by rw [beq_eq_false_iff_ne]; omega
  have hd' : (xs.length == 0) = false := by rw [beq_eq_false_iff_ne]; omega
  go_enter Tryd.func90, Tryd.ntmps90
  go_wp2_with (at_lookup; refine wpList_look1 rfl _ _ rfl b kCookie _ rfl rfl HH.out ?_)
  go_loop [6, 26] (fun n i => ∃ k m : Nat, k ≤ xs.length ∧ i = .int .i64 k ∧ n = .int .i64 m ∧ m = cntAll ((dats xs).take k)) (fun _ i => xs.length - (intOf i).toNat)
  case atStart => exact ⟨0, 0, Nat.zero_le _, rfl, rfl, rfl⟩
  case round =>
    obtain ⟨k, m, hk, rfl, rfl, hm⟩ := hrel
    have hm2 : m ≤ 3000 := by rw [hm]; exact Nat.le_trans (cnt_le k) HNN.out
    have HM := Lib.hid hm
    clear hm
    by_cases hlt : k < xs.length
    case pos =>
      have hd3 : decide (k < xs.length) = true := by rw [decide_eq_true_iff]; exact hlt
      obtain ⟨a, rfl, hck⟩ := HC.out k hlt
      have hps := HZ.out k hlt
      have HT := Lib.hid (cnt_take hlt)
      have hle : cntL 59 xs[k].data.toList ≤ 4398046511104 := by
        have := count_le xs[k] 59 xs[k].size
        rw [take_all xs[k] _ (Nat.le_refl _)] at this
        omega
      obtain ⟨p, hp⟩ : ∃ p, xs[k] = p := ⟨_, rfl⟩
      rw [hp] at hck hps HT hle
      clear hp
      obtain ⟨cn, hcn⟩ : ∃ cn, cntL 59 p.data.toList = cn := ⟨_, rfl⟩
      have HCN := Lib.hid hcn
      rw [hcn] at hle HT
      clear hcn
      go_wp2_with (go_at_call 84; refine (zzCount_any p _ 59 _ rfl hps).mono ?_; rintro e w' ⟨rfl, rfl⟩; rw [HCN.out])
      go_round
      case rel => exact ⟨k + 1, m + (cn + 1), by omega, by go_num, by go_num, by rw [HT.out, HM.out]⟩
      case measure => simp [intOf]; omega
    have hd3 : decide (k < xs.length) = false := by rw [decide_eq_false_iff_not]; exact hlt
    have hd4 : decide ((m : Int) ≤ 3000) = true := by rw [decide_eq_true_iff]; omega
    obtain ⟨a0, rfl, hck0⟩ := HC.out 0 h0
    have hps0 := HZ.out 0 h0
    have hc0 : cntL 59 xs[0].data.toList ≤ 2999 := by have := cnt_head h0; have := HNN.out; omega
    obtain ⟨p0, hp0⟩ : ∃ p, xs[0] = p := ⟨_, rfl⟩
    rw [hp0] at hck0 hps0 hc0
    clear hp0
    obtain ⟨cn, hcn⟩ : ∃ cn, cntL 59 p0.data.toList = cn := ⟨_, rfl⟩
    have HCN := Lib.hid hcn
    rw [hcn] at hc0
    rw [add_nought] at hck0
    clear hcn hlt hd hd'
    go_wp2_with (first
      | (go_at_call 85; refine (numWithin_any _ _).mono ?_; rintro e w' ⟨rfl, rfl⟩)
      | (go_at_call 84; refine (zzCount_any p0 _ 59 _ rfl hps0).mono ?_; rintro e w' ⟨rfl, rfl⟩; rw [HCN.out])
      | (at_make; refine wpList_make_own _ rfl _ _ _ rfl B 79 i0 (.pointer none) 1 Tryd.underlying68 hi hz0 hz1 _ _ _ (xs.length + cn) rfl rfl rfl ?c1 ?c2 ?c3 ?_))
    case c1 => rw [hz2]; omega
    case c2 => unfold maxLen; omega
    case c3 => omega
    intro w1 hown hg
    have hb1 : Below B w w1 := (Below.refl B w).grown hg hB0 (fun k hk => by cases hk)
    have hp1 : PtrsAt B [] (.slice (some ⟨w.heap.size, 0, none⟩) 0 (xs.length + cn)) w1 := ⟨hown, fun x hx => by cases hx⟩
    clear hown hg
    generalize Value.slice (some ⟨w.heap.size, 0, none⟩) 0 (xs.length + cn) = v0 at *
    have HB1 := Lib.hid hb1
    have HP1 := Lib.hid hp1
    clear hb1 hp1
    go_wp2
    clear hck0 hc0 hps0 HCN
    go_loopw [9, 50] (fun v i wr => ∃ (k : Nat) (l : List (Nat × Ck)), k ≤ xs.length ∧ i = .int .i64 k ∧ PtrsAt B l v wr ∧ RdAt flt.data.toList xs l (rdAll flt.data.toList ((dats xs).drop k)) ∧ Below B w wr) (fun _ i _ => xs.length - (intOf i).toNat)
    case atStart => exact ⟨0, [], Nat.zero_le _, rfl, HP1.out, rfl, HB1.out⟩
    case round =>
      obtain ⟨k, l, hk, rfl, hptr, hrd, hbel⟩ := hrel
      have HPTR := Lib.hid hptr
      have HRD := Lib.hid hrd
      have HBEL := Lib.hid hbel
      clear hptr hrd hbel
      by_cases hlt : k < xs.length
      case neg =>
        have hd5 : decide (k < xs.length) = false := by rw [decide_eq_false_iff_not]; exact hlt
        go_wp2
        go_ret
        have h1 := HB.out
        rw [h1] at HBEL HPTR
        have h2 := HRD.out
        have h3 := h2.len
        have h4 := HNN.out
        have h5 : (dats xs).drop k = [] := List.drop_eq_nil_of_le (by unfold dats; rw [List.length_map]; omega)
        unfold RdAt at h2
        rw [h5, rdAll_nil, List.append_nil] at h2
        exact ⟨⟨_, l, rfl, HPTR.out, h2, by omega⟩, HBEL.out⟩
      have hd5 : decide (k < xs.length) = true := by rw [decide_eq_true_iff]; exact hlt
      obtain ⟨a, ha, hckw⟩ := HC.out k hlt
      cases ha
      have hck := cell_keep hckw (HB.out ▸ HBEL.out)
      have hps := HZ.out k hlt
      have HDD := Lib.hid (dats_drop hlt)
      obtain ⟨p, hp⟩ : ∃ p, xs[k] = p := ⟨_, rfl⟩
      rw [hp] at hck hps HDD
      clear hp hckw
      go_wp2_with (go_at_call 86; refine (zzTrim_any p _ hps).mono ?_; rintro e w' ⟨⟨t, rfl, ht⟩, rfl⟩; have htz := (trim_size ht hps).2; have HT := Lib.hid ht; clear ht)
      have HRD2 : Hid (RdAt flt.data.toList xs l (rdRest flt.data.toList t.data.toList ++ rdAll flt.data.toList ((dats xs).drop (k + 1)))) := Lib.hid (by
        have h := HRD.out
        rw [HDD.out, rdAll_cons, ← HT.out] at h
        exact h)
      go_loopw [11, 9] (fun s v wr => ∃ (ln : ByteArray) (l : List (Nat × Ck)), s = .string ln ∧ ln.size ≤ 4398046511104 ∧ PtrsAt B l v wr ∧ RdAt flt.data.toList xs l (rdRest flt.data.toList ln.data.toList ++ rdAll flt.data.toList ((dats xs).drop (k + 1))) ∧ Below B w wr) (fun s _ _ => strLen s)
      case atStart => exact ⟨t, l, rfl, htz, HPTR.out, HRD2.out, HBEL.out⟩
      case round =>
        --INNER
        obtain ⟨ln, l2, rfl, hlz, hptr2, hrd2, hbel2⟩ := hrel
        have HPT := Lib.hid hptr2
        have HRN := Lib.hid hrd2
        have HBE := Lib.hid hbel2
        have hls : ln.size < 9223372036854775807 := by omega
        clear hptr2 hrd2 hbel2
        by_cases hl0 : 0 < ln.size
        case neg =>
          have hd6 : decide (0 < ln.size) = false := by rw [decide_eq_false_iff_not]; exact hl0
          have HL0 : Hid (ln.data.toList = []) := Lib.hid (List.eq_nil_of_length_eq_zero (by rw [← Lib.size_eq]; omega))
          clear hl0
          go_wp2
          go_roundw
          case rel =>
            refine ⟨k + 1, l2, by omega, by go_num, HPT.out, ?_, HBE.out⟩
            have h := HRN.out
            rw [HL0.out, rdRest_nil, List.nil_append] at h
            exact h
          case measure => simp [intOf]; omega
        have hd6 : decide (0 < ln.size) = true := by rw [decide_eq_true_iff]; exact hl0
        have HPN : Hid (∀ {pr : List Pair} {r : List UInt8}, rdPart flt.data.toList (cutA 59 ln.data.toList) = pr → r = cutB 59 ln.data.toList → RdAt flt.data.toList xs l2 (pr ++ (rdRest flt.data.toList r ++ rdAll flt.data.toList ((dats xs).drop (k + 1))))) := Lib.hid (fun h1 h2 => by
          have h := HRN.out
          rw [rdRest_step, h1, ← h2, List.append_assoc] at h
          exact h)
        have HMS : Hid (∀ r : ByteArray, r.data.toList = cutB 59 ln.data.toList → r.size < ln.size) := Lib.hid (fun r hr => by
          rw [Lib.size_eq, hr, Lib.size_eq]
          unfold cutB
          rw [List.length_drop]
          have : 0 < ln.data.toList.length := by rw [← Lib.size_eq]; exact hl0
          omega)
        have HLL : Hid (l2.length ≤ 3000) := Lib.hid (Nat.le_trans HRN.out.len HNN.out)
        have hBw : B ≤ wr.heap.size := Nat.le_trans hB0 HBE.out.size
        clear HRN
        go_upto_region 21 with (first | (go_at_call 88; (with_reducible refine (zzCut_any ln _ 59 _ rfl hls).mono ?_); rintro e w2 ⟨⟨p1, r1, rfl, hp1, hr1⟩, m1, hw'⟩; have HW2 : Hid (Below wr.heap.size wr w2) := Lib.hid (hw' ▸ below_drewN (Below.refl _ _) _); clear hw'; have hp1z := (cutA_size hp1 hls hlz).2; have hr1z := (cutB_size hr1 hlz).2; have HP1' := Lib.hid hp1; have HR1 := Lib.hid hr1; clear hp1 hr1) | (go_at_call 86; (with_reducible refine (zzTrim_any p1 _ hp1z).mono ?_); rintro e w' ⟨⟨t1, rfl, ht1⟩, rfl⟩; obtain ⟨ht1s, ht1z⟩ := trim_size ht1 hp1z; have HT1 : Hid (t1.data.toList = trimL (cutA 59 ln.data.toList)) := Lib.hid (by rw [ht1, HP1'.out]); clear ht1))
        have HPT2 := Lib.hid (HPT.out.kept HW2.out)
        have HBE2 := Lib.hid (HBE.out.trans (HW2.out.mono hBw))
        have hBw2 : B ≤ w2.heap.size := Nat.le_trans hBw HW2.out.size
        clear HPT HBE HW2
        by_cases hb : trimL (cutA 59 ln.data.toList) = []
        · have e1 : t1.toList = [] := by rw [Lib.toList_data, HT1.out, hb]
          have HPB := Lib.hid (rdPart_blank (f := flt.data.toList) hb)
          clear hb
          go_wp2
          go_roundw
          case rel => exact ⟨r1, l2, rfl, hr1z, HPT2.out, HPN.out HPB.out HR1.out, HBE2.out⟩
          case measure => simp only [strLen]; exact HMS.out r1 HR1.out
        have e1 : t1.toList.isEmpty = false := by
          rw [Lib.toList_data, HT1.out]
          cases hx : trimL (cutA 59 ln.data.toList) with
          | nil => exact absurd hx hb
          | cons _ _ => rfl
        clear hb
        go_upto_region 24 with (first | (go_at_call 88; (with_reducible refine (zzCut_any t1 _ 61 _ rfl ht1s).mono ?_); rintro e w3 ⟨⟨n1, y1, rfl, hn1, hy1⟩, m2, hw'⟩; have HW3 : Hid (Below w2.heap.size w2 w3) := Lib.hid (hw' ▸ below_drewN (Below.refl _ _) _); clear hw'; have hn1z := (cutA_size hn1 ht1s ht1z).2; have hy1z := (cutB_size hy1 ht1z).1; have HN1 := Lib.hid hn1; have HY1 : Hid (y1.data.toList = cutB 61 (trimL (cutA 59 ln.data.toList))) := Lib.hid (by rw [hy1, HT1.out]); clear hn1 hy1) | (go_at_call 86; (with_reducible refine (zzTrim_any n1 _ hn1z).mono ?_); rintro e w' ⟨⟨n2, rfl, hn2⟩, rfl⟩; have hn2z := (trim_size hn2 hn1z).2; have HN2 : Hid (n2.data.toList = rdName (cutA 59 ln.data.toList)) := Lib.hid (by unfold rdName; rw [hn2, HN1.out, HT1.out]); clear hn2))
        have HPT3 := Lib.hid (HPT2.out.kept HW3.out)
        have HBE3 := Lib.hid (HBE2.out.trans (HW3.out.mono hBw2))
        have hBw3 : B ≤ w3.heap.size := Nat.le_trans hBw2 HW3.out.size
        clear HPT2 HBE2 HW3 e1
        rcases htk : tokS (rdName (cutA 59 ln.data.toList)) with _ | _
        · have HPB := Lib.hid (rdPart_no (f := flt.data.toList) (p := cutA 59 ln.data.toList) (by unfold rdOk; rw [htk]; rfl))
          have HTK := Lib.hid htk
          clear htk
          go_wp2_with (go_at_call 71; refine (isToken_any n2 _ (by unfold maxLen; omega)).mono ?_; rintro e w' ⟨rfl, rfl⟩; rw [HN2.out, HTK.out])
          go_roundw
          case rel => exact ⟨r1, l2, rfl, hr1z, HPT3.out, HPN.out HPB.out HR1.out, HBE3.out⟩
          case measure => simp only [strLen]; exact HMS.out r1 HR1.out
        have HTK := Lib.hid htk
        have key : (flt.toList.isEmpty = true ∨ (flt.toList.isEmpty = false ∧ ((flt.toList == n2.toList) = true ∨ (flt.toList == n2.toList) = false))) := by
          cases flt.toList.isEmpty <;> cases (flt.toList == n2.toList) <;> simp
        have HFO : Hid (∀ q1 q2 : Bool, flt.toList.isEmpty = q1 → (flt.toList == n2.toList) = q2 → (flt.data.toList.isEmpty || flt.data.toList == rdName (cutA 59 ln.data.toList)) = (q1 || q2)) := Lib.hid (fun q1 q2 h1 h2 => by
          rw [← h1, ← h2, Lib.toList_data, Lib.toList_data, HN2.out])
        clear htk
        have fin : ∀ q : Bool, (flt.data.toList.isEmpty || flt.data.toList == rdName (cutA 59 ln.data.toList)) = q → rdOk flt.data.toList (cutA 59 ln.data.toList) = (q && allB valB (rdVal (cutA 59 ln.data.toList))) := by
          intro q h
          unfold rdOk
          rw [HTK.out, h]; rfl
        have FIN := Lib.hid fin
        clear fin
        rcases key with q1 | ⟨q1, q2 | q2⟩
        case inr.inr =>
          have HPB := Lib.hid (rdPart_no (f := flt.data.toList) (p := cutA 59 ln.data.toList) (by rw [FIN.out false (HFO.out false false q1 q2)]; rfl))
          go_wp2_with (go_at_call 71; refine (isToken_any n2 _ (by unfold maxLen; omega)).mono ?_; rintro e w' ⟨rfl, rfl⟩; rw [HN2.out, HTK.out])
          go_roundw
          case rel => exact ⟨r1, l2, rfl, hr1z, HPT3.out, HPN.out HPB.out HR1.out, HBE3.out⟩
          case measure => simp only [strLen]; exact HMS.out r1 HR1.out
        all_goals
          have HQ : Hid ((flt.data.toList.isEmpty || flt.data.toList == rdName (cutA 59 ln.data.toList)) = true) := Lib.hid (by
            first
              | (rw [HFO.out true _ q1 rfl]; rfl)
              | (rw [HFO.out false true q1 q2]; rfl))
          rcases hal : allB valB (stripL (cutB 61 (trimL (cutA 59 ln.data.toList))) true) with _ | _
          · have HPB := Lib.hid (rdPart_no (f := flt.data.toList) (p := cutA 59 ln.data.toList) (by rw [FIN.out true HQ.out, Bool.true_and]; exact hal))
            have HAL := Lib.hid hal
            clear hal
            go_wp2_with (first | (go_at_call 71; refine (isToken_any n2 _ (by unfold maxLen; omega)).mono ?_; rintro e w' ⟨rfl, rfl⟩; rw [HN2.out, HTK.out]) | (go_at_call 89; refine (pcv_any y1 true _ hy1z).mono ?_; rintro e w' ⟨⟨z, rfl, hz⟩, rfl⟩; rw [HY1.out, HAL.out]; rw [HY1.out, HAL.out] at hz; have HZV := Lib.hid hz; clear hz))
            go_roundw
            case rel => exact ⟨r1, l2, rfl, hr1z, HPT3.out, HPN.out HPB.out HR1.out, HBE3.out⟩
            case measure => simp only [strLen]; exact HMS.out r1 HR1.out
          have HPB := Lib.hid (rdPart_yes (f := flt.data.toList) (p := cutA 59 ln.data.toList) (by rw [FIN.out true HQ.out, Bool.true_and]; exact hal))
          have HAL := Lib.hid hal
          obtain ⟨qq, hqq⟩ : ∃ q, qB (cutB 61 (trimL (cutA 59 ln.data.toList))) true = q := ⟨_, rfl⟩
          have HQQ := Lib.hid hqq
          clear hal hqq
          go_wp2_with (first
            | (go_at_call 71; refine (isToken_any n2 _ (by unfold maxLen; omega)).mono ?_; rintro e w' ⟨rfl, rfl⟩; rw [HN2.out, HTK.out])
            | (go_at_call 89; refine (pcv_any y1 true _ hy1z).mono ?_; rintro e w' ⟨⟨z, rfl, hz⟩, rfl⟩; rw [HY1.out, HAL.out, HQQ.out]; rw [HY1.out, HAL.out] at hz; have HZV := Lib.hid hz; clear hz)
            | (at_builtin; refine wpList_app1' rfl (.tmp 95) (.tmp 101) _ _ rfl _ _ Tryd.underlying68 ptrInfo rfl B _ _ _ rfl (World.ownsRow.alloc HPT3.out.1 _) (.pointer (some ⟨w3.heap.size, 0, none⟩)) rfl (w3.heap.size + 1) (alloc_sz' _ _) rfl ?d1 ?d2 ?d3 ?_))
          case d1 => have := HLL.out; omega
          case d2 => have := HLL.out; omega
          case d3 => rw [alloc_sz']; omega
          intro g2 cap2 w5 hown1 hb5 hg1 hat hBg
          have R := Lib.hid (HPT3.out.push (c := ckOf n2 z qq) hBw3 hown1 hg1)
          have HBE5 := Lib.hid ((HBE3.out.alloc hBw3 _).trans hb5)
          clear hown1 hb5 hg1 hat hBg
          have RD : Hid (∀ r : List UInt8, r = cutB 59 ln.data.toList → RdAt flt.data.toList xs (l2 ++ [(w3.heap.size, ckOf n2 z qq)]) (rdRest flt.data.toList r ++ rdAll flt.data.toList ((dats xs).drop (k + 1)))) := Lib.hid (fun r hr => by
            have h := HPN.out HPB.out hr
            refine RdAt.push ?_
            have hp : pairC (ckOf n2 z qq) = rdIs (cutA 59 ln.data.toList) := by
              unfold pairC ckOf rdIs rdVal
              have h2 := HZV.out
              simp only [if_true] at h2
              simp only [HN2.out, h2, HQQ.out]
            rw [hp]; exact h)
          go_wp2
          go_roundw
          case rel => exact ⟨r1, _, rfl, hr1z, R.out, RD.out _ HR1.out, HBE5.out⟩
          case measure => simp only [strLen]; exact HMS.out r1 HR1.out

theorem zzReadC_any (xs : List ByteArray) (flt : ByteArray) (v : Value) (w : World) (hs : StrsAt xs v w) (hn : cntAll (dats xs) ≤ 3000) (hz : ∀ k (h : k < xs.length), xs[k].size ≤ 4398046511104) :
    Calls Tryd.prog 64 #[v, .string flt] w (RcPost flt.data.toList xs w) := by
  have hmm := @run_makeMap Tryd.prog
  have h0 : Below w.heap.size w (hdrPut (w.alloc (.map #[] 0)) w.heap.size #[⟨.string kCookie, v, 0⟩] 1) := hdrPut_below ((Below.refl _ _).alloc (Nat.le_refl _) _) (Nat.le_refl _) _ _
  have HH : Hid (Hdr1 w.heap.size kCookie v (hdrPut (w.alloc (.map #[] 0)) w.heap.size #[⟨.string kCookie, v, 0⟩] 1)) := Lib.hid ⟨1, hdrPut_at (Hdr0.new w) _ _⟩
  have H0 := Lib.hid h0
  have HS := Lib.hid (hs.below h0)
  have HN0 := Lib.hid (Hdr0.new w)
  clear h0 hs
  go_enter Tryd.func64, Tryd.ntmps64
  go_wp2_with (first
    | (refine wpList_insert0 rfl _ _ _ rfl w.heap.size kCookie v rfl rfl rfl HN0.out ?_)
    | (go_at_call 90; refine (readCookies_any _ xs flt v _ HH.out HS.out hn hz).mono ?_; rintro e w3 ⟨⟨v3, l, rfl, hp, hc, hl⟩, hb⟩; have R : Hid (RcPost flt.data.toList xs w (.returned v3) w3) := Lib.hid ⟨⟨v3, l, rfl, ⟨own_lower hp.1 H0.out.size, fun x hx => ⟨Nat.le_trans H0.out.size (hp.2 x hx).1, (hp.2 x hx).2⟩⟩, hc, hl⟩, H0.out.trans (hb.mono H0.out.size)⟩; clear hp hc hl hb))
  go_ret
  exact R.out

def IRc (f : List UInt8) (xs : List ByteArray) (w : World) (e : Ending) (w' : World) : Prop :=
  (∃ v cs, e = .returned v ∧ AggsAt w.heap.size cs v w' ∧ cs.map pairC = rdAll f (dats xs) ∧ cs.length ≤ 3000) ∧ Below w.heap.size w w'
theorem i_Read_any (xs : List ByteArray) (flt : ByteArray) (v : Value) (w : World) (hs : StrsAt xs v w) (hn : cntAll (dats xs) ≤ 3000) (hz : ∀ k (h : k < xs.length), xs[k].size ≤ 4398046511104) :
    Calls Tryd.prog 39 #[v, .string flt] w (IRc flt.data.toList xs w) := by
  go_enter Tryd.func39, Tryd.ntmps39
  go_wp2_with fail
  refine (zzReadC_any xs flt v w hs hn hz).mono ?_
  rintro e w1 ⟨⟨v1, l, rfl, hp, hc, hl⟩, hb⟩
  have HP := Lib.hid hp
  have HC := Lib.hid hc
  have HB := Lib.hid hb
  clear hp hc hb
  go_wp2_with fail
  refine (i_all_any _ l v1 w1 HP.out hl).mono ?_
  rintro e w2 ⟨⟨v2, rfl, hag⟩, hb2⟩
  have R : Hid (IRc flt.data.toList xs w (.returned v2) w2) := Lib.hid ⟨⟨v2, _, rfl, own_lower hag HB.out.size, by rw [List.map_map]; exact HC.out, by rw [List.length_map]; exact hl⟩, HB.out.trans (hb2.mono HB.out.size)⟩
  clear hag hb2
  go_wp2
  go_ret
  exact R.out
end Go.Proofs.YtfijncfoefbohaaDoor
