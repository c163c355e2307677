/- FnRoundTrip returns true at every cookie. -/
import Derived.Test.YtfijncfoefbohaaDoorReadSet
import Derived.Test.YtfijncfoefbohaaDoorBack
import Derived.Test.YtfijncfoefbohaaDoorValid
import Derived.Test.YtfijncfoefbohaaDoorQ
namespace Go.Proofs.YtfijncfoefbohaaDoor
open Go Go.RowKit

/-- The cookie that is wanted. -/
def wantCk (c : Ck) (r : ByteArray) : Ck := { c with quoted := c.quoted || anyB blankB c.value.data.toList, age := if c.age < 0 then -1 else c.age, raw := r, uo := none, un := 0, uc := 0 }
theorem want_eq {c : Ck} {r : ByteArray} (h : r.data.toList = setL c) : CkEq (wantCk c r) (backPC c) := ⟨rfl, rfl, rfl, rfl, rfl, rfl, rfl, rfl, rfl, rfl, h⟩
theorem want_unp (c : Ck) (r : ByteArray) (B : Nat) (w : World) : UnpAt B (wantCk c r) (backPC c).unp w := ⟨[], ⟨rfl, .inl ⟨rfl, rfl⟩⟩, rfl⟩
theorem undot_no {s : ByteArray} (h0 : 0 < s.size) (h : s[0] ≠ 46) : undot s.data.toList = s.data.toList := by
  unfold undot headN
  rw [head_of s h0]
  rw [if_neg]
  intro e
  rw [beq_iff_eq] at e
  exact h (UInt8.toNat_inj.1 (by show s[0].toNat = 46; omega))

set_option maxHeartbeats 16000000 in
set_option maxRecDepth 100000 in
theorem fnRoundTrip_walk (c : Ck) (w : World) (h : CkOk c w) (he : ErrsS w) (hv : NumVars w) (htab : ∀ w', Below w.heap.size w w' → Lib.TabIs Tryd.prog w' "internal/strconv.uint64pow10" .u64 Lib.pow10Tab) :
    Calls Tryd.prog 15 #[.agg c.cells] w fun e w' => e = .returned (.bool true) ∧ Below w.heap.size w w' := by
  have hk1 : ∀ o, CkOk c (w.alloc o) := fun o => ⟨h.name, h.value, h.path, h.domain, h.raw, h.age0, h.age1, h.site0, h.site1, by
    obtain ⟨xs, hxs⟩ := h.unp
    exact ⟨xs, hxs.below ((Below.refl _ _).alloc (Nat.le_refl _) o)⟩⟩
  have HK := Lib.hid hk1
  have HE := Lib.hid he
  have HV := Lib.hid hv
  have HTAB := Lib.hid htab
  have ha0 := h.age0
  have ha1 := h.age1
  have hs0 := h.site0
  have hs1 := h.site1
  clear hk1 he hv htab
  unfold Ck.cells
  go_enter Tryd.func15, Tryd.ntmps15
  go_wp2_with fail
  obtain ⟨a1, a2, a3⟩ := alloc_at w c.cells 26
  refine (zzFits1_any c _ (HK.out _)).mono ?_
  rintro e w1 ⟨⟨r, rfl, hr⟩, hb1⟩
  have hb2 : Below w.heap.size w w1 := a2.trans (hb1.mono a2.size)
  rcases r with _ | _
  · have HB := Lib.hid hb2
    clear a1 a2 a3 hb1 hb2
    go_wp2
    go_ret
    exact ⟨rfl, HB.out⟩
  have hf := (hr rfl).1
  have HF := Lib.hid hf
  have hblk : w1.heap[w.heap.size]? = some (.cells c.cells 26 (0, 0)) := (hb1.block _ a3).trans a1
  have hnlt : w.heap.size < w1.heap.size := Nat.lt_of_lt_of_le a3 hb1.size
  clear hr a1 a2 a3 hb1
  have HBLK := Lib.hid hblk
  have HB2 := Lib.hid hb2
  obtain ⟨k0, k1, k2, k3, k4, k5, k6, k7, k8, k9, k10, k11⟩ := ck_cells hblk
  clear hb2 hf
  go_wp2_with fail
  refine (plain_any c w1).mono ?_
  rintro e w2 ⟨rfl, hb3⟩
  have HB3 := Lib.hid (HB2.out.trans (hb3.mono HB2.out.size))
  have HBLK2 := Lib.hid ((hb3.block _ hnlt).trans hblk)
  have hnlt2 : w.heap.size < w2.heap.size := Nat.lt_of_lt_of_le hnlt hb3.size
  clear hb3 hblk k0 k1 k2 k3 k4 k5 k6 k7 k8 k9 k10 k11
  unfold Ck.pcells
  go_upto_region 5 with fail
  have b1 := (alloc_at w2 #[.string c.name, .string c.value, .bool c.quoted, .string c.path, .string c.domain, .int .i64 c.age, .bool c.secure, .bool c.http, .int .i64 c.site, .bool c.part, .slice none 0 0] 32)
  obtain ⟨b1, b2, b3⟩ := b1
  have HBN := Lib.hid ((b2.block _ hnlt2).trans HBLK2.out)
  have HBM := Lib.hid b1
  have HB33 : Hid (Below w.heap.size w (w2.alloc (.cells #[.string c.name, .string c.value, .bool c.quoted, .string c.path, .string c.domain, .int .i64 c.age, .bool c.secure, .bool c.http, .int .i64 c.site, .bool c.part, .slice none 0 0] 32))) := Lib.hid (HB3.out.trans (b2.mono HB3.out.size))
  have hnlt3 := Nat.lt_of_lt_of_le hnlt2 b2.size
  generalize w2.alloc (.cells #[.string c.name, .string c.value, .bool c.quoted, .string c.path, .string c.domain, .int .i64 c.age, .bool c.secure, .bool c.http, .int .i64 c.site, .bool c.part, .slice none 0 0] 32) = w3 at b1 b2 b3 HBN HBM HB33 hnlt3 ⊢
  generalize hM : w2.heap.size = M at b1 b2 b3 HBM ⊢
  have hMN : w.heap.size < M := by omega
  clear b1 b2
  obtain ⟨N, hN⟩ : ∃ N, w.heap.size = N := ⟨_, rfl⟩
  rw [hN] at HBN hMN hnlt3 ⊢
  have HN := Lib.hid hN
  clear hN hM hnlt hnlt2
  have hzp : c.path.size ≤ maxLen := by have := HF.out.path; unfold maxLen; omega
  have hzd : c.domain.size ≤ 2147483647 := HF.out.domain
  go_cut [58] (fun v wx => (∃ t : Bool, v = .bool t ∧ (t = false → BackOk c)) ∧ Below w3.heap.size w3 wx)
  case first =>
    obtain ⟨k0, k1, k2, k3, k4, k5, k6, k7, k8, k9, k10, k11⟩ := ck_cells HBN.out
    go_wp2_with fail
    refine (i_Valid_any c w3 HF.out).mono ?_
    rintro e w4 ⟨rfl, hb4⟩
    have HB4 := Lib.hid hb4
    have d3 := cell_keep k3 hb4
    have d4 := cell_keep k4 hb4
    have d5 := cell_keep k5 hb4
    have d8 := cell_keep k8 hb4
    clear k0 k1 k2 k3 k4 k5 k6 k7 k8 k9 k10 k11 hb4
    rcases hval : validB c with _ | _
    · clear hval
      go_wp2
      go_meet
      case rel => exact ⟨⟨_, rfl, fun h => by cases h⟩, HB4.out⟩
    obtain ⟨v1, v2⟩ : tokS c.name.data.toList = true ∧ allB valB c.value.data.toList = true := by
      unfold validB at hval
      simp only [Bool.and_eq_true] at hval
      exact ⟨hval.1, hval.2.1⟩
    have V1 := Lib.hid v1
    have V2 := Lib.hid v2
    clear hval v1 v2
    by_cases s1 : c.site < 0
    · have q1 : decide (c.site < 0) = true := by rw [decide_eq_true_iff]; exact s1
      go_wp2
      go_meet
      case rel => exact ⟨⟨_, rfl, fun h => by cases h⟩, HB4.out⟩
    have q1 : decide (c.site < 0) = false := by rw [decide_eq_false_iff_not]; exact s1
    by_cases s2 : 4 < c.site
    · have q2 : decide ((4 : Int) < c.site) = true := by rw [decide_eq_true_iff]; exact s2
      go_wp2
      go_meet
      case rel => exact ⟨⟨_, rfl, fun h => by cases h⟩, HB4.out⟩
    have q2 : decide ((4 : Int) < c.site) = false := by rw [decide_eq_false_iff_not]; exact s2
    by_cases s3 : c.site = 1
    · have q3 : (c.site == 1) = true := by rw [beq_iff_eq]; exact s3
      clear s3
      go_wp2
      go_meet
      case rel => exact ⟨⟨_, rfl, fun h => by cases h⟩, HB4.out⟩
    have q3 : (c.site == 1) = false := by rw [beq_eq_false_iff_ne]; exact s3
    have HST : Hid (c.site = 0 ∨ c.site = 2 ∨ c.site = 3 ∨ c.site = 4) := Lib.hid (by omega)
    clear s1 s2 s3
    rcases hoc : allB octB c.path.data.toList with _ | _
    · have HOC := Lib.hid hoc
      clear hoc
      go_wp2_with (go_at_call 37; refine (s_Octets_any c.path _ hzp).mono ?_; rintro e w' ⟨rfl, rfl⟩; rw [HOC.out])
      go_meet
      case rel => exact ⟨⟨_, rfl, fun h => by cases h⟩, HB4.out⟩
    have HOC := Lib.hid hoc
    clear hoc
    by_cases hag : 999999999 < c.age
    · have q9 : decide ((999999999 : Int) < c.age) = true := by rw [decide_eq_true_iff]; exact hag
      rcases Nat.eq_zero_or_pos c.domain.size with hd0 | hd0
      · have e1 : c.domain.toList = [] := by rw [Lib.toList_data]; exact List.eq_nil_of_length_eq_zero (by rw [← Lib.size_eq]; exact hd0)
        clear hd0
        go_wp2_with (go_at_call 37; refine (s_Octets_any c.path _ hzp).mono ?_; rintro e w' ⟨rfl, rfl⟩; rw [HOC.out])
        go_meet
        case rel => exact ⟨⟨_, rfl, fun h => by cases h⟩, HB4.out⟩
      have e1 : c.domain.toList.isEmpty = false := by rw [isEmpty_size]; rw [decide_eq_false_iff_not]; omega
      rcases hdb : domB c.domain.data.toList with _ | _
      · have HDB := Lib.hid hdb
        clear hdb
        go_wp2_with (first | (go_at_call 37; refine (s_Octets_any c.path _ hzp).mono ?_; rintro e w' ⟨rfl, rfl⟩; rw [HOC.out]) | (go_at_call 17; refine (s_DomainName_any c.domain _ hzd).mono ?_; rintro e w5 ⟨rfl, hb5⟩; rw [HDB.out]; have HB5 := Lib.hid (HB4.out.trans (hb5.mono HB4.out.size)); have f4 := cell_keep d4 hb5; have f5 := cell_keep d5 hb5; clear hb5))
        go_meet
        case rel => exact ⟨⟨_, rfl, fun h => by cases h⟩, HB5.out⟩
      have HDB := Lib.hid hdb
      clear hdb
      by_cases h46 : c.domain[0] = 46
      · have e2 : ((c.domain[0].toNat : Int) == 46) = true := by rw [h46]; rfl
        clear h46
        go_wp2_with (first | (go_at_call 37; refine (s_Octets_any c.path _ hzp).mono ?_; rintro e w' ⟨rfl, rfl⟩; rw [HOC.out]) | (go_at_call 17; refine (s_DomainName_any c.domain _ hzd).mono ?_; rintro e w5 ⟨rfl, hb5⟩; rw [HDB.out]; have HB5 := Lib.hid (HB4.out.trans (hb5.mono HB4.out.size)); have f4 := cell_keep d4 hb5; have f5 := cell_keep d5 hb5; clear hb5))
        go_meet
        case rel => exact ⟨⟨_, rfl, fun h => by cases h⟩, HB5.out⟩
      have e2 : ((c.domain[0].toNat : Int) == 46) = false := by rw [beq_eq_false_iff_ne]; intro h; exact h46 (UInt8.toNat_inj.1 (by show c.domain[0].toNat = 46; omega))
      clear h46
      go_wp2_with (first | (go_at_call 37; refine (s_Octets_any c.path _ hzp).mono ?_; rintro e w' ⟨rfl, rfl⟩; rw [HOC.out]) | (go_at_call 17; refine (s_DomainName_any c.domain _ hzd).mono ?_; rintro e w5 ⟨rfl, hb5⟩; rw [HDB.out]; have HB5 := Lib.hid (HB4.out.trans (hb5.mono HB4.out.size)); have f4 := cell_keep d4 hb5; have f5 := cell_keep d5 hb5; clear hb5))
      go_meet
      case rel => exact ⟨⟨_, rfl, fun h => by cases h⟩, HB5.out⟩
    have q9 : decide ((999999999 : Int) < c.age) = false := by rw [decide_eq_false_iff_not]; exact hag
    have HAG : Hid (c.age ≤ 999999999) := Lib.hid (by omega)
    clear hag
    rcases Nat.eq_zero_or_pos c.domain.size with hd0 | hd0
    · have e0 : c.domain.data.toList = [] := List.eq_nil_of_length_eq_zero (by rw [← Lib.size_eq]; exact hd0)
      have e1 : c.domain.toList = [] := by rw [Lib.toList_data]; exact e0
      have BK : Hid (BackOk c) := Lib.hid ⟨V1.out, V2.out, HOC.out, .inl e0, HAG.out, HST.out⟩
      clear hd0 e0
      go_wp2_with (go_at_call 37; refine (s_Octets_any c.path _ hzp).mono ?_; rintro e w' ⟨rfl, rfl⟩; rw [HOC.out])
      go_meet
      case rel => exact ⟨⟨_, rfl, fun h => BK.out⟩, HB4.out⟩
    have e1 : c.domain.toList.isEmpty = false := by rw [isEmpty_size]; rw [decide_eq_false_iff_not]; omega
    rcases hdb : domB c.domain.data.toList with _ | _
    · have HDB := Lib.hid hdb
      clear hdb
      go_wp2_with (first | (go_at_call 37; refine (s_Octets_any c.path _ hzp).mono ?_; rintro e w' ⟨rfl, rfl⟩; rw [HOC.out]) | (go_at_call 17; refine (s_DomainName_any c.domain _ hzd).mono ?_; rintro e w5 ⟨rfl, hb5⟩; rw [HDB.out]; have HB5 := Lib.hid (HB4.out.trans (hb5.mono HB4.out.size)); have f4 := cell_keep d4 hb5; have f5 := cell_keep d5 hb5; clear hb5))
      go_meet
      case rel => exact ⟨⟨_, rfl, fun h => by cases h⟩, HB5.out⟩
    have HDB := Lib.hid hdb
    clear hdb
    by_cases h46 : c.domain[0] = 46
    · have e2 : ((c.domain[0].toNat : Int) == 46) = true := by rw [h46]; rfl
      clear h46
      go_wp2_with (first | (go_at_call 37; refine (s_Octets_any c.path _ hzp).mono ?_; rintro e w' ⟨rfl, rfl⟩; rw [HOC.out]) | (go_at_call 17; refine (s_DomainName_any c.domain _ hzd).mono ?_; rintro e w5 ⟨rfl, hb5⟩; rw [HDB.out]; have HB5 := Lib.hid (HB4.out.trans (hb5.mono HB4.out.size)); have f4 := cell_keep d4 hb5; have f5 := cell_keep d5 hb5; clear hb5))
      go_meet
      case rel => exact ⟨⟨_, rfl, fun h => by cases h⟩, HB5.out⟩
    have e2 : ((c.domain[0].toNat : Int) == 46) = false := by rw [beq_eq_false_iff_ne]; intro h; exact h46 (UInt8.toNat_inj.1 (by show c.domain[0].toNat = 46; omega))
    have BK : Hid (BackOk c) := Lib.hid ⟨V1.out, V2.out, HOC.out, .inr ⟨HDB.out, undot_no hd0 h46⟩, HAG.out, HST.out⟩
    clear h46
    go_wp2_with (first | (go_at_call 37; refine (s_Octets_any c.path _ hzp).mono ?_; rintro e w' ⟨rfl, rfl⟩; rw [HOC.out]) | (go_at_call 17; refine (s_DomainName_any c.domain _ hzd).mono ?_; rintro e w5 ⟨rfl, hb5⟩; rw [HDB.out]; have HB5 := Lib.hid (HB4.out.trans (hb5.mono HB4.out.size)); have f4 := cell_keep d4 hb5; have f5 := cell_keep d5 hb5; clear hb5))
    go_meet
    case rel => exact ⟨⟨_, rfl, fun h => BK.out⟩, HB5.out⟩
  case rest =>
  obtain ⟨⟨t, rfl, ht⟩, hbc⟩ := hcut
  have HBC := Lib.hid hbc
  clear hbc
  rcases t with _ | _
  case true =>
    clear ht
    go_wp2_with (go_at_call 16; refine (works_any _).mono ?_; rintro e wz ⟨rfl, hbz⟩; have HBZ : Hid (Below w.heap.size w wz) := Lib.hid ((HB33.out.trans (HBC.out.mono HB33.out.size)).trans (hbz.mono (Nat.le_trans HB33.out.size HBC.out.size))); clear hbz)
    go_ret
    exact ⟨rfl, HBZ.out⟩
  have BK := Lib.hid (ht rfl)
  clear ht
  have HBN2 := Lib.hid ((HBC.out.block _ hnlt3).trans HBN.out)
  have HBM2 := Lib.hid ((HBC.out.block _ b3).trans HBM.out)
  have HBW : Hid (Below w.heap.size w wc) := Lib.hid (HB33.out.trans (HBC.out.mono HB33.out.size))
  have hnltc := Nat.lt_of_lt_of_le b3 HBC.out.size
  have hzv : c.value.size ≤ maxLen := by have := HF.out.value; unfold maxLen; omega
  clear HBC HBN HBM HB33 HB3 HBLK HBLK2 HB2
  go_upto_region 7 with fail
  go_cut [3] (fun v wx => v = .pointer (some ⟨M, 0, none⟩) ∧ wx.heap[M]? = some (.cells #[.string c.name, .string c.value, .bool (c.quoted || anyB blankB c.value.data.toList), .string c.path, .string c.domain, .int .i64 c.age, .bool c.secure, .bool c.http, .int .i64 c.site, .bool c.part, .slice none 0 0] 32 (0, 0)) ∧ wx.heap[N]? = some (.cells c.cells 26 (0, 0)) ∧ Below w.heap.size w wx)
  case first =>
    obtain ⟨k0, k1, k2, k3, k4, k5, k6, k7, k8, k9, k10, k11⟩ := ck_cells HBN2.out
    have m2 : wc.cell? ⟨M, 2, none⟩ = some (.bool c.quoted) := by rw [Lib.cell_of_heap HBM2.out]; rfl
    have mf : wc.frozen? ⟨M, 2, none⟩ = false := Lib.frozen_of_heap HBM2.out _
    clear k0 k3 k4 k5 k6 k7 k8 k9 k10 k11
    have R : Hid (∀ q : Bool, q = (c.quoted || anyB blankB c.value.data.toList) → (wc.setCell ⟨M, 2, none⟩ (.bool q)).heap[M]? = some (.cells #[.string c.name, .string c.value, .bool (c.quoted || anyB blankB c.value.data.toList), .string c.path, .string c.domain, .int .i64 c.age, .bool c.secure, .bool c.http, .int .i64 c.site, .bool c.part, .slice none 0 0] 32 (0, 0)) ∧ (wc.setCell ⟨M, 2, none⟩ (.bool q)).heap[N]? = some (.cells c.cells 26 (0, 0)) ∧ Below w.heap.size w (wc.setCell ⟨M, 2, none⟩ (.bool q))) := Lib.hid (by
      intro q hq
      refine ⟨?_, ?_, HBW.out.setCell (p := ⟨M, 2, none⟩) (by rw [HN.out]; exact Nat.le_of_lt hMN) _⟩
      · rw [setCell_block HBM2.out, ← hq]; rfl
      · exact (Below.heap_setCell _ _ _ _ (by simpa using Nat.ne_of_lt hMN)).trans HBN2.out)
    rcases (Bool.eq_false_or_eq_true c.quoted).symm with hq | hq
    · rw [hq] at k2
      have HQ := Lib.hid hq
      clear hq
      go_wp2_with (go_at_call 41; refine (s_Blank_any c.value _ hzv).mono ?_; rintro e w' ⟨rfl, rfl⟩)
      go_meet
      case rel => exact ⟨rfl, R.out _ (by rw [HQ.out]; rfl)⟩
    · rw [hq] at k2
      have HQ := Lib.hid hq
      clear hq
      go_wp2
      go_meet
      case rel => exact ⟨rfl, R.out _ (by rw [HQ.out]; rfl)⟩
  case rest =>
  obtain ⟨rfl, hm, hn, hbw⟩ := hcut
  have HBN3 := Lib.hid hn
  have HBM3 := Lib.hid hm
  have HBW3 := Lib.hid hbw
  clear hm hn hbw HBN2 HBM2 HBW hnltc
  go_upto_region 8 with fail
  go_cut [3] (fun v wx => v = .pointer (some ⟨M, 0, none⟩) ∧ wx.heap[M]? = some (.cells #[.string c.name, .string c.value, .bool (c.quoted || anyB blankB c.value.data.toList), .string c.path, .string c.domain, .int .i64 (if c.age < 0 then -1 else c.age), .bool c.secure, .bool c.http, .int .i64 c.site, .bool c.part, .slice none 0 0] 32 (0, 0)) ∧ wx.heap[N]? = some (.cells c.cells 26 (0, 0)) ∧ Below w.heap.size w wx)
  case first =>
    obtain ⟨k0, k1, k2, k3, k4, k5, k6, k7, k8, k9, k10, k11⟩ := ck_cells HBN3.out
    have m5 : wc.cell? ⟨M, 5, none⟩ = some (.int .i64 c.age) := by rw [Lib.cell_of_heap HBM3.out]; rfl
    have mf : wc.frozen? ⟨M, 5, none⟩ = false := Lib.frozen_of_heap HBM3.out _
    clear k0 k1 k2 k3 k4 k6 k7 k8 k9 k10 k11
    have R : Hid (∀ q : Int, q = (if c.age < 0 then -1 else c.age) → (wc.setCell ⟨M, 5, none⟩ (.int .i64 q)).heap[M]? = some (.cells #[.string c.name, .string c.value, .bool (c.quoted || anyB blankB c.value.data.toList), .string c.path, .string c.domain, .int .i64 (if c.age < 0 then -1 else c.age), .bool c.secure, .bool c.http, .int .i64 c.site, .bool c.part, .slice none 0 0] 32 (0, 0)) ∧ (wc.setCell ⟨M, 5, none⟩ (.int .i64 q)).heap[N]? = some (.cells c.cells 26 (0, 0)) ∧ Below w.heap.size w (wc.setCell ⟨M, 5, none⟩ (.int .i64 q))) := Lib.hid (by
      intro q hq
      refine ⟨?_, ?_, HBW3.out.setCell (p := ⟨M, 5, none⟩) (by rw [HN.out]; exact Nat.le_of_lt hMN) _⟩
      · rw [setCell_block HBM3.out, ← hq]; rfl
      · exact (Below.heap_setCell _ _ _ _ (by simpa using Nat.ne_of_lt hMN)).trans HBN3.out)
    have HQ : Hid (max c.age (-1) = (if c.age < 0 then -1 else c.age)) := Lib.hid (by split <;> omega)
    go_wp2
    go_meet
    case rel => exact ⟨rfl, R.out _ HQ.out⟩
  case rest =>
  obtain ⟨rfl, hm, hn, hbw⟩ := hcut
  have HBN4 := Lib.hid hn
  have HBM4 := Lib.hid hm
  have HBW4 := Lib.hid hbw
  have hMlt : M < wc.heap.size := (Array.getElem?_eq_some_iff.1 hm).1
  obtain ⟨k0, k1, k2, k3, k4, k5, k6, k7, k8, k9, k10, k11⟩ := ck_cells hn
  clear hm hn hbw HBN3 HBM3 HBW3
  go_wp2_with fail
  refine (i_Set_any c wc HF.out (fun _ w' hw' => HTAB.out w' (HBW4.out.trans (hw'.mono HBW4.out.size)))).mono ?_
  rintro e w5 ⟨⟨x, rfl, hx⟩, hb5⟩
  have HX := Lib.hid hx
  have hxz : x.size ≤ 4398046511104 := by rw [Lib.size_eq, hx]; exact setL_len' c HF.out
  have HBW5 := Lib.hid (HBW4.out.trans (hb5.mono HBW4.out.size))
  have HBM5 := Lib.hid ((hb5.block _ hMlt).trans HBM4.out)
  have hMlt5 := Nat.lt_of_lt_of_le hMlt hb5.size
  clear hx hb5 k0 k1 k2 k3 k4 k5 k6 k7 k8 k9 k10 k11
  have HSB : Hid (setP x.data.toList = some (backPC c)) := Lib.hid (by rw [HX.out]; exact set_back BK.out)
  go_wp2_with fail
  refine (i_ParseSet_any x w5 hxz (HE.out.kept HBW5.out) (HV.out.kept HBW5.out)).mono ?_
  rintro e w6 ⟨⟨d, pc, rfl, hset, heq, hun⟩ | ⟨hset, rfl⟩, hb6⟩
  · have hpc : pc = backPC c := Option.some.inj (hset.symm.trans HSB.out)
    subst hpc
    have HEQ := Lib.hid heq
    have HUN := Lib.hid hun
    have HB6 := Lib.hid hb6
    have HBM6 := Lib.hid ((hb6.block _ hMlt5).trans HBM5.out)
    have hMlt6 := Nat.lt_of_lt_of_le hMlt5 hb6.size
    have HBW6 := Lib.hid (HBW5.out.trans (hb6.mono HBW5.out.size))
    have HRAW : Hid (d.raw = x) := Lib.hid (ba_ext (heq.raw.trans HX.out.symm))
    clear hset heq hun hb6
    unfold Ck.cells
    go_upto_region 11 with fail
    obtain ⟨a1, a2, a3⟩ := alloc_at w6 d.cells 26
    unfold Ck.cells at a1 a2 a3
    generalize w6.alloc (.cells #[.string d.name, .string d.value, .bool d.quoted, .string d.path, .string d.domain, .int .i64 d.age, .bool d.secure, .bool d.http, .int .i64 d.site, .bool d.part, .string d.raw, .slice d.uo d.un d.uc] 26) = w8 at a1 a2 a3 ⊢
    have HA2 := Lib.hid a2
    obtain ⟨y0, y1, y2, y3, y4, y5, y6, y7, y8, y9, y10, y11⟩ := ck_cells (c := d) a1
    have b4 := (a2.block _ hMlt6).trans HBM6.out
    have HB8 : Hid (Below w.heap.size w w8) := Lib.hid (HBW6.out.trans (a2.mono HBW6.out.size))
    have SK : Hid (∀ q : OverT w8, Calls Tryd.prog 44 #[.agg d.pcells, .agg (wantCk c x).pcells] q.w fun e w' => e = .returned (.bool true) ∧ Below q.w.heap.size q.w w') :=
      Lib.hid (fun q => same_cks d (wantCk c x) (backPC c) w5.heap.size q.w HEQ.out (want_eq HX.out) ((HUN.out.kept HA2.out).kept q.h) (want_unp c x _ _))
    have PD : Hid (∀ q : OverT w8, Calls Tryd.prog 25 #[.agg d.cells] q.w fun e w' => e = .returned (.agg d.pcells) ∧ Below q.w.heap.size q.w w') := Lib.hid (fun q => plain_any d q.w)
    unfold Ck.cells at PD
    unfold wantCk at SK
    have sr : (d.raw.toList == x.toList) = true := by rw [HRAW.out]; simp
    obtain ⟨L, hL⟩ : ∃ L, w6.heap.size = L := ⟨_, rfl⟩
    rw [hL] at y0 y1 y2 y3 y4 y5 y6 y7 y8 y9 y10 y11 ⊢
    have fd0 : ∀ q : OverT w8, q.w.cell? ⟨L, 0, none⟩ = some (.string d.name) := fun q => q.h.cell y0
    have fd1 : ∀ q : OverT w8, q.w.cell? ⟨L, 1, none⟩ = some (.string d.value) := fun q => q.h.cell y1
    have fd2 : ∀ q : OverT w8, q.w.cell? ⟨L, 2, none⟩ = some (.bool d.quoted) := fun q => q.h.cell y2
    have fd3 : ∀ q : OverT w8, q.w.cell? ⟨L, 3, none⟩ = some (.string d.path) := fun q => q.h.cell y3
    have fd4 : ∀ q : OverT w8, q.w.cell? ⟨L, 4, none⟩ = some (.string d.domain) := fun q => q.h.cell y4
    have fd5 : ∀ q : OverT w8, q.w.cell? ⟨L, 5, none⟩ = some (.int .i64 d.age) := fun q => q.h.cell y5
    have fd6 : ∀ q : OverT w8, q.w.cell? ⟨L, 6, none⟩ = some (.bool d.secure) := fun q => q.h.cell y6
    have fd7 : ∀ q : OverT w8, q.w.cell? ⟨L, 7, none⟩ = some (.bool d.http) := fun q => q.h.cell y7
    have fd8 : ∀ q : OverT w8, q.w.cell? ⟨L, 8, none⟩ = some (.int .i64 d.site) := fun q => q.h.cell y8
    have fd9 : ∀ q : OverT w8, q.w.cell? ⟨L, 9, none⟩ = some (.bool d.part) := fun q => q.h.cell y9
    have fd10 : ∀ q : OverT w8, q.w.cell? ⟨L, 10, none⟩ = some (.string d.raw) := fun q => q.h.cell y10
    have fd11 : ∀ q : OverT w8, q.w.cell? ⟨L, 11, none⟩ = some (.slice d.uo d.un d.uc) := fun q => q.h.cell y11
    have fm0 : ∀ q : OverT w8, q.w.cell? ⟨M, 0, none⟩ = some (.string c.name) := fun q => q.h.cell (by rw [Lib.cell_of_heap b4]; rfl)
    have fm1 : ∀ q : OverT w8, q.w.cell? ⟨M, 1, none⟩ = some (.string c.value) := fun q => q.h.cell (by rw [Lib.cell_of_heap b4]; rfl)
    have fm2 : ∀ q : OverT w8, q.w.cell? ⟨M, 2, none⟩ = some (.bool (c.quoted || anyB blankB c.value.data.toList)) := fun q => q.h.cell (by rw [Lib.cell_of_heap b4]; rfl)
    have fm3 : ∀ q : OverT w8, q.w.cell? ⟨M, 3, none⟩ = some (.string c.path) := fun q => q.h.cell (by rw [Lib.cell_of_heap b4]; rfl)
    have fm4 : ∀ q : OverT w8, q.w.cell? ⟨M, 4, none⟩ = some (.string c.domain) := fun q => q.h.cell (by rw [Lib.cell_of_heap b4]; rfl)
    have fm5 : ∀ q : OverT w8, q.w.cell? ⟨M, 5, none⟩ = some (.int .i64 (if c.age < 0 then -1 else c.age)) := fun q => q.h.cell (by rw [Lib.cell_of_heap b4]; rfl)
    have fm6 : ∀ q : OverT w8, q.w.cell? ⟨M, 6, none⟩ = some (.bool c.secure) := fun q => q.h.cell (by rw [Lib.cell_of_heap b4]; rfl)
    have fm7 : ∀ q : OverT w8, q.w.cell? ⟨M, 7, none⟩ = some (.bool c.http) := fun q => q.h.cell (by rw [Lib.cell_of_heap b4]; rfl)
    have fm8 : ∀ q : OverT w8, q.w.cell? ⟨M, 8, none⟩ = some (.int .i64 c.site) := fun q => q.h.cell (by rw [Lib.cell_of_heap b4]; rfl)
    have fm9 : ∀ q : OverT w8, q.w.cell? ⟨M, 9, none⟩ = some (.bool c.part) := fun q => q.h.cell (by rw [Lib.cell_of_heap b4]; rfl)
    have fm10 : ∀ q : OverT w8, q.w.cell? ⟨M, 10, none⟩ = some (.slice none 0 0) := fun q => q.h.cell (by rw [Lib.cell_of_heap b4]; rfl)
    clear y0 y1 y2 y3 y4 y5 y6 y7 y8 y9 y10 y11 a1 a2 a3 b4 hL
    refine wp_region_C (C := fun w' => ∃ q : OverT w8, w' = q.w) (by kernel_rfl) (by kernel_rfl) (OverT.start w8) ?_
    repeat (go_big_quiet_step ((first
      | (go_at_call 25; (with_reducible refine (PD.out _).mono ?_); exact fun e w' h => ⟨h.1, OverT.next h.2⟩)
      | (go_at_call 44; refine (SK.out _).mono ?_; exact fun e w' h => ⟨h.1, OverT.next h.2⟩))))
    refine wpQuiet_nil ?_
    rintro _ ⟨q, rfl⟩
    go_wp2
    all_goals
      go_ret
      exact ⟨rfl, HB8.out.trans (q.h.mono HB8.out.size)⟩
  · exact absurd (hset.symm.trans HSB.out) (by simp)
end Go.Proofs.YtfijncfoefbohaaDoor
