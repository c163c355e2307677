/- FnReadSet returns true at every list of lines. -/
import Derived.Test.YtfijncfoefbohaaDoorReadSet
import Derived.Test.YtfijncfoefbohaaDoorQ
namespace Go.Proofs.YtfijncfoefbohaaDoor
open Go Go.RowKit

theorem raw_of {a b : Ck} {pc : PC} (h1 : CkEq a pc) (h2 : CkEq b pc) : a.raw = b.raw := ba_ext (h1.raw.trans h2.raw.symm)
theorem fits_all {xs : List ByteArray} (h : fitsL xs = true) : xs.length ≤ 2147483647 ∧ ∀ i (hi : i < xs.length), xs[i].size ≤ 2147483647 := by
  unfold fitsL at h
  simp only [Bool.and_eq_true, decide_eq_true_eq, List.all_eq_true] at h
  exact ⟨h.1, fun i hi => h.2 _ (List.getElem_mem hi)⟩
theorem agg_pos {B n cap : Nat} {o : Option Addr} {cs : List Ck} {w : World} (h : AggsAt B cs (.slice o n cap) w) (h0 : 0 < cs.length) : ∃ g, o = some ⟨g, 0, none⟩ := by
  rcases h.2 with ⟨_, h1⟩ | ⟨g, cap', cur, h1, _⟩
  · omega
  · cases h1; exact ⟨g, rfl⟩
theorem few_is {xs : List ByteArray} (h : fewB xs = true) : xs.length ≤ 50 ∧ szSum xs ≤ 2000 := by
  unfold fewB at h
  simpa using h
theorem filter_len (xs : List ByteArray) : (xs.filterMap setF).length ≤ xs.length := List.length_filterMap_le _ _

set_option maxHeartbeats 8000000 in
set_option maxRecDepth 100000 in
theorem fnReadSet_walk (v : Value) (xs : List ByteArray) (w : World) (hs : StrsAt xs v w) (he : ErrsS w) (hv : NumVars w) :
    Calls Tryd.prog 14 #[v] w fun e w' => e = .returned (.bool true) ∧ Below w.heap.size w w' := by
  obtain ⟨B, hB⟩ : ∃ B, B = w.heap.size := ⟨_, rfl⟩
  have HB := Lib.hid hB
  have hB0 : B ≤ w.heap.size := by omega
  clear hB
  have HS := Lib.hid hs
  obtain ⟨ao, cap, rfl, hc⟩ := hs.form
  have HC := Lib.hid hc
  have HE := Lib.hid he
  have HV := Lib.hid hv
  clear hs hc he hv
  rcases hf1 : fitsL xs with _ | _
  · have F1 := Lib.hid hf1
    clear hf1
    go_enter Tryd.func14, Tryd.ntmps14
    go_wp2_with (go_at_call 36; refine (zzFits2_any xs _ _ HS.out).mono ?_; rintro e w' ⟨rfl, rfl⟩; rw [F1.out])
    go_ret
    exact ⟨rfl, Below.refl _ _⟩
  have F1 := Lib.hid hf1
  obtain ⟨g1, s1⟩ := fits_all hf1
  have S1 := Lib.hid s1
  clear hf1 s1
  rcases hf2 : fewB xs with _ | _
  · have F2 := Lib.hid hf2
    clear hf2
    go_enter Tryd.func14, Tryd.ntmps14
    go_wp2_with (first
      | (go_at_call 36; refine (zzFits2_any xs _ _ HS.out).mono ?_; rintro e w' ⟨rfl, rfl⟩; rw [F1.out])
      | (go_at_call 38; refine (few_any xs _ _ HS.out (by omega) S1.out).mono ?_; rintro e w' ⟨rfl, rfl⟩; rw [F2.out])
      | (go_at_call 16; refine (works_any _).mono ?_; rintro e w3 ⟨rfl, hb3⟩; have HB3 := Lib.hid hb3; clear hb3))
    go_ret
    exact ⟨rfl, HB3.out⟩
  have F2 := Lib.hid hf2
  have hn50 : xs.length ≤ 50 := (few_is hf2).1
  clear hf2
  go_enter Tryd.func14, Tryd.ntmps14
  go_wp2_with (first
      | (go_at_call 36; refine (zzFits2_any xs _ _ HS.out).mono ?_; rintro e w' ⟨rfl, rfl⟩; rw [F1.out])
      | (go_at_call 38; refine (few_any xs _ _ HS.out (by omega) S1.out).mono ?_; rintro e w' ⟨rfl, rfl⟩; rw [F2.out]))
  go_loopw [3, 20] (fun v i wr => ∃ (k : Nat) (cs : List Ck), k ≤ xs.length ∧ i = .int .i64 k ∧ cs.length ≤ k ∧ AggsAt B cs v wr ∧ CksAre B ((xs.take k).filterMap setF) cs wr ∧ Below B w wr) (fun _ i _ => xs.length - (intOf i).toNat)
  case atStart => exact ⟨0, [], Nat.zero_le _, rfl, Nat.le_refl _, ⟨rfl, .inl ⟨rfl, rfl⟩⟩, CksAre.nil _ _, Below.refl _ _⟩
  case round =>
    obtain ⟨k, cs, hk, rfl, hll, hag, hcks, hbel⟩ := hrel
    have hBw : B ≤ wr.heap.size := Nat.le_trans hB0 hbel.size
    have HLL := Lib.hid hll
    have HBEL := Lib.hid hbel
    have HAG := Lib.hid hag
    have HCKS := Lib.hid hcks
    clear hll hbel hag hcks
    by_cases hlt : k < xs.length
    case pos =>
      have hd : decide (k < xs.length) = true := by rw [decide_eq_true_iff]; exact hlt
      have hps := S1.out k hlt
      obtain ⟨a, rfl, hck0⟩ := HC.out k hlt
      have hck := cell_keep hck0 (HB.out ▸ HBEL.out)
      have HER := Lib.hid (HE.out.kept (HB.out ▸ HBEL.out))
      have HVR := Lib.hid (HV.out.kept (HB.out ▸ HBEL.out))
      obtain ⟨p, hp⟩ : ∃ p, xs[k] = p := ⟨_, rfl⟩
      rw [hp] at hck hps
      have HP := Lib.hid hp
      clear hp hck0
      go_wp2_with fail
      refine (i_ParseSet_any p wr (by omega) HER.out HVR.out).mono ?_
      rintro e w2 ⟨⟨c, pc, rfl, hset, heq, hun⟩ | ⟨hset, rfl⟩, hb2⟩
      · have HF : Hid ((xs.take (k + 1)).filterMap setF = (xs.take k).filterMap setF ++ [pc]) := Lib.hid (filter_step hlt (o := some pc) (by unfold setF; rw [HP.out]; exact hset))
        have HEQ := Lib.hid heq
        have HB2 := Lib.hid hb2
        have HUN := Lib.hid (hun.lower hBw)
        clear hset heq hun hb2
        obtain ⟨a1, a2, a3⟩ := alloc_at w2 c.cells 26
        have hBw2 : B ≤ w2.heap.size := Nat.le_trans hBw HB2.out.size
        have hBw3 : B ≤ (w2.alloc (.cells c.cells 26)).heap.size := Nat.le_trans hBw2 a2.size
        have HAG3 := Lib.hid ((HAG.out.kept HB2.out).kept a2)
        have HCKS3 := Lib.hid ((HCKS.out.kept HB2.out).kept a2)
        have HUN3 := Lib.hid (HUN.out.kept a2)
        have HBEL3 := Lib.hid ((HBEL.out.trans (HB2.out.mono hBw)).trans (a2.mono hBw2))
        unfold Ck.cells at *
        go_upto_region 11 with fail
        generalize w2.alloc (.cells #[.string c.name, .string c.value, .bool c.quoted, .string c.path, .string c.domain, .int .i64 c.age, .bool c.secure, .bool c.http, .int .i64 c.site, .bool c.part, .string c.raw, .slice c.uo c.un c.uc] 26) = w3 at *
        obtain ⟨x0, x1, x2, x3, x4, x5, x6, x7, x8, x9, x10, x11⟩ := ck_cells (c := c) a1
        clear a1 a2 a3
        go_wp2_with (at_builtin; refine wpList_app12 rfl (.tmp 30) (.tmp 32) rfl B _ _ rfl HAG3.out c rfl ?c1 hBw3 ?_)
        case c1 => have := HLL.out; omega
        intro v1 w4 hag4 hb4 hg4 hne
        have R1 := Lib.hid hag4
        have R2 := Lib.hid ((HCKS3.out.grown HAG3.out (by decide) hg4).push HEQ.out (HUN3.out.grown HAG3.out (by decide) hg4))
        have R3 := Lib.hid (HBEL3.out.trans hb4)
        clear hag4 hb4 hg4 hne x0 x1 x2 x3 x4 x5 x6 x7 x8 x9 x10 x11
        go_wp2
        go_roundw
        case rel => exact ⟨k + 1, _, by omega, by go_num, by rw [List.length_append]; have := HLL.out; simp; omega, R1.out, by rw [HF.out]; exact R2.out, R3.out⟩
        case measure => simp [intOf]; omega
      · have HF : Hid ((xs.take (k + 1)).filterMap setF = (xs.take k).filterMap setF) := Lib.hid (by rw [filter_step hlt (o := none) (by unfold setF; rw [HP.out]; exact hset)]; simp)
        obtain ⟨a1, a2, a3⟩ := alloc_at w2 ckZ.cells 26
        have HAG3 := Lib.hid ((HAG.out.kept hb2).kept a2)
        have HCKS3 := Lib.hid ((HCKS.out.kept hb2).kept a2)
        have HBEL3 := Lib.hid ((HBEL.out.trans (hb2.mono hBw)).trans (a2.mono (Nat.le_trans hBw hb2.size)))
        clear hset hb2 a1 a2 a3
        unfold Ck.cells ckZ at *
        go_wp2
        go_roundw
        case rel => exact ⟨k + 1, cs, by omega, by go_num, by have := HLL.out; omega, HAG3.out, by rw [HF.out]; exact HCKS3.out, HBEL3.out⟩
        case measure => simp [intOf]; omega
    have hd : decide (k < xs.length) = false := by rw [decide_eq_false_iff_not]; exact hlt
    have HCF : Hid (CksAre B (xs.filterMap setF) cs wr) := Lib.hid (by have h := HCKS.out; rw [List.take_of_length_le (by omega)] at h; exact h)
    have HSR := Lib.hid (HS.out.below (HB.out ▸ HBEL.out))
    have HER := Lib.hid (HE.out.kept (HB.out ▸ HBEL.out))
    have HVR := Lib.hid (HV.out.kept (HB.out ▸ HBEL.out))
    obtain ⟨n, hn⟩ : ∃ n, (xs.filterMap setF).length = n := ⟨_, rfl⟩
    have hcl : cs.length = n := HCF.out.1.trans hn
    have hn2 : n ≤ 50 := by have := filter_len xs; omega
    obtain ⟨go, gc, rfl⟩ := agg_shape HAG.out
    have HCL := Lib.hid hcl
    have HN := Lib.hid hn
    rw [hcl]
    clear hlt hn HCKS
    go_wp2_with (go_at_call 43; refine (i_ReadSet_any xs _ _ HSR.out (by omega) (fun k h => Nat.le_trans (S1.out k h) (by omega)) HER.out HVR.out).mono ?_; rintro e w2 ⟨⟨v2, ds, rfl, hag2, hcks2⟩, hb2⟩; obtain ⟨do_, dc, rfl⟩ := agg_shape hag2; have hdl : ds.length = n := hcks2.1.trans HN.out; rw [hdl])
    refine (works_any w2).mono ?_; rintro e w3 ⟨rfl, hb3⟩
    have HAG3 := Lib.hid ((HAG.out.kept hb2).kept hb3)
    have HCF3 := Lib.hid ((HCF.out.kept hb2).kept hb3)
    have HAD3 := Lib.hid (hag2.kept hb3)
    have HCD3 := Lib.hid (hcks2.kept hb3)
    have HBEL3 := Lib.hid ((HBEL.out.trans (hb2.mono hBw)).trans (hb3.mono (Nat.le_trans hBw hb2.size)))
    have hB3 : w.heap.size ≤ w3.heap.size := HBEL3.out.size
    have HDL := Lib.hid hdl
    clear hb2 hb3 hag2 hcks2 HAG HCF HBEL hcl
    have hnn : ((n : Int) == (n : Int)) = true := by simp
    go_wp2
    go_loopw [48] (fun i wr => ∃ k2 : Nat, k2 ≤ n ∧ i = .int .i64 k2 ∧ Below w3.heap.size w3 wr) (fun i _ => n - (intOf i).toNat)
    case atStart => exact ⟨0, Nat.zero_le _, rfl, Below.refl _ _⟩
    case round =>
      obtain ⟨k2, hk2, rfl, hb⟩ := hrel
      have HK := Lib.hid hb
      clear hb
      by_cases hlt : k2 < n
      case neg =>
        have hd2 : decide (k2 < n) = false := by rw [decide_eq_false_iff_not]; exact hlt
        go_wp2
        go_ret
        exact ⟨rfl, HB.out ▸ (HBEL3.out.trans (HK.out.mono (by rw [HB.out]; exact hB3)))⟩
      have hd2 : decide (k2 < n) = true := by rw [decide_eq_true_iff]; exact hlt
      have hkc : k2 < cs.length := by rw [HCL.out]; exact hlt
      have hkd : k2 < ds.length := by rw [HDL.out]; exact hlt
      obtain ⟨g1', rfl⟩ := agg_pos HAG3.out (Nat.lt_of_le_of_lt (Nat.zero_le _) hkc)
      obtain ⟨g2', rfl⟩ := agg_pos HAD3.out (Nat.lt_of_le_of_lt (Nat.zero_le _) hkd)
      have hcx := (HAG3.out.kept HK.out).all hkc
      have hdx := (HAD3.out.kept HK.out).all hkd
      have hcp := (HCF3.out.kept HK.out).2 k2 hkc (by rw [HN.out]; exact hlt)
      have hdp := (HCD3.out.kept HK.out).2 k2 hkd (by rw [HN.out]; exact hlt)
      obtain ⟨pc, hpc⟩ : ∃ pc, (xs.filterMap setF)[k2]'(by rw [HN.out]; exact hlt) = pc := ⟨_, rfl⟩
      rw [hpc] at hcp hdp
      obtain ⟨c, hc⟩ : ∃ c, cs[k2] = c := ⟨_, rfl⟩
      obtain ⟨d, hd⟩ : ∃ d, ds[k2] = d := ⟨_, rfl⟩
      rw [hc] at hcx hcp
      rw [hd] at hdx hdp
      clear hc hd hpc
      have HCP := Lib.hid hcp
      have HDP := Lib.hid hdp
      have HRAW := Lib.hid (raw_of hcp.1 hdp.1)
      clear hcp hdp
      obtain ⟨z0, z1, z2, z3, z4, z5, z6, z7, z8, z9, z10, z11⟩ := hdx
      go_upto_region 19 with fail
      obtain ⟨x0, x1, x2, x3, x4, x5, x6, x7, x8, x9, x10, x11⟩ := hcx
      obtain ⟨a1, a2, a3⟩ := alloc_at wr d.cells 26
      unfold Ck.cells at a1 a2 a3
      generalize wr.alloc (.cells #[.string d.name, .string d.value, .bool d.quoted, .string d.path, .string d.domain, .int .i64 d.age, .bool d.secure, .bool d.http, .int .i64 d.site, .bool d.part, .string d.raw, .slice d.uo d.un d.uc] 26) = w5 at a1 a2 a3 ⊢
      have HA2 := Lib.hid a2
      obtain ⟨y0, y1, y2, y3, y4, y5, y6, y7, y8, y9, y10, y11⟩ := ck_cells (c := d) a1
      have HB5 : Hid (Below w3.heap.size w3 w5) := Lib.hid (HK.out.trans (a2.mono HK.out.size))
      have SK : Hid (∀ q : OverT w5, Calls Tryd.prog 44 #[.agg d.pcells, .agg c.pcells] q.w fun e w' => e = .returned (.bool true) ∧ Below q.w.heap.size q.w w') :=
        Lib.hid (fun q => same_cks d c pc B q.w HDP.out.1 HCP.out.1 (((HDP.out.2.kept HA2.out).kept q.h).lower hBw) ((HCP.out.2.kept HA2.out).kept q.h))
      have PD : Hid (∀ q : OverT w5, Calls Tryd.prog 25 #[.agg d.cells] q.w fun e w' => e = .returned (.agg d.pcells) ∧ Below q.w.heap.size q.w w') := Lib.hid (fun q => plain_any d q.w)
      have PC' : Hid (∀ q : OverT w5, Calls Tryd.prog 25 #[.agg c.cells] q.w fun e w' => e = .returned (.agg c.pcells) ∧ Below q.w.heap.size q.w w') := Lib.hid (fun q => plain_any c q.w)
      unfold Ck.cells at PD PC'
      have sr : (d.raw.toList == c.raw.toList) = true := by rw [HRAW.out]; simp
      have e0 := cell_keep x0 a2
      have e1 := cell_keep x1 a2
      have e2 := cell_keep x2 a2
      have e3 := cell_keep x3 a2
      have e4 := cell_keep x4 a2
      have e5 := cell_keep x5 a2
      have e6 := cell_keep x6 a2
      have e7 := cell_keep x7 a2
      have e8 := cell_keep x8 a2
      have e9 := cell_keep x9 a2
      have e10 := cell_keep x10 a2
      have e11 := cell_keep x11 a2
      generalize wr.heap.size = N at *
      have fd0 : ∀ q : OverT w5, q.w.cell? ⟨N, 0, none⟩ = some (.string d.name) := fun q => q.h.cell y0
      have fd1 : ∀ q : OverT w5, q.w.cell? ⟨N, 1, none⟩ = some (.string d.value) := fun q => q.h.cell y1
      have fd2 : ∀ q : OverT w5, q.w.cell? ⟨N, 2, none⟩ = some (.bool d.quoted) := fun q => q.h.cell y2
      have fd3 : ∀ q : OverT w5, q.w.cell? ⟨N, 3, none⟩ = some (.string d.path) := fun q => q.h.cell y3
      have fd4 : ∀ q : OverT w5, q.w.cell? ⟨N, 4, none⟩ = some (.string d.domain) := fun q => q.h.cell y4
      have fd5 : ∀ q : OverT w5, q.w.cell? ⟨N, 5, none⟩ = some (.int .i64 d.age) := fun q => q.h.cell y5
      have fd6 : ∀ q : OverT w5, q.w.cell? ⟨N, 6, none⟩ = some (.bool d.secure) := fun q => q.h.cell y6
      have fd7 : ∀ q : OverT w5, q.w.cell? ⟨N, 7, none⟩ = some (.bool d.http) := fun q => q.h.cell y7
      have fd8 : ∀ q : OverT w5, q.w.cell? ⟨N, 8, none⟩ = some (.int .i64 d.site) := fun q => q.h.cell y8
      have fd9 : ∀ q : OverT w5, q.w.cell? ⟨N, 9, none⟩ = some (.bool d.part) := fun q => q.h.cell y9
      have fd10 : ∀ q : OverT w5, q.w.cell? ⟨N, 10, none⟩ = some (.string d.raw) := fun q => q.h.cell y10
      have fd11 : ∀ q : OverT w5, q.w.cell? ⟨N, 11, none⟩ = some (.slice d.uo d.un d.uc) := fun q => q.h.cell y11
      have fc0 : ∀ q : OverT w5, q.w.cell? ⟨g1', k2 * 12, none⟩ = some (.string c.name) := fun q => q.h.cell e0
      have fc1 : ∀ q : OverT w5, q.w.cell? ⟨g1', k2 * 12 + 1, none⟩ = some (.string c.value) := fun q => q.h.cell e1
      have fc2 : ∀ q : OverT w5, q.w.cell? ⟨g1', k2 * 12 + 2, none⟩ = some (.bool c.quoted) := fun q => q.h.cell e2
      have fc3 : ∀ q : OverT w5, q.w.cell? ⟨g1', k2 * 12 + 3, none⟩ = some (.string c.path) := fun q => q.h.cell e3
      have fc4 : ∀ q : OverT w5, q.w.cell? ⟨g1', k2 * 12 + 4, none⟩ = some (.string c.domain) := fun q => q.h.cell e4
      have fc5 : ∀ q : OverT w5, q.w.cell? ⟨g1', k2 * 12 + 5, none⟩ = some (.int .i64 c.age) := fun q => q.h.cell e5
      have fc6 : ∀ q : OverT w5, q.w.cell? ⟨g1', k2 * 12 + 6, none⟩ = some (.bool c.secure) := fun q => q.h.cell e6
      have fc7 : ∀ q : OverT w5, q.w.cell? ⟨g1', k2 * 12 + 7, none⟩ = some (.bool c.http) := fun q => q.h.cell e7
      have fc8 : ∀ q : OverT w5, q.w.cell? ⟨g1', k2 * 12 + 8, none⟩ = some (.int .i64 c.site) := fun q => q.h.cell e8
      have fc9 : ∀ q : OverT w5, q.w.cell? ⟨g1', k2 * 12 + 9, none⟩ = some (.bool c.part) := fun q => q.h.cell e9
      have fc10 : ∀ q : OverT w5, q.w.cell? ⟨g1', k2 * 12 + 10, none⟩ = some (.string c.raw) := fun q => q.h.cell e10
      have fc11 : ∀ q : OverT w5, q.w.cell? ⟨g1', k2 * 12 + 11, none⟩ = some (.slice c.uo c.un c.uc) := fun q => q.h.cell e11
      clear e0 e1 e2 e3 e4 e5 e6 e7 e8 e9 e10 e11 x0 x1 x2 x3 x4 x5 x6 x7 x8 x9 x10 x11 y0 y1 y2 y3 y4 y5 y6 y7 y8 y9 y10 y11 z0 z1 z2 z3 z4 z5 z6 z7 z8 z9 z10 z11 a1 a2 a3
      refine wp_region_C (C := fun w' => ∃ q : OverT w5, w' = q.w) (by kernel_rfl) (by kernel_rfl) (OverT.start w5) ?_
      repeat (go_big_quiet_step ((first
        | (go_at_call 25; (with_reducible refine (PD.out _).mono ?_); exact fun e w' h => ⟨h.1, OverT.next h.2⟩)
        | (go_at_call 25; (with_reducible refine (PC'.out _).mono ?_); exact fun e w' h => ⟨h.1, OverT.next h.2⟩)
        | (go_at_call 44; (with_reducible refine (SK.out _).mono ?_); exact fun e w' h => ⟨h.1, OverT.next h.2⟩))))
      refine wpQuiet_nil ?_
      rintro _ ⟨q, rfl⟩
      go_wp2
      go_roundw
      case rel => exact ⟨k2 + 1, by omega, by go_num, HB5.out.trans (q.h.mono HB5.out.size)⟩
      case measure => simp [intOf]; omega
end Go.Proofs.YtfijncfoefbohaaDoor
