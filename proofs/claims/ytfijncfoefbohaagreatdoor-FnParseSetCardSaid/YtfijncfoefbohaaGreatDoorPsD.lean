/- A round of ParseSetCookie's loop: Max-Age. -/
import Derived.Test.YtfijncfoefbohaaGreatDoorPsA
namespace Go.Proofs.YtfijncfoefbohaaGreatDoor
open Go Go.RowKit


set_option maxHeartbeats 16000000 in
set_option maxRecDepth 1000000 in
theorem ps_age_no {w wr : World} {B b g cap k : Nat} {xs : List ByteArray} {c : Ck} {pc : PC} {p : ByteArray} {c0 c1 c2 c3 c5 c6 c8 c20 c21 c22 c23 c24 c25 c26 c27 c28 c29 c30 c31 c32 c33 c34 c35 c36 c37 c38 c39 c40 c41 c42 c43 c44 c45 c46 c47 c48 c49 c50 c51 c52 c53 c54 c55 c56 c57 c58 c59 c60 c61 c62 c63 c64 c65 c66 c67 c68 c69 c70 c224 : Value} {u7 u11 u12 u13 u14 u15 u16 u17 u18 u19 u71 u72 u73 u74 u75 u76 u77 u78 u79 u80 u81 u82 u83 u84 u85 u86 u87 u88 u89 u90 u91 u92 u93 u94 u95 u96 u97 u98 u99 u100 u101 u102 u103 u104 u105 u106 u107 u108 u109 u110 u111 u112 u113 u114 u115 u116 u117 u118 u119 u120 u121 u122 u123 u124 u125 u126 u127 u128 u129 u130 u131 u132 u133 u134 u135 u136 u137 u138 u139 u140 u141 u142 u143 u144 u145 u146 u147 u148 u149 u150 u151 u152 u153 u154 u155 u156 u157 u158 u159 u160 u161 u162 u163 u164 u165 u166 u167 u168 u169 u170 u171 u172 u173 u174 u175 u176 u177 u178 u179 u180 u181 u182 u183 u184 u185 u186 u187 u188 u189 u190 u191 u192 u193 u194 u195 u196 u197 u198 u199 u200 u201 u202 u203 u204 u205 u206 u207 u208 u209 u210 u211 u212 u213 u214 u215 u216 u217 u218 u219 u220 u221 u222 u223 : Value}
    (hB : B = w.heap.size) (hv : NumVars w) (HS : SetS w B b g xs k k c pc wr) (hlt : k < xs.length) (hnz : xs.length ≤ 4398046511105) (hp : xs[k] = p) (hps : p.size ≤ 4398046511104)
    (HNE : Hid (trimL p.data.toList ≠ [])) (HPR : Hid (allB prB (cutA 61 (trimL p.data.toList)) = true)) (HVL : Hid (allB valB (cutB 61 (trimL p.data.toList)) = true))
    (HKEY : Hid (Lib.toLowerA (cutA 61 (trimL p.data.toList)) = kAge))
    (HNUM : Hid (numOf? (cutB 61 (trimL p.data.toList)) = none))
    : Code.wp Tryz.prog psBody (Exit.then (PsPost c0 c1 c2 c3 c5 c6 c8 c20 c21 c22 c23 c24 c25 c26 c27 c28 c29 c30 c31 c32 c33 c34 c35 c36 c37 c38 c39 c40 c41 c42 c43 c44 c45 c46 c47 c48 c49 c50 c51 c52 c53 c54 c55 c56 c57 c58 c59 c60 c61 c62 c63 c64 c65 c66 c67 c68 c69 c70 c224 w B b g cap k xs (attrStep pc p.data.toList)) (fun _ _ _ => False)) ⟨#[c0, c1, c2, c3, .slice (some ⟨g, 0, none⟩) xs.length cap, c5, c6, u7, c8, .pointer (some ⟨b, 0, none⟩), .int .i64 (k : Int), u11, u12, u13, u14, u15, u16, u17, u18, u19, c20, c21, c22, c23, c24, c25, c26, c27, c28, c29, c30, c31, c32, c33, c34, c35, c36, c37, c38, c39, c40, c41, c42, c43, c44, c45, c46, c47, c48, c49, c50, c51, c52, c53, c54, c55, c56, c57, c58, c59, c60, c61, c62, c63, c64, c65, c66, c67, c68, c69, c70, u71, u72, u73, u74, u75, u76, u77, u78, u79, u80, u81, u82, u83, u84, u85, u86, u87, u88, u89, u90, u91, u92, u93, u94, u95, u96, u97, u98, u99, u100, u101, u102, u103, u104, u105, u106, u107, u108, u109, u110, u111, u112, u113, u114, u115, u116, u117, u118, u119, u120, u121, u122, u123, u124, u125, u126, u127, u128, u129, u130, u131, u132, u133, u134, u135, u136, u137, u138, u139, u140, u141, u142, u143, u144, u145, u146, u147, u148, u149, u150, u151, u152, u153, u154, u155, u156, u157, u158, u159, u160, u161, u162, u163, u164, u165, u166, u167, u168, u169, u170, u171, u172, u173, u174, u175, u176, u177, u178, u179, u180, u181, u182, u183, u184, u185, u186, u187, u188, u189, u190, u191, u192, u193, u194, u195, u196, u197, u198, u199, u200, u201, u202, u203, u204, u205, u206, u207, u208, u209, u210, u211, u212, u213, u214, u215, u216, u217, u218, u219, u220, u221, u222, u223, c224], []⟩ wr := by
  have HB := Lib.hid hB
  have HV := Lib.hid hv
  obtain ⟨i0, hi, hz0, hz1, hz2⟩ := info_parts strInfo
  obtain ⟨hck, hfz⟩ := HS.cell hlt
  rw [hp] at hck
  have HS0 := Lib.hid HS
  clear HS hp hB hv
  conv => arg 2; whnf
  go_upto_region 19 with (go_at_call 30; refine (zzTrim_any p _ hps).mono ?_; rintro e w' ⟨⟨t, rfl, ht⟩, rfl⟩; obtain ⟨hts, hts2⟩ := trim_size ht hps; have HT := Lib.hid ht; clear ht)
  obtain ⟨hS1, hct⟩ := HS0.out.trim hlt t
  generalize wr.setCell ⟨g, k, none⟩ (.string t) = w1 at hS1 hct ⊢
  clear hck hfz
  have HS1 := Lib.hid hS1
  have HCT := Lib.hid hct
  have hk9 : (k : Int) + 1 ≤ 9223372036854775807 := by omega
  clear hS1 HS0
  have hz : ((t.size : Int) == 0) = false := by
    rw [beq_eq_false_iff_ne]; intro h0
    exact HNE.out (by rw [← HT.out]; exact List.eq_nil_of_length_eq_zero (by rw [← Lib.size_eq]; omega))
  have hz' : (t.size == 0) = false := by
    rw [beq_eq_false_iff_ne]; intro h0
    exact HNE.out (by rw [← HT.out]; exact List.eq_nil_of_length_eq_zero (by rw [← Lib.size_eq]; omega))
  have HST : Hid (∀ v, attrStep pc p.data.toList = v ↔ setAttr pc t.data.toList (Lib.toLowerA (cutA 61 (trimL p.data.toList))) (cutB 61 (trimL p.data.toList)) = v) := Lib.hid (fun v => by rw [step_set HNE.out HPR.out HVL.out, HT.out])
  go_upto_region 27 with (first
      | (go_at_call 31; refine (zzCut_any _ _ 61 _ rfl hts).mono ?_; rintro e w2' ⟨⟨x, y, rfl, hx, hy⟩, m, hw'⟩; have HBW2 : Hid (Below w1.heap.size w1 w2') := Lib.hid (hw' ▸ below_drewN (Below.refl _ _) _); clear hw'; have hxz := (cutA_size hx hts hts2).2; have hyz := (cutB_size hy hts2).1; have hyz2 := (cutB_size hy hts2).2; have HX : Hid (x.data.toList = cutA 61 (trimL p.data.toList)) := Lib.hid (by rw [hx, HT.out]); have HY : Hid (y.data.toList = cutB 61 (trimL p.data.toList)) := Lib.hid (by rw [hy, HT.out]); clear hx hy)
      | (go_at_call 34; refine (zzToLower_yes x _ hxz (by rw [HX.out]; exact HPR.out)).mono ?_; rintro e w3' ⟨⟨lw, rfl, hlw⟩, hbw3⟩; have HBW3 := Lib.hid hbw3; have HLW : Hid (lw.data.toList = Lib.toLowerA (cutA 61 (trimL p.data.toList))) := Lib.hid (by rw [hlw, HX.out]); clear hbw3 hlw)
      | (go_at_call 33; refine (pcv_any y false _ hyz).mono ?_; rintro e w' ⟨⟨z, rfl, hz2⟩, rfl⟩; rw [strip_no y.data.toList false rfl, HY.out, HVL.out]; rw [strip_no y.data.toList false rfl, HY.out, HVL.out] at hz2; have HZ : Hid (z.data.toList = cutB 61 (trimL p.data.toList)) := Lib.hid (by simpa using hz2); have hzz : z.size ≤ 4398046511104 := by rw [Lib.size_eq, HZ.out, ← HY.out, ← Lib.size_eq]; exact hyz2
         clear hz2))
  have hS3 := (HS1.out.kept HS1.out.size HBW2.out).kept (HS1.out.kept HS1.out.size HBW2.out).size HBW3.out
  have HS3 := Lib.hid hS3
  have HCT3 : Hid (w3'.cell? ⟨g, k, none⟩ = some (.string t)) := Lib.hid (cell_keep' (cell_keep' HCT.out HBW2.out) HBW3.out)
  clear hS3
  have e1 : (lw.toList == [115, 97, 109, 101, 115, 105, 116, 101]) = false := key_ne HLW.out (by rw [HKEY.out]; decide)
  have e2 : (lw.toList == [115, 101, 99, 117, 114, 101]) = false := key_ne HLW.out (by rw [HKEY.out]; decide)
  have e3 : (lw.toList == [104, 116, 116, 112, 111, 110, 108, 121]) = false := key_ne HLW.out (by rw [HKEY.out]; decide)
  have e4 : (lw.toList == [100, 111, 109, 97, 105, 110]) = false := key_ne HLW.out (by rw [HKEY.out]; decide)
  have e5 : (lw.toList == [109, 97, 120, 45, 97, 103, 101]) = true := key_eq HLW.out (by rw [HKEY.out]; rfl)
  have HNV : Hid (NumVars w3') := Lib.hid (HV.out.kept (HB.out ▸ HS3.out.be))
  have AT2 : Hid (Calls Tryz.prog 35 #[.string z] w3' fun e w' => (∃ (n : Int) (N : Nat), e = .returned (.tuple #[.int .i64 n, .iface 95 (.pointer (some ⟨N, 0, none⟩))])) ∧ Below w3'.heap.size w3' w') := Lib.hid ((atoi_any z w3' hzz HNV.out).mono fun e w' h => by
    obtain ⟨⟨v, h1, _⟩ | ⟨_, h1⟩, h2⟩ := h
    · rw [HZ.out, HNUM.out] at h1; cases h1
    · exact ⟨h1, h2⟩)
  have HR : Hid (attrStep pc p.data.toList = { pc with unp := pc.unp ++ [t.data.toList] }) := Lib.hid ((HST.out _).2 (by
    rw [HKEY.out, show setAttr pc t.data.toList kAge (cutB 61 (trimL p.data.toList)) = (match ageOf (cutB 61 (trimL p.data.toList)) with
      | none => { pc with unp := pc.unp ++ [t.data.toList] }
      | some n => { pc with age := n }) from rfl]
    unfold ageOf
    rw [HNUM.out]))
  go_upto_region 55 with (go_at_call 35; refine AT2.out.mono ?_; rintro e w7 ⟨⟨n9, N9, rfl⟩, hbw7⟩; have hS7 := HS3.out.kept HS3.out.size hbw7; have hct7 := cell_keep' HCT3.out hbw7; have HS7 := Lib.hid hS7; clear hbw7 hS7)
  obtain ⟨us, u1, u2, u3, u4⟩ := HS7.out.unp
  have U1 := Lib.hid u1
  have U2 := Lib.hid u2
  have U3 := Lib.hid u3
  have y11 : w7.cell? ⟨b, 11, none⟩ = some (.slice c.uo c.un c.uc) := HS7.out.at_.cell 11
  have y11a : (w7.alloc (.cells #[.string t] 9)).cell? ⟨b, 11, none⟩ = some (.slice c.uo c.un c.uc) := cell_keep' y11 ((Below.refl _ _).alloc (Nat.le_refl _) _)
  have HSZ := Lib.hid HS7.out.size
  have n63 : us.length + 1 ≤ maxLen := by unfold maxLen; omega
  have n47 : (us.length + 1) * 16 ≤ 140737488355328 := by omega
  have nB : B ≤ (w7.drew.alloc (.cells #[.string t] 9)).heap.size := by rw [alloc_sz']; exact Nat.le_succ_of_le HSZ.out
  have N63 := Lib.hid n63
  have N47 := Lib.hid n47
  have NB := Lib.hid nB
  clear u1 u2 u3 n63 n47 nB
  go_region_law (refine step_append_lies _ (by rfl) _ _ _ (by rfl) B 9 i0 _ 1 16 Tryz.underlying23 hi hz0 hz1 hz2 rfl (by omega) (.slice c.uo c.un c.uc) us.length (us.map Value.string) (by rfl) (World.ownsRow.alloc (w := w7.drew) U1.out _) ⟨w7.heap.size, 0, none⟩ 1 1 [.string t] (by rfl) (by rfl) (cell_one_new w7.drew _ _) (by intro u hu; simp only [List.mem_singleton] at hu; subst hu; rfl) (by omega) N63.out N47.out NB.out _ rfl ?_; intro g6 cap6 w6 hown6 hg6 hat6 hlt6; obtain ⟨⟨cc, cf⟩, hS6⟩ := HS7.out.add U2.out u4 U1.out U3.out hown6 hg6 hat6; have HS6 := Lib.hid hS6; clear hown6 hg6 hat6 hS6)
  all_goals
    go_wp2
    unfold PsPost
    (repeat apply Exists.intro)
    refine ⟨?rel, rfl⟩
    case rel => exact ⟨by go_num, _, by rw [HR.out]; exact HS6.out⟩


set_option maxHeartbeats 16000000 in
set_option maxRecDepth 1000000 in
theorem ps_age_zero {w wr : World} {B b g cap k : Nat} {xs : List ByteArray} {c : Ck} {pc : PC} {p : ByteArray} {c0 c1 c2 c3 c5 c6 c8 c20 c21 c22 c23 c24 c25 c26 c27 c28 c29 c30 c31 c32 c33 c34 c35 c36 c37 c38 c39 c40 c41 c42 c43 c44 c45 c46 c47 c48 c49 c50 c51 c52 c53 c54 c55 c56 c57 c58 c59 c60 c61 c62 c63 c64 c65 c66 c67 c68 c69 c70 c224 : Value} {u7 u11 u12 u13 u14 u15 u16 u17 u18 u19 u71 u72 u73 u74 u75 u76 u77 u78 u79 u80 u81 u82 u83 u84 u85 u86 u87 u88 u89 u90 u91 u92 u93 u94 u95 u96 u97 u98 u99 u100 u101 u102 u103 u104 u105 u106 u107 u108 u109 u110 u111 u112 u113 u114 u115 u116 u117 u118 u119 u120 u121 u122 u123 u124 u125 u126 u127 u128 u129 u130 u131 u132 u133 u134 u135 u136 u137 u138 u139 u140 u141 u142 u143 u144 u145 u146 u147 u148 u149 u150 u151 u152 u153 u154 u155 u156 u157 u158 u159 u160 u161 u162 u163 u164 u165 u166 u167 u168 u169 u170 u171 u172 u173 u174 u175 u176 u177 u178 u179 u180 u181 u182 u183 u184 u185 u186 u187 u188 u189 u190 u191 u192 u193 u194 u195 u196 u197 u198 u199 u200 u201 u202 u203 u204 u205 u206 u207 u208 u209 u210 u211 u212 u213 u214 u215 u216 u217 u218 u219 u220 u221 u222 u223 : Value}
    (hB : B = w.heap.size) (hv : NumVars w) (HS : SetS w B b g xs k k c pc wr) (hlt : k < xs.length) (hnz : xs.length ≤ 4398046511105) (hp : xs[k] = p) (hps : p.size ≤ 4398046511104)
    (HNE : Hid (trimL p.data.toList ≠ [])) (HPR : Hid (allB prB (cutA 61 (trimL p.data.toList)) = true)) (HVL : Hid (allB valB (cutB 61 (trimL p.data.toList)) = true))
    (HKEY : Hid (Lib.toLowerA (cutA 61 (trimL p.data.toList)) = kAge))
    {n : Int} (HNUM : Hid (numOf? (cutB 61 (trimL p.data.toList)) = some n))
    (HN0 : Hid (n ≠ 0)) (H48 : Hid ((cutB 61 (trimL p.data.toList)).head? = some 48))
    : Code.wp Tryz.prog psBody (Exit.then (PsPost c0 c1 c2 c3 c5 c6 c8 c20 c21 c22 c23 c24 c25 c26 c27 c28 c29 c30 c31 c32 c33 c34 c35 c36 c37 c38 c39 c40 c41 c42 c43 c44 c45 c46 c47 c48 c49 c50 c51 c52 c53 c54 c55 c56 c57 c58 c59 c60 c61 c62 c63 c64 c65 c66 c67 c68 c69 c70 c224 w B b g cap k xs (attrStep pc p.data.toList)) (fun _ _ _ => False)) ⟨#[c0, c1, c2, c3, .slice (some ⟨g, 0, none⟩) xs.length cap, c5, c6, u7, c8, .pointer (some ⟨b, 0, none⟩), .int .i64 (k : Int), u11, u12, u13, u14, u15, u16, u17, u18, u19, c20, c21, c22, c23, c24, c25, c26, c27, c28, c29, c30, c31, c32, c33, c34, c35, c36, c37, c38, c39, c40, c41, c42, c43, c44, c45, c46, c47, c48, c49, c50, c51, c52, c53, c54, c55, c56, c57, c58, c59, c60, c61, c62, c63, c64, c65, c66, c67, c68, c69, c70, u71, u72, u73, u74, u75, u76, u77, u78, u79, u80, u81, u82, u83, u84, u85, u86, u87, u88, u89, u90, u91, u92, u93, u94, u95, u96, u97, u98, u99, u100, u101, u102, u103, u104, u105, u106, u107, u108, u109, u110, u111, u112, u113, u114, u115, u116, u117, u118, u119, u120, u121, u122, u123, u124, u125, u126, u127, u128, u129, u130, u131, u132, u133, u134, u135, u136, u137, u138, u139, u140, u141, u142, u143, u144, u145, u146, u147, u148, u149, u150, u151, u152, u153, u154, u155, u156, u157, u158, u159, u160, u161, u162, u163, u164, u165, u166, u167, u168, u169, u170, u171, u172, u173, u174, u175, u176, u177, u178, u179, u180, u181, u182, u183, u184, u185, u186, u187, u188, u189, u190, u191, u192, u193, u194, u195, u196, u197, u198, u199, u200, u201, u202, u203, u204, u205, u206, u207, u208, u209, u210, u211, u212, u213, u214, u215, u216, u217, u218, u219, u220, u221, u222, u223, c224], []⟩ wr := by
  have HB := Lib.hid hB
  have HV := Lib.hid hv
  obtain ⟨i0, hi, hz0, hz1, hz2⟩ := info_parts strInfo
  obtain ⟨hck, hfz⟩ := HS.cell hlt
  rw [hp] at hck
  have HS0 := Lib.hid HS
  clear HS hp hB hv
  conv => arg 2; whnf
  go_upto_region 19 with (go_at_call 30; refine (zzTrim_any p _ hps).mono ?_; rintro e w' ⟨⟨t, rfl, ht⟩, rfl⟩; obtain ⟨hts, hts2⟩ := trim_size ht hps; have HT := Lib.hid ht; clear ht)
  obtain ⟨hS1, hct⟩ := HS0.out.trim hlt t
  generalize wr.setCell ⟨g, k, none⟩ (.string t) = w1 at hS1 hct ⊢
  clear hck hfz
  have HS1 := Lib.hid hS1
  have HCT := Lib.hid hct
  have hk9 : (k : Int) + 1 ≤ 9223372036854775807 := by omega
  clear hS1 HS0
  have hz : ((t.size : Int) == 0) = false := by
    rw [beq_eq_false_iff_ne]; intro h0
    exact HNE.out (by rw [← HT.out]; exact List.eq_nil_of_length_eq_zero (by rw [← Lib.size_eq]; omega))
  have hz' : (t.size == 0) = false := by
    rw [beq_eq_false_iff_ne]; intro h0
    exact HNE.out (by rw [← HT.out]; exact List.eq_nil_of_length_eq_zero (by rw [← Lib.size_eq]; omega))
  have HST : Hid (∀ v, attrStep pc p.data.toList = v ↔ setAttr pc t.data.toList (Lib.toLowerA (cutA 61 (trimL p.data.toList))) (cutB 61 (trimL p.data.toList)) = v) := Lib.hid (fun v => by rw [step_set HNE.out HPR.out HVL.out, HT.out])
  go_upto_region 27 with (first
      | (go_at_call 31; refine (zzCut_any _ _ 61 _ rfl hts).mono ?_; rintro e w2' ⟨⟨x, y, rfl, hx, hy⟩, m, hw'⟩; have HBW2 : Hid (Below w1.heap.size w1 w2') := Lib.hid (hw' ▸ below_drewN (Below.refl _ _) _); clear hw'; have hxz := (cutA_size hx hts hts2).2; have hyz := (cutB_size hy hts2).1; have hyz2 := (cutB_size hy hts2).2; have HX : Hid (x.data.toList = cutA 61 (trimL p.data.toList)) := Lib.hid (by rw [hx, HT.out]); have HY : Hid (y.data.toList = cutB 61 (trimL p.data.toList)) := Lib.hid (by rw [hy, HT.out]); clear hx hy)
      | (go_at_call 34; refine (zzToLower_yes x _ hxz (by rw [HX.out]; exact HPR.out)).mono ?_; rintro e w3' ⟨⟨lw, rfl, hlw⟩, hbw3⟩; have HBW3 := Lib.hid hbw3; have HLW : Hid (lw.data.toList = Lib.toLowerA (cutA 61 (trimL p.data.toList))) := Lib.hid (by rw [hlw, HX.out]); clear hbw3 hlw)
      | (go_at_call 33; refine (pcv_any y false _ hyz).mono ?_; rintro e w' ⟨⟨z, rfl, hz2⟩, rfl⟩; rw [strip_no y.data.toList false rfl, HY.out, HVL.out]; rw [strip_no y.data.toList false rfl, HY.out, HVL.out] at hz2; have HZ : Hid (z.data.toList = cutB 61 (trimL p.data.toList)) := Lib.hid (by simpa using hz2); have hzz : z.size ≤ 4398046511104 := by rw [Lib.size_eq, HZ.out, ← HY.out, ← Lib.size_eq]; exact hyz2
         clear hz2))
  have hS3 := (HS1.out.kept HS1.out.size HBW2.out).kept (HS1.out.kept HS1.out.size HBW2.out).size HBW3.out
  have HS3 := Lib.hid hS3
  have HCT3 : Hid (w3'.cell? ⟨g, k, none⟩ = some (.string t)) := Lib.hid (cell_keep' (cell_keep' HCT.out HBW2.out) HBW3.out)
  clear hS3
  have e1 : (lw.toList == [115, 97, 109, 101, 115, 105, 116, 101]) = false := key_ne HLW.out (by rw [HKEY.out]; decide)
  have e2 : (lw.toList == [115, 101, 99, 117, 114, 101]) = false := key_ne HLW.out (by rw [HKEY.out]; decide)
  have e3 : (lw.toList == [104, 116, 116, 112, 111, 110, 108, 121]) = false := key_ne HLW.out (by rw [HKEY.out]; decide)
  have e4 : (lw.toList == [100, 111, 109, 97, 105, 110]) = false := key_ne HLW.out (by rw [HKEY.out]; decide)
  have e5 : (lw.toList == [109, 97, 120, 45, 97, 103, 101]) = true := key_eq HLW.out (by rw [HKEY.out]; rfl)
  have HNV : Hid (NumVars w3') := Lib.hid (HV.out.kept (HB.out ▸ HS3.out.be))
  have hne : z.data.toList ≠ [] := by intro h; have h2 := HNUM.out; rw [← HZ.out, h] at h2; cases h2
  have hz1' : 0 < z.size := by rcases Nat.eq_zero_or_pos z.size with h | h; exact absurd (List.eq_nil_of_length_eq_zero (by rw [← Lib.size_eq]; exact h)) hne; exact h
  have hhd : (cutB 61 (trimL p.data.toList)).head? = some z[0] := by rw [← HZ.out, getElem_list z 0 hz1', List.head?_eq_getElem?, List.getElem?_eq_getElem]
  have HHD := Lib.hid hhd
  have AT2 : Hid (Calls Tryz.prog 35 #[.string z] w3' fun e w' => e = .returned (.tuple #[.int .i64 n, .nilIface]) ∧ Below w3'.heap.size w3' w') := Lib.hid ((atoi_any z w3' hzz HNV.out).mono fun e w' h => by
    obtain ⟨⟨v, h1, h3⟩ | ⟨h1, _⟩, h2⟩ := h
    · rw [HZ.out, HNUM.out] at h1; cases h1; exact ⟨h3, h2⟩
    · rw [HZ.out, HNUM.out] at h1; cases h1)
  clear hne hhd
  have HR : Hid (attrStep pc p.data.toList = { pc with unp := pc.unp ++ [t.data.toList] }) := Lib.hid ((HST.out _).2 (by
    rw [HKEY.out, show setAttr pc t.data.toList kAge (cutB 61 (trimL p.data.toList)) = (match ageOf (cutB 61 (trimL p.data.toList)) with
      | none => { pc with unp := pc.unp ++ [t.data.toList] }
      | some n => { pc with age := n }) from rfl]
    unfold ageOf
    rw [HNUM.out]
    simp only [H48.out, HN0.out, ne_eq, not_false_eq_true, and_self, if_true]))
  have q0 : (n == 0) = false := by rw [beq_eq_false_iff_ne]; exact HN0.out
  have q1 : ((z[0].toNat : Int) == 48) = true := by
    have h := HHD.out.symm.trans H48.out
    simp only [Option.some.injEq] at h
    rw [h]; rfl
  clear hk9 hts
  go_upto_region 55 with (go_at_call 35; refine AT2.out.mono ?_; rintro e w7 ⟨rfl, hbw7⟩; have hS7 := HS3.out.kept HS3.out.size hbw7; have hct7 := cell_keep' HCT3.out hbw7; have HS7 := Lib.hid hS7; clear hbw7 hS7)
  obtain ⟨us, u1, u2, u3, u4⟩ := HS7.out.unp
  have U1 := Lib.hid u1
  have U2 := Lib.hid u2
  have U3 := Lib.hid u3
  have y11 : w7.cell? ⟨b, 11, none⟩ = some (.slice c.uo c.un c.uc) := HS7.out.at_.cell 11
  have y11a : (w7.alloc (.cells #[.string t] 9)).cell? ⟨b, 11, none⟩ = some (.slice c.uo c.un c.uc) := cell_keep' y11 ((Below.refl _ _).alloc (Nat.le_refl _) _)
  have HSZ := Lib.hid HS7.out.size
  have n63 : us.length + 1 ≤ maxLen := by unfold maxLen; omega
  have n47 : (us.length + 1) * 16 ≤ 140737488355328 := by omega
  have nB : B ≤ (w7.drew.alloc (.cells #[.string t] 9)).heap.size := by rw [alloc_sz']; exact Nat.le_succ_of_le HSZ.out
  have N63 := Lib.hid n63
  have N47 := Lib.hid n47
  have NB := Lib.hid nB
  clear u1 u2 u3 n63 n47 nB
  go_region_law (refine step_append_lies _ (by rfl) _ _ _ (by rfl) B 9 i0 _ 1 16 Tryz.underlying23 hi hz0 hz1 hz2 rfl (by omega) (.slice c.uo c.un c.uc) us.length (us.map Value.string) (by rfl) (World.ownsRow.alloc (w := w7.drew) U1.out _) ⟨w7.heap.size, 0, none⟩ 1 1 [.string t] (by rfl) (by rfl) (cell_one_new w7.drew _ _) (by intro u hu; simp only [List.mem_singleton] at hu; subst hu; rfl) (by omega) N63.out N47.out NB.out _ rfl ?_; intro g6 cap6 w6 hown6 hg6 hat6 hlt6; obtain ⟨⟨cc, cf⟩, hS6⟩ := HS7.out.add U2.out u4 U1.out U3.out hown6 hg6 hat6; have HS6 := Lib.hid hS6; clear hown6 hg6 hat6 hS6)
  all_goals
    go_wp2
    unfold PsPost
    (repeat apply Exists.intro)
    refine ⟨?rel, rfl⟩
    case rel => exact ⟨by go_num, _, by rw [HR.out]; exact HS6.out⟩


set_option maxHeartbeats 16000000 in
set_option maxRecDepth 1000000 in
theorem ps_age_nought {w wr : World} {B b g cap k : Nat} {xs : List ByteArray} {c : Ck} {pc : PC} {p : ByteArray} {c0 c1 c2 c3 c5 c6 c8 c20 c21 c22 c23 c24 c25 c26 c27 c28 c29 c30 c31 c32 c33 c34 c35 c36 c37 c38 c39 c40 c41 c42 c43 c44 c45 c46 c47 c48 c49 c50 c51 c52 c53 c54 c55 c56 c57 c58 c59 c60 c61 c62 c63 c64 c65 c66 c67 c68 c69 c70 c224 : Value} {u7 u11 u12 u13 u14 u15 u16 u17 u18 u19 u71 u72 u73 u74 u75 u76 u77 u78 u79 u80 u81 u82 u83 u84 u85 u86 u87 u88 u89 u90 u91 u92 u93 u94 u95 u96 u97 u98 u99 u100 u101 u102 u103 u104 u105 u106 u107 u108 u109 u110 u111 u112 u113 u114 u115 u116 u117 u118 u119 u120 u121 u122 u123 u124 u125 u126 u127 u128 u129 u130 u131 u132 u133 u134 u135 u136 u137 u138 u139 u140 u141 u142 u143 u144 u145 u146 u147 u148 u149 u150 u151 u152 u153 u154 u155 u156 u157 u158 u159 u160 u161 u162 u163 u164 u165 u166 u167 u168 u169 u170 u171 u172 u173 u174 u175 u176 u177 u178 u179 u180 u181 u182 u183 u184 u185 u186 u187 u188 u189 u190 u191 u192 u193 u194 u195 u196 u197 u198 u199 u200 u201 u202 u203 u204 u205 u206 u207 u208 u209 u210 u211 u212 u213 u214 u215 u216 u217 u218 u219 u220 u221 u222 u223 : Value}
    (hB : B = w.heap.size) (hv : NumVars w) (HS : SetS w B b g xs k k c pc wr) (hlt : k < xs.length) (hnz : xs.length ≤ 4398046511105) (hp : xs[k] = p) (hps : p.size ≤ 4398046511104)
    (HNE : Hid (trimL p.data.toList ≠ [])) (HPR : Hid (allB prB (cutA 61 (trimL p.data.toList)) = true)) (HVL : Hid (allB valB (cutB 61 (trimL p.data.toList)) = true))
    (HKEY : Hid (Lib.toLowerA (cutA 61 (trimL p.data.toList)) = kAge))
    (HNUM : Hid (numOf? (cutB 61 (trimL p.data.toList)) = some 0))
    : Code.wp Tryz.prog psBody (Exit.then (PsPost c0 c1 c2 c3 c5 c6 c8 c20 c21 c22 c23 c24 c25 c26 c27 c28 c29 c30 c31 c32 c33 c34 c35 c36 c37 c38 c39 c40 c41 c42 c43 c44 c45 c46 c47 c48 c49 c50 c51 c52 c53 c54 c55 c56 c57 c58 c59 c60 c61 c62 c63 c64 c65 c66 c67 c68 c69 c70 c224 w B b g cap k xs (attrStep pc p.data.toList)) (fun _ _ _ => False)) ⟨#[c0, c1, c2, c3, .slice (some ⟨g, 0, none⟩) xs.length cap, c5, c6, u7, c8, .pointer (some ⟨b, 0, none⟩), .int .i64 (k : Int), u11, u12, u13, u14, u15, u16, u17, u18, u19, c20, c21, c22, c23, c24, c25, c26, c27, c28, c29, c30, c31, c32, c33, c34, c35, c36, c37, c38, c39, c40, c41, c42, c43, c44, c45, c46, c47, c48, c49, c50, c51, c52, c53, c54, c55, c56, c57, c58, c59, c60, c61, c62, c63, c64, c65, c66, c67, c68, c69, c70, u71, u72, u73, u74, u75, u76, u77, u78, u79, u80, u81, u82, u83, u84, u85, u86, u87, u88, u89, u90, u91, u92, u93, u94, u95, u96, u97, u98, u99, u100, u101, u102, u103, u104, u105, u106, u107, u108, u109, u110, u111, u112, u113, u114, u115, u116, u117, u118, u119, u120, u121, u122, u123, u124, u125, u126, u127, u128, u129, u130, u131, u132, u133, u134, u135, u136, u137, u138, u139, u140, u141, u142, u143, u144, u145, u146, u147, u148, u149, u150, u151, u152, u153, u154, u155, u156, u157, u158, u159, u160, u161, u162, u163, u164, u165, u166, u167, u168, u169, u170, u171, u172, u173, u174, u175, u176, u177, u178, u179, u180, u181, u182, u183, u184, u185, u186, u187, u188, u189, u190, u191, u192, u193, u194, u195, u196, u197, u198, u199, u200, u201, u202, u203, u204, u205, u206, u207, u208, u209, u210, u211, u212, u213, u214, u215, u216, u217, u218, u219, u220, u221, u222, u223, c224], []⟩ wr := by
  have HB := Lib.hid hB
  have HV := Lib.hid hv
  obtain ⟨i0, hi, hz0, hz1, hz2⟩ := info_parts strInfo
  obtain ⟨hck, hfz⟩ := HS.cell hlt
  rw [hp] at hck
  have HS0 := Lib.hid HS
  clear HS hp hB hv
  conv => arg 2; whnf
  go_upto_region 19 with (go_at_call 30; refine (zzTrim_any p _ hps).mono ?_; rintro e w' ⟨⟨t, rfl, ht⟩, rfl⟩; obtain ⟨hts, hts2⟩ := trim_size ht hps; have HT := Lib.hid ht; clear ht)
  obtain ⟨hS1, hct⟩ := HS0.out.trim hlt t
  generalize wr.setCell ⟨g, k, none⟩ (.string t) = w1 at hS1 hct ⊢
  clear hck hfz
  have HS1 := Lib.hid hS1
  have HCT := Lib.hid hct
  have hk9 : (k : Int) + 1 ≤ 9223372036854775807 := by omega
  clear hS1 HS0
  have hz : ((t.size : Int) == 0) = false := by
    rw [beq_eq_false_iff_ne]; intro h0
    exact HNE.out (by rw [← HT.out]; exact List.eq_nil_of_length_eq_zero (by rw [← Lib.size_eq]; omega))
  have hz' : (t.size == 0) = false := by
    rw [beq_eq_false_iff_ne]; intro h0
    exact HNE.out (by rw [← HT.out]; exact List.eq_nil_of_length_eq_zero (by rw [← Lib.size_eq]; omega))
  have HST : Hid (∀ v, attrStep pc p.data.toList = v ↔ setAttr pc t.data.toList (Lib.toLowerA (cutA 61 (trimL p.data.toList))) (cutB 61 (trimL p.data.toList)) = v) := Lib.hid (fun v => by rw [step_set HNE.out HPR.out HVL.out, HT.out])
  go_upto_region 27 with (first
      | (go_at_call 31; refine (zzCut_any _ _ 61 _ rfl hts).mono ?_; rintro e w2' ⟨⟨x, y, rfl, hx, hy⟩, m, hw'⟩; have HBW2 : Hid (Below w1.heap.size w1 w2') := Lib.hid (hw' ▸ below_drewN (Below.refl _ _) _); clear hw'; have hxz := (cutA_size hx hts hts2).2; have hyz := (cutB_size hy hts2).1; have hyz2 := (cutB_size hy hts2).2; have HX : Hid (x.data.toList = cutA 61 (trimL p.data.toList)) := Lib.hid (by rw [hx, HT.out]); have HY : Hid (y.data.toList = cutB 61 (trimL p.data.toList)) := Lib.hid (by rw [hy, HT.out]); clear hx hy)
      | (go_at_call 34; refine (zzToLower_yes x _ hxz (by rw [HX.out]; exact HPR.out)).mono ?_; rintro e w3' ⟨⟨lw, rfl, hlw⟩, hbw3⟩; have HBW3 := Lib.hid hbw3; have HLW : Hid (lw.data.toList = Lib.toLowerA (cutA 61 (trimL p.data.toList))) := Lib.hid (by rw [hlw, HX.out]); clear hbw3 hlw)
      | (go_at_call 33; refine (pcv_any y false _ hyz).mono ?_; rintro e w' ⟨⟨z, rfl, hz2⟩, rfl⟩; rw [strip_no y.data.toList false rfl, HY.out, HVL.out]; rw [strip_no y.data.toList false rfl, HY.out, HVL.out] at hz2; have HZ : Hid (z.data.toList = cutB 61 (trimL p.data.toList)) := Lib.hid (by simpa using hz2); have hzz : z.size ≤ 4398046511104 := by rw [Lib.size_eq, HZ.out, ← HY.out, ← Lib.size_eq]; exact hyz2
         clear hz2))
  have hS3 := (HS1.out.kept HS1.out.size HBW2.out).kept (HS1.out.kept HS1.out.size HBW2.out).size HBW3.out
  have HS3 := Lib.hid hS3
  have HCT3 : Hid (w3'.cell? ⟨g, k, none⟩ = some (.string t)) := Lib.hid (cell_keep' (cell_keep' HCT.out HBW2.out) HBW3.out)
  clear hS3
  have e1 : (lw.toList == [115, 97, 109, 101, 115, 105, 116, 101]) = false := key_ne HLW.out (by rw [HKEY.out]; decide)
  have e2 : (lw.toList == [115, 101, 99, 117, 114, 101]) = false := key_ne HLW.out (by rw [HKEY.out]; decide)
  have e3 : (lw.toList == [104, 116, 116, 112, 111, 110, 108, 121]) = false := key_ne HLW.out (by rw [HKEY.out]; decide)
  have e4 : (lw.toList == [100, 111, 109, 97, 105, 110]) = false := key_ne HLW.out (by rw [HKEY.out]; decide)
  have e5 : (lw.toList == [109, 97, 120, 45, 97, 103, 101]) = true := key_eq HLW.out (by rw [HKEY.out]; rfl)
  have HNV : Hid (NumVars w3') := Lib.hid (HV.out.kept (HB.out ▸ HS3.out.be))
  have hne : z.data.toList ≠ [] := by intro h; have h2 := HNUM.out; rw [← HZ.out, h] at h2; cases h2
  have hz1' : 0 < z.size := by rcases Nat.eq_zero_or_pos z.size with h | h; exact absurd (List.eq_nil_of_length_eq_zero (by rw [← Lib.size_eq]; exact h)) hne; exact h
  have hhd : (cutB 61 (trimL p.data.toList)).head? = some z[0] := by rw [← HZ.out, getElem_list z 0 hz1', List.head?_eq_getElem?, List.getElem?_eq_getElem]
  have HHD := Lib.hid hhd
  have AT2 : Hid (Calls Tryz.prog 35 #[.string z] w3' fun e w' => e = .returned (.tuple #[.int .i64 0, .nilIface]) ∧ Below w3'.heap.size w3' w') := Lib.hid ((atoi_any z w3' hzz HNV.out).mono fun e w' h => by
    obtain ⟨⟨v, h1, h3⟩ | ⟨h1, _⟩, h2⟩ := h
    · rw [HZ.out, HNUM.out] at h1; cases h1; exact ⟨h3, h2⟩
    · rw [HZ.out, HNUM.out] at h1; cases h1)
  clear hne hhd
  have HR : Hid (attrStep pc p.data.toList = { pc with age := -1 }) := Lib.hid ((HST.out _).2 (by
    rw [HKEY.out]
    refine set_age _ _ _ _ ?_
    unfold ageOf
    rw [HNUM.out]
    simp only
    rw [if_neg (by simp)]; rfl))
  have Q1 : Hid True := Lib.hid trivial
  have HLE : Hid True := Lib.hid trivial
  clear HHD
  clear hk9 hts HST HKEY HNE HPR HVL
  go_wp2_with (go_at_call 35; refine AT2.out.mono ?_; rintro e w7 ⟨rfl, hbw7⟩; have hS7 := HS3.out.kept HS3.out.size hbw7; have hct7 := cell_keep' HCT3.out hbw7; have y5 : w7.cell? ⟨b, 5, none⟩ = some (.int .i64 c.age) := hS7.at_.cell 5; have f5 : w7.frozen? ⟨b, 5, none⟩ = false := hS7.frozen 5; have HS6 : Hid (SetS w B b g xs (k + 1) k { c with age := -1 } { pc with age := -1 } (w7.setCell ⟨b, 5, none⟩ (.int .i64 (-1)))) := Lib.hid (hS7.put rfl ⟨rfl, rfl, rfl⟩ ⟨hS7.eq.name, hS7.eq.value, hS7.eq.quoted, hS7.eq.path, hS7.eq.domain, rfl, hS7.eq.secure, hS7.eq.http, hS7.eq.site, hS7.eq.part, hS7.eq.raw⟩ rfl); have HHS7 := Lib.hid hS7; clear hS7 hct7 hbw7)
  all_goals first
    | (have hx : ((z[0].toNat : Int) == 48) = true := by assumption
       rw [Q1.out] at hx
       cases hx)
    | (exfalso
       have hx := HLE.out
       omega)
    | (unfold PsPost
       (repeat apply Exists.intro)
       refine ⟨?rel, rfl⟩
       case rel => exact ⟨by go_num, _, by rw [HR.out]; exact HS6.out.le (Nat.le_succ _)⟩)


set_option maxHeartbeats 16000000 in
set_option maxRecDepth 1000000 in
theorem ps_age_neg {w wr : World} {B b g cap k : Nat} {xs : List ByteArray} {c : Ck} {pc : PC} {p : ByteArray} {c0 c1 c2 c3 c5 c6 c8 c20 c21 c22 c23 c24 c25 c26 c27 c28 c29 c30 c31 c32 c33 c34 c35 c36 c37 c38 c39 c40 c41 c42 c43 c44 c45 c46 c47 c48 c49 c50 c51 c52 c53 c54 c55 c56 c57 c58 c59 c60 c61 c62 c63 c64 c65 c66 c67 c68 c69 c70 c224 : Value} {u7 u11 u12 u13 u14 u15 u16 u17 u18 u19 u71 u72 u73 u74 u75 u76 u77 u78 u79 u80 u81 u82 u83 u84 u85 u86 u87 u88 u89 u90 u91 u92 u93 u94 u95 u96 u97 u98 u99 u100 u101 u102 u103 u104 u105 u106 u107 u108 u109 u110 u111 u112 u113 u114 u115 u116 u117 u118 u119 u120 u121 u122 u123 u124 u125 u126 u127 u128 u129 u130 u131 u132 u133 u134 u135 u136 u137 u138 u139 u140 u141 u142 u143 u144 u145 u146 u147 u148 u149 u150 u151 u152 u153 u154 u155 u156 u157 u158 u159 u160 u161 u162 u163 u164 u165 u166 u167 u168 u169 u170 u171 u172 u173 u174 u175 u176 u177 u178 u179 u180 u181 u182 u183 u184 u185 u186 u187 u188 u189 u190 u191 u192 u193 u194 u195 u196 u197 u198 u199 u200 u201 u202 u203 u204 u205 u206 u207 u208 u209 u210 u211 u212 u213 u214 u215 u216 u217 u218 u219 u220 u221 u222 u223 : Value}
    (hB : B = w.heap.size) (hv : NumVars w) (HS : SetS w B b g xs k k c pc wr) (hlt : k < xs.length) (hnz : xs.length ≤ 4398046511105) (hp : xs[k] = p) (hps : p.size ≤ 4398046511104)
    (HNE : Hid (trimL p.data.toList ≠ [])) (HPR : Hid (allB prB (cutA 61 (trimL p.data.toList)) = true)) (HVL : Hid (allB valB (cutB 61 (trimL p.data.toList)) = true))
    (HKEY : Hid (Lib.toLowerA (cutA 61 (trimL p.data.toList)) = kAge))
    {n : Int} (HNUM : Hid (numOf? (cutB 61 (trimL p.data.toList)) = some n))
    (HN0 : Hid (n ≠ 0)) (H48 : Hid ((cutB 61 (trimL p.data.toList)).head? ≠ some 48)) (hle : n ≤ 0)
    : Code.wp Tryz.prog psBody (Exit.then (PsPost c0 c1 c2 c3 c5 c6 c8 c20 c21 c22 c23 c24 c25 c26 c27 c28 c29 c30 c31 c32 c33 c34 c35 c36 c37 c38 c39 c40 c41 c42 c43 c44 c45 c46 c47 c48 c49 c50 c51 c52 c53 c54 c55 c56 c57 c58 c59 c60 c61 c62 c63 c64 c65 c66 c67 c68 c69 c70 c224 w B b g cap k xs (attrStep pc p.data.toList)) (fun _ _ _ => False)) ⟨#[c0, c1, c2, c3, .slice (some ⟨g, 0, none⟩) xs.length cap, c5, c6, u7, c8, .pointer (some ⟨b, 0, none⟩), .int .i64 (k : Int), u11, u12, u13, u14, u15, u16, u17, u18, u19, c20, c21, c22, c23, c24, c25, c26, c27, c28, c29, c30, c31, c32, c33, c34, c35, c36, c37, c38, c39, c40, c41, c42, c43, c44, c45, c46, c47, c48, c49, c50, c51, c52, c53, c54, c55, c56, c57, c58, c59, c60, c61, c62, c63, c64, c65, c66, c67, c68, c69, c70, u71, u72, u73, u74, u75, u76, u77, u78, u79, u80, u81, u82, u83, u84, u85, u86, u87, u88, u89, u90, u91, u92, u93, u94, u95, u96, u97, u98, u99, u100, u101, u102, u103, u104, u105, u106, u107, u108, u109, u110, u111, u112, u113, u114, u115, u116, u117, u118, u119, u120, u121, u122, u123, u124, u125, u126, u127, u128, u129, u130, u131, u132, u133, u134, u135, u136, u137, u138, u139, u140, u141, u142, u143, u144, u145, u146, u147, u148, u149, u150, u151, u152, u153, u154, u155, u156, u157, u158, u159, u160, u161, u162, u163, u164, u165, u166, u167, u168, u169, u170, u171, u172, u173, u174, u175, u176, u177, u178, u179, u180, u181, u182, u183, u184, u185, u186, u187, u188, u189, u190, u191, u192, u193, u194, u195, u196, u197, u198, u199, u200, u201, u202, u203, u204, u205, u206, u207, u208, u209, u210, u211, u212, u213, u214, u215, u216, u217, u218, u219, u220, u221, u222, u223, c224], []⟩ wr := by
  have HB := Lib.hid hB
  have HV := Lib.hid hv
  obtain ⟨i0, hi, hz0, hz1, hz2⟩ := info_parts strInfo
  obtain ⟨hck, hfz⟩ := HS.cell hlt
  rw [hp] at hck
  have HS0 := Lib.hid HS
  clear HS hp hB hv
  conv => arg 2; whnf
  go_upto_region 19 with (go_at_call 30; refine (zzTrim_any p _ hps).mono ?_; rintro e w' ⟨⟨t, rfl, ht⟩, rfl⟩; obtain ⟨hts, hts2⟩ := trim_size ht hps; have HT := Lib.hid ht; clear ht)
  obtain ⟨hS1, hct⟩ := HS0.out.trim hlt t
  generalize wr.setCell ⟨g, k, none⟩ (.string t) = w1 at hS1 hct ⊢
  clear hck hfz
  have HS1 := Lib.hid hS1
  have HCT := Lib.hid hct
  have hk9 : (k : Int) + 1 ≤ 9223372036854775807 := by omega
  clear hS1 HS0
  have hz : ((t.size : Int) == 0) = false := by
    rw [beq_eq_false_iff_ne]; intro h0
    exact HNE.out (by rw [← HT.out]; exact List.eq_nil_of_length_eq_zero (by rw [← Lib.size_eq]; omega))
  have hz' : (t.size == 0) = false := by
    rw [beq_eq_false_iff_ne]; intro h0
    exact HNE.out (by rw [← HT.out]; exact List.eq_nil_of_length_eq_zero (by rw [← Lib.size_eq]; omega))
  have HST : Hid (∀ v, attrStep pc p.data.toList = v ↔ setAttr pc t.data.toList (Lib.toLowerA (cutA 61 (trimL p.data.toList))) (cutB 61 (trimL p.data.toList)) = v) := Lib.hid (fun v => by rw [step_set HNE.out HPR.out HVL.out, HT.out])
  go_upto_region 27 with (first
      | (go_at_call 31; refine (zzCut_any _ _ 61 _ rfl hts).mono ?_; rintro e w2' ⟨⟨x, y, rfl, hx, hy⟩, m, hw'⟩; have HBW2 : Hid (Below w1.heap.size w1 w2') := Lib.hid (hw' ▸ below_drewN (Below.refl _ _) _); clear hw'; have hxz := (cutA_size hx hts hts2).2; have hyz := (cutB_size hy hts2).1; have hyz2 := (cutB_size hy hts2).2; have HX : Hid (x.data.toList = cutA 61 (trimL p.data.toList)) := Lib.hid (by rw [hx, HT.out]); have HY : Hid (y.data.toList = cutB 61 (trimL p.data.toList)) := Lib.hid (by rw [hy, HT.out]); clear hx hy)
      | (go_at_call 34; refine (zzToLower_yes x _ hxz (by rw [HX.out]; exact HPR.out)).mono ?_; rintro e w3' ⟨⟨lw, rfl, hlw⟩, hbw3⟩; have HBW3 := Lib.hid hbw3; have HLW : Hid (lw.data.toList = Lib.toLowerA (cutA 61 (trimL p.data.toList))) := Lib.hid (by rw [hlw, HX.out]); clear hbw3 hlw)
      | (go_at_call 33; refine (pcv_any y false _ hyz).mono ?_; rintro e w' ⟨⟨z, rfl, hz2⟩, rfl⟩; rw [strip_no y.data.toList false rfl, HY.out, HVL.out]; rw [strip_no y.data.toList false rfl, HY.out, HVL.out] at hz2; have HZ : Hid (z.data.toList = cutB 61 (trimL p.data.toList)) := Lib.hid (by simpa using hz2); have hzz : z.size ≤ 4398046511104 := by rw [Lib.size_eq, HZ.out, ← HY.out, ← Lib.size_eq]; exact hyz2
         clear hz2))
  have hS3 := (HS1.out.kept HS1.out.size HBW2.out).kept (HS1.out.kept HS1.out.size HBW2.out).size HBW3.out
  have HS3 := Lib.hid hS3
  have HCT3 : Hid (w3'.cell? ⟨g, k, none⟩ = some (.string t)) := Lib.hid (cell_keep' (cell_keep' HCT.out HBW2.out) HBW3.out)
  clear hS3
  have e1 : (lw.toList == [115, 97, 109, 101, 115, 105, 116, 101]) = false := key_ne HLW.out (by rw [HKEY.out]; decide)
  have e2 : (lw.toList == [115, 101, 99, 117, 114, 101]) = false := key_ne HLW.out (by rw [HKEY.out]; decide)
  have e3 : (lw.toList == [104, 116, 116, 112, 111, 110, 108, 121]) = false := key_ne HLW.out (by rw [HKEY.out]; decide)
  have e4 : (lw.toList == [100, 111, 109, 97, 105, 110]) = false := key_ne HLW.out (by rw [HKEY.out]; decide)
  have e5 : (lw.toList == [109, 97, 120, 45, 97, 103, 101]) = true := key_eq HLW.out (by rw [HKEY.out]; rfl)
  have HNV : Hid (NumVars w3') := Lib.hid (HV.out.kept (HB.out ▸ HS3.out.be))
  have hne : z.data.toList ≠ [] := by intro h; have h2 := HNUM.out; rw [← HZ.out, h] at h2; cases h2
  have hz1' : 0 < z.size := by rcases Nat.eq_zero_or_pos z.size with h | h; exact absurd (List.eq_nil_of_length_eq_zero (by rw [← Lib.size_eq]; exact h)) hne; exact h
  have hhd : (cutB 61 (trimL p.data.toList)).head? = some z[0] := by rw [← HZ.out, getElem_list z 0 hz1', List.head?_eq_getElem?, List.getElem?_eq_getElem]
  have HHD := Lib.hid hhd
  have AT2 : Hid (Calls Tryz.prog 35 #[.string z] w3' fun e w' => e = .returned (.tuple #[.int .i64 n, .nilIface]) ∧ Below w3'.heap.size w3' w') := Lib.hid ((atoi_any z w3' hzz HNV.out).mono fun e w' h => by
    obtain ⟨⟨v, h1, h3⟩ | ⟨h1, _⟩, h2⟩ := h
    · rw [HZ.out, HNUM.out] at h1; cases h1; exact ⟨h3, h2⟩
    · rw [HZ.out, HNUM.out] at h1; cases h1)
  clear hne hhd
  have HR : Hid (attrStep pc p.data.toList = { pc with age := -1 }) := Lib.hid ((HST.out _).2 (by
    rw [HKEY.out]
    refine set_age _ _ _ _ ?_
    unfold ageOf
    rw [HNUM.out]
    simp only
    rw [if_neg (fun h => H48.out h.2), if_pos hle]))
  have q0 : (n == 0) = false := by rw [beq_eq_false_iff_ne]; exact HN0.out
  have q2 : decide (n ≤ 0) = true := by rw [decide_eq_true_iff]; exact hle
  have HLE : Hid (¬ (1 : Int) ≤ 0) := Lib.hid (by omega)
  have q1 : ((z[0].toNat : Int) == 48) = false := by
    rw [beq_eq_false_iff_ne]; intro h
    exact H48.out (by rw [HHD.out]; exact congrArg some (UInt8.toNat_inj.1 (by show z[0].toNat = 48; omega)))
  have Q1 := Lib.hid q1
  clear q1 HHD
  clear hk9 hts HST HKEY HNE HPR HVL
  go_wp2_with (go_at_call 35; refine AT2.out.mono ?_; rintro e w7 ⟨rfl, hbw7⟩; have hS7 := HS3.out.kept HS3.out.size hbw7; have hct7 := cell_keep' HCT3.out hbw7; have y5 : w7.cell? ⟨b, 5, none⟩ = some (.int .i64 c.age) := hS7.at_.cell 5; have f5 : w7.frozen? ⟨b, 5, none⟩ = false := hS7.frozen 5; have HS6 : Hid (SetS w B b g xs (k + 1) k { c with age := -1 } { pc with age := -1 } (w7.setCell ⟨b, 5, none⟩ (.int .i64 (-1)))) := Lib.hid (hS7.put rfl ⟨rfl, rfl, rfl⟩ ⟨hS7.eq.name, hS7.eq.value, hS7.eq.quoted, hS7.eq.path, hS7.eq.domain, rfl, hS7.eq.secure, hS7.eq.http, hS7.eq.site, hS7.eq.part, hS7.eq.raw⟩ rfl); have HHS7 := Lib.hid hS7; clear hS7 hct7 hbw7)
  all_goals first
    | (have hx : ((z[0].toNat : Int) == 48) = true := by assumption
       rw [Q1.out] at hx
       cases hx)
    | (exfalso
       have hx := HLE.out
       omega)
    | (unfold PsPost
       (repeat apply Exists.intro)
       refine ⟨?rel, rfl⟩
       case rel => exact ⟨by go_num, _, by rw [HR.out]; exact HS6.out.le (Nat.le_succ _)⟩)


set_option maxHeartbeats 16000000 in
set_option maxRecDepth 1000000 in
theorem ps_age_pos {w wr : World} {B b g cap k : Nat} {xs : List ByteArray} {c : Ck} {pc : PC} {p : ByteArray} {c0 c1 c2 c3 c5 c6 c8 c20 c21 c22 c23 c24 c25 c26 c27 c28 c29 c30 c31 c32 c33 c34 c35 c36 c37 c38 c39 c40 c41 c42 c43 c44 c45 c46 c47 c48 c49 c50 c51 c52 c53 c54 c55 c56 c57 c58 c59 c60 c61 c62 c63 c64 c65 c66 c67 c68 c69 c70 c224 : Value} {u7 u11 u12 u13 u14 u15 u16 u17 u18 u19 u71 u72 u73 u74 u75 u76 u77 u78 u79 u80 u81 u82 u83 u84 u85 u86 u87 u88 u89 u90 u91 u92 u93 u94 u95 u96 u97 u98 u99 u100 u101 u102 u103 u104 u105 u106 u107 u108 u109 u110 u111 u112 u113 u114 u115 u116 u117 u118 u119 u120 u121 u122 u123 u124 u125 u126 u127 u128 u129 u130 u131 u132 u133 u134 u135 u136 u137 u138 u139 u140 u141 u142 u143 u144 u145 u146 u147 u148 u149 u150 u151 u152 u153 u154 u155 u156 u157 u158 u159 u160 u161 u162 u163 u164 u165 u166 u167 u168 u169 u170 u171 u172 u173 u174 u175 u176 u177 u178 u179 u180 u181 u182 u183 u184 u185 u186 u187 u188 u189 u190 u191 u192 u193 u194 u195 u196 u197 u198 u199 u200 u201 u202 u203 u204 u205 u206 u207 u208 u209 u210 u211 u212 u213 u214 u215 u216 u217 u218 u219 u220 u221 u222 u223 : Value}
    (hB : B = w.heap.size) (hv : NumVars w) (HS : SetS w B b g xs k k c pc wr) (hlt : k < xs.length) (hnz : xs.length ≤ 4398046511105) (hp : xs[k] = p) (hps : p.size ≤ 4398046511104)
    (HNE : Hid (trimL p.data.toList ≠ [])) (HPR : Hid (allB prB (cutA 61 (trimL p.data.toList)) = true)) (HVL : Hid (allB valB (cutB 61 (trimL p.data.toList)) = true))
    (HKEY : Hid (Lib.toLowerA (cutA 61 (trimL p.data.toList)) = kAge))
    {n : Int} (HNUM : Hid (numOf? (cutB 61 (trimL p.data.toList)) = some n))
    (HN0 : Hid (n ≠ 0)) (H48 : Hid ((cutB 61 (trimL p.data.toList)).head? ≠ some 48)) (HLE : Hid (¬ n ≤ 0))
    : Code.wp Tryz.prog psBody (Exit.then (PsPost c0 c1 c2 c3 c5 c6 c8 c20 c21 c22 c23 c24 c25 c26 c27 c28 c29 c30 c31 c32 c33 c34 c35 c36 c37 c38 c39 c40 c41 c42 c43 c44 c45 c46 c47 c48 c49 c50 c51 c52 c53 c54 c55 c56 c57 c58 c59 c60 c61 c62 c63 c64 c65 c66 c67 c68 c69 c70 c224 w B b g cap k xs (attrStep pc p.data.toList)) (fun _ _ _ => False)) ⟨#[c0, c1, c2, c3, .slice (some ⟨g, 0, none⟩) xs.length cap, c5, c6, u7, c8, .pointer (some ⟨b, 0, none⟩), .int .i64 (k : Int), u11, u12, u13, u14, u15, u16, u17, u18, u19, c20, c21, c22, c23, c24, c25, c26, c27, c28, c29, c30, c31, c32, c33, c34, c35, c36, c37, c38, c39, c40, c41, c42, c43, c44, c45, c46, c47, c48, c49, c50, c51, c52, c53, c54, c55, c56, c57, c58, c59, c60, c61, c62, c63, c64, c65, c66, c67, c68, c69, c70, u71, u72, u73, u74, u75, u76, u77, u78, u79, u80, u81, u82, u83, u84, u85, u86, u87, u88, u89, u90, u91, u92, u93, u94, u95, u96, u97, u98, u99, u100, u101, u102, u103, u104, u105, u106, u107, u108, u109, u110, u111, u112, u113, u114, u115, u116, u117, u118, u119, u120, u121, u122, u123, u124, u125, u126, u127, u128, u129, u130, u131, u132, u133, u134, u135, u136, u137, u138, u139, u140, u141, u142, u143, u144, u145, u146, u147, u148, u149, u150, u151, u152, u153, u154, u155, u156, u157, u158, u159, u160, u161, u162, u163, u164, u165, u166, u167, u168, u169, u170, u171, u172, u173, u174, u175, u176, u177, u178, u179, u180, u181, u182, u183, u184, u185, u186, u187, u188, u189, u190, u191, u192, u193, u194, u195, u196, u197, u198, u199, u200, u201, u202, u203, u204, u205, u206, u207, u208, u209, u210, u211, u212, u213, u214, u215, u216, u217, u218, u219, u220, u221, u222, u223, c224], []⟩ wr := by
  have HB := Lib.hid hB
  have HV := Lib.hid hv
  obtain ⟨i0, hi, hz0, hz1, hz2⟩ := info_parts strInfo
  obtain ⟨hck, hfz⟩ := HS.cell hlt
  rw [hp] at hck
  have HS0 := Lib.hid HS
  clear HS hp hB hv
  conv => arg 2; whnf
  go_upto_region 19 with (go_at_call 30; refine (zzTrim_any p _ hps).mono ?_; rintro e w' ⟨⟨t, rfl, ht⟩, rfl⟩; obtain ⟨hts, hts2⟩ := trim_size ht hps; have HT := Lib.hid ht; clear ht)
  obtain ⟨hS1, hct⟩ := HS0.out.trim hlt t
  generalize wr.setCell ⟨g, k, none⟩ (.string t) = w1 at hS1 hct ⊢
  clear hck hfz
  have HS1 := Lib.hid hS1
  have HCT := Lib.hid hct
  have hk9 : (k : Int) + 1 ≤ 9223372036854775807 := by omega
  clear hS1 HS0
  have hz : ((t.size : Int) == 0) = false := by
    rw [beq_eq_false_iff_ne]; intro h0
    exact HNE.out (by rw [← HT.out]; exact List.eq_nil_of_length_eq_zero (by rw [← Lib.size_eq]; omega))
  have hz' : (t.size == 0) = false := by
    rw [beq_eq_false_iff_ne]; intro h0
    exact HNE.out (by rw [← HT.out]; exact List.eq_nil_of_length_eq_zero (by rw [← Lib.size_eq]; omega))
  have HST : Hid (∀ v, attrStep pc p.data.toList = v ↔ setAttr pc t.data.toList (Lib.toLowerA (cutA 61 (trimL p.data.toList))) (cutB 61 (trimL p.data.toList)) = v) := Lib.hid (fun v => by rw [step_set HNE.out HPR.out HVL.out, HT.out])
  go_upto_region 27 with (first
      | (go_at_call 31; refine (zzCut_any _ _ 61 _ rfl hts).mono ?_; rintro e w2' ⟨⟨x, y, rfl, hx, hy⟩, m, hw'⟩; have HBW2 : Hid (Below w1.heap.size w1 w2') := Lib.hid (hw' ▸ below_drewN (Below.refl _ _) _); clear hw'; have hxz := (cutA_size hx hts hts2).2; have hyz := (cutB_size hy hts2).1; have hyz2 := (cutB_size hy hts2).2; have HX : Hid (x.data.toList = cutA 61 (trimL p.data.toList)) := Lib.hid (by rw [hx, HT.out]); have HY : Hid (y.data.toList = cutB 61 (trimL p.data.toList)) := Lib.hid (by rw [hy, HT.out]); clear hx hy)
      | (go_at_call 34; refine (zzToLower_yes x _ hxz (by rw [HX.out]; exact HPR.out)).mono ?_; rintro e w3' ⟨⟨lw, rfl, hlw⟩, hbw3⟩; have HBW3 := Lib.hid hbw3; have HLW : Hid (lw.data.toList = Lib.toLowerA (cutA 61 (trimL p.data.toList))) := Lib.hid (by rw [hlw, HX.out]); clear hbw3 hlw)
      | (go_at_call 33; refine (pcv_any y false _ hyz).mono ?_; rintro e w' ⟨⟨z, rfl, hz2⟩, rfl⟩; rw [strip_no y.data.toList false rfl, HY.out, HVL.out]; rw [strip_no y.data.toList false rfl, HY.out, HVL.out] at hz2; have HZ : Hid (z.data.toList = cutB 61 (trimL p.data.toList)) := Lib.hid (by simpa using hz2); have hzz : z.size ≤ 4398046511104 := by rw [Lib.size_eq, HZ.out, ← HY.out, ← Lib.size_eq]; exact hyz2
         clear hz2))
  have hS3 := (HS1.out.kept HS1.out.size HBW2.out).kept (HS1.out.kept HS1.out.size HBW2.out).size HBW3.out
  have HS3 := Lib.hid hS3
  have HCT3 : Hid (w3'.cell? ⟨g, k, none⟩ = some (.string t)) := Lib.hid (cell_keep' (cell_keep' HCT.out HBW2.out) HBW3.out)
  clear hS3
  have e1 : (lw.toList == [115, 97, 109, 101, 115, 105, 116, 101]) = false := key_ne HLW.out (by rw [HKEY.out]; decide)
  have e2 : (lw.toList == [115, 101, 99, 117, 114, 101]) = false := key_ne HLW.out (by rw [HKEY.out]; decide)
  have e3 : (lw.toList == [104, 116, 116, 112, 111, 110, 108, 121]) = false := key_ne HLW.out (by rw [HKEY.out]; decide)
  have e4 : (lw.toList == [100, 111, 109, 97, 105, 110]) = false := key_ne HLW.out (by rw [HKEY.out]; decide)
  have e5 : (lw.toList == [109, 97, 120, 45, 97, 103, 101]) = true := key_eq HLW.out (by rw [HKEY.out]; rfl)
  have HNV : Hid (NumVars w3') := Lib.hid (HV.out.kept (HB.out ▸ HS3.out.be))
  have hne : z.data.toList ≠ [] := by intro h; have h2 := HNUM.out; rw [← HZ.out, h] at h2; cases h2
  have hz1' : 0 < z.size := by rcases Nat.eq_zero_or_pos z.size with h | h; exact absurd (List.eq_nil_of_length_eq_zero (by rw [← Lib.size_eq]; exact h)) hne; exact h
  have hhd : (cutB 61 (trimL p.data.toList)).head? = some z[0] := by rw [← HZ.out, getElem_list z 0 hz1', List.head?_eq_getElem?, List.getElem?_eq_getElem]
  have HHD := Lib.hid hhd
  have AT2 : Hid (Calls Tryz.prog 35 #[.string z] w3' fun e w' => e = .returned (.tuple #[.int .i64 n, .nilIface]) ∧ Below w3'.heap.size w3' w') := Lib.hid ((atoi_any z w3' hzz HNV.out).mono fun e w' h => by
    obtain ⟨⟨v, h1, h3⟩ | ⟨h1, _⟩, h2⟩ := h
    · rw [HZ.out, HNUM.out] at h1; cases h1; exact ⟨h3, h2⟩
    · rw [HZ.out, HNUM.out] at h1; cases h1)
  clear hne hhd
  have HR : Hid (attrStep pc p.data.toList = { pc with age := n }) := Lib.hid ((HST.out _).2 (by
    rw [HKEY.out]
    refine set_age _ _ _ _ ?_
    unfold ageOf
    rw [HNUM.out]
    simp only
    rw [if_neg (fun h => H48.out h.2), if_neg (by have h := HLE.out; omega)]))
  have q0 : (n == 0) = false := by rw [beq_eq_false_iff_ne]; exact HN0.out
  have q1 : ((z[0].toNat : Int) == 48) = false := by
    rw [beq_eq_false_iff_ne]; intro h
    exact H48.out (by rw [HHD.out]; exact congrArg some (UInt8.toNat_inj.1 (by show z[0].toNat = 48; omega)))
  have Q1 := Lib.hid q1
  clear q1 HHD
  clear hk9 hts HST HKEY HNE HPR HVL
  go_wp2_with (go_at_call 35; refine AT2.out.mono ?_; rintro e w7 ⟨rfl, hbw7⟩; have hS7 := HS3.out.kept HS3.out.size hbw7; have hct7 := cell_keep' HCT3.out hbw7; have y5 : w7.cell? ⟨b, 5, none⟩ = some (.int .i64 c.age) := hS7.at_.cell 5; have f5 : w7.frozen? ⟨b, 5, none⟩ = false := hS7.frozen 5; have HS6 : Hid (SetS w B b g xs (k + 1) k { c with age := n } { pc with age := n } (w7.setCell ⟨b, 5, none⟩ (.int .i64 (n)))) := Lib.hid (hS7.put rfl ⟨rfl, rfl, rfl⟩ ⟨hS7.eq.name, hS7.eq.value, hS7.eq.quoted, hS7.eq.path, hS7.eq.domain, rfl, hS7.eq.secure, hS7.eq.http, hS7.eq.site, hS7.eq.part, hS7.eq.raw⟩ rfl); have HHS7 := Lib.hid hS7; clear hS7 hct7 hbw7)
  all_goals first
    | (have hx : ((z[0].toNat : Int) == 48) = true := by assumption
       rw [Q1.out] at hx
       cases hx)
    | (exfalso
       have hx := HLE.out
       omega)
    | (unfold PsPost
       (repeat apply Exists.intro)
       refine ⟨?rel, rfl⟩
       case rel => exact ⟨by go_num, _, by rw [HR.out]; exact HS6.out.le (Nat.le_succ _)⟩)

end Go.Proofs.YtfijncfoefbohaaGreatDoor
