/- A round of the loop of ParseSetCookie: attributes that set a field; SameSite. -/
import Derived.Test.YtfijncfoefbohaaGreatDoorPsA
namespace Go.Proofs.YtfijncfoefbohaaGreatDoor
open Go Go.RowKit


set_option maxHeartbeats 16000000 in
set_option maxRecDepth 1000000 in
theorem ps_secure {w wr : World} {B b g cap k : Nat} {xs : List ByteArray} {c : Ck} {pc : PC} {p : ByteArray} {c0 c1 c2 c3 c5 c6 c8 c20 c21 c22 c23 c24 c25 c26 c27 c28 c29 c30 c31 c32 c33 c34 c35 c36 c37 c38 c39 c40 c41 c42 c43 c44 c45 c46 c47 c48 c49 c50 c51 c52 c53 c54 c55 c56 c57 c58 c59 c60 c61 c62 c63 c64 c65 c66 c67 c68 c69 c70 c224 : Value} {u7 u11 u12 u13 u14 u15 u16 u17 u18 u19 u71 u72 u73 u74 u75 u76 u77 u78 u79 u80 u81 u82 u83 u84 u85 u86 u87 u88 u89 u90 u91 u92 u93 u94 u95 u96 u97 u98 u99 u100 u101 u102 u103 u104 u105 u106 u107 u108 u109 u110 u111 u112 u113 u114 u115 u116 u117 u118 u119 u120 u121 u122 u123 u124 u125 u126 u127 u128 u129 u130 u131 u132 u133 u134 u135 u136 u137 u138 u139 u140 u141 u142 u143 u144 u145 u146 u147 u148 u149 u150 u151 u152 u153 u154 u155 u156 u157 u158 u159 u160 u161 u162 u163 u164 u165 u166 u167 u168 u169 u170 u171 u172 u173 u174 u175 u176 u177 u178 u179 u180 u181 u182 u183 u184 u185 u186 u187 u188 u189 u190 u191 u192 u193 u194 u195 u196 u197 u198 u199 u200 u201 u202 u203 u204 u205 u206 u207 u208 u209 u210 u211 u212 u213 u214 u215 u216 u217 u218 u219 u220 u221 u222 u223 : Value}
    (hB : B = w.heap.size) (hv : NumVars w) (HS : SetS w B b g xs k k c pc wr) (hlt : k < xs.length) (hnz : xs.length ≤ 4398046511105) (hp : xs[k] = p) (hps : p.size ≤ 4398046511104)
    (HNE : Hid (trimL p.data.toList ≠ [])) (HPR : Hid (allB prB (cutA 61 (trimL p.data.toList)) = true)) (HVL : Hid (allB valB (cutB 61 (trimL p.data.toList)) = true))
    (HKEY : Hid (Lib.toLowerA (cutA 61 (trimL p.data.toList)) = kSecure))
    : Code.wp Tryz.prog psBody (Exit.then (PsPost c0 c1 c2 c3 c5 c6 c8 c20 c21 c22 c23 c24 c25 c26 c27 c28 c29 c30 c31 c32 c33 c34 c35 c36 c37 c38 c39 c40 c41 c42 c43 c44 c45 c46 c47 c48 c49 c50 c51 c52 c53 c54 c55 c56 c57 c58 c59 c60 c61 c62 c63 c64 c65 c66 c67 c68 c69 c70 c224 w B b g cap k xs (attrStep pc p.data.toList)) (fun _ _ _ => False)) ⟨#[c0, c1, c2, c3, .slice (some ⟨g, 0, none⟩) xs.length cap, c5, c6, u7, c8, .pointer (some ⟨b, 0, none⟩), .int .i64 (k : Int), u11, u12, u13, u14, u15, u16, u17, u18, u19, c20, c21, c22, c23, c24, c25, c26, c27, c28, c29, c30, c31, c32, c33, c34, c35, c36, c37, c38, c39, c40, c41, c42, c43, c44, c45, c46, c47, c48, c49, c50, c51, c52, c53, c54, c55, c56, c57, c58, c59, c60, c61, c62, c63, c64, c65, c66, c67, c68, c69, c70, u71, u72, u73, u74, u75, u76, u77, u78, u79, u80, u81, u82, u83, u84, u85, u86, u87, u88, u89, u90, u91, u92, u93, u94, u95, u96, u97, u98, u99, u100, u101, u102, u103, u104, u105, u106, u107, u108, u109, u110, u111, u112, u113, u114, u115, u116, u117, u118, u119, u120, u121, u122, u123, u124, u125, u126, u127, u128, u129, u130, u131, u132, u133, u134, u135, u136, u137, u138, u139, u140, u141, u142, u143, u144, u145, u146, u147, u148, u149, u150, u151, u152, u153, u154, u155, u156, u157, u158, u159, u160, u161, u162, u163, u164, u165, u166, u167, u168, u169, u170, u171, u172, u173, u174, u175, u176, u177, u178, u179, u180, u181, u182, u183, u184, u185, u186, u187, u188, u189, u190, u191, u192, u193, u194, u195, u196, u197, u198, u199, u200, u201, u202, u203, u204, u205, u206, u207, u208, u209, u210, u211, u212, u213, u214, u215, u216, u217, u218, u219, u220, u221, u222, u223, c224], []⟩ wr := by
  have HB := Lib.hid hB
  have HV := Lib.hid hv
  obtain ⟨i0, hi, hz0, hz1, hz2⟩ := info_parts strInfo
  obtain ⟨hck, hfz⟩ := HS.cell hlt
  rw [hp] at hck
  have HS0 := Lib.hid HS
  clear HS hp hB hv
  conv => arg 2; whnf
  go_upto_region 19 with (go_at_call 30; refine (zzTrim_any p _ hps).mono ?_; rintro e w' ⟨⟨t, rfl, ht⟩, rfl⟩; obtain ⟨hts, hts2⟩ := trim_size ht hps; have HT := Lib.hid ht; clear ht)
  obtain ⟨hS1, hct⟩ := HS0.out.trim hlt t
  generalize wr.setCell ⟨g, k, none⟩ (.string t) = w1 at hS1 hct ⊢
  clear hck hfz
  have HS1 := Lib.hid hS1
  have HCT := Lib.hid hct
  have hk9 : (k : Int) + 1 ≤ 9223372036854775807 := by omega
  clear hS1 HS0
  have hz : ((t.size : Int) == 0) = false := by
    rw [beq_eq_false_iff_ne]; intro h0
    exact HNE.out (by rw [← HT.out]; exact List.eq_nil_of_length_eq_zero (by rw [← Lib.size_eq]; omega))
  have hz' : (t.size == 0) = false := by
    rw [beq_eq_false_iff_ne]; intro h0
    exact HNE.out (by rw [← HT.out]; exact List.eq_nil_of_length_eq_zero (by rw [← Lib.size_eq]; omega))
  have HST : Hid (∀ v, attrStep pc p.data.toList = v ↔ setAttr pc t.data.toList (Lib.toLowerA (cutA 61 (trimL p.data.toList))) (cutB 61 (trimL p.data.toList)) = v) := Lib.hid (fun v => by rw [step_set HNE.out HPR.out HVL.out, HT.out])
  go_upto_region 27 with (first
      | (go_at_call 31; refine (zzCut_any _ _ 61 _ rfl hts).mono ?_; rintro e w2' ⟨⟨x, y, rfl, hx, hy⟩, m, hw'⟩; have HBW2 : Hid (Below w1.heap.size w1 w2') := Lib.hid (hw' ▸ below_drewN (Below.refl _ _) _); clear hw'; have hxz := (cutA_size hx hts hts2).2; have hyz := (cutB_size hy hts2).1; have hyz2 := (cutB_size hy hts2).2; have HX : Hid (x.data.toList = cutA 61 (trimL p.data.toList)) := Lib.hid (by rw [hx, HT.out]); have HY : Hid (y.data.toList = cutB 61 (trimL p.data.toList)) := Lib.hid (by rw [hy, HT.out]); clear hx hy)
      | (go_at_call 34; refine (zzToLower_yes x _ hxz (by rw [HX.out]; exact HPR.out)).mono ?_; rintro e w3' ⟨⟨lw, rfl, hlw⟩, hbw3⟩; have HBW3 := Lib.hid hbw3; have HLW : Hid (lw.data.toList = Lib.toLowerA (cutA 61 (trimL p.data.toList))) := Lib.hid (by rw [hlw, HX.out]); clear hbw3 hlw)
      | (go_at_call 33; refine (pcv_any y false _ hyz).mono ?_; rintro e w' ⟨⟨z, rfl, hz2⟩, rfl⟩; rw [strip_no y.data.toList false rfl, HY.out, HVL.out]; rw [strip_no y.data.toList false rfl, HY.out, HVL.out] at hz2; have HZ : Hid (z.data.toList = cutB 61 (trimL p.data.toList)) := Lib.hid (by simpa using hz2); have hzz : z.size ≤ 4398046511104 := by rw [Lib.size_eq, HZ.out, ← HY.out, ← Lib.size_eq]; exact hyz2
         clear hz2))
  have hS3 := (HS1.out.kept HS1.out.size HBW2.out).kept (HS1.out.kept HS1.out.size HBW2.out).size HBW3.out
  have HS3 := Lib.hid hS3
  have HCT3 : Hid (w3'.cell? ⟨g, k, none⟩ = some (.string t)) := Lib.hid (cell_keep' (cell_keep' HCT.out HBW2.out) HBW3.out)
  clear hS3
  have e1 : (lw.toList == [115, 97, 109, 101, 115, 105, 116, 101]) = false := key_ne HLW.out (by rw [HKEY.out]; decide)
  have e2 : (lw.toList == [115, 101, 99, 117, 114, 101]) = true := key_eq HLW.out (by rw [HKEY.out]; rfl)
  have HR : Hid (attrStep pc p.data.toList = { pc with secure := true }) := Lib.hid ((HST.out _).2 (by rw [HKEY.out, ← HZ.out]; rfl))
  have y6 : w3'.cell? ⟨b, 6, none⟩ = some (.bool c.secure) := HS3.out.at_.cell 6
  have f6 : w3'.frozen? ⟨b, 6, none⟩ = false := HS3.out.frozen 6
  have HS6 : Hid (SetS w B b g xs (k + 1) k { c with secure := true } { pc with secure := true } (w3'.setCell ⟨b, 6, none⟩ (.bool true))) := Lib.hid (HS3.out.put rfl ⟨rfl, rfl, rfl⟩ ⟨HS3.out.eq.name, HS3.out.eq.value, HS3.out.eq.quoted, HS3.out.eq.path, HS3.out.eq.domain, HS3.out.eq.age, rfl, HS3.out.eq.http, HS3.out.eq.site, HS3.out.eq.part, HS3.out.eq.raw⟩ rfl)
  go_wp2
  unfold PsPost
  (repeat apply Exists.intro)
  refine ⟨?rel, rfl⟩
  case rel => exact ⟨by go_num, _, by rw [HR.out]; exact HS6.out.le (Nat.le_succ _)⟩


set_option maxHeartbeats 16000000 in
set_option maxRecDepth 1000000 in
theorem ps_http {w wr : World} {B b g cap k : Nat} {xs : List ByteArray} {c : Ck} {pc : PC} {p : ByteArray} {c0 c1 c2 c3 c5 c6 c8 c20 c21 c22 c23 c24 c25 c26 c27 c28 c29 c30 c31 c32 c33 c34 c35 c36 c37 c38 c39 c40 c41 c42 c43 c44 c45 c46 c47 c48 c49 c50 c51 c52 c53 c54 c55 c56 c57 c58 c59 c60 c61 c62 c63 c64 c65 c66 c67 c68 c69 c70 c224 : Value} {u7 u11 u12 u13 u14 u15 u16 u17 u18 u19 u71 u72 u73 u74 u75 u76 u77 u78 u79 u80 u81 u82 u83 u84 u85 u86 u87 u88 u89 u90 u91 u92 u93 u94 u95 u96 u97 u98 u99 u100 u101 u102 u103 u104 u105 u106 u107 u108 u109 u110 u111 u112 u113 u114 u115 u116 u117 u118 u119 u120 u121 u122 u123 u124 u125 u126 u127 u128 u129 u130 u131 u132 u133 u134 u135 u136 u137 u138 u139 u140 u141 u142 u143 u144 u145 u146 u147 u148 u149 u150 u151 u152 u153 u154 u155 u156 u157 u158 u159 u160 u161 u162 u163 u164 u165 u166 u167 u168 u169 u170 u171 u172 u173 u174 u175 u176 u177 u178 u179 u180 u181 u182 u183 u184 u185 u186 u187 u188 u189 u190 u191 u192 u193 u194 u195 u196 u197 u198 u199 u200 u201 u202 u203 u204 u205 u206 u207 u208 u209 u210 u211 u212 u213 u214 u215 u216 u217 u218 u219 u220 u221 u222 u223 : Value}
    (hB : B = w.heap.size) (hv : NumVars w) (HS : SetS w B b g xs k k c pc wr) (hlt : k < xs.length) (hnz : xs.length ≤ 4398046511105) (hp : xs[k] = p) (hps : p.size ≤ 4398046511104)
    (HNE : Hid (trimL p.data.toList ≠ [])) (HPR : Hid (allB prB (cutA 61 (trimL p.data.toList)) = true)) (HVL : Hid (allB valB (cutB 61 (trimL p.data.toList)) = true))
    (HKEY : Hid (Lib.toLowerA (cutA 61 (trimL p.data.toList)) = kHttp))
    : Code.wp Tryz.prog psBody (Exit.then (PsPost c0 c1 c2 c3 c5 c6 c8 c20 c21 c22 c23 c24 c25 c26 c27 c28 c29 c30 c31 c32 c33 c34 c35 c36 c37 c38 c39 c40 c41 c42 c43 c44 c45 c46 c47 c48 c49 c50 c51 c52 c53 c54 c55 c56 c57 c58 c59 c60 c61 c62 c63 c64 c65 c66 c67 c68 c69 c70 c224 w B b g cap k xs (attrStep pc p.data.toList)) (fun _ _ _ => False)) ⟨#[c0, c1, c2, c3, .slice (some ⟨g, 0, none⟩) xs.length cap, c5, c6, u7, c8, .pointer (some ⟨b, 0, none⟩), .int .i64 (k : Int), u11, u12, u13, u14, u15, u16, u17, u18, u19, c20, c21, c22, c23, c24, c25, c26, c27, c28, c29, c30, c31, c32, c33, c34, c35, c36, c37, c38, c39, c40, c41, c42, c43, c44, c45, c46, c47, c48, c49, c50, c51, c52, c53, c54, c55, c56, c57, c58, c59, c60, c61, c62, c63, c64, c65, c66, c67, c68, c69, c70, u71, u72, u73, u74, u75, u76, u77, u78, u79, u80, u81, u82, u83, u84, u85, u86, u87, u88, u89, u90, u91, u92, u93, u94, u95, u96, u97, u98, u99, u100, u101, u102, u103, u104, u105, u106, u107, u108, u109, u110, u111, u112, u113, u114, u115, u116, u117, u118, u119, u120, u121, u122, u123, u124, u125, u126, u127, u128, u129, u130, u131, u132, u133, u134, u135, u136, u137, u138, u139, u140, u141, u142, u143, u144, u145, u146, u147, u148, u149, u150, u151, u152, u153, u154, u155, u156, u157, u158, u159, u160, u161, u162, u163, u164, u165, u166, u167, u168, u169, u170, u171, u172, u173, u174, u175, u176, u177, u178, u179, u180, u181, u182, u183, u184, u185, u186, u187, u188, u189, u190, u191, u192, u193, u194, u195, u196, u197, u198, u199, u200, u201, u202, u203, u204, u205, u206, u207, u208, u209, u210, u211, u212, u213, u214, u215, u216, u217, u218, u219, u220, u221, u222, u223, c224], []⟩ wr := by
  have HB := Lib.hid hB
  have HV := Lib.hid hv
  obtain ⟨i0, hi, hz0, hz1, hz2⟩ := info_parts strInfo
  obtain ⟨hck, hfz⟩ := HS.cell hlt
  rw [hp] at hck
  have HS0 := Lib.hid HS
  clear HS hp hB hv
  conv => arg 2; whnf
  go_upto_region 19 with (go_at_call 30; refine (zzTrim_any p _ hps).mono ?_; rintro e w' ⟨⟨t, rfl, ht⟩, rfl⟩; obtain ⟨hts, hts2⟩ := trim_size ht hps; have HT := Lib.hid ht; clear ht)
  obtain ⟨hS1, hct⟩ := HS0.out.trim hlt t
  generalize wr.setCell ⟨g, k, none⟩ (.string t) = w1 at hS1 hct ⊢
  clear hck hfz
  have HS1 := Lib.hid hS1
  have HCT := Lib.hid hct
  have hk9 : (k : Int) + 1 ≤ 9223372036854775807 := by omega
  clear hS1 HS0
  have hz : ((t.size : Int) == 0) = false := by
    rw [beq_eq_false_iff_ne]; intro h0
    exact HNE.out (by rw [← HT.out]; exact List.eq_nil_of_length_eq_zero (by rw [← Lib.size_eq]; omega))
  have hz' : (t.size == 0) = false := by
    rw [beq_eq_false_iff_ne]; intro h0
    exact HNE.out (by rw [← HT.out]; exact List.eq_nil_of_length_eq_zero (by rw [← Lib.size_eq]; omega))
  have HST : Hid (∀ v, attrStep pc p.data.toList = v ↔ setAttr pc t.data.toList (Lib.toLowerA (cutA 61 (trimL p.data.toList))) (cutB 61 (trimL p.data.toList)) = v) := Lib.hid (fun v => by rw [step_set HNE.out HPR.out HVL.out, HT.out])
  go_upto_region 27 with (first
      | (go_at_call 31; refine (zzCut_any _ _ 61 _ rfl hts).mono ?_; rintro e w2' ⟨⟨x, y, rfl, hx, hy⟩, m, hw'⟩; have HBW2 : Hid (Below w1.heap.size w1 w2') := Lib.hid (hw' ▸ below_drewN (Below.refl _ _) _); clear hw'; have hxz := (cutA_size hx hts hts2).2; have hyz := (cutB_size hy hts2).1; have hyz2 := (cutB_size hy hts2).2; have HX : Hid (x.data.toList = cutA 61 (trimL p.data.toList)) := Lib.hid (by rw [hx, HT.out]); have HY : Hid (y.data.toList = cutB 61 (trimL p.data.toList)) := Lib.hid (by rw [hy, HT.out]); clear hx hy)
      | (go_at_call 34; refine (zzToLower_yes x _ hxz (by rw [HX.out]; exact HPR.out)).mono ?_; rintro e w3' ⟨⟨lw, rfl, hlw⟩, hbw3⟩; have HBW3 := Lib.hid hbw3; have HLW : Hid (lw.data.toList = Lib.toLowerA (cutA 61 (trimL p.data.toList))) := Lib.hid (by rw [hlw, HX.out]); clear hbw3 hlw)
      | (go_at_call 33; refine (pcv_any y false _ hyz).mono ?_; rintro e w' ⟨⟨z, rfl, hz2⟩, rfl⟩; rw [strip_no y.data.toList false rfl, HY.out, HVL.out]; rw [strip_no y.data.toList false rfl, HY.out, HVL.out] at hz2; have HZ : Hid (z.data.toList = cutB 61 (trimL p.data.toList)) := Lib.hid (by simpa using hz2); have hzz : z.size ≤ 4398046511104 := by rw [Lib.size_eq, HZ.out, ← HY.out, ← Lib.size_eq]; exact hyz2
         clear hz2))
  have hS3 := (HS1.out.kept HS1.out.size HBW2.out).kept (HS1.out.kept HS1.out.size HBW2.out).size HBW3.out
  have HS3 := Lib.hid hS3
  have HCT3 : Hid (w3'.cell? ⟨g, k, none⟩ = some (.string t)) := Lib.hid (cell_keep' (cell_keep' HCT.out HBW2.out) HBW3.out)
  clear hS3
  have e1 : (lw.toList == [115, 97, 109, 101, 115, 105, 116, 101]) = false := key_ne HLW.out (by rw [HKEY.out]; decide)
  have e2 : (lw.toList == [115, 101, 99, 117, 114, 101]) = false := key_ne HLW.out (by rw [HKEY.out]; decide)
  have e3 : (lw.toList == [104, 116, 116, 112, 111, 110, 108, 121]) = true := key_eq HLW.out (by rw [HKEY.out]; rfl)
  have HR : Hid (attrStep pc p.data.toList = { pc with http := true }) := Lib.hid ((HST.out _).2 (by rw [HKEY.out, ← HZ.out]; rfl))
  have y7 : w3'.cell? ⟨b, 7, none⟩ = some (.bool c.http) := HS3.out.at_.cell 7
  have f7 : w3'.frozen? ⟨b, 7, none⟩ = false := HS3.out.frozen 7
  have HS6 : Hid (SetS w B b g xs (k + 1) k { c with http := true } { pc with http := true } (w3'.setCell ⟨b, 7, none⟩ (.bool true))) := Lib.hid (HS3.out.put rfl ⟨rfl, rfl, rfl⟩ ⟨HS3.out.eq.name, HS3.out.eq.value, HS3.out.eq.quoted, HS3.out.eq.path, HS3.out.eq.domain, HS3.out.eq.age, HS3.out.eq.secure, rfl, HS3.out.eq.site, HS3.out.eq.part, HS3.out.eq.raw⟩ rfl)
  go_wp2
  unfold PsPost
  (repeat apply Exists.intro)
  refine ⟨?rel, rfl⟩
  case rel => exact ⟨by go_num, _, by rw [HR.out]; exact HS6.out.le (Nat.le_succ _)⟩


set_option maxHeartbeats 16000000 in
set_option maxRecDepth 1000000 in
theorem ps_domain {w wr : World} {B b g cap k : Nat} {xs : List ByteArray} {c : Ck} {pc : PC} {p : ByteArray} {c0 c1 c2 c3 c5 c6 c8 c20 c21 c22 c23 c24 c25 c26 c27 c28 c29 c30 c31 c32 c33 c34 c35 c36 c37 c38 c39 c40 c41 c42 c43 c44 c45 c46 c47 c48 c49 c50 c51 c52 c53 c54 c55 c56 c57 c58 c59 c60 c61 c62 c63 c64 c65 c66 c67 c68 c69 c70 c224 : Value} {u7 u11 u12 u13 u14 u15 u16 u17 u18 u19 u71 u72 u73 u74 u75 u76 u77 u78 u79 u80 u81 u82 u83 u84 u85 u86 u87 u88 u89 u90 u91 u92 u93 u94 u95 u96 u97 u98 u99 u100 u101 u102 u103 u104 u105 u106 u107 u108 u109 u110 u111 u112 u113 u114 u115 u116 u117 u118 u119 u120 u121 u122 u123 u124 u125 u126 u127 u128 u129 u130 u131 u132 u133 u134 u135 u136 u137 u138 u139 u140 u141 u142 u143 u144 u145 u146 u147 u148 u149 u150 u151 u152 u153 u154 u155 u156 u157 u158 u159 u160 u161 u162 u163 u164 u165 u166 u167 u168 u169 u170 u171 u172 u173 u174 u175 u176 u177 u178 u179 u180 u181 u182 u183 u184 u185 u186 u187 u188 u189 u190 u191 u192 u193 u194 u195 u196 u197 u198 u199 u200 u201 u202 u203 u204 u205 u206 u207 u208 u209 u210 u211 u212 u213 u214 u215 u216 u217 u218 u219 u220 u221 u222 u223 : Value}
    (hB : B = w.heap.size) (hv : NumVars w) (HS : SetS w B b g xs k k c pc wr) (hlt : k < xs.length) (hnz : xs.length ≤ 4398046511105) (hp : xs[k] = p) (hps : p.size ≤ 4398046511104)
    (HNE : Hid (trimL p.data.toList ≠ [])) (HPR : Hid (allB prB (cutA 61 (trimL p.data.toList)) = true)) (HVL : Hid (allB valB (cutB 61 (trimL p.data.toList)) = true))
    (HKEY : Hid (Lib.toLowerA (cutA 61 (trimL p.data.toList)) = kDomain))
    : Code.wp Tryz.prog psBody (Exit.then (PsPost c0 c1 c2 c3 c5 c6 c8 c20 c21 c22 c23 c24 c25 c26 c27 c28 c29 c30 c31 c32 c33 c34 c35 c36 c37 c38 c39 c40 c41 c42 c43 c44 c45 c46 c47 c48 c49 c50 c51 c52 c53 c54 c55 c56 c57 c58 c59 c60 c61 c62 c63 c64 c65 c66 c67 c68 c69 c70 c224 w B b g cap k xs (attrStep pc p.data.toList)) (fun _ _ _ => False)) ⟨#[c0, c1, c2, c3, .slice (some ⟨g, 0, none⟩) xs.length cap, c5, c6, u7, c8, .pointer (some ⟨b, 0, none⟩), .int .i64 (k : Int), u11, u12, u13, u14, u15, u16, u17, u18, u19, c20, c21, c22, c23, c24, c25, c26, c27, c28, c29, c30, c31, c32, c33, c34, c35, c36, c37, c38, c39, c40, c41, c42, c43, c44, c45, c46, c47, c48, c49, c50, c51, c52, c53, c54, c55, c56, c57, c58, c59, c60, c61, c62, c63, c64, c65, c66, c67, c68, c69, c70, u71, u72, u73, u74, u75, u76, u77, u78, u79, u80, u81, u82, u83, u84, u85, u86, u87, u88, u89, u90, u91, u92, u93, u94, u95, u96, u97, u98, u99, u100, u101, u102, u103, u104, u105, u106, u107, u108, u109, u110, u111, u112, u113, u114, u115, u116, u117, u118, u119, u120, u121, u122, u123, u124, u125, u126, u127, u128, u129, u130, u131, u132, u133, u134, u135, u136, u137, u138, u139, u140, u141, u142, u143, u144, u145, u146, u147, u148, u149, u150, u151, u152, u153, u154, u155, u156, u157, u158, u159, u160, u161, u162, u163, u164, u165, u166, u167, u168, u169, u170, u171, u172, u173, u174, u175, u176, u177, u178, u179, u180, u181, u182, u183, u184, u185, u186, u187, u188, u189, u190, u191, u192, u193, u194, u195, u196, u197, u198, u199, u200, u201, u202, u203, u204, u205, u206, u207, u208, u209, u210, u211, u212, u213, u214, u215, u216, u217, u218, u219, u220, u221, u222, u223, c224], []⟩ wr := by
  have HB := Lib.hid hB
  have HV := Lib.hid hv
  obtain ⟨i0, hi, hz0, hz1, hz2⟩ := info_parts strInfo
  obtain ⟨hck, hfz⟩ := HS.cell hlt
  rw [hp] at hck
  have HS0 := Lib.hid HS
  clear HS hp hB hv
  conv => arg 2; whnf
  go_upto_region 19 with (go_at_call 30; refine (zzTrim_any p _ hps).mono ?_; rintro e w' ⟨⟨t, rfl, ht⟩, rfl⟩; obtain ⟨hts, hts2⟩ := trim_size ht hps; have HT := Lib.hid ht; clear ht)
  obtain ⟨hS1, hct⟩ := HS0.out.trim hlt t
  generalize wr.setCell ⟨g, k, none⟩ (.string t) = w1 at hS1 hct ⊢
  clear hck hfz
  have HS1 := Lib.hid hS1
  have HCT := Lib.hid hct
  have hk9 : (k : Int) + 1 ≤ 9223372036854775807 := by omega
  clear hS1 HS0
  have hz : ((t.size : Int) == 0) = false := by
    rw [beq_eq_false_iff_ne]; intro h0
    exact HNE.out (by rw [← HT.out]; exact List.eq_nil_of_length_eq_zero (by rw [← Lib.size_eq]; omega))
  have hz' : (t.size == 0) = false := by
    rw [beq_eq_false_iff_ne]; intro h0
    exact HNE.out (by rw [← HT.out]; exact List.eq_nil_of_length_eq_zero (by rw [← Lib.size_eq]; omega))
  have HST : Hid (∀ v, attrStep pc p.data.toList = v ↔ setAttr pc t.data.toList (Lib.toLowerA (cutA 61 (trimL p.data.toList))) (cutB 61 (trimL p.data.toList)) = v) := Lib.hid (fun v => by rw [step_set HNE.out HPR.out HVL.out, HT.out])
  go_upto_region 27 with (first
      | (go_at_call 31; refine (zzCut_any _ _ 61 _ rfl hts).mono ?_; rintro e w2' ⟨⟨x, y, rfl, hx, hy⟩, m, hw'⟩; have HBW2 : Hid (Below w1.heap.size w1 w2') := Lib.hid (hw' ▸ below_drewN (Below.refl _ _) _); clear hw'; have hxz := (cutA_size hx hts hts2).2; have hyz := (cutB_size hy hts2).1; have hyz2 := (cutB_size hy hts2).2; have HX : Hid (x.data.toList = cutA 61 (trimL p.data.toList)) := Lib.hid (by rw [hx, HT.out]); have HY : Hid (y.data.toList = cutB 61 (trimL p.data.toList)) := Lib.hid (by rw [hy, HT.out]); clear hx hy)
      | (go_at_call 34; refine (zzToLower_yes x _ hxz (by rw [HX.out]; exact HPR.out)).mono ?_; rintro e w3' ⟨⟨lw, rfl, hlw⟩, hbw3⟩; have HBW3 := Lib.hid hbw3; have HLW : Hid (lw.data.toList = Lib.toLowerA (cutA 61 (trimL p.data.toList))) := Lib.hid (by rw [hlw, HX.out]); clear hbw3 hlw)
      | (go_at_call 33; refine (pcv_any y false _ hyz).mono ?_; rintro e w' ⟨⟨z, rfl, hz2⟩, rfl⟩; rw [strip_no y.data.toList false rfl, HY.out, HVL.out]; rw [strip_no y.data.toList false rfl, HY.out, HVL.out] at hz2; have HZ : Hid (z.data.toList = cutB 61 (trimL p.data.toList)) := Lib.hid (by simpa using hz2); have hzz : z.size ≤ 4398046511104 := by rw [Lib.size_eq, HZ.out, ← HY.out, ← Lib.size_eq]; exact hyz2
         clear hz2))
  have hS3 := (HS1.out.kept HS1.out.size HBW2.out).kept (HS1.out.kept HS1.out.size HBW2.out).size HBW3.out
  have HS3 := Lib.hid hS3
  have HCT3 : Hid (w3'.cell? ⟨g, k, none⟩ = some (.string t)) := Lib.hid (cell_keep' (cell_keep' HCT.out HBW2.out) HBW3.out)
  clear hS3
  have e1 : (lw.toList == [115, 97, 109, 101, 115, 105, 116, 101]) = false := key_ne HLW.out (by rw [HKEY.out]; decide)
  have e2 : (lw.toList == [115, 101, 99, 117, 114, 101]) = false := key_ne HLW.out (by rw [HKEY.out]; decide)
  have e3 : (lw.toList == [104, 116, 116, 112, 111, 110, 108, 121]) = false := key_ne HLW.out (by rw [HKEY.out]; decide)
  have e4 : (lw.toList == [100, 111, 109, 97, 105, 110]) = true := key_eq HLW.out (by rw [HKEY.out]; rfl)
  have HR : Hid (attrStep pc p.data.toList = { pc with domain := z.data.toList }) := Lib.hid ((HST.out _).2 (by rw [HKEY.out, ← HZ.out]; rfl))
  have y4 : w3'.cell? ⟨b, 4, none⟩ = some (.string c.domain) := HS3.out.at_.cell 4
  have f4 : w3'.frozen? ⟨b, 4, none⟩ = false := HS3.out.frozen 4
  have HS6 : Hid (SetS w B b g xs (k + 1) k { c with domain := z } { pc with domain := z.data.toList } (w3'.setCell ⟨b, 4, none⟩ (.string z))) := Lib.hid (HS3.out.put rfl ⟨rfl, rfl, rfl⟩ ⟨HS3.out.eq.name, HS3.out.eq.value, HS3.out.eq.quoted, HS3.out.eq.path, rfl, HS3.out.eq.age, HS3.out.eq.secure, HS3.out.eq.http, HS3.out.eq.site, HS3.out.eq.part, HS3.out.eq.raw⟩ rfl)
  go_wp2
  unfold PsPost
  (repeat apply Exists.intro)
  refine ⟨?rel, rfl⟩
  case rel => exact ⟨by go_num, _, by rw [HR.out]; exact HS6.out.le (Nat.le_succ _)⟩


set_option maxHeartbeats 16000000 in
set_option maxRecDepth 1000000 in
theorem ps_path {w wr : World} {B b g cap k : Nat} {xs : List ByteArray} {c : Ck} {pc : PC} {p : ByteArray} {c0 c1 c2 c3 c5 c6 c8 c20 c21 c22 c23 c24 c25 c26 c27 c28 c29 c30 c31 c32 c33 c34 c35 c36 c37 c38 c39 c40 c41 c42 c43 c44 c45 c46 c47 c48 c49 c50 c51 c52 c53 c54 c55 c56 c57 c58 c59 c60 c61 c62 c63 c64 c65 c66 c67 c68 c69 c70 c224 : Value} {u7 u11 u12 u13 u14 u15 u16 u17 u18 u19 u71 u72 u73 u74 u75 u76 u77 u78 u79 u80 u81 u82 u83 u84 u85 u86 u87 u88 u89 u90 u91 u92 u93 u94 u95 u96 u97 u98 u99 u100 u101 u102 u103 u104 u105 u106 u107 u108 u109 u110 u111 u112 u113 u114 u115 u116 u117 u118 u119 u120 u121 u122 u123 u124 u125 u126 u127 u128 u129 u130 u131 u132 u133 u134 u135 u136 u137 u138 u139 u140 u141 u142 u143 u144 u145 u146 u147 u148 u149 u150 u151 u152 u153 u154 u155 u156 u157 u158 u159 u160 u161 u162 u163 u164 u165 u166 u167 u168 u169 u170 u171 u172 u173 u174 u175 u176 u177 u178 u179 u180 u181 u182 u183 u184 u185 u186 u187 u188 u189 u190 u191 u192 u193 u194 u195 u196 u197 u198 u199 u200 u201 u202 u203 u204 u205 u206 u207 u208 u209 u210 u211 u212 u213 u214 u215 u216 u217 u218 u219 u220 u221 u222 u223 : Value}
    (hB : B = w.heap.size) (hv : NumVars w) (HS : SetS w B b g xs k k c pc wr) (hlt : k < xs.length) (hnz : xs.length ≤ 4398046511105) (hp : xs[k] = p) (hps : p.size ≤ 4398046511104)
    (HNE : Hid (trimL p.data.toList ≠ [])) (HPR : Hid (allB prB (cutA 61 (trimL p.data.toList)) = true)) (HVL : Hid (allB valB (cutB 61 (trimL p.data.toList)) = true))
    (HKEY : Hid (Lib.toLowerA (cutA 61 (trimL p.data.toList)) = kPath))
    : Code.wp Tryz.prog psBody (Exit.then (PsPost c0 c1 c2 c3 c5 c6 c8 c20 c21 c22 c23 c24 c25 c26 c27 c28 c29 c30 c31 c32 c33 c34 c35 c36 c37 c38 c39 c40 c41 c42 c43 c44 c45 c46 c47 c48 c49 c50 c51 c52 c53 c54 c55 c56 c57 c58 c59 c60 c61 c62 c63 c64 c65 c66 c67 c68 c69 c70 c224 w B b g cap k xs (attrStep pc p.data.toList)) (fun _ _ _ => False)) ⟨#[c0, c1, c2, c3, .slice (some ⟨g, 0, none⟩) xs.length cap, c5, c6, u7, c8, .pointer (some ⟨b, 0, none⟩), .int .i64 (k : Int), u11, u12, u13, u14, u15, u16, u17, u18, u19, c20, c21, c22, c23, c24, c25, c26, c27, c28, c29, c30, c31, c32, c33, c34, c35, c36, c37, c38, c39, c40, c41, c42, c43, c44, c45, c46, c47, c48, c49, c50, c51, c52, c53, c54, c55, c56, c57, c58, c59, c60, c61, c62, c63, c64, c65, c66, c67, c68, c69, c70, u71, u72, u73, u74, u75, u76, u77, u78, u79, u80, u81, u82, u83, u84, u85, u86, u87, u88, u89, u90, u91, u92, u93, u94, u95, u96, u97, u98, u99, u100, u101, u102, u103, u104, u105, u106, u107, u108, u109, u110, u111, u112, u113, u114, u115, u116, u117, u118, u119, u120, u121, u122, u123, u124, u125, u126, u127, u128, u129, u130, u131, u132, u133, u134, u135, u136, u137, u138, u139, u140, u141, u142, u143, u144, u145, u146, u147, u148, u149, u150, u151, u152, u153, u154, u155, u156, u157, u158, u159, u160, u161, u162, u163, u164, u165, u166, u167, u168, u169, u170, u171, u172, u173, u174, u175, u176, u177, u178, u179, u180, u181, u182, u183, u184, u185, u186, u187, u188, u189, u190, u191, u192, u193, u194, u195, u196, u197, u198, u199, u200, u201, u202, u203, u204, u205, u206, u207, u208, u209, u210, u211, u212, u213, u214, u215, u216, u217, u218, u219, u220, u221, u222, u223, c224], []⟩ wr := by
  have HB := Lib.hid hB
  have HV := Lib.hid hv
  obtain ⟨i0, hi, hz0, hz1, hz2⟩ := info_parts strInfo
  obtain ⟨hck, hfz⟩ := HS.cell hlt
  rw [hp] at hck
  have HS0 := Lib.hid HS
  clear HS hp hB hv
  conv => arg 2; whnf
  go_upto_region 19 with (go_at_call 30; refine (zzTrim_any p _ hps).mono ?_; rintro e w' ⟨⟨t, rfl, ht⟩, rfl⟩; obtain ⟨hts, hts2⟩ := trim_size ht hps; have HT := Lib.hid ht; clear ht)
  obtain ⟨hS1, hct⟩ := HS0.out.trim hlt t
  generalize wr.setCell ⟨g, k, none⟩ (.string t) = w1 at hS1 hct ⊢
  clear hck hfz
  have HS1 := Lib.hid hS1
  have HCT := Lib.hid hct
  have hk9 : (k : Int) + 1 ≤ 9223372036854775807 := by omega
  clear hS1 HS0
  have hz : ((t.size : Int) == 0) = false := by
    rw [beq_eq_false_iff_ne]; intro h0
    exact HNE.out (by rw [← HT.out]; exact List.eq_nil_of_length_eq_zero (by rw [← Lib.size_eq]; omega))
  have hz' : (t.size == 0) = false := by
    rw [beq_eq_false_iff_ne]; intro h0
    exact HNE.out (by rw [← HT.out]; exact List.eq_nil_of_length_eq_zero (by rw [← Lib.size_eq]; omega))
  have HST : Hid (∀ v, attrStep pc p.data.toList = v ↔ setAttr pc t.data.toList (Lib.toLowerA (cutA 61 (trimL p.data.toList))) (cutB 61 (trimL p.data.toList)) = v) := Lib.hid (fun v => by rw [step_set HNE.out HPR.out HVL.out, HT.out])
  go_upto_region 27 with (first
      | (go_at_call 31; refine (zzCut_any _ _ 61 _ rfl hts).mono ?_; rintro e w2' ⟨⟨x, y, rfl, hx, hy⟩, m, hw'⟩; have HBW2 : Hid (Below w1.heap.size w1 w2') := Lib.hid (hw' ▸ below_drewN (Below.refl _ _) _); clear hw'; have hxz := (cutA_size hx hts hts2).2; have hyz := (cutB_size hy hts2).1; have hyz2 := (cutB_size hy hts2).2; have HX : Hid (x.data.toList = cutA 61 (trimL p.data.toList)) := Lib.hid (by rw [hx, HT.out]); have HY : Hid (y.data.toList = cutB 61 (trimL p.data.toList)) := Lib.hid (by rw [hy, HT.out]); clear hx hy)
      | (go_at_call 34; refine (zzToLower_yes x _ hxz (by rw [HX.out]; exact HPR.out)).mono ?_; rintro e w3' ⟨⟨lw, rfl, hlw⟩, hbw3⟩; have HBW3 := Lib.hid hbw3; have HLW : Hid (lw.data.toList = Lib.toLowerA (cutA 61 (trimL p.data.toList))) := Lib.hid (by rw [hlw, HX.out]); clear hbw3 hlw)
      | (go_at_call 33; refine (pcv_any y false _ hyz).mono ?_; rintro e w' ⟨⟨z, rfl, hz2⟩, rfl⟩; rw [strip_no y.data.toList false rfl, HY.out, HVL.out]; rw [strip_no y.data.toList false rfl, HY.out, HVL.out] at hz2; have HZ : Hid (z.data.toList = cutB 61 (trimL p.data.toList)) := Lib.hid (by simpa using hz2); have hzz : z.size ≤ 4398046511104 := by rw [Lib.size_eq, HZ.out, ← HY.out, ← Lib.size_eq]; exact hyz2
         clear hz2))
  have hS3 := (HS1.out.kept HS1.out.size HBW2.out).kept (HS1.out.kept HS1.out.size HBW2.out).size HBW3.out
  have HS3 := Lib.hid hS3
  have HCT3 : Hid (w3'.cell? ⟨g, k, none⟩ = some (.string t)) := Lib.hid (cell_keep' (cell_keep' HCT.out HBW2.out) HBW3.out)
  clear hS3
  have e1 : (lw.toList == [115, 97, 109, 101, 115, 105, 116, 101]) = false := key_ne HLW.out (by rw [HKEY.out]; decide)
  have e2 : (lw.toList == [115, 101, 99, 117, 114, 101]) = false := key_ne HLW.out (by rw [HKEY.out]; decide)
  have e3 : (lw.toList == [104, 116, 116, 112, 111, 110, 108, 121]) = false := key_ne HLW.out (by rw [HKEY.out]; decide)
  have e4 : (lw.toList == [100, 111, 109, 97, 105, 110]) = false := key_ne HLW.out (by rw [HKEY.out]; decide)
  have e5 : (lw.toList == [109, 97, 120, 45, 97, 103, 101]) = false := key_ne HLW.out (by rw [HKEY.out]; decide)
  have e6 : (lw.toList == [112, 97, 116, 104]) = true := key_eq HLW.out (by rw [HKEY.out]; rfl)
  have HR : Hid (attrStep pc p.data.toList = { pc with path := z.data.toList }) := Lib.hid ((HST.out _).2 (by rw [HKEY.out, ← HZ.out]; rfl))
  have y3 : w3'.cell? ⟨b, 3, none⟩ = some (.string c.path) := HS3.out.at_.cell 3
  have f3 : w3'.frozen? ⟨b, 3, none⟩ = false := HS3.out.frozen 3
  have HS6 : Hid (SetS w B b g xs (k + 1) k { c with path := z } { pc with path := z.data.toList } (w3'.setCell ⟨b, 3, none⟩ (.string z))) := Lib.hid (HS3.out.put rfl ⟨rfl, rfl, rfl⟩ ⟨HS3.out.eq.name, HS3.out.eq.value, HS3.out.eq.quoted, rfl, HS3.out.eq.domain, HS3.out.eq.age, HS3.out.eq.secure, HS3.out.eq.http, HS3.out.eq.site, HS3.out.eq.part, HS3.out.eq.raw⟩ rfl)
  go_wp2
  unfold PsPost
  (repeat apply Exists.intro)
  refine ⟨?rel, rfl⟩
  case rel => exact ⟨by go_num, _, by rw [HR.out]; exact HS6.out.le (Nat.le_succ _)⟩


set_option maxHeartbeats 16000000 in
set_option maxRecDepth 1000000 in
theorem ps_part {w wr : World} {B b g cap k : Nat} {xs : List ByteArray} {c : Ck} {pc : PC} {p : ByteArray} {c0 c1 c2 c3 c5 c6 c8 c20 c21 c22 c23 c24 c25 c26 c27 c28 c29 c30 c31 c32 c33 c34 c35 c36 c37 c38 c39 c40 c41 c42 c43 c44 c45 c46 c47 c48 c49 c50 c51 c52 c53 c54 c55 c56 c57 c58 c59 c60 c61 c62 c63 c64 c65 c66 c67 c68 c69 c70 c224 : Value} {u7 u11 u12 u13 u14 u15 u16 u17 u18 u19 u71 u72 u73 u74 u75 u76 u77 u78 u79 u80 u81 u82 u83 u84 u85 u86 u87 u88 u89 u90 u91 u92 u93 u94 u95 u96 u97 u98 u99 u100 u101 u102 u103 u104 u105 u106 u107 u108 u109 u110 u111 u112 u113 u114 u115 u116 u117 u118 u119 u120 u121 u122 u123 u124 u125 u126 u127 u128 u129 u130 u131 u132 u133 u134 u135 u136 u137 u138 u139 u140 u141 u142 u143 u144 u145 u146 u147 u148 u149 u150 u151 u152 u153 u154 u155 u156 u157 u158 u159 u160 u161 u162 u163 u164 u165 u166 u167 u168 u169 u170 u171 u172 u173 u174 u175 u176 u177 u178 u179 u180 u181 u182 u183 u184 u185 u186 u187 u188 u189 u190 u191 u192 u193 u194 u195 u196 u197 u198 u199 u200 u201 u202 u203 u204 u205 u206 u207 u208 u209 u210 u211 u212 u213 u214 u215 u216 u217 u218 u219 u220 u221 u222 u223 : Value}
    (hB : B = w.heap.size) (hv : NumVars w) (HS : SetS w B b g xs k k c pc wr) (hlt : k < xs.length) (hnz : xs.length ≤ 4398046511105) (hp : xs[k] = p) (hps : p.size ≤ 4398046511104)
    (HNE : Hid (trimL p.data.toList ≠ [])) (HPR : Hid (allB prB (cutA 61 (trimL p.data.toList)) = true)) (HVL : Hid (allB valB (cutB 61 (trimL p.data.toList)) = true))
    (HKEY : Hid (Lib.toLowerA (cutA 61 (trimL p.data.toList)) = kPart))
    : Code.wp Tryz.prog psBody (Exit.then (PsPost c0 c1 c2 c3 c5 c6 c8 c20 c21 c22 c23 c24 c25 c26 c27 c28 c29 c30 c31 c32 c33 c34 c35 c36 c37 c38 c39 c40 c41 c42 c43 c44 c45 c46 c47 c48 c49 c50 c51 c52 c53 c54 c55 c56 c57 c58 c59 c60 c61 c62 c63 c64 c65 c66 c67 c68 c69 c70 c224 w B b g cap k xs (attrStep pc p.data.toList)) (fun _ _ _ => False)) ⟨#[c0, c1, c2, c3, .slice (some ⟨g, 0, none⟩) xs.length cap, c5, c6, u7, c8, .pointer (some ⟨b, 0, none⟩), .int .i64 (k : Int), u11, u12, u13, u14, u15, u16, u17, u18, u19, c20, c21, c22, c23, c24, c25, c26, c27, c28, c29, c30, c31, c32, c33, c34, c35, c36, c37, c38, c39, c40, c41, c42, c43, c44, c45, c46, c47, c48, c49, c50, c51, c52, c53, c54, c55, c56, c57, c58, c59, c60, c61, c62, c63, c64, c65, c66, c67, c68, c69, c70, u71, u72, u73, u74, u75, u76, u77, u78, u79, u80, u81, u82, u83, u84, u85, u86, u87, u88, u89, u90, u91, u92, u93, u94, u95, u96, u97, u98, u99, u100, u101, u102, u103, u104, u105, u106, u107, u108, u109, u110, u111, u112, u113, u114, u115, u116, u117, u118, u119, u120, u121, u122, u123, u124, u125, u126, u127, u128, u129, u130, u131, u132, u133, u134, u135, u136, u137, u138, u139, u140, u141, u142, u143, u144, u145, u146, u147, u148, u149, u150, u151, u152, u153, u154, u155, u156, u157, u158, u159, u160, u161, u162, u163, u164, u165, u166, u167, u168, u169, u170, u171, u172, u173, u174, u175, u176, u177, u178, u179, u180, u181, u182, u183, u184, u185, u186, u187, u188, u189, u190, u191, u192, u193, u194, u195, u196, u197, u198, u199, u200, u201, u202, u203, u204, u205, u206, u207, u208, u209, u210, u211, u212, u213, u214, u215, u216, u217, u218, u219, u220, u221, u222, u223, c224], []⟩ wr := by
  have HB := Lib.hid hB
  have HV := Lib.hid hv
  obtain ⟨i0, hi, hz0, hz1, hz2⟩ := info_parts strInfo
  obtain ⟨hck, hfz⟩ := HS.cell hlt
  rw [hp] at hck
  have HS0 := Lib.hid HS
  clear HS hp hB hv
  conv => arg 2; whnf
  go_upto_region 19 with (go_at_call 30; refine (zzTrim_any p _ hps).mono ?_; rintro e w' ⟨⟨t, rfl, ht⟩, rfl⟩; obtain ⟨hts, hts2⟩ := trim_size ht hps; have HT := Lib.hid ht; clear ht)
  obtain ⟨hS1, hct⟩ := HS0.out.trim hlt t
  generalize wr.setCell ⟨g, k, none⟩ (.string t) = w1 at hS1 hct ⊢
  clear hck hfz
  have HS1 := Lib.hid hS1
  have HCT := Lib.hid hct
  have hk9 : (k : Int) + 1 ≤ 9223372036854775807 := by omega
  clear hS1 HS0
  have hz : ((t.size : Int) == 0) = false := by
    rw [beq_eq_false_iff_ne]; intro h0
    exact HNE.out (by rw [← HT.out]; exact List.eq_nil_of_length_eq_zero (by rw [← Lib.size_eq]; omega))
  have hz' : (t.size == 0) = false := by
    rw [beq_eq_false_iff_ne]; intro h0
    exact HNE.out (by rw [← HT.out]; exact List.eq_nil_of_length_eq_zero (by rw [← Lib.size_eq]; omega))
  have HST : Hid (∀ v, attrStep pc p.data.toList = v ↔ setAttr pc t.data.toList (Lib.toLowerA (cutA 61 (trimL p.data.toList))) (cutB 61 (trimL p.data.toList)) = v) := Lib.hid (fun v => by rw [step_set HNE.out HPR.out HVL.out, HT.out])
  go_upto_region 27 with (first
      | (go_at_call 31; refine (zzCut_any _ _ 61 _ rfl hts).mono ?_; rintro e w2' ⟨⟨x, y, rfl, hx, hy⟩, m, hw'⟩; have HBW2 : Hid (Below w1.heap.size w1 w2') := Lib.hid (hw' ▸ below_drewN (Below.refl _ _) _); clear hw'; have hxz := (cutA_size hx hts hts2).2; have hyz := (cutB_size hy hts2).1; have hyz2 := (cutB_size hy hts2).2; have HX : Hid (x.data.toList = cutA 61 (trimL p.data.toList)) := Lib.hid (by rw [hx, HT.out]); have HY : Hid (y.data.toList = cutB 61 (trimL p.data.toList)) := Lib.hid (by rw [hy, HT.out]); clear hx hy)
      | (go_at_call 34; refine (zzToLower_yes x _ hxz (by rw [HX.out]; exact HPR.out)).mono ?_; rintro e w3' ⟨⟨lw, rfl, hlw⟩, hbw3⟩; have HBW3 := Lib.hid hbw3; have HLW : Hid (lw.data.toList = Lib.toLowerA (cutA 61 (trimL p.data.toList))) := Lib.hid (by rw [hlw, HX.out]); clear hbw3 hlw)
      | (go_at_call 33; refine (pcv_any y false _ hyz).mono ?_; rintro e w' ⟨⟨z, rfl, hz2⟩, rfl⟩; rw [strip_no y.data.toList false rfl, HY.out, HVL.out]; rw [strip_no y.data.toList false rfl, HY.out, HVL.out] at hz2; have HZ : Hid (z.data.toList = cutB 61 (trimL p.data.toList)) := Lib.hid (by simpa using hz2); have hzz : z.size ≤ 4398046511104 := by rw [Lib.size_eq, HZ.out, ← HY.out, ← Lib.size_eq]; exact hyz2
         clear hz2))
  have hS3 := (HS1.out.kept HS1.out.size HBW2.out).kept (HS1.out.kept HS1.out.size HBW2.out).size HBW3.out
  have HS3 := Lib.hid hS3
  have HCT3 : Hid (w3'.cell? ⟨g, k, none⟩ = some (.string t)) := Lib.hid (cell_keep' (cell_keep' HCT.out HBW2.out) HBW3.out)
  clear hS3
  have e1 : (lw.toList == [115, 97, 109, 101, 115, 105, 116, 101]) = false := key_ne HLW.out (by rw [HKEY.out]; decide)
  have e2 : (lw.toList == [115, 101, 99, 117, 114, 101]) = false := key_ne HLW.out (by rw [HKEY.out]; decide)
  have e3 : (lw.toList == [104, 116, 116, 112, 111, 110, 108, 121]) = false := key_ne HLW.out (by rw [HKEY.out]; decide)
  have e4 : (lw.toList == [100, 111, 109, 97, 105, 110]) = false := key_ne HLW.out (by rw [HKEY.out]; decide)
  have e5 : (lw.toList == [109, 97, 120, 45, 97, 103, 101]) = false := key_ne HLW.out (by rw [HKEY.out]; decide)
  have e6 : (lw.toList == [112, 97, 116, 104]) = false := key_ne HLW.out (by rw [HKEY.out]; decide)
  have e7 : (lw.toList == [112, 97, 114, 116, 105, 116, 105, 111, 110, 101, 100]) = true := key_eq HLW.out (by rw [HKEY.out]; rfl)
  have HR : Hid (attrStep pc p.data.toList = { pc with part := true }) := Lib.hid ((HST.out _).2 (by rw [HKEY.out, ← HZ.out]; rfl))
  have y9 : w3'.cell? ⟨b, 9, none⟩ = some (.bool c.part) := HS3.out.at_.cell 9
  have f9 : w3'.frozen? ⟨b, 9, none⟩ = false := HS3.out.frozen 9
  have HS6 : Hid (SetS w B b g xs (k + 1) k { c with part := true } { pc with part := true } (w3'.setCell ⟨b, 9, none⟩ (.bool true))) := Lib.hid (HS3.out.put rfl ⟨rfl, rfl, rfl⟩ ⟨HS3.out.eq.name, HS3.out.eq.value, HS3.out.eq.quoted, HS3.out.eq.path, HS3.out.eq.domain, HS3.out.eq.age, HS3.out.eq.secure, HS3.out.eq.http, HS3.out.eq.site, rfl, HS3.out.eq.raw⟩ rfl)
  go_wp2
  unfold PsPost
  (repeat apply Exists.intro)
  refine ⟨?rel, rfl⟩
  case rel => exact ⟨by go_num, _, by rw [HR.out]; exact HS6.out.le (Nat.le_succ _)⟩




set_option maxHeartbeats 16000000 in
set_option maxRecDepth 1000000 in
theorem ps_lax {w wr : World} {B b g cap k : Nat} {xs : List ByteArray} {c : Ck} {pc : PC} {p : ByteArray} {c0 c1 c2 c3 c5 c6 c8 c20 c21 c22 c23 c24 c25 c26 c27 c28 c29 c30 c31 c32 c33 c34 c35 c36 c37 c38 c39 c40 c41 c42 c43 c44 c45 c46 c47 c48 c49 c50 c51 c52 c53 c54 c55 c56 c57 c58 c59 c60 c61 c62 c63 c64 c65 c66 c67 c68 c69 c70 c224 : Value} {u7 u11 u12 u13 u14 u15 u16 u17 u18 u19 u71 u72 u73 u74 u75 u76 u77 u78 u79 u80 u81 u82 u83 u84 u85 u86 u87 u88 u89 u90 u91 u92 u93 u94 u95 u96 u97 u98 u99 u100 u101 u102 u103 u104 u105 u106 u107 u108 u109 u110 u111 u112 u113 u114 u115 u116 u117 u118 u119 u120 u121 u122 u123 u124 u125 u126 u127 u128 u129 u130 u131 u132 u133 u134 u135 u136 u137 u138 u139 u140 u141 u142 u143 u144 u145 u146 u147 u148 u149 u150 u151 u152 u153 u154 u155 u156 u157 u158 u159 u160 u161 u162 u163 u164 u165 u166 u167 u168 u169 u170 u171 u172 u173 u174 u175 u176 u177 u178 u179 u180 u181 u182 u183 u184 u185 u186 u187 u188 u189 u190 u191 u192 u193 u194 u195 u196 u197 u198 u199 u200 u201 u202 u203 u204 u205 u206 u207 u208 u209 u210 u211 u212 u213 u214 u215 u216 u217 u218 u219 u220 u221 u222 u223 : Value}
    (hB : B = w.heap.size) (hv : NumVars w) (HS : SetS w B b g xs k k c pc wr) (hlt : k < xs.length) (hnz : xs.length ≤ 4398046511105) (hp : xs[k] = p) (hps : p.size ≤ 4398046511104)
    (HNE : Hid (trimL p.data.toList ≠ [])) (HPR : Hid (allB prB (cutA 61 (trimL p.data.toList)) = true)) (HVL : Hid (allB valB (cutB 61 (trimL p.data.toList)) = true))
    (HKEY : Hid (Lib.toLowerA (cutA 61 (trimL p.data.toList)) = kSame))
    (HSV : Hid (Lib.toLowerA (cutB 61 (trimL p.data.toList)) = kLax))
    : Code.wp Tryz.prog psBody (Exit.then (PsPost c0 c1 c2 c3 c5 c6 c8 c20 c21 c22 c23 c24 c25 c26 c27 c28 c29 c30 c31 c32 c33 c34 c35 c36 c37 c38 c39 c40 c41 c42 c43 c44 c45 c46 c47 c48 c49 c50 c51 c52 c53 c54 c55 c56 c57 c58 c59 c60 c61 c62 c63 c64 c65 c66 c67 c68 c69 c70 c224 w B b g cap k xs (attrStep pc p.data.toList)) (fun _ _ _ => False)) ⟨#[c0, c1, c2, c3, .slice (some ⟨g, 0, none⟩) xs.length cap, c5, c6, u7, c8, .pointer (some ⟨b, 0, none⟩), .int .i64 (k : Int), u11, u12, u13, u14, u15, u16, u17, u18, u19, c20, c21, c22, c23, c24, c25, c26, c27, c28, c29, c30, c31, c32, c33, c34, c35, c36, c37, c38, c39, c40, c41, c42, c43, c44, c45, c46, c47, c48, c49, c50, c51, c52, c53, c54, c55, c56, c57, c58, c59, c60, c61, c62, c63, c64, c65, c66, c67, c68, c69, c70, u71, u72, u73, u74, u75, u76, u77, u78, u79, u80, u81, u82, u83, u84, u85, u86, u87, u88, u89, u90, u91, u92, u93, u94, u95, u96, u97, u98, u99, u100, u101, u102, u103, u104, u105, u106, u107, u108, u109, u110, u111, u112, u113, u114, u115, u116, u117, u118, u119, u120, u121, u122, u123, u124, u125, u126, u127, u128, u129, u130, u131, u132, u133, u134, u135, u136, u137, u138, u139, u140, u141, u142, u143, u144, u145, u146, u147, u148, u149, u150, u151, u152, u153, u154, u155, u156, u157, u158, u159, u160, u161, u162, u163, u164, u165, u166, u167, u168, u169, u170, u171, u172, u173, u174, u175, u176, u177, u178, u179, u180, u181, u182, u183, u184, u185, u186, u187, u188, u189, u190, u191, u192, u193, u194, u195, u196, u197, u198, u199, u200, u201, u202, u203, u204, u205, u206, u207, u208, u209, u210, u211, u212, u213, u214, u215, u216, u217, u218, u219, u220, u221, u222, u223, c224], []⟩ wr := by
  have HB := Lib.hid hB
  have HV := Lib.hid hv
  obtain ⟨i0, hi, hz0, hz1, hz2⟩ := info_parts strInfo
  obtain ⟨hck, hfz⟩ := HS.cell hlt
  rw [hp] at hck
  have HS0 := Lib.hid HS
  clear HS hp hB hv
  conv => arg 2; whnf
  go_upto_region 19 with (go_at_call 30; refine (zzTrim_any p _ hps).mono ?_; rintro e w' ⟨⟨t, rfl, ht⟩, rfl⟩; obtain ⟨hts, hts2⟩ := trim_size ht hps; have HT := Lib.hid ht; clear ht)
  obtain ⟨hS1, hct⟩ := HS0.out.trim hlt t
  generalize wr.setCell ⟨g, k, none⟩ (.string t) = w1 at hS1 hct ⊢
  clear hck hfz
  have HS1 := Lib.hid hS1
  have HCT := Lib.hid hct
  have hk9 : (k : Int) + 1 ≤ 9223372036854775807 := by omega
  clear hS1 HS0
  have hz : ((t.size : Int) == 0) = false := by
    rw [beq_eq_false_iff_ne]; intro h0
    exact HNE.out (by rw [← HT.out]; exact List.eq_nil_of_length_eq_zero (by rw [← Lib.size_eq]; omega))
  have hz' : (t.size == 0) = false := by
    rw [beq_eq_false_iff_ne]; intro h0
    exact HNE.out (by rw [← HT.out]; exact List.eq_nil_of_length_eq_zero (by rw [← Lib.size_eq]; omega))
  have HST : Hid (∀ v, attrStep pc p.data.toList = v ↔ setAttr pc t.data.toList (Lib.toLowerA (cutA 61 (trimL p.data.toList))) (cutB 61 (trimL p.data.toList)) = v) := Lib.hid (fun v => by rw [step_set HNE.out HPR.out HVL.out, HT.out])
  go_upto_region 27 with (first
      | (go_at_call 31; refine (zzCut_any _ _ 61 _ rfl hts).mono ?_; rintro e w2' ⟨⟨x, y, rfl, hx, hy⟩, m, hw'⟩; have HBW2 : Hid (Below w1.heap.size w1 w2') := Lib.hid (hw' ▸ below_drewN (Below.refl _ _) _); clear hw'; have hxz := (cutA_size hx hts hts2).2; have hyz := (cutB_size hy hts2).1; have hyz2 := (cutB_size hy hts2).2; have HX : Hid (x.data.toList = cutA 61 (trimL p.data.toList)) := Lib.hid (by rw [hx, HT.out]); have HY : Hid (y.data.toList = cutB 61 (trimL p.data.toList)) := Lib.hid (by rw [hy, HT.out]); clear hx hy)
      | (go_at_call 34; refine (zzToLower_yes x _ hxz (by rw [HX.out]; exact HPR.out)).mono ?_; rintro e w3' ⟨⟨lw, rfl, hlw⟩, hbw3⟩; have HBW3 := Lib.hid hbw3; have HLW : Hid (lw.data.toList = Lib.toLowerA (cutA 61 (trimL p.data.toList))) := Lib.hid (by rw [hlw, HX.out]); clear hbw3 hlw)
      | (go_at_call 33; refine (pcv_any y false _ hyz).mono ?_; rintro e w' ⟨⟨z, rfl, hz2⟩, rfl⟩; rw [strip_no y.data.toList false rfl, HY.out, HVL.out]; rw [strip_no y.data.toList false rfl, HY.out, HVL.out] at hz2; have HZ : Hid (z.data.toList = cutB 61 (trimL p.data.toList)) := Lib.hid (by simpa using hz2); have hzz : z.size ≤ 4398046511104 := by rw [Lib.size_eq, HZ.out, ← HY.out, ← Lib.size_eq]; exact hyz2
         clear hz2))
  have hS3 := (HS1.out.kept HS1.out.size HBW2.out).kept (HS1.out.kept HS1.out.size HBW2.out).size HBW3.out
  have HS3 := Lib.hid hS3
  have HCT3 : Hid (w3'.cell? ⟨g, k, none⟩ = some (.string t)) := Lib.hid (cell_keep' (cell_keep' HCT.out HBW2.out) HBW3.out)
  clear hS3
  have e1 : (lw.toList == [115, 97, 109, 101, 115, 105, 116, 101]) = true := key_eq HLW.out (by rw [HKEY.out]; rfl)
  have HR : Hid (attrStep pc p.data.toList = { pc with site := 2 }) := Lib.hid ((HST.out _).2 (by rw [HKEY.out, set_same]; unfold siteOf; rw [HSV.out]; rfl))
  have HZP : Hid (allB prB z.data.toList = true) := Lib.hid (val_pr (by rw [HZ.out]; exact HVL.out))
  go_wp2_with (go_at_call 34; refine (zzToLower_yes z _ hzz HZP.out).mono ?_; rintro e w5 ⟨⟨lv, rfl, hlv⟩, hbw5⟩; have j1 : (lv.toList == [108, 97, 120]) = true := key_eq (hlv.trans (congrArg Lib.toLowerA HZ.out)) (by rw [HSV.out]; rfl); have hS5 := HS3.out.kept HS3.out.size hbw5; have y8 : w5.cell? ⟨b, 8, none⟩ = some (.int .i64 c.site) := hS5.at_.cell 8; have f8 : w5.frozen? ⟨b, 8, none⟩ = false := hS5.frozen 8; have HS6 : Hid (SetS w B b g xs (k + 1) k { c with site := 2 } { pc with site := 2 } (w5.setCell ⟨b, 8, none⟩ (.int .i64 2))) := Lib.hid (hS5.put rfl ⟨rfl, rfl, rfl⟩ ⟨hS5.eq.name, hS5.eq.value, hS5.eq.quoted, hS5.eq.path, hS5.eq.domain, hS5.eq.age, hS5.eq.secure, hS5.eq.http, rfl, hS5.eq.part, hS5.eq.raw⟩ rfl); clear hS5 hlv hbw5)
  unfold PsPost
  (repeat apply Exists.intro)
  refine ⟨?rel, rfl⟩
  case rel => exact ⟨by go_num, _, by rw [HR.out]; exact HS6.out.le (Nat.le_succ _)⟩


set_option maxHeartbeats 16000000 in
set_option maxRecDepth 1000000 in
theorem ps_strict {w wr : World} {B b g cap k : Nat} {xs : List ByteArray} {c : Ck} {pc : PC} {p : ByteArray} {c0 c1 c2 c3 c5 c6 c8 c20 c21 c22 c23 c24 c25 c26 c27 c28 c29 c30 c31 c32 c33 c34 c35 c36 c37 c38 c39 c40 c41 c42 c43 c44 c45 c46 c47 c48 c49 c50 c51 c52 c53 c54 c55 c56 c57 c58 c59 c60 c61 c62 c63 c64 c65 c66 c67 c68 c69 c70 c224 : Value} {u7 u11 u12 u13 u14 u15 u16 u17 u18 u19 u71 u72 u73 u74 u75 u76 u77 u78 u79 u80 u81 u82 u83 u84 u85 u86 u87 u88 u89 u90 u91 u92 u93 u94 u95 u96 u97 u98 u99 u100 u101 u102 u103 u104 u105 u106 u107 u108 u109 u110 u111 u112 u113 u114 u115 u116 u117 u118 u119 u120 u121 u122 u123 u124 u125 u126 u127 u128 u129 u130 u131 u132 u133 u134 u135 u136 u137 u138 u139 u140 u141 u142 u143 u144 u145 u146 u147 u148 u149 u150 u151 u152 u153 u154 u155 u156 u157 u158 u159 u160 u161 u162 u163 u164 u165 u166 u167 u168 u169 u170 u171 u172 u173 u174 u175 u176 u177 u178 u179 u180 u181 u182 u183 u184 u185 u186 u187 u188 u189 u190 u191 u192 u193 u194 u195 u196 u197 u198 u199 u200 u201 u202 u203 u204 u205 u206 u207 u208 u209 u210 u211 u212 u213 u214 u215 u216 u217 u218 u219 u220 u221 u222 u223 : Value}
    (hB : B = w.heap.size) (hv : NumVars w) (HS : SetS w B b g xs k k c pc wr) (hlt : k < xs.length) (hnz : xs.length ≤ 4398046511105) (hp : xs[k] = p) (hps : p.size ≤ 4398046511104)
    (HNE : Hid (trimL p.data.toList ≠ [])) (HPR : Hid (allB prB (cutA 61 (trimL p.data.toList)) = true)) (HVL : Hid (allB valB (cutB 61 (trimL p.data.toList)) = true))
    (HKEY : Hid (Lib.toLowerA (cutA 61 (trimL p.data.toList)) = kSame))
    (HSV : Hid (Lib.toLowerA (cutB 61 (trimL p.data.toList)) = kStrict))
    : Code.wp Tryz.prog psBody (Exit.then (PsPost c0 c1 c2 c3 c5 c6 c8 c20 c21 c22 c23 c24 c25 c26 c27 c28 c29 c30 c31 c32 c33 c34 c35 c36 c37 c38 c39 c40 c41 c42 c43 c44 c45 c46 c47 c48 c49 c50 c51 c52 c53 c54 c55 c56 c57 c58 c59 c60 c61 c62 c63 c64 c65 c66 c67 c68 c69 c70 c224 w B b g cap k xs (attrStep pc p.data.toList)) (fun _ _ _ => False)) ⟨#[c0, c1, c2, c3, .slice (some ⟨g, 0, none⟩) xs.length cap, c5, c6, u7, c8, .pointer (some ⟨b, 0, none⟩), .int .i64 (k : Int), u11, u12, u13, u14, u15, u16, u17, u18, u19, c20, c21, c22, c23, c24, c25, c26, c27, c28, c29, c30, c31, c32, c33, c34, c35, c36, c37, c38, c39, c40, c41, c42, c43, c44, c45, c46, c47, c48, c49, c50, c51, c52, c53, c54, c55, c56, c57, c58, c59, c60, c61, c62, c63, c64, c65, c66, c67, c68, c69, c70, u71, u72, u73, u74, u75, u76, u77, u78, u79, u80, u81, u82, u83, u84, u85, u86, u87, u88, u89, u90, u91, u92, u93, u94, u95, u96, u97, u98, u99, u100, u101, u102, u103, u104, u105, u106, u107, u108, u109, u110, u111, u112, u113, u114, u115, u116, u117, u118, u119, u120, u121, u122, u123, u124, u125, u126, u127, u128, u129, u130, u131, u132, u133, u134, u135, u136, u137, u138, u139, u140, u141, u142, u143, u144, u145, u146, u147, u148, u149, u150, u151, u152, u153, u154, u155, u156, u157, u158, u159, u160, u161, u162, u163, u164, u165, u166, u167, u168, u169, u170, u171, u172, u173, u174, u175, u176, u177, u178, u179, u180, u181, u182, u183, u184, u185, u186, u187, u188, u189, u190, u191, u192, u193, u194, u195, u196, u197, u198, u199, u200, u201, u202, u203, u204, u205, u206, u207, u208, u209, u210, u211, u212, u213, u214, u215, u216, u217, u218, u219, u220, u221, u222, u223, c224], []⟩ wr := by
  have HB := Lib.hid hB
  have HV := Lib.hid hv
  obtain ⟨i0, hi, hz0, hz1, hz2⟩ := info_parts strInfo
  obtain ⟨hck, hfz⟩ := HS.cell hlt
  rw [hp] at hck
  have HS0 := Lib.hid HS
  clear HS hp hB hv
  conv => arg 2; whnf
  go_upto_region 19 with (go_at_call 30; refine (zzTrim_any p _ hps).mono ?_; rintro e w' ⟨⟨t, rfl, ht⟩, rfl⟩; obtain ⟨hts, hts2⟩ := trim_size ht hps; have HT := Lib.hid ht; clear ht)
  obtain ⟨hS1, hct⟩ := HS0.out.trim hlt t
  generalize wr.setCell ⟨g, k, none⟩ (.string t) = w1 at hS1 hct ⊢
  clear hck hfz
  have HS1 := Lib.hid hS1
  have HCT := Lib.hid hct
  have hk9 : (k : Int) + 1 ≤ 9223372036854775807 := by omega
  clear hS1 HS0
  have hz : ((t.size : Int) == 0) = false := by
    rw [beq_eq_false_iff_ne]; intro h0
    exact HNE.out (by rw [← HT.out]; exact List.eq_nil_of_length_eq_zero (by rw [← Lib.size_eq]; omega))
  have hz' : (t.size == 0) = false := by
    rw [beq_eq_false_iff_ne]; intro h0
    exact HNE.out (by rw [← HT.out]; exact List.eq_nil_of_length_eq_zero (by rw [← Lib.size_eq]; omega))
  have HST : Hid (∀ v, attrStep pc p.data.toList = v ↔ setAttr pc t.data.toList (Lib.toLowerA (cutA 61 (trimL p.data.toList))) (cutB 61 (trimL p.data.toList)) = v) := Lib.hid (fun v => by rw [step_set HNE.out HPR.out HVL.out, HT.out])
  go_upto_region 27 with (first
      | (go_at_call 31; refine (zzCut_any _ _ 61 _ rfl hts).mono ?_; rintro e w2' ⟨⟨x, y, rfl, hx, hy⟩, m, hw'⟩; have HBW2 : Hid (Below w1.heap.size w1 w2') := Lib.hid (hw' ▸ below_drewN (Below.refl _ _) _); clear hw'; have hxz := (cutA_size hx hts hts2).2; have hyz := (cutB_size hy hts2).1; have hyz2 := (cutB_size hy hts2).2; have HX : Hid (x.data.toList = cutA 61 (trimL p.data.toList)) := Lib.hid (by rw [hx, HT.out]); have HY : Hid (y.data.toList = cutB 61 (trimL p.data.toList)) := Lib.hid (by rw [hy, HT.out]); clear hx hy)
      | (go_at_call 34; refine (zzToLower_yes x _ hxz (by rw [HX.out]; exact HPR.out)).mono ?_; rintro e w3' ⟨⟨lw, rfl, hlw⟩, hbw3⟩; have HBW3 := Lib.hid hbw3; have HLW : Hid (lw.data.toList = Lib.toLowerA (cutA 61 (trimL p.data.toList))) := Lib.hid (by rw [hlw, HX.out]); clear hbw3 hlw)
      | (go_at_call 33; refine (pcv_any y false _ hyz).mono ?_; rintro e w' ⟨⟨z, rfl, hz2⟩, rfl⟩; rw [strip_no y.data.toList false rfl, HY.out, HVL.out]; rw [strip_no y.data.toList false rfl, HY.out, HVL.out] at hz2; have HZ : Hid (z.data.toList = cutB 61 (trimL p.data.toList)) := Lib.hid (by simpa using hz2); have hzz : z.size ≤ 4398046511104 := by rw [Lib.size_eq, HZ.out, ← HY.out, ← Lib.size_eq]; exact hyz2
         clear hz2))
  have hS3 := (HS1.out.kept HS1.out.size HBW2.out).kept (HS1.out.kept HS1.out.size HBW2.out).size HBW3.out
  have HS3 := Lib.hid hS3
  have HCT3 : Hid (w3'.cell? ⟨g, k, none⟩ = some (.string t)) := Lib.hid (cell_keep' (cell_keep' HCT.out HBW2.out) HBW3.out)
  clear hS3
  have e1 : (lw.toList == [115, 97, 109, 101, 115, 105, 116, 101]) = true := key_eq HLW.out (by rw [HKEY.out]; rfl)
  have HR : Hid (attrStep pc p.data.toList = { pc with site := 3 }) := Lib.hid ((HST.out _).2 (by rw [HKEY.out, set_same]; unfold siteOf; rw [HSV.out]; rfl))
  have HZP : Hid (allB prB z.data.toList = true) := Lib.hid (val_pr (by rw [HZ.out]; exact HVL.out))
  go_wp2_with (go_at_call 34; refine (zzToLower_yes z _ hzz HZP.out).mono ?_; rintro e w5 ⟨⟨lv, rfl, hlv⟩, hbw5⟩; have j1 : (lv.toList == [108, 97, 120]) = false := key_ne (hlv.trans (congrArg Lib.toLowerA HZ.out)) (by rw [HSV.out]; decide); have j2 : (lv.toList == [115, 116, 114, 105, 99, 116]) = true := key_eq (hlv.trans (congrArg Lib.toLowerA HZ.out)) (by rw [HSV.out]; rfl); have hS5 := HS3.out.kept HS3.out.size hbw5; have y8 : w5.cell? ⟨b, 8, none⟩ = some (.int .i64 c.site) := hS5.at_.cell 8; have f8 : w5.frozen? ⟨b, 8, none⟩ = false := hS5.frozen 8; have HS6 : Hid (SetS w B b g xs (k + 1) k { c with site := 3 } { pc with site := 3 } (w5.setCell ⟨b, 8, none⟩ (.int .i64 3))) := Lib.hid (hS5.put rfl ⟨rfl, rfl, rfl⟩ ⟨hS5.eq.name, hS5.eq.value, hS5.eq.quoted, hS5.eq.path, hS5.eq.domain, hS5.eq.age, hS5.eq.secure, hS5.eq.http, rfl, hS5.eq.part, hS5.eq.raw⟩ rfl); clear hS5 hlv hbw5)
  unfold PsPost
  (repeat apply Exists.intro)
  refine ⟨?rel, rfl⟩
  case rel => exact ⟨by go_num, _, by rw [HR.out]; exact HS6.out.le (Nat.le_succ _)⟩


set_option maxHeartbeats 16000000 in
set_option maxRecDepth 1000000 in
theorem ps_none {w wr : World} {B b g cap k : Nat} {xs : List ByteArray} {c : Ck} {pc : PC} {p : ByteArray} {c0 c1 c2 c3 c5 c6 c8 c20 c21 c22 c23 c24 c25 c26 c27 c28 c29 c30 c31 c32 c33 c34 c35 c36 c37 c38 c39 c40 c41 c42 c43 c44 c45 c46 c47 c48 c49 c50 c51 c52 c53 c54 c55 c56 c57 c58 c59 c60 c61 c62 c63 c64 c65 c66 c67 c68 c69 c70 c224 : Value} {u7 u11 u12 u13 u14 u15 u16 u17 u18 u19 u71 u72 u73 u74 u75 u76 u77 u78 u79 u80 u81 u82 u83 u84 u85 u86 u87 u88 u89 u90 u91 u92 u93 u94 u95 u96 u97 u98 u99 u100 u101 u102 u103 u104 u105 u106 u107 u108 u109 u110 u111 u112 u113 u114 u115 u116 u117 u118 u119 u120 u121 u122 u123 u124 u125 u126 u127 u128 u129 u130 u131 u132 u133 u134 u135 u136 u137 u138 u139 u140 u141 u142 u143 u144 u145 u146 u147 u148 u149 u150 u151 u152 u153 u154 u155 u156 u157 u158 u159 u160 u161 u162 u163 u164 u165 u166 u167 u168 u169 u170 u171 u172 u173 u174 u175 u176 u177 u178 u179 u180 u181 u182 u183 u184 u185 u186 u187 u188 u189 u190 u191 u192 u193 u194 u195 u196 u197 u198 u199 u200 u201 u202 u203 u204 u205 u206 u207 u208 u209 u210 u211 u212 u213 u214 u215 u216 u217 u218 u219 u220 u221 u222 u223 : Value}
    (hB : B = w.heap.size) (hv : NumVars w) (HS : SetS w B b g xs k k c pc wr) (hlt : k < xs.length) (hnz : xs.length ≤ 4398046511105) (hp : xs[k] = p) (hps : p.size ≤ 4398046511104)
    (HNE : Hid (trimL p.data.toList ≠ [])) (HPR : Hid (allB prB (cutA 61 (trimL p.data.toList)) = true)) (HVL : Hid (allB valB (cutB 61 (trimL p.data.toList)) = true))
    (HKEY : Hid (Lib.toLowerA (cutA 61 (trimL p.data.toList)) = kSame))
    (HSV : Hid (Lib.toLowerA (cutB 61 (trimL p.data.toList)) = kNone))
    : Code.wp Tryz.prog psBody (Exit.then (PsPost c0 c1 c2 c3 c5 c6 c8 c20 c21 c22 c23 c24 c25 c26 c27 c28 c29 c30 c31 c32 c33 c34 c35 c36 c37 c38 c39 c40 c41 c42 c43 c44 c45 c46 c47 c48 c49 c50 c51 c52 c53 c54 c55 c56 c57 c58 c59 c60 c61 c62 c63 c64 c65 c66 c67 c68 c69 c70 c224 w B b g cap k xs (attrStep pc p.data.toList)) (fun _ _ _ => False)) ⟨#[c0, c1, c2, c3, .slice (some ⟨g, 0, none⟩) xs.length cap, c5, c6, u7, c8, .pointer (some ⟨b, 0, none⟩), .int .i64 (k : Int), u11, u12, u13, u14, u15, u16, u17, u18, u19, c20, c21, c22, c23, c24, c25, c26, c27, c28, c29, c30, c31, c32, c33, c34, c35, c36, c37, c38, c39, c40, c41, c42, c43, c44, c45, c46, c47, c48, c49, c50, c51, c52, c53, c54, c55, c56, c57, c58, c59, c60, c61, c62, c63, c64, c65, c66, c67, c68, c69, c70, u71, u72, u73, u74, u75, u76, u77, u78, u79, u80, u81, u82, u83, u84, u85, u86, u87, u88, u89, u90, u91, u92, u93, u94, u95, u96, u97, u98, u99, u100, u101, u102, u103, u104, u105, u106, u107, u108, u109, u110, u111, u112, u113, u114, u115, u116, u117, u118, u119, u120, u121, u122, u123, u124, u125, u126, u127, u128, u129, u130, u131, u132, u133, u134, u135, u136, u137, u138, u139, u140, u141, u142, u143, u144, u145, u146, u147, u148, u149, u150, u151, u152, u153, u154, u155, u156, u157, u158, u159, u160, u161, u162, u163, u164, u165, u166, u167, u168, u169, u170, u171, u172, u173, u174, u175, u176, u177, u178, u179, u180, u181, u182, u183, u184, u185, u186, u187, u188, u189, u190, u191, u192, u193, u194, u195, u196, u197, u198, u199, u200, u201, u202, u203, u204, u205, u206, u207, u208, u209, u210, u211, u212, u213, u214, u215, u216, u217, u218, u219, u220, u221, u222, u223, c224], []⟩ wr := by
  have HB := Lib.hid hB
  have HV := Lib.hid hv
  obtain ⟨i0, hi, hz0, hz1, hz2⟩ := info_parts strInfo
  obtain ⟨hck, hfz⟩ := HS.cell hlt
  rw [hp] at hck
  have HS0 := Lib.hid HS
  clear HS hp hB hv
  conv => arg 2; whnf
  go_upto_region 19 with (go_at_call 30; refine (zzTrim_any p _ hps).mono ?_; rintro e w' ⟨⟨t, rfl, ht⟩, rfl⟩; obtain ⟨hts, hts2⟩ := trim_size ht hps; have HT := Lib.hid ht; clear ht)
  obtain ⟨hS1, hct⟩ := HS0.out.trim hlt t
  generalize wr.setCell ⟨g, k, none⟩ (.string t) = w1 at hS1 hct ⊢
  clear hck hfz
  have HS1 := Lib.hid hS1
  have HCT := Lib.hid hct
  have hk9 : (k : Int) + 1 ≤ 9223372036854775807 := by omega
  clear hS1 HS0
  have hz : ((t.size : Int) == 0) = false := by
    rw [beq_eq_false_iff_ne]; intro h0
    exact HNE.out (by rw [← HT.out]; exact List.eq_nil_of_length_eq_zero (by rw [← Lib.size_eq]; omega))
  have hz' : (t.size == 0) = false := by
    rw [beq_eq_false_iff_ne]; intro h0
    exact HNE.out (by rw [← HT.out]; exact List.eq_nil_of_length_eq_zero (by rw [← Lib.size_eq]; omega))
  have HST : Hid (∀ v, attrStep pc p.data.toList = v ↔ setAttr pc t.data.toList (Lib.toLowerA (cutA 61 (trimL p.data.toList))) (cutB 61 (trimL p.data.toList)) = v) := Lib.hid (fun v => by rw [step_set HNE.out HPR.out HVL.out, HT.out])
  go_upto_region 27 with (first
      | (go_at_call 31; refine (zzCut_any _ _ 61 _ rfl hts).mono ?_; rintro e w2' ⟨⟨x, y, rfl, hx, hy⟩, m, hw'⟩; have HBW2 : Hid (Below w1.heap.size w1 w2') := Lib.hid (hw' ▸ below_drewN (Below.refl _ _) _); clear hw'; have hxz := (cutA_size hx hts hts2).2; have hyz := (cutB_size hy hts2).1; have hyz2 := (cutB_size hy hts2).2; have HX : Hid (x.data.toList = cutA 61 (trimL p.data.toList)) := Lib.hid (by rw [hx, HT.out]); have HY : Hid (y.data.toList = cutB 61 (trimL p.data.toList)) := Lib.hid (by rw [hy, HT.out]); clear hx hy)
      | (go_at_call 34; refine (zzToLower_yes x _ hxz (by rw [HX.out]; exact HPR.out)).mono ?_; rintro e w3' ⟨⟨lw, rfl, hlw⟩, hbw3⟩; have HBW3 := Lib.hid hbw3; have HLW : Hid (lw.data.toList = Lib.toLowerA (cutA 61 (trimL p.data.toList))) := Lib.hid (by rw [hlw, HX.out]); clear hbw3 hlw)
      | (go_at_call 33; refine (pcv_any y false _ hyz).mono ?_; rintro e w' ⟨⟨z, rfl, hz2⟩, rfl⟩; rw [strip_no y.data.toList false rfl, HY.out, HVL.out]; rw [strip_no y.data.toList false rfl, HY.out, HVL.out] at hz2; have HZ : Hid (z.data.toList = cutB 61 (trimL p.data.toList)) := Lib.hid (by simpa using hz2); have hzz : z.size ≤ 4398046511104 := by rw [Lib.size_eq, HZ.out, ← HY.out, ← Lib.size_eq]; exact hyz2
         clear hz2))
  have hS3 := (HS1.out.kept HS1.out.size HBW2.out).kept (HS1.out.kept HS1.out.size HBW2.out).size HBW3.out
  have HS3 := Lib.hid hS3
  have HCT3 : Hid (w3'.cell? ⟨g, k, none⟩ = some (.string t)) := Lib.hid (cell_keep' (cell_keep' HCT.out HBW2.out) HBW3.out)
  clear hS3
  have e1 : (lw.toList == [115, 97, 109, 101, 115, 105, 116, 101]) = true := key_eq HLW.out (by rw [HKEY.out]; rfl)
  have HR : Hid (attrStep pc p.data.toList = { pc with site := 4 }) := Lib.hid ((HST.out _).2 (by rw [HKEY.out, set_same]; unfold siteOf; rw [HSV.out]; rfl))
  have HZP : Hid (allB prB z.data.toList = true) := Lib.hid (val_pr (by rw [HZ.out]; exact HVL.out))
  go_wp2_with (go_at_call 34; refine (zzToLower_yes z _ hzz HZP.out).mono ?_; rintro e w5 ⟨⟨lv, rfl, hlv⟩, hbw5⟩; have j1 : (lv.toList == [108, 97, 120]) = false := key_ne (hlv.trans (congrArg Lib.toLowerA HZ.out)) (by rw [HSV.out]; decide); have j2 : (lv.toList == [115, 116, 114, 105, 99, 116]) = false := key_ne (hlv.trans (congrArg Lib.toLowerA HZ.out)) (by rw [HSV.out]; decide); have j3 : (lv.toList == [110, 111, 110, 101]) = true := key_eq (hlv.trans (congrArg Lib.toLowerA HZ.out)) (by rw [HSV.out]; rfl); have hS5 := HS3.out.kept HS3.out.size hbw5; have y8 : w5.cell? ⟨b, 8, none⟩ = some (.int .i64 c.site) := hS5.at_.cell 8; have f8 : w5.frozen? ⟨b, 8, none⟩ = false := hS5.frozen 8; have HS6 : Hid (SetS w B b g xs (k + 1) k { c with site := 4 } { pc with site := 4 } (w5.setCell ⟨b, 8, none⟩ (.int .i64 4))) := Lib.hid (hS5.put rfl ⟨rfl, rfl, rfl⟩ ⟨hS5.eq.name, hS5.eq.value, hS5.eq.quoted, hS5.eq.path, hS5.eq.domain, hS5.eq.age, hS5.eq.secure, hS5.eq.http, rfl, hS5.eq.part, hS5.eq.raw⟩ rfl); clear hS5 hlv hbw5)
  unfold PsPost
  (repeat apply Exists.intro)
  refine ⟨?rel, rfl⟩
  case rel => exact ⟨by go_num, _, by rw [HR.out]; exact HS6.out.le (Nat.le_succ _)⟩


set_option maxHeartbeats 16000000 in
set_option maxRecDepth 1000000 in
theorem ps_site {w wr : World} {B b g cap k : Nat} {xs : List ByteArray} {c : Ck} {pc : PC} {p : ByteArray} {c0 c1 c2 c3 c5 c6 c8 c20 c21 c22 c23 c24 c25 c26 c27 c28 c29 c30 c31 c32 c33 c34 c35 c36 c37 c38 c39 c40 c41 c42 c43 c44 c45 c46 c47 c48 c49 c50 c51 c52 c53 c54 c55 c56 c57 c58 c59 c60 c61 c62 c63 c64 c65 c66 c67 c68 c69 c70 c224 : Value} {u7 u11 u12 u13 u14 u15 u16 u17 u18 u19 u71 u72 u73 u74 u75 u76 u77 u78 u79 u80 u81 u82 u83 u84 u85 u86 u87 u88 u89 u90 u91 u92 u93 u94 u95 u96 u97 u98 u99 u100 u101 u102 u103 u104 u105 u106 u107 u108 u109 u110 u111 u112 u113 u114 u115 u116 u117 u118 u119 u120 u121 u122 u123 u124 u125 u126 u127 u128 u129 u130 u131 u132 u133 u134 u135 u136 u137 u138 u139 u140 u141 u142 u143 u144 u145 u146 u147 u148 u149 u150 u151 u152 u153 u154 u155 u156 u157 u158 u159 u160 u161 u162 u163 u164 u165 u166 u167 u168 u169 u170 u171 u172 u173 u174 u175 u176 u177 u178 u179 u180 u181 u182 u183 u184 u185 u186 u187 u188 u189 u190 u191 u192 u193 u194 u195 u196 u197 u198 u199 u200 u201 u202 u203 u204 u205 u206 u207 u208 u209 u210 u211 u212 u213 u214 u215 u216 u217 u218 u219 u220 u221 u222 u223 : Value}
    (hB : B = w.heap.size) (hv : NumVars w) (HS : SetS w B b g xs k k c pc wr) (hlt : k < xs.length) (hnz : xs.length ≤ 4398046511105) (hp : xs[k] = p) (hps : p.size ≤ 4398046511104)
    (HNE : Hid (trimL p.data.toList ≠ [])) (HPR : Hid (allB prB (cutA 61 (trimL p.data.toList)) = true)) (HVL : Hid (allB valB (cutB 61 (trimL p.data.toList)) = true))
    (HKEY : Hid (Lib.toLowerA (cutA 61 (trimL p.data.toList)) = kSame))
    (HSV : Hid (∀ l ∈ [kLax, kStrict, kNone], Lib.toLowerA (cutB 61 (trimL p.data.toList)) ≠ l))
    : Code.wp Tryz.prog psBody (Exit.then (PsPost c0 c1 c2 c3 c5 c6 c8 c20 c21 c22 c23 c24 c25 c26 c27 c28 c29 c30 c31 c32 c33 c34 c35 c36 c37 c38 c39 c40 c41 c42 c43 c44 c45 c46 c47 c48 c49 c50 c51 c52 c53 c54 c55 c56 c57 c58 c59 c60 c61 c62 c63 c64 c65 c66 c67 c68 c69 c70 c224 w B b g cap k xs (attrStep pc p.data.toList)) (fun _ _ _ => False)) ⟨#[c0, c1, c2, c3, .slice (some ⟨g, 0, none⟩) xs.length cap, c5, c6, u7, c8, .pointer (some ⟨b, 0, none⟩), .int .i64 (k : Int), u11, u12, u13, u14, u15, u16, u17, u18, u19, c20, c21, c22, c23, c24, c25, c26, c27, c28, c29, c30, c31, c32, c33, c34, c35, c36, c37, c38, c39, c40, c41, c42, c43, c44, c45, c46, c47, c48, c49, c50, c51, c52, c53, c54, c55, c56, c57, c58, c59, c60, c61, c62, c63, c64, c65, c66, c67, c68, c69, c70, u71, u72, u73, u74, u75, u76, u77, u78, u79, u80, u81, u82, u83, u84, u85, u86, u87, u88, u89, u90, u91, u92, u93, u94, u95, u96, u97, u98, u99, u100, u101, u102, u103, u104, u105, u106, u107, u108, u109, u110, u111, u112, u113, u114, u115, u116, u117, u118, u119, u120, u121, u122, u123, u124, u125, u126, u127, u128, u129, u130, u131, u132, u133, u134, u135, u136, u137, u138, u139, u140, u141, u142, u143, u144, u145, u146, u147, u148, u149, u150, u151, u152, u153, u154, u155, u156, u157, u158, u159, u160, u161, u162, u163, u164, u165, u166, u167, u168, u169, u170, u171, u172, u173, u174, u175, u176, u177, u178, u179, u180, u181, u182, u183, u184, u185, u186, u187, u188, u189, u190, u191, u192, u193, u194, u195, u196, u197, u198, u199, u200, u201, u202, u203, u204, u205, u206, u207, u208, u209, u210, u211, u212, u213, u214, u215, u216, u217, u218, u219, u220, u221, u222, u223, c224], []⟩ wr := by
  have HB := Lib.hid hB
  have HV := Lib.hid hv
  obtain ⟨i0, hi, hz0, hz1, hz2⟩ := info_parts strInfo
  obtain ⟨hck, hfz⟩ := HS.cell hlt
  rw [hp] at hck
  have HS0 := Lib.hid HS
  clear HS hp hB hv
  conv => arg 2; whnf
  go_upto_region 19 with (go_at_call 30; refine (zzTrim_any p _ hps).mono ?_; rintro e w' ⟨⟨t, rfl, ht⟩, rfl⟩; obtain ⟨hts, hts2⟩ := trim_size ht hps; have HT := Lib.hid ht; clear ht)
  obtain ⟨hS1, hct⟩ := HS0.out.trim hlt t
  generalize wr.setCell ⟨g, k, none⟩ (.string t) = w1 at hS1 hct ⊢
  clear hck hfz
  have HS1 := Lib.hid hS1
  have HCT := Lib.hid hct
  have hk9 : (k : Int) + 1 ≤ 9223372036854775807 := by omega
  clear hS1 HS0
  have hz : ((t.size : Int) == 0) = false := by
    rw [beq_eq_false_iff_ne]; intro h0
    exact HNE.out (by rw [← HT.out]; exact List.eq_nil_of_length_eq_zero (by rw [← Lib.size_eq]; omega))
  have hz' : (t.size == 0) = false := by
    rw [beq_eq_false_iff_ne]; intro h0
    exact HNE.out (by rw [← HT.out]; exact List.eq_nil_of_length_eq_zero (by rw [← Lib.size_eq]; omega))
  have HST : Hid (∀ v, attrStep pc p.data.toList = v ↔ setAttr pc t.data.toList (Lib.toLowerA (cutA 61 (trimL p.data.toList))) (cutB 61 (trimL p.data.toList)) = v) := Lib.hid (fun v => by rw [step_set HNE.out HPR.out HVL.out, HT.out])
  go_upto_region 27 with (first
      | (go_at_call 31; refine (zzCut_any _ _ 61 _ rfl hts).mono ?_; rintro e w2' ⟨⟨x, y, rfl, hx, hy⟩, m, hw'⟩; have HBW2 : Hid (Below w1.heap.size w1 w2') := Lib.hid (hw' ▸ below_drewN (Below.refl _ _) _); clear hw'; have hxz := (cutA_size hx hts hts2).2; have hyz := (cutB_size hy hts2).1; have hyz2 := (cutB_size hy hts2).2; have HX : Hid (x.data.toList = cutA 61 (trimL p.data.toList)) := Lib.hid (by rw [hx, HT.out]); have HY : Hid (y.data.toList = cutB 61 (trimL p.data.toList)) := Lib.hid (by rw [hy, HT.out]); clear hx hy)
      | (go_at_call 34; refine (zzToLower_yes x _ hxz (by rw [HX.out]; exact HPR.out)).mono ?_; rintro e w3' ⟨⟨lw, rfl, hlw⟩, hbw3⟩; have HBW3 := Lib.hid hbw3; have HLW : Hid (lw.data.toList = Lib.toLowerA (cutA 61 (trimL p.data.toList))) := Lib.hid (by rw [hlw, HX.out]); clear hbw3 hlw)
      | (go_at_call 33; refine (pcv_any y false _ hyz).mono ?_; rintro e w' ⟨⟨z, rfl, hz2⟩, rfl⟩; rw [strip_no y.data.toList false rfl, HY.out, HVL.out]; rw [strip_no y.data.toList false rfl, HY.out, HVL.out] at hz2; have HZ : Hid (z.data.toList = cutB 61 (trimL p.data.toList)) := Lib.hid (by simpa using hz2); have hzz : z.size ≤ 4398046511104 := by rw [Lib.size_eq, HZ.out, ← HY.out, ← Lib.size_eq]; exact hyz2
         clear hz2))
  have hS3 := (HS1.out.kept HS1.out.size HBW2.out).kept (HS1.out.kept HS1.out.size HBW2.out).size HBW3.out
  have HS3 := Lib.hid hS3
  have HCT3 : Hid (w3'.cell? ⟨g, k, none⟩ = some (.string t)) := Lib.hid (cell_keep' (cell_keep' HCT.out HBW2.out) HBW3.out)
  clear hS3
  have e1 : (lw.toList == [115, 97, 109, 101, 115, 105, 116, 101]) = true := key_eq HLW.out (by rw [HKEY.out]; rfl)
  have HR : Hid (attrStep pc p.data.toList = { pc with site := 1 }) := Lib.hid ((HST.out _).2 (by rw [HKEY.out, set_same]; unfold siteOf; rw [if_neg (HSV.out kLax (by simp)), if_neg (HSV.out kStrict (by simp)), if_neg (HSV.out kNone (by simp))]))
  have HZP : Hid (allB prB z.data.toList = true) := Lib.hid (val_pr (by rw [HZ.out]; exact HVL.out))
  go_wp2_with (go_at_call 34; refine (zzToLower_yes z _ hzz HZP.out).mono ?_; rintro e w5 ⟨⟨lv, rfl, hlv⟩, hbw5⟩; have j1 : (lv.toList == [108, 97, 120]) = false := key_ne (hlv.trans (congrArg Lib.toLowerA HZ.out)) (HSV.out kLax (by simp)); have j2 : (lv.toList == [115, 116, 114, 105, 99, 116]) = false := key_ne (hlv.trans (congrArg Lib.toLowerA HZ.out)) (HSV.out kStrict (by simp)); have j3 : (lv.toList == [110, 111, 110, 101]) = false := key_ne (hlv.trans (congrArg Lib.toLowerA HZ.out)) (HSV.out kNone (by simp)); have hS5 := HS3.out.kept HS3.out.size hbw5; have y8 : w5.cell? ⟨b, 8, none⟩ = some (.int .i64 c.site) := hS5.at_.cell 8; have f8 : w5.frozen? ⟨b, 8, none⟩ = false := hS5.frozen 8; have HS6 : Hid (SetS w B b g xs (k + 1) k { c with site := 1 } { pc with site := 1 } (w5.setCell ⟨b, 8, none⟩ (.int .i64 1))) := Lib.hid (hS5.put rfl ⟨rfl, rfl, rfl⟩ ⟨hS5.eq.name, hS5.eq.value, hS5.eq.quoted, hS5.eq.path, hS5.eq.domain, hS5.eq.age, hS5.eq.secure, hS5.eq.http, rfl, hS5.eq.part, hS5.eq.raw⟩ rfl); clear hS5 hlv hbw5)
  unfold PsPost
  (repeat apply Exists.intro)
  refine ⟨?rel, rfl⟩
  case rel => exact ⟨by go_num, _, by rw [HR.out]; exact HS6.out.le (Nat.le_succ _)⟩

end Go.Proofs.YtfijncfoefbohaaGreatDoor
