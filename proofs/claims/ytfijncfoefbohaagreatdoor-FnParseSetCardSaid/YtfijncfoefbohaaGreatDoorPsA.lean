/- The loop of ParseSetCookie: its body as it stands in the translation, what a round leaves; the parts that change nothing or are kept as they stand. -/
import Derived.Test.YtfijncfoefbohaaGreatDoorSetS
import Derived.Deep.RegionLaw
namespace Go.Proofs.YtfijncfoefbohaaGreatDoor
open Go Go.RowKit

def firstLoop : Code → Option Code
  | .loop c => some c
  | .seq a b => match firstLoop a with
    | some c => some c
    | none => firstLoop b
  | .block _ c => firstLoop c
  | .scope c => firstLoop c
  | .cond _ a b => match firstLoop a with
    | some c => some c
    | none => firstLoop b
  | _ => none
noncomputable def psBody : Code := (Tryz.f16.body.bind firstLoop).getD .skip

set_option maxRecDepth 1000000 in
/-- What a round leaves: the counter goes on, the cookie is the one behind part k. -/
def PsPost (c0 c1 c2 c3 c5 c6 c8 c20 c21 c22 c23 c24 c25 c26 c27 c28 c29 c30 c31 c32 c33 c34 c35 c36 c37 c38 c39 c40 c41 c42 c43 c44 c45 c46 c47 c48 c49 c50 c51 c52 c53 c54 c55 c56 c57 c58 c59 c60 c61 c62 c63 c64 c65 c66 c67 c68 c69 c70 c224 : Value) (w : World) (B b g cap k : Nat) (xs : List ByteArray) (pc : PC) (a : Act) (w' : World) : Prop :=
  ∃ i u7 u11 u12 u13 u14 u15 u16 u17 u18 u19 u71 u72 u73 u74 u75 u76 u77 u78 u79 u80 u81 u82 u83 u84 u85 u86 u87 u88 u89 u90 u91 u92 u93 u94 u95 u96 u97 u98 u99 u100 u101 u102 u103 u104 u105 u106 u107 u108 u109 u110 u111 u112 u113 u114 u115 u116 u117 u118 u119 u120 u121 u122 u123 u124 u125 u126 u127 u128 u129 u130 u131 u132 u133 u134 u135 u136 u137 u138 u139 u140 u141 u142 u143 u144 u145 u146 u147 u148 u149 u150 u151 u152 u153 u154 u155 u156 u157 u158 u159 u160 u161 u162 u163 u164 u165 u166 u167 u168 u169 u170 u171 u172 u173 u174 u175 u176 u177 u178 u179 u180 u181 u182 u183 u184 u185 u186 u187 u188 u189 u190 u191 u192 u193 u194 u195 u196 u197 u198 u199 u200 u201 u202 u203 u204 u205 u206 u207 u208 u209 u210 u211 u212 u213 u214 u215 u216 u217 u218 u219 u220 u221 u222 u223 : Value, (i = .int .i64 ((k + 1 : Nat) : Int) ∧ ∃ c : Ck, SetS w B b g xs (k + 1) (k + 1) c pc w') ∧ a = ⟨#[c0, c1, c2, c3, .slice (some ⟨g, 0, none⟩) xs.length cap, c5, c6, u7, c8, .pointer (some ⟨b, 0, none⟩), i, u11, u12, u13, u14, u15, u16, u17, u18, u19, c20, c21, c22, c23, c24, c25, c26, c27, c28, c29, c30, c31, c32, c33, c34, c35, c36, c37, c38, c39, c40, c41, c42, c43, c44, c45, c46, c47, c48, c49, c50, c51, c52, c53, c54, c55, c56, c57, c58, c59, c60, c61, c62, c63, c64, c65, c66, c67, c68, c69, c70, u71, u72, u73, u74, u75, u76, u77, u78, u79, u80, u81, u82, u83, u84, u85, u86, u87, u88, u89, u90, u91, u92, u93, u94, u95, u96, u97, u98, u99, u100, u101, u102, u103, u104, u105, u106, u107, u108, u109, u110, u111, u112, u113, u114, u115, u116, u117, u118, u119, u120, u121, u122, u123, u124, u125, u126, u127, u128, u129, u130, u131, u132, u133, u134, u135, u136, u137, u138, u139, u140, u141, u142, u143, u144, u145, u146, u147, u148, u149, u150, u151, u152, u153, u154, u155, u156, u157, u158, u159, u160, u161, u162, u163, u164, u165, u166, u167, u168, u169, u170, u171, u172, u173, u174, u175, u176, u177, u178, u179, u180, u181, u182, u183, u184, u185, u186, u187, u188, u189, u190, u191, u192, u193, u194, u195, u196, u197, u198, u199, u200, u201, u202, u203, u204, u205, u206, u207, u208, u209, u210, u211, u212, u213, u214, u215, u216, u217, u218, u219, u220, u221, u222, u223, c224], []⟩
set_option maxRecDepth 1000000 in
/-- The loop's relation. -/
def PsInv (c0 c1 c2 c3 c5 c6 c8 c20 c21 c22 c23 c24 c25 c26 c27 c28 c29 c30 c31 c32 c33 c34 c35 c36 c37 c38 c39 c40 c41 c42 c43 c44 c45 c46 c47 c48 c49 c50 c51 c52 c53 c54 c55 c56 c57 c58 c59 c60 c61 c62 c63 c64 c65 c66 c67 c68 c69 c70 c224 : Value) (w : World) (B b g cap : Nat) (xs : List ByteArray) (pk : Nat → PC) (a : Act) (w' : World) : Prop :=
  ∃ i u7 u11 u12 u13 u14 u15 u16 u17 u18 u19 u71 u72 u73 u74 u75 u76 u77 u78 u79 u80 u81 u82 u83 u84 u85 u86 u87 u88 u89 u90 u91 u92 u93 u94 u95 u96 u97 u98 u99 u100 u101 u102 u103 u104 u105 u106 u107 u108 u109 u110 u111 u112 u113 u114 u115 u116 u117 u118 u119 u120 u121 u122 u123 u124 u125 u126 u127 u128 u129 u130 u131 u132 u133 u134 u135 u136 u137 u138 u139 u140 u141 u142 u143 u144 u145 u146 u147 u148 u149 u150 u151 u152 u153 u154 u155 u156 u157 u158 u159 u160 u161 u162 u163 u164 u165 u166 u167 u168 u169 u170 u171 u172 u173 u174 u175 u176 u177 u178 u179 u180 u181 u182 u183 u184 u185 u186 u187 u188 u189 u190 u191 u192 u193 u194 u195 u196 u197 u198 u199 u200 u201 u202 u203 u204 u205 u206 u207 u208 u209 u210 u211 u212 u213 u214 u215 u216 u217 u218 u219 u220 u221 u222 u223 : Value, (∃ (k : Nat) (c : Ck), 1 ≤ k ∧ k ≤ xs.length ∧ i = .int .i64 k ∧ SetS w B b g xs k k c (pk k) w') ∧ a = ⟨#[c0, c1, c2, c3, .slice (some ⟨g, 0, none⟩) xs.length cap, c5, c6, u7, c8, .pointer (some ⟨b, 0, none⟩), i, u11, u12, u13, u14, u15, u16, u17, u18, u19, c20, c21, c22, c23, c24, c25, c26, c27, c28, c29, c30, c31, c32, c33, c34, c35, c36, c37, c38, c39, c40, c41, c42, c43, c44, c45, c46, c47, c48, c49, c50, c51, c52, c53, c54, c55, c56, c57, c58, c59, c60, c61, c62, c63, c64, c65, c66, c67, c68, c69, c70, u71, u72, u73, u74, u75, u76, u77, u78, u79, u80, u81, u82, u83, u84, u85, u86, u87, u88, u89, u90, u91, u92, u93, u94, u95, u96, u97, u98, u99, u100, u101, u102, u103, u104, u105, u106, u107, u108, u109, u110, u111, u112, u113, u114, u115, u116, u117, u118, u119, u120, u121, u122, u123, u124, u125, u126, u127, u128, u129, u130, u131, u132, u133, u134, u135, u136, u137, u138, u139, u140, u141, u142, u143, u144, u145, u146, u147, u148, u149, u150, u151, u152, u153, u154, u155, u156, u157, u158, u159, u160, u161, u162, u163, u164, u165, u166, u167, u168, u169, u170, u171, u172, u173, u174, u175, u176, u177, u178, u179, u180, u181, u182, u183, u184, u185, u186, u187, u188, u189, u190, u191, u192, u193, u194, u195, u196, u197, u198, u199, u200, u201, u202, u203, u204, u205, u206, u207, u208, u209, u210, u211, u212, u213, u214, u215, u216, u217, u218, u219, u220, u221, u222, u223, c224], []⟩
set_option maxRecDepth 1000000 in
/-- Behind the loop. -/
def PsExit (c0 c1 c2 c3 c5 c6 c8 c20 c21 c22 c23 c24 c25 c26 c27 c28 c29 c30 c31 c32 c33 c34 c35 c36 c37 c38 c39 c40 c41 c42 c43 c44 c45 c46 c47 c48 c49 c50 c51 c52 c53 c54 c55 c56 c57 c58 c59 c60 c61 c62 c63 c64 c65 c66 c67 c68 c69 c70 c224 : Value) (w : World) (B b g cap : Nat) (xs : List ByteArray) (pk : Nat → PC) (a : Act) (w' : World) : Prop :=
  ∃ i u7 u11 u12 u13 u14 u15 u16 u17 u18 u19 u71 u72 u73 u74 u75 u76 u77 u78 u79 u80 u81 u82 u83 u84 u85 u86 u87 u88 u89 u90 u91 u92 u93 u94 u95 u96 u97 u98 u99 u100 u101 u102 u103 u104 u105 u106 u107 u108 u109 u110 u111 u112 u113 u114 u115 u116 u117 u118 u119 u120 u121 u122 u123 u124 u125 u126 u127 u128 u129 u130 u131 u132 u133 u134 u135 u136 u137 u138 u139 u140 u141 u142 u143 u144 u145 u146 u147 u148 u149 u150 u151 u152 u153 u154 u155 u156 u157 u158 u159 u160 u161 u162 u163 u164 u165 u166 u167 u168 u169 u170 u171 u172 u173 u174 u175 u176 u177 u178 u179 u180 u181 u182 u183 u184 u185 u186 u187 u188 u189 u190 u191 u192 u193 u194 u195 u196 u197 u198 u199 u200 u201 u202 u203 u204 u205 u206 u207 u208 u209 u210 u211 u212 u213 u214 u215 u216 u217 u218 u219 u220 u221 u222 u223 : Value, (∃ c : Ck, SetS w B b g xs xs.length xs.length c (pk xs.length) w') ∧ a = ⟨#[c0, c1, c2, c3, .slice (some ⟨g, 0, none⟩) xs.length cap, c5, c6, u7, c8, .pointer (some ⟨b, 0, none⟩), i, u11, u12, u13, u14, u15, u16, u17, u18, u19, c20, c21, c22, c23, c24, c25, c26, c27, c28, c29, c30, c31, c32, c33, c34, c35, c36, c37, c38, c39, c40, c41, c42, c43, c44, c45, c46, c47, c48, c49, c50, c51, c52, c53, c54, c55, c56, c57, c58, c59, c60, c61, c62, c63, c64, c65, c66, c67, c68, c69, c70, u71, u72, u73, u74, u75, u76, u77, u78, u79, u80, u81, u82, u83, u84, u85, u86, u87, u88, u89, u90, u91, u92, u93, u94, u95, u96, u97, u98, u99, u100, u101, u102, u103, u104, u105, u106, u107, u108, u109, u110, u111, u112, u113, u114, u115, u116, u117, u118, u119, u120, u121, u122, u123, u124, u125, u126, u127, u128, u129, u130, u131, u132, u133, u134, u135, u136, u137, u138, u139, u140, u141, u142, u143, u144, u145, u146, u147, u148, u149, u150, u151, u152, u153, u154, u155, u156, u157, u158, u159, u160, u161, u162, u163, u164, u165, u166, u167, u168, u169, u170, u171, u172, u173, u174, u175, u176, u177, u178, u179, u180, u181, u182, u183, u184, u185, u186, u187, u188, u189, u190, u191, u192, u193, u194, u195, u196, u197, u198, u199, u200, u201, u202, u203, u204, u205, u206, u207, u208, u209, u210, u211, u212, u213, u214, u215, u216, u217, u218, u219, u220, u221, u222, u223, c224], []⟩
def psMu (n : Nat) (a : Act) (_ : World) : Nat := n - (intOf (a.tmps.getD 10 undef)).toNat

theorem cell_keep' {w w' : World} {p : Addr} {u : Value} (h : w.cell? p = some u) (hb : Below w.heap.size w w') : w'.cell? p = some u := by
  have hlt : p.block < w.heap.size := by
    rcases Nat.lt_or_ge p.block w.heap.size with h' | h'
    · exact h'
    · simp [World.cell?, Array.getElem?_eq_none h'] at h
  rw [hb.cell hlt]; exact h
theorem val_pr {l : List UInt8} (h : allB valB l = true) : allB prB l = true := allB_of fun b hb => by
  have h2 := allB_mem h b hb
  unfold valB at h2
  rw [decide_eq_true_eq] at h2
  unfold prB
  rw [decide_eq_true_eq]
  omega
theorem key_ne {lw : ByteArray} {l k : List UInt8} (h : lw.data.toList = l) (hne : l ≠ k) : (lw.toList == k) = false := by
  rw [Lib.toList_data, h, beq_eq_false_iff_ne]; exact hne
theorem key_eq {lw : ByteArray} {l k : List UInt8} (h : lw.data.toList = l) (he : l = k) : (lw.toList == k) = true := by
  rw [Lib.toList_data, h, beq_iff_eq]; exact he



set_option maxHeartbeats 16000000 in
set_option maxRecDepth 1000000 in
theorem ps_blank {w wr : World} {B b g cap k : Nat} {xs : List ByteArray} {c : Ck} {pc : PC} {p : ByteArray} {c0 c1 c2 c3 c5 c6 c8 c20 c21 c22 c23 c24 c25 c26 c27 c28 c29 c30 c31 c32 c33 c34 c35 c36 c37 c38 c39 c40 c41 c42 c43 c44 c45 c46 c47 c48 c49 c50 c51 c52 c53 c54 c55 c56 c57 c58 c59 c60 c61 c62 c63 c64 c65 c66 c67 c68 c69 c70 c224 : Value} {u7 u11 u12 u13 u14 u15 u16 u17 u18 u19 u71 u72 u73 u74 u75 u76 u77 u78 u79 u80 u81 u82 u83 u84 u85 u86 u87 u88 u89 u90 u91 u92 u93 u94 u95 u96 u97 u98 u99 u100 u101 u102 u103 u104 u105 u106 u107 u108 u109 u110 u111 u112 u113 u114 u115 u116 u117 u118 u119 u120 u121 u122 u123 u124 u125 u126 u127 u128 u129 u130 u131 u132 u133 u134 u135 u136 u137 u138 u139 u140 u141 u142 u143 u144 u145 u146 u147 u148 u149 u150 u151 u152 u153 u154 u155 u156 u157 u158 u159 u160 u161 u162 u163 u164 u165 u166 u167 u168 u169 u170 u171 u172 u173 u174 u175 u176 u177 u178 u179 u180 u181 u182 u183 u184 u185 u186 u187 u188 u189 u190 u191 u192 u193 u194 u195 u196 u197 u198 u199 u200 u201 u202 u203 u204 u205 u206 u207 u208 u209 u210 u211 u212 u213 u214 u215 u216 u217 u218 u219 u220 u221 u222 u223 : Value}
    (hB : B = w.heap.size) (hv : NumVars w) (HS : SetS w B b g xs k k c pc wr) (hlt : k < xs.length) (hnz : xs.length ≤ 4398046511105) (hp : xs[k] = p) (hps : p.size ≤ 4398046511104)
    (HNE : Hid (trimL p.data.toList = []))
    : Code.wp Tryz.prog psBody (Exit.then (PsPost c0 c1 c2 c3 c5 c6 c8 c20 c21 c22 c23 c24 c25 c26 c27 c28 c29 c30 c31 c32 c33 c34 c35 c36 c37 c38 c39 c40 c41 c42 c43 c44 c45 c46 c47 c48 c49 c50 c51 c52 c53 c54 c55 c56 c57 c58 c59 c60 c61 c62 c63 c64 c65 c66 c67 c68 c69 c70 c224 w B b g cap k xs (attrStep pc p.data.toList)) (fun _ _ _ => False)) ⟨#[c0, c1, c2, c3, .slice (some ⟨g, 0, none⟩) xs.length cap, c5, c6, u7, c8, .pointer (some ⟨b, 0, none⟩), .int .i64 (k : Int), u11, u12, u13, u14, u15, u16, u17, u18, u19, c20, c21, c22, c23, c24, c25, c26, c27, c28, c29, c30, c31, c32, c33, c34, c35, c36, c37, c38, c39, c40, c41, c42, c43, c44, c45, c46, c47, c48, c49, c50, c51, c52, c53, c54, c55, c56, c57, c58, c59, c60, c61, c62, c63, c64, c65, c66, c67, c68, c69, c70, u71, u72, u73, u74, u75, u76, u77, u78, u79, u80, u81, u82, u83, u84, u85, u86, u87, u88, u89, u90, u91, u92, u93, u94, u95, u96, u97, u98, u99, u100, u101, u102, u103, u104, u105, u106, u107, u108, u109, u110, u111, u112, u113, u114, u115, u116, u117, u118, u119, u120, u121, u122, u123, u124, u125, u126, u127, u128, u129, u130, u131, u132, u133, u134, u135, u136, u137, u138, u139, u140, u141, u142, u143, u144, u145, u146, u147, u148, u149, u150, u151, u152, u153, u154, u155, u156, u157, u158, u159, u160, u161, u162, u163, u164, u165, u166, u167, u168, u169, u170, u171, u172, u173, u174, u175, u176, u177, u178, u179, u180, u181, u182, u183, u184, u185, u186, u187, u188, u189, u190, u191, u192, u193, u194, u195, u196, u197, u198, u199, u200, u201, u202, u203, u204, u205, u206, u207, u208, u209, u210, u211, u212, u213, u214, u215, u216, u217, u218, u219, u220, u221, u222, u223, c224], []⟩ wr := by
  have HB := Lib.hid hB
  have HV := Lib.hid hv
  obtain ⟨i0, hi, hz0, hz1, hz2⟩ := info_parts strInfo
  obtain ⟨hck, hfz⟩ := HS.cell hlt
  rw [hp] at hck
  have HS0 := Lib.hid HS
  clear HS hp hB hv
  conv => arg 2; whnf
  go_upto_region 19 with (go_at_call 30; refine (zzTrim_any p _ hps).mono ?_; rintro e w' ⟨⟨t, rfl, ht⟩, rfl⟩; obtain ⟨hts, hts2⟩ := trim_size ht hps; have HT := Lib.hid ht; clear ht)
  obtain ⟨hS1, hct⟩ := HS0.out.trim hlt t
  generalize wr.setCell ⟨g, k, none⟩ (.string t) = w1 at hS1 hct ⊢
  clear hck hfz
  have HS1 := Lib.hid hS1
  have HCT := Lib.hid hct
  have hk9 : (k : Int) + 1 ≤ 9223372036854775807 := by omega
  clear hS1 HS0
  have h0 : t.size = 0 := by rw [Lib.size_eq, HT.out, HNE.out]; rfl
  have hz : ((t.size : Int) == 0) = true := by rw [beq_iff_eq]; omega
  have hz' : (t.size == 0) = true := by rw [beq_iff_eq]; exact h0
  have HR : Hid (attrStep pc p.data.toList = pc) := Lib.hid (step_blank HNE.out)
  clear h0
  go_wp2
  unfold PsPost
  (repeat apply Exists.intro)
  refine ⟨?rel, rfl⟩
  case rel => exact ⟨by go_num, _, by rw [HR.out]; exact HS1.out.le (Nat.le_succ _)⟩


set_option maxHeartbeats 16000000 in
set_option maxRecDepth 1000000 in
theorem ps_far {w wr : World} {B b g cap k : Nat} {xs : List ByteArray} {c : Ck} {pc : PC} {p : ByteArray} {c0 c1 c2 c3 c5 c6 c8 c20 c21 c22 c23 c24 c25 c26 c27 c28 c29 c30 c31 c32 c33 c34 c35 c36 c37 c38 c39 c40 c41 c42 c43 c44 c45 c46 c47 c48 c49 c50 c51 c52 c53 c54 c55 c56 c57 c58 c59 c60 c61 c62 c63 c64 c65 c66 c67 c68 c69 c70 c224 : Value} {u7 u11 u12 u13 u14 u15 u16 u17 u18 u19 u71 u72 u73 u74 u75 u76 u77 u78 u79 u80 u81 u82 u83 u84 u85 u86 u87 u88 u89 u90 u91 u92 u93 u94 u95 u96 u97 u98 u99 u100 u101 u102 u103 u104 u105 u106 u107 u108 u109 u110 u111 u112 u113 u114 u115 u116 u117 u118 u119 u120 u121 u122 u123 u124 u125 u126 u127 u128 u129 u130 u131 u132 u133 u134 u135 u136 u137 u138 u139 u140 u141 u142 u143 u144 u145 u146 u147 u148 u149 u150 u151 u152 u153 u154 u155 u156 u157 u158 u159 u160 u161 u162 u163 u164 u165 u166 u167 u168 u169 u170 u171 u172 u173 u174 u175 u176 u177 u178 u179 u180 u181 u182 u183 u184 u185 u186 u187 u188 u189 u190 u191 u192 u193 u194 u195 u196 u197 u198 u199 u200 u201 u202 u203 u204 u205 u206 u207 u208 u209 u210 u211 u212 u213 u214 u215 u216 u217 u218 u219 u220 u221 u222 u223 : Value}
    (hB : B = w.heap.size) (hv : NumVars w) (HS : SetS w B b g xs k k c pc wr) (hlt : k < xs.length) (hnz : xs.length ≤ 4398046511105) (hp : xs[k] = p) (hps : p.size ≤ 4398046511104)
    (HNE : Hid (trimL p.data.toList ≠ [])) (HPR : Hid (allB prB (cutA 61 (trimL p.data.toList)) = false))
    : Code.wp Tryz.prog psBody (Exit.then (PsPost c0 c1 c2 c3 c5 c6 c8 c20 c21 c22 c23 c24 c25 c26 c27 c28 c29 c30 c31 c32 c33 c34 c35 c36 c37 c38 c39 c40 c41 c42 c43 c44 c45 c46 c47 c48 c49 c50 c51 c52 c53 c54 c55 c56 c57 c58 c59 c60 c61 c62 c63 c64 c65 c66 c67 c68 c69 c70 c224 w B b g cap k xs (attrStep pc p.data.toList)) (fun _ _ _ => False)) ⟨#[c0, c1, c2, c3, .slice (some ⟨g, 0, none⟩) xs.length cap, c5, c6, u7, c8, .pointer (some ⟨b, 0, none⟩), .int .i64 (k : Int), u11, u12, u13, u14, u15, u16, u17, u18, u19, c20, c21, c22, c23, c24, c25, c26, c27, c28, c29, c30, c31, c32, c33, c34, c35, c36, c37, c38, c39, c40, c41, c42, c43, c44, c45, c46, c47, c48, c49, c50, c51, c52, c53, c54, c55, c56, c57, c58, c59, c60, c61, c62, c63, c64, c65, c66, c67, c68, c69, c70, u71, u72, u73, u74, u75, u76, u77, u78, u79, u80, u81, u82, u83, u84, u85, u86, u87, u88, u89, u90, u91, u92, u93, u94, u95, u96, u97, u98, u99, u100, u101, u102, u103, u104, u105, u106, u107, u108, u109, u110, u111, u112, u113, u114, u115, u116, u117, u118, u119, u120, u121, u122, u123, u124, u125, u126, u127, u128, u129, u130, u131, u132, u133, u134, u135, u136, u137, u138, u139, u140, u141, u142, u143, u144, u145, u146, u147, u148, u149, u150, u151, u152, u153, u154, u155, u156, u157, u158, u159, u160, u161, u162, u163, u164, u165, u166, u167, u168, u169, u170, u171, u172, u173, u174, u175, u176, u177, u178, u179, u180, u181, u182, u183, u184, u185, u186, u187, u188, u189, u190, u191, u192, u193, u194, u195, u196, u197, u198, u199, u200, u201, u202, u203, u204, u205, u206, u207, u208, u209, u210, u211, u212, u213, u214, u215, u216, u217, u218, u219, u220, u221, u222, u223, c224], []⟩ wr := by
  have HB := Lib.hid hB
  have HV := Lib.hid hv
  obtain ⟨i0, hi, hz0, hz1, hz2⟩ := info_parts strInfo
  obtain ⟨hck, hfz⟩ := HS.cell hlt
  rw [hp] at hck
  have HS0 := Lib.hid HS
  clear HS hp hB hv
  conv => arg 2; whnf
  go_upto_region 19 with (go_at_call 30; refine (zzTrim_any p _ hps).mono ?_; rintro e w' ⟨⟨t, rfl, ht⟩, rfl⟩; obtain ⟨hts, hts2⟩ := trim_size ht hps; have HT := Lib.hid ht; clear ht)
  obtain ⟨hS1, hct⟩ := HS0.out.trim hlt t
  generalize wr.setCell ⟨g, k, none⟩ (.string t) = w1 at hS1 hct ⊢
  clear hck hfz
  have HS1 := Lib.hid hS1
  have HCT := Lib.hid hct
  have hk9 : (k : Int) + 1 ≤ 9223372036854775807 := by omega
  clear hS1 HS0
  have hz : ((t.size : Int) == 0) = false := by
    rw [beq_eq_false_iff_ne]; intro h0
    exact HNE.out (by rw [← HT.out]; exact List.eq_nil_of_length_eq_zero (by rw [← Lib.size_eq]; omega))
  have hz' : (t.size == 0) = false := by
    rw [beq_eq_false_iff_ne]; intro h0
    exact HNE.out (by rw [← HT.out]; exact List.eq_nil_of_length_eq_zero (by rw [← Lib.size_eq]; omega))
  have HR : Hid (attrStep pc p.data.toList = pc) := Lib.hid (step_far HNE.out HPR.out)
  go_wp2_with (first
    | (go_at_call 31; refine (zzCut_any _ _ 61 _ rfl hts).mono ?_; rintro e w2' ⟨⟨x, y, rfl, hx, hy⟩, m, hw'⟩; have HBW2 : Hid (Below w1.heap.size w1 w2') := Lib.hid (hw' ▸ below_drewN (Below.refl _ _) _); clear hw'; have hxz := (cutA_size hx hts hts2).2; have hyz := (cutB_size hy hts2).1; have hyz2 := (cutB_size hy hts2).2; have HX : Hid (x.data.toList = cutA 61 (trimL p.data.toList)) := Lib.hid (by rw [hx, HT.out]); have HY : Hid (y.data.toList = cutB 61 (trimL p.data.toList)) := Lib.hid (by rw [hy, HT.out]); clear hx hy)
    | (go_at_call 34; refine (zzToLower_no x _ hxz (by rw [HX.out]; exact HPR.out)).mono ?_; rintro e w' ⟨rfl, rfl⟩))
  unfold PsPost
  (repeat apply Exists.intro)
  refine ⟨?rel, rfl⟩
  case rel => exact ⟨by go_num, _, by rw [HR.out]; exact (HS1.out.kept HS1.out.size HBW2.out).le (Nat.le_succ _)⟩


set_option maxHeartbeats 16000000 in
set_option maxRecDepth 1000000 in
theorem ps_bad {w wr : World} {B b g cap k : Nat} {xs : List ByteArray} {c : Ck} {pc : PC} {p : ByteArray} {c0 c1 c2 c3 c5 c6 c8 c20 c21 c22 c23 c24 c25 c26 c27 c28 c29 c30 c31 c32 c33 c34 c35 c36 c37 c38 c39 c40 c41 c42 c43 c44 c45 c46 c47 c48 c49 c50 c51 c52 c53 c54 c55 c56 c57 c58 c59 c60 c61 c62 c63 c64 c65 c66 c67 c68 c69 c70 c224 : Value} {u7 u11 u12 u13 u14 u15 u16 u17 u18 u19 u71 u72 u73 u74 u75 u76 u77 u78 u79 u80 u81 u82 u83 u84 u85 u86 u87 u88 u89 u90 u91 u92 u93 u94 u95 u96 u97 u98 u99 u100 u101 u102 u103 u104 u105 u106 u107 u108 u109 u110 u111 u112 u113 u114 u115 u116 u117 u118 u119 u120 u121 u122 u123 u124 u125 u126 u127 u128 u129 u130 u131 u132 u133 u134 u135 u136 u137 u138 u139 u140 u141 u142 u143 u144 u145 u146 u147 u148 u149 u150 u151 u152 u153 u154 u155 u156 u157 u158 u159 u160 u161 u162 u163 u164 u165 u166 u167 u168 u169 u170 u171 u172 u173 u174 u175 u176 u177 u178 u179 u180 u181 u182 u183 u184 u185 u186 u187 u188 u189 u190 u191 u192 u193 u194 u195 u196 u197 u198 u199 u200 u201 u202 u203 u204 u205 u206 u207 u208 u209 u210 u211 u212 u213 u214 u215 u216 u217 u218 u219 u220 u221 u222 u223 : Value}
    (hB : B = w.heap.size) (hv : NumVars w) (HS : SetS w B b g xs k k c pc wr) (hlt : k < xs.length) (hnz : xs.length ≤ 4398046511105) (hp : xs[k] = p) (hps : p.size ≤ 4398046511104)
    (HNE : Hid (trimL p.data.toList ≠ [])) (HPR : Hid (allB prB (cutA 61 (trimL p.data.toList)) = true)) (HVL : Hid (allB valB (cutB 61 (trimL p.data.toList)) = false))
    : Code.wp Tryz.prog psBody (Exit.then (PsPost c0 c1 c2 c3 c5 c6 c8 c20 c21 c22 c23 c24 c25 c26 c27 c28 c29 c30 c31 c32 c33 c34 c35 c36 c37 c38 c39 c40 c41 c42 c43 c44 c45 c46 c47 c48 c49 c50 c51 c52 c53 c54 c55 c56 c57 c58 c59 c60 c61 c62 c63 c64 c65 c66 c67 c68 c69 c70 c224 w B b g cap k xs (attrStep pc p.data.toList)) (fun _ _ _ => False)) ⟨#[c0, c1, c2, c3, .slice (some ⟨g, 0, none⟩) xs.length cap, c5, c6, u7, c8, .pointer (some ⟨b, 0, none⟩), .int .i64 (k : Int), u11, u12, u13, u14, u15, u16, u17, u18, u19, c20, c21, c22, c23, c24, c25, c26, c27, c28, c29, c30, c31, c32, c33, c34, c35, c36, c37, c38, c39, c40, c41, c42, c43, c44, c45, c46, c47, c48, c49, c50, c51, c52, c53, c54, c55, c56, c57, c58, c59, c60, c61, c62, c63, c64, c65, c66, c67, c68, c69, c70, u71, u72, u73, u74, u75, u76, u77, u78, u79, u80, u81, u82, u83, u84, u85, u86, u87, u88, u89, u90, u91, u92, u93, u94, u95, u96, u97, u98, u99, u100, u101, u102, u103, u104, u105, u106, u107, u108, u109, u110, u111, u112, u113, u114, u115, u116, u117, u118, u119, u120, u121, u122, u123, u124, u125, u126, u127, u128, u129, u130, u131, u132, u133, u134, u135, u136, u137, u138, u139, u140, u141, u142, u143, u144, u145, u146, u147, u148, u149, u150, u151, u152, u153, u154, u155, u156, u157, u158, u159, u160, u161, u162, u163, u164, u165, u166, u167, u168, u169, u170, u171, u172, u173, u174, u175, u176, u177, u178, u179, u180, u181, u182, u183, u184, u185, u186, u187, u188, u189, u190, u191, u192, u193, u194, u195, u196, u197, u198, u199, u200, u201, u202, u203, u204, u205, u206, u207, u208, u209, u210, u211, u212, u213, u214, u215, u216, u217, u218, u219, u220, u221, u222, u223, c224], []⟩ wr := by
  have HB := Lib.hid hB
  have HV := Lib.hid hv
  obtain ⟨i0, hi, hz0, hz1, hz2⟩ := info_parts strInfo
  obtain ⟨hck, hfz⟩ := HS.cell hlt
  rw [hp] at hck
  have HS0 := Lib.hid HS
  clear HS hp hB hv
  conv => arg 2; whnf
  go_upto_region 19 with (go_at_call 30; refine (zzTrim_any p _ hps).mono ?_; rintro e w' ⟨⟨t, rfl, ht⟩, rfl⟩; obtain ⟨hts, hts2⟩ := trim_size ht hps; have HT := Lib.hid ht; clear ht)
  obtain ⟨hS1, hct⟩ := HS0.out.trim hlt t
  generalize wr.setCell ⟨g, k, none⟩ (.string t) = w1 at hS1 hct ⊢
  clear hck hfz
  have HS1 := Lib.hid hS1
  have HCT := Lib.hid hct
  have hk9 : (k : Int) + 1 ≤ 9223372036854775807 := by omega
  clear hS1 HS0
  have hz : ((t.size : Int) == 0) = false := by
    rw [beq_eq_false_iff_ne]; intro h0
    exact HNE.out (by rw [← HT.out]; exact List.eq_nil_of_length_eq_zero (by rw [← Lib.size_eq]; omega))
  have hz' : (t.size == 0) = false := by
    rw [beq_eq_false_iff_ne]; intro h0
    exact HNE.out (by rw [← HT.out]; exact List.eq_nil_of_length_eq_zero (by rw [← Lib.size_eq]; omega))
  have HR : Hid (attrStep pc p.data.toList = { pc with unp := pc.unp ++ [t.data.toList] }) := Lib.hid (by rw [HT.out]; exact step_bad HNE.out HPR.out HVL.out)
  go_upto_region 25 with (first
    | (go_at_call 31; refine (zzCut_any _ _ 61 _ rfl hts).mono ?_; rintro e w2' ⟨⟨x, y, rfl, hx, hy⟩, m, hw'⟩; have HBW2 : Hid (Below w1.heap.size w1 w2') := Lib.hid (hw' ▸ below_drewN (Below.refl _ _) _); clear hw'; have hxz := (cutA_size hx hts hts2).2; have hyz := (cutB_size hy hts2).1; have hyz2 := (cutB_size hy hts2).2; have HX : Hid (x.data.toList = cutA 61 (trimL p.data.toList)) := Lib.hid (by rw [hx, HT.out]); have HY : Hid (y.data.toList = cutB 61 (trimL p.data.toList)) := Lib.hid (by rw [hy, HT.out]); clear hx hy)
    | (go_at_call 34; refine (zzToLower_yes x _ hxz (by rw [HX.out]; exact HPR.out)).mono ?_; rintro e w3' ⟨⟨lw, rfl, hlw⟩, hbw3⟩; have HBW3 := Lib.hid hbw3; clear hbw3 hlw)
    | (go_at_call 33; refine (pcv_any y false _ hyz).mono ?_; rintro e w' ⟨⟨z, rfl, hz2⟩, rfl⟩; rw [strip_no y.data.toList false rfl, HY.out, HVL.out]; clear hz2))
  have hS3 := (HS1.out.kept HS1.out.size HBW2.out).kept (HS1.out.kept HS1.out.size HBW2.out).size HBW3.out
  have hct3 : w3'.cell? ⟨g, k, none⟩ = some (.string t) := cell_keep' (cell_keep' HCT.out HBW2.out) HBW3.out
  have HS3 := Lib.hid hS3
  clear hS3
  obtain ⟨us, u1, u2, u3, u4⟩ := HS3.out.unp
  have U1 := Lib.hid u1
  have U2 := Lib.hid u2
  have U3 := Lib.hid u3
  have y11 : w3'.cell? ⟨b, 11, none⟩ = some (.slice c.uo c.un c.uc) := HS3.out.at_.cell 11
  have y11a : (w3'.alloc (.cells #[.string t] 9)).cell? ⟨b, 11, none⟩ = some (.slice c.uo c.un c.uc) := cell_keep' y11 ((Below.refl _ _).alloc (Nat.le_refl _) _)
  have HSZ := Lib.hid HS3.out.size
  have n63 : us.length + 1 ≤ maxLen := by unfold maxLen; omega
  have n47 : (us.length + 1) * 16 ≤ 140737488355328 := by omega
  have nB : B ≤ (w3'.drew.alloc (.cells #[.string t] 9)).heap.size := by rw [alloc_sz']; exact Nat.le_succ_of_le HSZ.out
  have N63 := Lib.hid n63
  have N47 := Lib.hid n47
  have NB := Lib.hid nB
  clear u1 u2 u3 n63 n47 nB
  go_region_law (refine step_append_lies _ (by rfl) _ _ _ (by rfl) B 9 i0 _ 1 16 Tryz.underlying23 hi hz0 hz1 hz2 rfl (by omega) (.slice c.uo c.un c.uc) us.length (us.map Value.string) (by rfl) (World.ownsRow.alloc (w := w3'.drew) U1.out _) ⟨w3'.heap.size, 0, none⟩ 1 1 [.string t] (by rfl) (by rfl) (cell_one_new w3'.drew _ _) (by intro u hu; simp only [List.mem_singleton] at hu; subst hu; rfl) (by omega) N63.out N47.out NB.out _ rfl ?_; intro g6 cap6 w6 hown6 hg6 hat6 hlt6; obtain ⟨⟨cc, cf⟩, hS6⟩ := HS3.out.add U2.out u4 U1.out U3.out hown6 hg6 hat6; have HS6 := Lib.hid hS6; clear hown6 hg6 hat6 hS6)
  all_goals
    go_wp2
    unfold PsPost
    (repeat apply Exists.intro)
    refine ⟨?rel, rfl⟩
    case rel => exact ⟨by go_num, _, by rw [HR.out]; exact HS6.out⟩


set_option maxHeartbeats 16000000 in
set_option maxRecDepth 1000000 in
theorem ps_other {w wr : World} {B b g cap k : Nat} {xs : List ByteArray} {c : Ck} {pc : PC} {p : ByteArray} {c0 c1 c2 c3 c5 c6 c8 c20 c21 c22 c23 c24 c25 c26 c27 c28 c29 c30 c31 c32 c33 c34 c35 c36 c37 c38 c39 c40 c41 c42 c43 c44 c45 c46 c47 c48 c49 c50 c51 c52 c53 c54 c55 c56 c57 c58 c59 c60 c61 c62 c63 c64 c65 c66 c67 c68 c69 c70 c224 : Value} {u7 u11 u12 u13 u14 u15 u16 u17 u18 u19 u71 u72 u73 u74 u75 u76 u77 u78 u79 u80 u81 u82 u83 u84 u85 u86 u87 u88 u89 u90 u91 u92 u93 u94 u95 u96 u97 u98 u99 u100 u101 u102 u103 u104 u105 u106 u107 u108 u109 u110 u111 u112 u113 u114 u115 u116 u117 u118 u119 u120 u121 u122 u123 u124 u125 u126 u127 u128 u129 u130 u131 u132 u133 u134 u135 u136 u137 u138 u139 u140 u141 u142 u143 u144 u145 u146 u147 u148 u149 u150 u151 u152 u153 u154 u155 u156 u157 u158 u159 u160 u161 u162 u163 u164 u165 u166 u167 u168 u169 u170 u171 u172 u173 u174 u175 u176 u177 u178 u179 u180 u181 u182 u183 u184 u185 u186 u187 u188 u189 u190 u191 u192 u193 u194 u195 u196 u197 u198 u199 u200 u201 u202 u203 u204 u205 u206 u207 u208 u209 u210 u211 u212 u213 u214 u215 u216 u217 u218 u219 u220 u221 u222 u223 : Value}
    (hB : B = w.heap.size) (hv : NumVars w) (HS : SetS w B b g xs k k c pc wr) (hlt : k < xs.length) (hnz : xs.length ≤ 4398046511105) (hp : xs[k] = p) (hps : p.size ≤ 4398046511104)
    (HNE : Hid (trimL p.data.toList ≠ [])) (HPR : Hid (allB prB (cutA 61 (trimL p.data.toList)) = true)) (HVL : Hid (allB valB (cutB 61 (trimL p.data.toList)) = true))
    (HNK : Hid (∀ l ∈ [kSame, kSecure, kHttp, kDomain, kAge, kPath, kPart], Lib.toLowerA (cutA 61 (trimL p.data.toList)) ≠ l))
    : Code.wp Tryz.prog psBody (Exit.then (PsPost c0 c1 c2 c3 c5 c6 c8 c20 c21 c22 c23 c24 c25 c26 c27 c28 c29 c30 c31 c32 c33 c34 c35 c36 c37 c38 c39 c40 c41 c42 c43 c44 c45 c46 c47 c48 c49 c50 c51 c52 c53 c54 c55 c56 c57 c58 c59 c60 c61 c62 c63 c64 c65 c66 c67 c68 c69 c70 c224 w B b g cap k xs (attrStep pc p.data.toList)) (fun _ _ _ => False)) ⟨#[c0, c1, c2, c3, .slice (some ⟨g, 0, none⟩) xs.length cap, c5, c6, u7, c8, .pointer (some ⟨b, 0, none⟩), .int .i64 (k : Int), u11, u12, u13, u14, u15, u16, u17, u18, u19, c20, c21, c22, c23, c24, c25, c26, c27, c28, c29, c30, c31, c32, c33, c34, c35, c36, c37, c38, c39, c40, c41, c42, c43, c44, c45, c46, c47, c48, c49, c50, c51, c52, c53, c54, c55, c56, c57, c58, c59, c60, c61, c62, c63, c64, c65, c66, c67, c68, c69, c70, u71, u72, u73, u74, u75, u76, u77, u78, u79, u80, u81, u82, u83, u84, u85, u86, u87, u88, u89, u90, u91, u92, u93, u94, u95, u96, u97, u98, u99, u100, u101, u102, u103, u104, u105, u106, u107, u108, u109, u110, u111, u112, u113, u114, u115, u116, u117, u118, u119, u120, u121, u122, u123, u124, u125, u126, u127, u128, u129, u130, u131, u132, u133, u134, u135, u136, u137, u138, u139, u140, u141, u142, u143, u144, u145, u146, u147, u148, u149, u150, u151, u152, u153, u154, u155, u156, u157, u158, u159, u160, u161, u162, u163, u164, u165, u166, u167, u168, u169, u170, u171, u172, u173, u174, u175, u176, u177, u178, u179, u180, u181, u182, u183, u184, u185, u186, u187, u188, u189, u190, u191, u192, u193, u194, u195, u196, u197, u198, u199, u200, u201, u202, u203, u204, u205, u206, u207, u208, u209, u210, u211, u212, u213, u214, u215, u216, u217, u218, u219, u220, u221, u222, u223, c224], []⟩ wr := by
  have HB := Lib.hid hB
  have HV := Lib.hid hv
  obtain ⟨i0, hi, hz0, hz1, hz2⟩ := info_parts strInfo
  obtain ⟨hck, hfz⟩ := HS.cell hlt
  rw [hp] at hck
  have HS0 := Lib.hid HS
  clear HS hp hB hv
  conv => arg 2; whnf
  go_upto_region 19 with (go_at_call 30; refine (zzTrim_any p _ hps).mono ?_; rintro e w' ⟨⟨t, rfl, ht⟩, rfl⟩; obtain ⟨hts, hts2⟩ := trim_size ht hps; have HT := Lib.hid ht; clear ht)
  obtain ⟨hS1, hct⟩ := HS0.out.trim hlt t
  generalize wr.setCell ⟨g, k, none⟩ (.string t) = w1 at hS1 hct ⊢
  clear hck hfz
  have HS1 := Lib.hid hS1
  have HCT := Lib.hid hct
  have hk9 : (k : Int) + 1 ≤ 9223372036854775807 := by omega
  clear hS1 HS0
  have hz : ((t.size : Int) == 0) = false := by
    rw [beq_eq_false_iff_ne]; intro h0
    exact HNE.out (by rw [← HT.out]; exact List.eq_nil_of_length_eq_zero (by rw [← Lib.size_eq]; omega))
  have hz' : (t.size == 0) = false := by
    rw [beq_eq_false_iff_ne]; intro h0
    exact HNE.out (by rw [← HT.out]; exact List.eq_nil_of_length_eq_zero (by rw [← Lib.size_eq]; omega))
  have HST : Hid (∀ v, attrStep pc p.data.toList = v ↔ setAttr pc t.data.toList (Lib.toLowerA (cutA 61 (trimL p.data.toList))) (cutB 61 (trimL p.data.toList)) = v) := Lib.hid (fun v => by rw [step_set HNE.out HPR.out HVL.out, HT.out])
  go_upto_region 27 with (first
      | (go_at_call 31; refine (zzCut_any _ _ 61 _ rfl hts).mono ?_; rintro e w2' ⟨⟨x, y, rfl, hx, hy⟩, m, hw'⟩; have HBW2 : Hid (Below w1.heap.size w1 w2') := Lib.hid (hw' ▸ below_drewN (Below.refl _ _) _); clear hw'; have hxz := (cutA_size hx hts hts2).2; have hyz := (cutB_size hy hts2).1; have hyz2 := (cutB_size hy hts2).2; have HX : Hid (x.data.toList = cutA 61 (trimL p.data.toList)) := Lib.hid (by rw [hx, HT.out]); have HY : Hid (y.data.toList = cutB 61 (trimL p.data.toList)) := Lib.hid (by rw [hy, HT.out]); clear hx hy)
      | (go_at_call 34; refine (zzToLower_yes x _ hxz (by rw [HX.out]; exact HPR.out)).mono ?_; rintro e w3' ⟨⟨lw, rfl, hlw⟩, hbw3⟩; have HBW3 := Lib.hid hbw3; have HLW : Hid (lw.data.toList = Lib.toLowerA (cutA 61 (trimL p.data.toList))) := Lib.hid (by rw [hlw, HX.out]); clear hbw3 hlw)
      | (go_at_call 33; refine (pcv_any y false _ hyz).mono ?_; rintro e w' ⟨⟨z, rfl, hz2⟩, rfl⟩; rw [strip_no y.data.toList false rfl, HY.out, HVL.out]; rw [strip_no y.data.toList false rfl, HY.out, HVL.out] at hz2; have HZ : Hid (z.data.toList = cutB 61 (trimL p.data.toList)) := Lib.hid (by simpa using hz2); have hzz : z.size ≤ 4398046511104 := by rw [Lib.size_eq, HZ.out, ← HY.out, ← Lib.size_eq]; exact hyz2
         clear hz2))
  have hS3 := (HS1.out.kept HS1.out.size HBW2.out).kept (HS1.out.kept HS1.out.size HBW2.out).size HBW3.out
  have HS3 := Lib.hid hS3
  have HCT3 : Hid (w3'.cell? ⟨g, k, none⟩ = some (.string t)) := Lib.hid (cell_keep' (cell_keep' HCT.out HBW2.out) HBW3.out)
  clear hS3
  have e1 : (lw.toList == [115, 97, 109, 101, 115, 105, 116, 101]) = false := key_ne HLW.out (HNK.out kSame (by simp))
  have e2 : (lw.toList == [115, 101, 99, 117, 114, 101]) = false := key_ne HLW.out (HNK.out kSecure (by simp))
  have e3 : (lw.toList == [104, 116, 116, 112, 111, 110, 108, 121]) = false := key_ne HLW.out (HNK.out kHttp (by simp))
  have e4 : (lw.toList == [100, 111, 109, 97, 105, 110]) = false := key_ne HLW.out (HNK.out kDomain (by simp))
  have e5 : (lw.toList == [109, 97, 120, 45, 97, 103, 101]) = false := key_ne HLW.out (HNK.out kAge (by simp))
  have e6 : (lw.toList == [112, 97, 116, 104]) = false := key_ne HLW.out (HNK.out kPath (by simp))
  have e7 : (lw.toList == [112, 97, 114, 116, 105, 116, 105, 111, 110, 101, 100]) = false := key_ne HLW.out (HNK.out kPart (by simp))
  have HR : Hid (attrStep pc p.data.toList = { pc with unp := pc.unp ++ [t.data.toList] }) := Lib.hid ((HST.out _).2 (by
    unfold setAttr
    rw [if_neg (HNK.out kSame (by simp)), if_neg (HNK.out kSecure (by simp)), if_neg (HNK.out kHttp (by simp)), if_neg (HNK.out kDomain (by simp)), if_neg (HNK.out kAge (by simp)), if_neg (HNK.out kPath (by simp)), if_neg (HNK.out kPart (by simp))]))
  have hct3 := HCT3.out
  go_upto_region 55 with fail
  obtain ⟨us, u1, u2, u3, u4⟩ := HS3.out.unp
  have U1 := Lib.hid u1
  have U2 := Lib.hid u2
  have U3 := Lib.hid u3
  have y11 : w3'.cell? ⟨b, 11, none⟩ = some (.slice c.uo c.un c.uc) := HS3.out.at_.cell 11
  have y11a : (w3'.alloc (.cells #[.string t] 9)).cell? ⟨b, 11, none⟩ = some (.slice c.uo c.un c.uc) := cell_keep' y11 ((Below.refl _ _).alloc (Nat.le_refl _) _)
  have HSZ := Lib.hid HS3.out.size
  have n63 : us.length + 1 ≤ maxLen := by unfold maxLen; omega
  have n47 : (us.length + 1) * 16 ≤ 140737488355328 := by omega
  have nB : B ≤ (w3'.drew.alloc (.cells #[.string t] 9)).heap.size := by rw [alloc_sz']; exact Nat.le_succ_of_le HSZ.out
  have N63 := Lib.hid n63
  have N47 := Lib.hid n47
  have NB := Lib.hid nB
  clear u1 u2 u3 n63 n47 nB
  go_region_law (refine step_append_lies _ (by rfl) _ _ _ (by rfl) B 9 i0 _ 1 16 Tryz.underlying23 hi hz0 hz1 hz2 rfl (by omega) (.slice c.uo c.un c.uc) us.length (us.map Value.string) (by rfl) (World.ownsRow.alloc (w := w3'.drew) U1.out _) ⟨w3'.heap.size, 0, none⟩ 1 1 [.string t] (by rfl) (by rfl) (cell_one_new w3'.drew _ _) (by intro u hu; simp only [List.mem_singleton] at hu; subst hu; rfl) (by omega) N63.out N47.out NB.out _ rfl ?_; intro g6 cap6 w6 hown6 hg6 hat6 hlt6; obtain ⟨⟨cc, cf⟩, hS6⟩ := HS3.out.add U2.out u4 U1.out U3.out hown6 hg6 hat6; have HS6 := Lib.hid hS6; clear hown6 hg6 hat6 hS6)
  all_goals
    go_wp2
    unfold PsPost
    (repeat apply Exists.intro)
    refine ⟨?rel, rfl⟩
    case rel => exact ⟨by go_num, _, by rw [HR.out]; exact HS6.out⟩

end Go.Proofs.YtfijncfoefbohaaGreatDoor
