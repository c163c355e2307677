/- ParseSetCookie. -/
import Derived.Test.YtfijncfoefbohaaGreatDoorPsB
import Derived.Test.YtfijncfoefbohaaGreatDoorPsD
namespace Go.Proofs.YtfijncfoefbohaaGreatDoor
open Go Go.RowKit


set_option maxHeartbeats 16000000 in
set_option maxRecDepth 1000000 in
theorem ps_exit {w wr : World} {B b g cap k : Nat} {xs : List ByteArray} {c : Ck} {pk : Nat → PC} {c0 c1 c2 c3 c5 c6 c8 c20 c21 c22 c23 c24 c25 c26 c27 c28 c29 c30 c31 c32 c33 c34 c35 c36 c37 c38 c39 c40 c41 c42 c43 c44 c45 c46 c47 c48 c49 c50 c51 c52 c53 c54 c55 c56 c57 c58 c59 c60 c61 c62 c63 c64 c65 c66 c67 c68 c69 c70 c224 : Value} {u7 u11 u12 u13 u14 u15 u16 u17 u18 u19 u71 u72 u73 u74 u75 u76 u77 u78 u79 u80 u81 u82 u83 u84 u85 u86 u87 u88 u89 u90 u91 u92 u93 u94 u95 u96 u97 u98 u99 u100 u101 u102 u103 u104 u105 u106 u107 u108 u109 u110 u111 u112 u113 u114 u115 u116 u117 u118 u119 u120 u121 u122 u123 u124 u125 u126 u127 u128 u129 u130 u131 u132 u133 u134 u135 u136 u137 u138 u139 u140 u141 u142 u143 u144 u145 u146 u147 u148 u149 u150 u151 u152 u153 u154 u155 u156 u157 u158 u159 u160 u161 u162 u163 u164 u165 u166 u167 u168 u169 u170 u171 u172 u173 u174 u175 u176 u177 u178 u179 u180 u181 u182 u183 u184 u185 u186 u187 u188 u189 u190 u191 u192 u193 u194 u195 u196 u197 u198 u199 u200 u201 u202 u203 u204 u205 u206 u207 u208 u209 u210 u211 u212 u213 u214 u215 u216 u217 u218 u219 u220 u221 u222 u223 : Value} {Q : Exit → Act → World → Prop}
    (HS : SetS w B b g xs k k c (pk k) wr) (hk : k = xs.length) (hX : ∀ a' w', PsExit c0 c1 c2 c3 c5 c6 c8 c20 c21 c22 c23 c24 c25 c26 c27 c28 c29 c30 c31 c32 c33 c34 c35 c36 c37 c38 c39 c40 c41 c42 c43 c44 c45 c46 c47 c48 c49 c50 c51 c52 c53 c54 c55 c56 c57 c58 c59 c60 c61 c62 c63 c64 c65 c66 c67 c68 c69 c70 c224 w B b g cap xs pk a' w' → Q (.exit 0) a' w') :
    Code.wp Tryz.prog psBody Q ⟨#[c0, c1, c2, c3, .slice (some ⟨g, 0, none⟩) xs.length cap, c5, c6, u7, c8, .pointer (some ⟨b, 0, none⟩), .int .i64 (k : Int), u11, u12, u13, u14, u15, u16, u17, u18, u19, c20, c21, c22, c23, c24, c25, c26, c27, c28, c29, c30, c31, c32, c33, c34, c35, c36, c37, c38, c39, c40, c41, c42, c43, c44, c45, c46, c47, c48, c49, c50, c51, c52, c53, c54, c55, c56, c57, c58, c59, c60, c61, c62, c63, c64, c65, c66, c67, c68, c69, c70, u71, u72, u73, u74, u75, u76, u77, u78, u79, u80, u81, u82, u83, u84, u85, u86, u87, u88, u89, u90, u91, u92, u93, u94, u95, u96, u97, u98, u99, u100, u101, u102, u103, u104, u105, u106, u107, u108, u109, u110, u111, u112, u113, u114, u115, u116, u117, u118, u119, u120, u121, u122, u123, u124, u125, u126, u127, u128, u129, u130, u131, u132, u133, u134, u135, u136, u137, u138, u139, u140, u141, u142, u143, u144, u145, u146, u147, u148, u149, u150, u151, u152, u153, u154, u155, u156, u157, u158, u159, u160, u161, u162, u163, u164, u165, u166, u167, u168, u169, u170, u171, u172, u173, u174, u175, u176, u177, u178, u179, u180, u181, u182, u183, u184, u185, u186, u187, u188, u189, u190, u191, u192, u193, u194, u195, u196, u197, u198, u199, u200, u201, u202, u203, u204, u205, u206, u207, u208, u209, u210, u211, u212, u213, u214, u215, u216, u217, u218, u219, u220, u221, u222, u223, c224], []⟩ wr := by
  have hd : decide (k < xs.length) = false := by rw [decide_eq_false_iff_not]; omega
  have HK := Lib.hid hk
  have HS0 := Lib.hid HS
  clear HS hk
  conv => arg 2; whnf
  go_wp2
  unfold PsExit
  (repeat apply Exists.intro)
  refine ⟨?rel, rfl⟩
  case rel =>
    have h := HS0.out
    rw [HK.out] at h
    exact ⟨_, h⟩


set_option maxHeartbeats 16000000 in
set_option maxRecDepth 1000000 in
theorem ps_next {w : World} {B b g cap k : Nat} {xs : List ByteArray} {pk : Nat → PC} {p : ByteArray} {c0 c1 c2 c3 c5 c6 c8 c20 c21 c22 c23 c24 c25 c26 c27 c28 c29 c30 c31 c32 c33 c34 c35 c36 c37 c38 c39 c40 c41 c42 c43 c44 c45 c46 c47 c48 c49 c50 c51 c52 c53 c54 c55 c56 c57 c58 c59 c60 c61 c62 c63 c64 c65 c66 c67 c68 c69 c70 c224 : Value} {a' : Act} {w' : World}
    (hlt : k < xs.length) (hk1 : 1 ≤ k) (hp : xs[k] = p) (hpk : ∀ k (h : k < xs.length), 1 ≤ k → pk (k + 1) = attrStep (pk k) xs[k].data.toList)
    (h : PsPost c0 c1 c2 c3 c5 c6 c8 c20 c21 c22 c23 c24 c25 c26 c27 c28 c29 c30 c31 c32 c33 c34 c35 c36 c37 c38 c39 c40 c41 c42 c43 c44 c45 c46 c47 c48 c49 c50 c51 c52 c53 c54 c55 c56 c57 c58 c59 c60 c61 c62 c63 c64 c65 c66 c67 c68 c69 c70 c224 w B b g cap k xs (attrStep (pk k) p.data.toList) a' w') : PsInv c0 c1 c2 c3 c5 c6 c8 c20 c21 c22 c23 c24 c25 c26 c27 c28 c29 c30 c31 c32 c33 c34 c35 c36 c37 c38 c39 c40 c41 c42 c43 c44 c45 c46 c47 c48 c49 c50 c51 c52 c53 c54 c55 c56 c57 c58 c59 c60 c61 c62 c63 c64 c65 c66 c67 c68 c69 c70 c224 w B b g cap xs pk a' w' ∧ psMu xs.length a' w' < xs.length - k := by
  unfold PsPost at h
  obtain ⟨i, h⟩ := h
  obtain ⟨u7, h⟩ := h
  obtain ⟨u11, h⟩ := h
  obtain ⟨u12, h⟩ := h
  obtain ⟨u13, h⟩ := h
  obtain ⟨u14, h⟩ := h
  obtain ⟨u15, h⟩ := h
  obtain ⟨u16, h⟩ := h
  obtain ⟨u17, h⟩ := h
  obtain ⟨u18, h⟩ := h
  obtain ⟨u19, h⟩ := h
  obtain ⟨u71, h⟩ := h
  obtain ⟨u72, h⟩ := h
  obtain ⟨u73, h⟩ := h
  obtain ⟨u74, h⟩ := h
  obtain ⟨u75, h⟩ := h
  obtain ⟨u76, h⟩ := h
  obtain ⟨u77, h⟩ := h
  obtain ⟨u78, h⟩ := h
  obtain ⟨u79, h⟩ := h
  obtain ⟨u80, h⟩ := h
  obtain ⟨u81, h⟩ := h
  obtain ⟨u82, h⟩ := h
  obtain ⟨u83, h⟩ := h
  obtain ⟨u84, h⟩ := h
  obtain ⟨u85, h⟩ := h
  obtain ⟨u86, h⟩ := h
  obtain ⟨u87, h⟩ := h
  obtain ⟨u88, h⟩ := h
  obtain ⟨u89, h⟩ := h
  obtain ⟨u90, h⟩ := h
  obtain ⟨u91, h⟩ := h
  obtain ⟨u92, h⟩ := h
  obtain ⟨u93, h⟩ := h
  obtain ⟨u94, h⟩ := h
  obtain ⟨u95, h⟩ := h
  obtain ⟨u96, h⟩ := h
  obtain ⟨u97, h⟩ := h
  obtain ⟨u98, h⟩ := h
  obtain ⟨u99, h⟩ := h
  obtain ⟨u100, h⟩ := h
  obtain ⟨u101, h⟩ := h
  obtain ⟨u102, h⟩ := h
  obtain ⟨u103, h⟩ := h
  obtain ⟨u104, h⟩ := h
  obtain ⟨u105, h⟩ := h
  obtain ⟨u106, h⟩ := h
  obtain ⟨u107, h⟩ := h
  obtain ⟨u108, h⟩ := h
  obtain ⟨u109, h⟩ := h
  obtain ⟨u110, h⟩ := h
  obtain ⟨u111, h⟩ := h
  obtain ⟨u112, h⟩ := h
  obtain ⟨u113, h⟩ := h
  obtain ⟨u114, h⟩ := h
  obtain ⟨u115, h⟩ := h
  obtain ⟨u116, h⟩ := h
  obtain ⟨u117, h⟩ := h
  obtain ⟨u118, h⟩ := h
  obtain ⟨u119, h⟩ := h
  obtain ⟨u120, h⟩ := h
  obtain ⟨u121, h⟩ := h
  obtain ⟨u122, h⟩ := h
  obtain ⟨u123, h⟩ := h
  obtain ⟨u124, h⟩ := h
  obtain ⟨u125, h⟩ := h
  obtain ⟨u126, h⟩ := h
  obtain ⟨u127, h⟩ := h
  obtain ⟨u128, h⟩ := h
  obtain ⟨u129, h⟩ := h
  obtain ⟨u130, h⟩ := h
  obtain ⟨u131, h⟩ := h
  obtain ⟨u132, h⟩ := h
  obtain ⟨u133, h⟩ := h
  obtain ⟨u134, h⟩ := h
  obtain ⟨u135, h⟩ := h
  obtain ⟨u136, h⟩ := h
  obtain ⟨u137, h⟩ := h
  obtain ⟨u138, h⟩ := h
  obtain ⟨u139, h⟩ := h
  obtain ⟨u140, h⟩ := h
  obtain ⟨u141, h⟩ := h
  obtain ⟨u142, h⟩ := h
  obtain ⟨u143, h⟩ := h
  obtain ⟨u144, h⟩ := h
  obtain ⟨u145, h⟩ := h
  obtain ⟨u146, h⟩ := h
  obtain ⟨u147, h⟩ := h
  obtain ⟨u148, h⟩ := h
  obtain ⟨u149, h⟩ := h
  obtain ⟨u150, h⟩ := h
  obtain ⟨u151, h⟩ := h
  obtain ⟨u152, h⟩ := h
  obtain ⟨u153, h⟩ := h
  obtain ⟨u154, h⟩ := h
  obtain ⟨u155, h⟩ := h
  obtain ⟨u156, h⟩ := h
  obtain ⟨u157, h⟩ := h
  obtain ⟨u158, h⟩ := h
  obtain ⟨u159, h⟩ := h
  obtain ⟨u160, h⟩ := h
  obtain ⟨u161, h⟩ := h
  obtain ⟨u162, h⟩ := h
  obtain ⟨u163, h⟩ := h
  obtain ⟨u164, h⟩ := h
  obtain ⟨u165, h⟩ := h
  obtain ⟨u166, h⟩ := h
  obtain ⟨u167, h⟩ := h
  obtain ⟨u168, h⟩ := h
  obtain ⟨u169, h⟩ := h
  obtain ⟨u170, h⟩ := h
  obtain ⟨u171, h⟩ := h
  obtain ⟨u172, h⟩ := h
  obtain ⟨u173, h⟩ := h
  obtain ⟨u174, h⟩ := h
  obtain ⟨u175, h⟩ := h
  obtain ⟨u176, h⟩ := h
  obtain ⟨u177, h⟩ := h
  obtain ⟨u178, h⟩ := h
  obtain ⟨u179, h⟩ := h
  obtain ⟨u180, h⟩ := h
  obtain ⟨u181, h⟩ := h
  obtain ⟨u182, h⟩ := h
  obtain ⟨u183, h⟩ := h
  obtain ⟨u184, h⟩ := h
  obtain ⟨u185, h⟩ := h
  obtain ⟨u186, h⟩ := h
  obtain ⟨u187, h⟩ := h
  obtain ⟨u188, h⟩ := h
  obtain ⟨u189, h⟩ := h
  obtain ⟨u190, h⟩ := h
  obtain ⟨u191, h⟩ := h
  obtain ⟨u192, h⟩ := h
  obtain ⟨u193, h⟩ := h
  obtain ⟨u194, h⟩ := h
  obtain ⟨u195, h⟩ := h
  obtain ⟨u196, h⟩ := h
  obtain ⟨u197, h⟩ := h
  obtain ⟨u198, h⟩ := h
  obtain ⟨u199, h⟩ := h
  obtain ⟨u200, h⟩ := h
  obtain ⟨u201, h⟩ := h
  obtain ⟨u202, h⟩ := h
  obtain ⟨u203, h⟩ := h
  obtain ⟨u204, h⟩ := h
  obtain ⟨u205, h⟩ := h
  obtain ⟨u206, h⟩ := h
  obtain ⟨u207, h⟩ := h
  obtain ⟨u208, h⟩ := h
  obtain ⟨u209, h⟩ := h
  obtain ⟨u210, h⟩ := h
  obtain ⟨u211, h⟩ := h
  obtain ⟨u212, h⟩ := h
  obtain ⟨u213, h⟩ := h
  obtain ⟨u214, h⟩ := h
  obtain ⟨u215, h⟩ := h
  obtain ⟨u216, h⟩ := h
  obtain ⟨u217, h⟩ := h
  obtain ⟨u218, h⟩ := h
  obtain ⟨u219, h⟩ := h
  obtain ⟨u220, h⟩ := h
  obtain ⟨u221, h⟩ := h
  obtain ⟨u222, h⟩ := h
  obtain ⟨u223, h⟩ := h
  obtain ⟨⟨rfl, c', hS'⟩, rfl⟩ := h
  refine ⟨?_, ?_⟩
  · unfold PsInv
    refine ⟨_, _, _, _, _, _, _, _, _, _, _, _, _, _, _, _, _, _, _, _, _, _, _, _, _, _, _, _, _, _, _, _, _, _, _, _, _, _, _, _, _, _, _, _, _, _, _, _, _, _, _, _, _, _, _, _, _, _, _, _, _, _, _, _, _, _, _, _, _, _, _, _, _, _, _, _, _, _, _, _, _, _, _, _, _, _, _, _, _, _, _, _, _, _, _, _, _, _, _, _, _, _, _, _, _, _, _, _, _, _, _, _, _, _, _, _, _, _, _, _, _, _, _, _, _, _, _, _, _, _, _, _, _, _, _, _, _, _, _, _, _, _, _, _, _, _, _, _, _, _, _, _, _, _, _, _, _, _, _, _, _, _, _, _, ⟨k + 1, c', by omega, by omega, rfl, ?_⟩, rfl⟩
    rw [hpk k hlt hk1, hp]; exact hS'
  · show xs.length - (intOf (.int .i64 ((k + 1 : Nat) : Int))).toNat < _
    simp only [intOf]
    omega


set_option maxHeartbeats 16000000 in
set_option maxRecDepth 1000000 in
theorem ps_round {w wr : World} {B b g cap : Nat} {xs : List ByteArray} {pk : Nat → PC} {c0 c1 c2 c3 c5 c6 c8 c20 c21 c22 c23 c24 c25 c26 c27 c28 c29 c30 c31 c32 c33 c34 c35 c36 c37 c38 c39 c40 c41 c42 c43 c44 c45 c46 c47 c48 c49 c50 c51 c52 c53 c54 c55 c56 c57 c58 c59 c60 c61 c62 c63 c64 c65 c66 c67 c68 c69 c70 c224 : Value} {a : Act} {Q : Exit → Act → World → Prop}
    (hB : B = w.heap.size) (hv : NumVars w) (hnz : xs.length ≤ 4398046511105) (hxm : ∀ k (h : k < xs.length), xs[k].size ≤ 4398046511104)
    (hpk : ∀ k (h : k < xs.length), 1 ≤ k → pk (k + 1) = attrStep (pk k) xs[k].data.toList)
    (hX : ∀ a' w', PsExit c0 c1 c2 c3 c5 c6 c8 c20 c21 c22 c23 c24 c25 c26 c27 c28 c29 c30 c31 c32 c33 c34 c35 c36 c37 c38 c39 c40 c41 c42 c43 c44 c45 c46 c47 c48 c49 c50 c51 c52 c53 c54 c55 c56 c57 c58 c59 c60 c61 c62 c63 c64 c65 c66 c67 c68 c69 c70 c224 w B b g cap xs pk a' w' → Q (.exit 0) a' w') (hI : PsInv c0 c1 c2 c3 c5 c6 c8 c20 c21 c22 c23 c24 c25 c26 c27 c28 c29 c30 c31 c32 c33 c34 c35 c36 c37 c38 c39 c40 c41 c42 c43 c44 c45 c46 c47 c48 c49 c50 c51 c52 c53 c54 c55 c56 c57 c58 c59 c60 c61 c62 c63 c64 c65 c66 c67 c68 c69 c70 c224 w B b g cap xs pk a wr) :
    Code.wp Tryz.prog psBody (Exit.then (fun a' w' => PsInv c0 c1 c2 c3 c5 c6 c8 c20 c21 c22 c23 c24 c25 c26 c27 c28 c29 c30 c31 c32 c33 c34 c35 c36 c37 c38 c39 c40 c41 c42 c43 c44 c45 c46 c47 c48 c49 c50 c51 c52 c53 c54 c55 c56 c57 c58 c59 c60 c61 c62 c63 c64 c65 c66 c67 c68 c69 c70 c224 w B b g cap xs pk a' w' ∧ psMu xs.length a' w' < psMu xs.length a wr) Q) a wr := by
  unfold PsInv at hI
  obtain ⟨i, hI⟩ := hI
  obtain ⟨u7, hI⟩ := hI
  obtain ⟨u11, hI⟩ := hI
  obtain ⟨u12, hI⟩ := hI
  obtain ⟨u13, hI⟩ := hI
  obtain ⟨u14, hI⟩ := hI
  obtain ⟨u15, hI⟩ := hI
  obtain ⟨u16, hI⟩ := hI
  obtain ⟨u17, hI⟩ := hI
  obtain ⟨u18, hI⟩ := hI
  obtain ⟨u19, hI⟩ := hI
  obtain ⟨u71, hI⟩ := hI
  obtain ⟨u72, hI⟩ := hI
  obtain ⟨u73, hI⟩ := hI
  obtain ⟨u74, hI⟩ := hI
  obtain ⟨u75, hI⟩ := hI
  obtain ⟨u76, hI⟩ := hI
  obtain ⟨u77, hI⟩ := hI
  obtain ⟨u78, hI⟩ := hI
  obtain ⟨u79, hI⟩ := hI
  obtain ⟨u80, hI⟩ := hI
  obtain ⟨u81, hI⟩ := hI
  obtain ⟨u82, hI⟩ := hI
  obtain ⟨u83, hI⟩ := hI
  obtain ⟨u84, hI⟩ := hI
  obtain ⟨u85, hI⟩ := hI
  obtain ⟨u86, hI⟩ := hI
  obtain ⟨u87, hI⟩ := hI
  obtain ⟨u88, hI⟩ := hI
  obtain ⟨u89, hI⟩ := hI
  obtain ⟨u90, hI⟩ := hI
  obtain ⟨u91, hI⟩ := hI
  obtain ⟨u92, hI⟩ := hI
  obtain ⟨u93, hI⟩ := hI
  obtain ⟨u94, hI⟩ := hI
  obtain ⟨u95, hI⟩ := hI
  obtain ⟨u96, hI⟩ := hI
  obtain ⟨u97, hI⟩ := hI
  obtain ⟨u98, hI⟩ := hI
  obtain ⟨u99, hI⟩ := hI
  obtain ⟨u100, hI⟩ := hI
  obtain ⟨u101, hI⟩ := hI
  obtain ⟨u102, hI⟩ := hI
  obtain ⟨u103, hI⟩ := hI
  obtain ⟨u104, hI⟩ := hI
  obtain ⟨u105, hI⟩ := hI
  obtain ⟨u106, hI⟩ := hI
  obtain ⟨u107, hI⟩ := hI
  obtain ⟨u108, hI⟩ := hI
  obtain ⟨u109, hI⟩ := hI
  obtain ⟨u110, hI⟩ := hI
  obtain ⟨u111, hI⟩ := hI
  obtain ⟨u112, hI⟩ := hI
  obtain ⟨u113, hI⟩ := hI
  obtain ⟨u114, hI⟩ := hI
  obtain ⟨u115, hI⟩ := hI
  obtain ⟨u116, hI⟩ := hI
  obtain ⟨u117, hI⟩ := hI
  obtain ⟨u118, hI⟩ := hI
  obtain ⟨u119, hI⟩ := hI
  obtain ⟨u120, hI⟩ := hI
  obtain ⟨u121, hI⟩ := hI
  obtain ⟨u122, hI⟩ := hI
  obtain ⟨u123, hI⟩ := hI
  obtain ⟨u124, hI⟩ := hI
  obtain ⟨u125, hI⟩ := hI
  obtain ⟨u126, hI⟩ := hI
  obtain ⟨u127, hI⟩ := hI
  obtain ⟨u128, hI⟩ := hI
  obtain ⟨u129, hI⟩ := hI
  obtain ⟨u130, hI⟩ := hI
  obtain ⟨u131, hI⟩ := hI
  obtain ⟨u132, hI⟩ := hI
  obtain ⟨u133, hI⟩ := hI
  obtain ⟨u134, hI⟩ := hI
  obtain ⟨u135, hI⟩ := hI
  obtain ⟨u136, hI⟩ := hI
  obtain ⟨u137, hI⟩ := hI
  obtain ⟨u138, hI⟩ := hI
  obtain ⟨u139, hI⟩ := hI
  obtain ⟨u140, hI⟩ := hI
  obtain ⟨u141, hI⟩ := hI
  obtain ⟨u142, hI⟩ := hI
  obtain ⟨u143, hI⟩ := hI
  obtain ⟨u144, hI⟩ := hI
  obtain ⟨u145, hI⟩ := hI
  obtain ⟨u146, hI⟩ := hI
  obtain ⟨u147, hI⟩ := hI
  obtain ⟨u148, hI⟩ := hI
  obtain ⟨u149, hI⟩ := hI
  obtain ⟨u150, hI⟩ := hI
  obtain ⟨u151, hI⟩ := hI
  obtain ⟨u152, hI⟩ := hI
  obtain ⟨u153, hI⟩ := hI
  obtain ⟨u154, hI⟩ := hI
  obtain ⟨u155, hI⟩ := hI
  obtain ⟨u156, hI⟩ := hI
  obtain ⟨u157, hI⟩ := hI
  obtain ⟨u158, hI⟩ := hI
  obtain ⟨u159, hI⟩ := hI
  obtain ⟨u160, hI⟩ := hI
  obtain ⟨u161, hI⟩ := hI
  obtain ⟨u162, hI⟩ := hI
  obtain ⟨u163, hI⟩ := hI
  obtain ⟨u164, hI⟩ := hI
  obtain ⟨u165, hI⟩ := hI
  obtain ⟨u166, hI⟩ := hI
  obtain ⟨u167, hI⟩ := hI
  obtain ⟨u168, hI⟩ := hI
  obtain ⟨u169, hI⟩ := hI
  obtain ⟨u170, hI⟩ := hI
  obtain ⟨u171, hI⟩ := hI
  obtain ⟨u172, hI⟩ := hI
  obtain ⟨u173, hI⟩ := hI
  obtain ⟨u174, hI⟩ := hI
  obtain ⟨u175, hI⟩ := hI
  obtain ⟨u176, hI⟩ := hI
  obtain ⟨u177, hI⟩ := hI
  obtain ⟨u178, hI⟩ := hI
  obtain ⟨u179, hI⟩ := hI
  obtain ⟨u180, hI⟩ := hI
  obtain ⟨u181, hI⟩ := hI
  obtain ⟨u182, hI⟩ := hI
  obtain ⟨u183, hI⟩ := hI
  obtain ⟨u184, hI⟩ := hI
  obtain ⟨u185, hI⟩ := hI
  obtain ⟨u186, hI⟩ := hI
  obtain ⟨u187, hI⟩ := hI
  obtain ⟨u188, hI⟩ := hI
  obtain ⟨u189, hI⟩ := hI
  obtain ⟨u190, hI⟩ := hI
  obtain ⟨u191, hI⟩ := hI
  obtain ⟨u192, hI⟩ := hI
  obtain ⟨u193, hI⟩ := hI
  obtain ⟨u194, hI⟩ := hI
  obtain ⟨u195, hI⟩ := hI
  obtain ⟨u196, hI⟩ := hI
  obtain ⟨u197, hI⟩ := hI
  obtain ⟨u198, hI⟩ := hI
  obtain ⟨u199, hI⟩ := hI
  obtain ⟨u200, hI⟩ := hI
  obtain ⟨u201, hI⟩ := hI
  obtain ⟨u202, hI⟩ := hI
  obtain ⟨u203, hI⟩ := hI
  obtain ⟨u204, hI⟩ := hI
  obtain ⟨u205, hI⟩ := hI
  obtain ⟨u206, hI⟩ := hI
  obtain ⟨u207, hI⟩ := hI
  obtain ⟨u208, hI⟩ := hI
  obtain ⟨u209, hI⟩ := hI
  obtain ⟨u210, hI⟩ := hI
  obtain ⟨u211, hI⟩ := hI
  obtain ⟨u212, hI⟩ := hI
  obtain ⟨u213, hI⟩ := hI
  obtain ⟨u214, hI⟩ := hI
  obtain ⟨u215, hI⟩ := hI
  obtain ⟨u216, hI⟩ := hI
  obtain ⟨u217, hI⟩ := hI
  obtain ⟨u218, hI⟩ := hI
  obtain ⟨u219, hI⟩ := hI
  obtain ⟨u220, hI⟩ := hI
  obtain ⟨u221, hI⟩ := hI
  obtain ⟨u222, hI⟩ := hI
  obtain ⟨u223, hI⟩ := hI
  obtain ⟨⟨k, c, hk1, hkn, rfl, HS⟩, rfl⟩ := hI
  by_cases hlt : k < xs.length
  case neg => exact ps_exit HS (by omega) hX
  obtain ⟨p, hp⟩ : ∃ p, xs[k] = p := ⟨_, rfl⟩
  have hps := hxm k hlt
  rw [hp] at hps
  have hmu : psMu xs.length ⟨#[c0, c1, c2, c3, .slice (some ⟨g, 0, none⟩) xs.length cap, c5, c6, u7, c8, .pointer (some ⟨b, 0, none⟩), .int .i64 (k : Int), u11, u12, u13, u14, u15, u16, u17, u18, u19, c20, c21, c22, c23, c24, c25, c26, c27, c28, c29, c30, c31, c32, c33, c34, c35, c36, c37, c38, c39, c40, c41, c42, c43, c44, c45, c46, c47, c48, c49, c50, c51, c52, c53, c54, c55, c56, c57, c58, c59, c60, c61, c62, c63, c64, c65, c66, c67, c68, c69, c70, u71, u72, u73, u74, u75, u76, u77, u78, u79, u80, u81, u82, u83, u84, u85, u86, u87, u88, u89, u90, u91, u92, u93, u94, u95, u96, u97, u98, u99, u100, u101, u102, u103, u104, u105, u106, u107, u108, u109, u110, u111, u112, u113, u114, u115, u116, u117, u118, u119, u120, u121, u122, u123, u124, u125, u126, u127, u128, u129, u130, u131, u132, u133, u134, u135, u136, u137, u138, u139, u140, u141, u142, u143, u144, u145, u146, u147, u148, u149, u150, u151, u152, u153, u154, u155, u156, u157, u158, u159, u160, u161, u162, u163, u164, u165, u166, u167, u168, u169, u170, u171, u172, u173, u174, u175, u176, u177, u178, u179, u180, u181, u182, u183, u184, u185, u186, u187, u188, u189, u190, u191, u192, u193, u194, u195, u196, u197, u198, u199, u200, u201, u202, u203, u204, u205, u206, u207, u208, u209, u210, u211, u212, u213, u214, u215, u216, u217, u218, u219, u220, u221, u222, u223, c224], []⟩ wr = xs.length - k := by
    show xs.length - (intOf (.int .i64 (k : Int))).toNat = _
    simp only [intOf]
    omega
  rw [hmu]
  have hJ : ∀ a' w', PsPost c0 c1 c2 c3 c5 c6 c8 c20 c21 c22 c23 c24 c25 c26 c27 c28 c29 c30 c31 c32 c33 c34 c35 c36 c37 c38 c39 c40 c41 c42 c43 c44 c45 c46 c47 c48 c49 c50 c51 c52 c53 c54 c55 c56 c57 c58 c59 c60 c61 c62 c63 c64 c65 c66 c67 c68 c69 c70 c224 w B b g cap k xs (attrStep (pk k) p.data.toList) a' w' → Exit.then (fun a' w' => PsInv c0 c1 c2 c3 c5 c6 c8 c20 c21 c22 c23 c24 c25 c26 c27 c28 c29 c30 c31 c32 c33 c34 c35 c36 c37 c38 c39 c40 c41 c42 c43 c44 c45 c46 c47 c48 c49 c50 c51 c52 c53 c54 c55 c56 c57 c58 c59 c60 c61 c62 c63 c64 c65 c66 c67 c68 c69 c70 c224 w B b g cap xs pk a' w' ∧ psMu xs.length a' w' < xs.length - k) Q .normal a' w' :=
    fun a' w' h => ps_next hlt hk1 hp hpk h
  clear hX hmu hpk hxm hkn hk1
  generalize (Exit.then (fun a' w' => PsInv c0 c1 c2 c3 c5 c6 c8 c20 c21 c22 c23 c24 c25 c26 c27 c28 c29 c30 c31 c32 c33 c34 c35 c36 c37 c38 c39 c40 c41 c42 c43 c44 c45 c46 c47 c48 c49 c50 c51 c52 c53 c54 c55 c56 c57 c58 c59 c60 c61 c62 c63 c64 c65 c66 c67 c68 c69 c70 c224 w B b g cap xs pk a' w' ∧ psMu xs.length a' w' < xs.length - k) Q) = Q2 at hJ ⊢
  refine Code.wp_mono (Q := Exit.then (PsPost c0 c1 c2 c3 c5 c6 c8 c20 c21 c22 c23 c24 c25 c26 c27 c28 c29 c30 c31 c32 c33 c34 c35 c36 c37 c38 c39 c40 c41 c42 c43 c44 c45 c46 c47 c48 c49 c50 c51 c52 c53 c54 c55 c56 c57 c58 c59 c60 c61 c62 c63 c64 c65 c66 c67 c68 c69 c70 c224 w B b g cap k xs (attrStep (pk k) p.data.toList)) (fun _ _ _ => False)) (fun e a w q => by cases e <;> first | exact hJ _ _ q | exact q.elim) ?_
  clear hJ Q2
  by_cases hne : trimL p.data.toList = []
  case pos => exact ps_blank hB hv HS hlt hnz hp hps (Lib.hid hne)
  rcases hpr : allB prB (cutA 61 (trimL p.data.toList)) with _ | _
  case false => exact ps_far hB hv HS hlt hnz hp hps (Lib.hid hne) (Lib.hid hpr)
  rcases hvl : allB valB (cutB 61 (trimL p.data.toList)) with _ | _
  case false => exact ps_bad hB hv HS hlt hnz hp hps (Lib.hid hne) (Lib.hid hpr) (Lib.hid hvl)
  by_cases h1 : Lib.toLowerA (cutA 61 (trimL p.data.toList)) = kSame
  case pos =>
    by_cases j1 : Lib.toLowerA (cutB 61 (trimL p.data.toList)) = kLax
    case pos => exact ps_lax hB hv HS hlt hnz hp hps (Lib.hid hne) (Lib.hid hpr) (Lib.hid hvl) (Lib.hid h1) (Lib.hid j1)
    by_cases j2 : Lib.toLowerA (cutB 61 (trimL p.data.toList)) = kStrict
    case pos => exact ps_strict hB hv HS hlt hnz hp hps (Lib.hid hne) (Lib.hid hpr) (Lib.hid hvl) (Lib.hid h1) (Lib.hid j2)
    by_cases j3 : Lib.toLowerA (cutB 61 (trimL p.data.toList)) = kNone
    case pos => exact ps_none hB hv HS hlt hnz hp hps (Lib.hid hne) (Lib.hid hpr) (Lib.hid hvl) (Lib.hid h1) (Lib.hid j3)
    refine ps_site hB hv HS hlt hnz hp hps (Lib.hid hne) (Lib.hid hpr) (Lib.hid hvl) (Lib.hid h1) (Lib.hid ?_)
    intro l hl
    simp only [List.mem_cons, List.not_mem_nil, or_false] at hl
    rcases hl with rfl | rfl | rfl <;> assumption
  by_cases h2 : Lib.toLowerA (cutA 61 (trimL p.data.toList)) = kSecure
  case pos => exact ps_secure hB hv HS hlt hnz hp hps (Lib.hid hne) (Lib.hid hpr) (Lib.hid hvl) (Lib.hid h2)
  by_cases h3 : Lib.toLowerA (cutA 61 (trimL p.data.toList)) = kHttp
  case pos => exact ps_http hB hv HS hlt hnz hp hps (Lib.hid hne) (Lib.hid hpr) (Lib.hid hvl) (Lib.hid h3)
  by_cases h4 : Lib.toLowerA (cutA 61 (trimL p.data.toList)) = kDomain
  case pos => exact ps_domain hB hv HS hlt hnz hp hps (Lib.hid hne) (Lib.hid hpr) (Lib.hid hvl) (Lib.hid h4)
  by_cases h5 : Lib.toLowerA (cutA 61 (trimL p.data.toList)) = kAge
  case pos =>
    rcases hnum : numOf? (cutB 61 (trimL p.data.toList)) with _ | n
    case none => exact ps_age_no hB hv HS hlt hnz hp hps (Lib.hid hne) (Lib.hid hpr) (Lib.hid hvl) (Lib.hid h5) (Lib.hid hnum)
    by_cases hn0 : n = 0
    case pos => subst hn0; exact ps_age_nought hB hv HS hlt hnz hp hps (Lib.hid hne) (Lib.hid hpr) (Lib.hid hvl) (Lib.hid h5) (Lib.hid hnum)
    by_cases h48 : (cutB 61 (trimL p.data.toList)).head? = some 48
    case pos => exact ps_age_zero hB hv HS hlt hnz hp hps (Lib.hid hne) (Lib.hid hpr) (Lib.hid hvl) (Lib.hid h5) (Lib.hid hnum) (Lib.hid hn0) (Lib.hid h48)
    by_cases hle : n ≤ 0
    case pos => exact ps_age_neg hB hv HS hlt hnz hp hps (Lib.hid hne) (Lib.hid hpr) (Lib.hid hvl) (Lib.hid h5) (Lib.hid hnum) (Lib.hid hn0) (Lib.hid h48) hle
    exact ps_age_pos hB hv HS hlt hnz hp hps (Lib.hid hne) (Lib.hid hpr) (Lib.hid hvl) (Lib.hid h5) (Lib.hid hnum) (Lib.hid hn0) (Lib.hid h48) (Lib.hid hle)
  by_cases h6 : Lib.toLowerA (cutA 61 (trimL p.data.toList)) = kPath
  case pos => exact ps_path hB hv HS hlt hnz hp hps (Lib.hid hne) (Lib.hid hpr) (Lib.hid hvl) (Lib.hid h6)
  by_cases h7 : Lib.toLowerA (cutA 61 (trimL p.data.toList)) = kPart
  case pos => exact ps_part hB hv HS hlt hnz hp hps (Lib.hid hne) (Lib.hid hpr) (Lib.hid hvl) (Lib.hid h7)
  refine ps_other hB hv HS hlt hnz hp hps (Lib.hid hne) (Lib.hid hpr) (Lib.hid hvl) (Lib.hid ?_)
  intro l hl
  simp only [List.mem_cons, List.not_mem_nil, or_false] at hl
  rcases hl with rfl | rfl | rfl | rfl | rfl | rfl | rfl <;> assumption


set_option maxHeartbeats 16000000 in
set_option maxRecDepth 1000000 in
theorem ps_loop {w wr : World} {B b g cap : Nat} {xs : List ByteArray} {c : Ck} {pk : Nat → PC} {c0 c1 c2 c3 c5 c6 c8 c20 c21 c22 c23 c24 c25 c26 c27 c28 c29 c30 c31 c32 c33 c34 c35 c36 c37 c38 c39 c40 c41 c42 c43 c44 c45 c46 c47 c48 c49 c50 c51 c52 c53 c54 c55 c56 c57 c58 c59 c60 c61 c62 c63 c64 c65 c66 c67 c68 c69 c70 c224 : Value} {u7 u11 u12 u13 u14 u15 u16 u17 u18 u19 u71 u72 u73 u74 u75 u76 u77 u78 u79 u80 u81 u82 u83 u84 u85 u86 u87 u88 u89 u90 u91 u92 u93 u94 u95 u96 u97 u98 u99 u100 u101 u102 u103 u104 u105 u106 u107 u108 u109 u110 u111 u112 u113 u114 u115 u116 u117 u118 u119 u120 u121 u122 u123 u124 u125 u126 u127 u128 u129 u130 u131 u132 u133 u134 u135 u136 u137 u138 u139 u140 u141 u142 u143 u144 u145 u146 u147 u148 u149 u150 u151 u152 u153 u154 u155 u156 u157 u158 u159 u160 u161 u162 u163 u164 u165 u166 u167 u168 u169 u170 u171 u172 u173 u174 u175 u176 u177 u178 u179 u180 u181 u182 u183 u184 u185 u186 u187 u188 u189 u190 u191 u192 u193 u194 u195 u196 u197 u198 u199 u200 u201 u202 u203 u204 u205 u206 u207 u208 u209 u210 u211 u212 u213 u214 u215 u216 u217 u218 u219 u220 u221 u222 u223 : Value} {Q : Exit → Act → World → Prop}
    (hB : B = w.heap.size) (hv : NumVars w) (hn0 : 1 ≤ xs.length) (hnz : xs.length ≤ 4398046511105) (hxm : ∀ k (h : k < xs.length), xs[k].size ≤ 4398046511104)
    (hpk : ∀ k (h : k < xs.length), 1 ≤ k → pk (k + 1) = attrStep (pk k) xs[k].data.toList) (HS : SetS w B b g xs 1 1 c (pk 1) wr)
    (hX : ∀ a' w', PsExit c0 c1 c2 c3 c5 c6 c8 c20 c21 c22 c23 c24 c25 c26 c27 c28 c29 c30 c31 c32 c33 c34 c35 c36 c37 c38 c39 c40 c41 c42 c43 c44 c45 c46 c47 c48 c49 c50 c51 c52 c53 c54 c55 c56 c57 c58 c59 c60 c61 c62 c63 c64 c65 c66 c67 c68 c69 c70 c224 w B b g cap xs pk a' w' → Q (.exit 0) a' w') :
    (Code.loop psBody).wp Tryz.prog Q ⟨#[c0, c1, c2, c3, .slice (some ⟨g, 0, none⟩) xs.length cap, c5, c6, u7, c8, .pointer (some ⟨b, 0, none⟩), .int .i64 1, u11, u12, u13, u14, u15, u16, u17, u18, u19, c20, c21, c22, c23, c24, c25, c26, c27, c28, c29, c30, c31, c32, c33, c34, c35, c36, c37, c38, c39, c40, c41, c42, c43, c44, c45, c46, c47, c48, c49, c50, c51, c52, c53, c54, c55, c56, c57, c58, c59, c60, c61, c62, c63, c64, c65, c66, c67, c68, c69, c70, u71, u72, u73, u74, u75, u76, u77, u78, u79, u80, u81, u82, u83, u84, u85, u86, u87, u88, u89, u90, u91, u92, u93, u94, u95, u96, u97, u98, u99, u100, u101, u102, u103, u104, u105, u106, u107, u108, u109, u110, u111, u112, u113, u114, u115, u116, u117, u118, u119, u120, u121, u122, u123, u124, u125, u126, u127, u128, u129, u130, u131, u132, u133, u134, u135, u136, u137, u138, u139, u140, u141, u142, u143, u144, u145, u146, u147, u148, u149, u150, u151, u152, u153, u154, u155, u156, u157, u158, u159, u160, u161, u162, u163, u164, u165, u166, u167, u168, u169, u170, u171, u172, u173, u174, u175, u176, u177, u178, u179, u180, u181, u182, u183, u184, u185, u186, u187, u188, u189, u190, u191, u192, u193, u194, u195, u196, u197, u198, u199, u200, u201, u202, u203, u204, u205, u206, u207, u208, u209, u210, u211, u212, u213, u214, u215, u216, u217, u218, u219, u220, u221, u222, u223, c224], []⟩ wr := by
  refine wp_loop (PsInv c0 c1 c2 c3 c5 c6 c8 c20 c21 c22 c23 c24 c25 c26 c27 c28 c29 c30 c31 c32 c33 c34 c35 c36 c37 c38 c39 c40 c41 c42 c43 c44 c45 c46 c47 c48 c49 c50 c51 c52 c53 c54 c55 c56 c57 c58 c59 c60 c61 c62 c63 c64 c65 c66 c67 c68 c69 c70 c224 w B b g cap xs pk) (psMu xs.length) ?_ (fun a w'' hI => ps_round hB hv hnz hxm hpk hX hI)
  unfold PsInv
  exact ⟨_, _, _, _, _, _, _, _, _, _, _, _, _, _, _, _, _, _, _, _, _, _, _, _, _, _, _, _, _, _, _, _, _, _, _, _, _, _, _, _, _, _, _, _, _, _, _, _, _, _, _, _, _, _, _, _, _, _, _, _, _, _, _, _, _, _, _, _, _, _, _, _, _, _, _, _, _, _, _, _, _, _, _, _, _, _, _, _, _, _, _, _, _, _, _, _, _, _, _, _, _, _, _, _, _, _, _, _, _, _, _, _, _, _, _, _, _, _, _, _, _, _, _, _, _, _, _, _, _, _, _, _, _, _, _, _, _, _, _, _, _, _, _, _, _, _, _, _, _, _, _, _, _, _, _, _, _, _, _, _, _, _, _, _, ⟨1, c, Nat.le_refl _, hn0, rfl, HS⟩, rfl⟩



def SetPost (line : List UInt8) (w : World) (e : Ending) (w' : World) : Prop :=
  ((∃ (b : Nat) (c : Ck) (pc : PC), e = .returned (.tuple #[.pointer (some ⟨b, 0, none⟩), .nilIface]) ∧ setP line = some pc ∧ CkAt b c w' ∧ w.heap.size ≤ b ∧ CkEq c pc ∧ UnpAt w.heap.size c pc.unp w') ∨
   (setP line = none ∧ ∃ tp a, e = .returned (.tuple #[.pointer none, .iface tp (.pointer (some a))]))) ∧ Below w.heap.size w w'
theorem SetPost.err {line : List UInt8} {w w' : World} {tp : TypeId} {a : Addr} (h : setP line = none) (hb : Below w.heap.size w w') : SetPost line w (.returned (.tuple #[.pointer none, .iface tp (.pointer (some a))])) w' :=
  ⟨.inr ⟨h, tp, a, rfl⟩, hb⟩

theorem parts_set {g k : Nat} {ys : List ByteArray} {w : World} (h : PartsAt g ys w) (t : ByteArray) : PartsAt g (ys.set k t) (w.setCell ⟨g, k, none⟩ (.string t)) := by
  obtain ⟨cur, a3, a4⟩ := h
  refine ⟨_, setCell_block a3 _, ?_⟩
  rw [Array.toList_setIfInBounds, List.length_set, List.take_set, a4, List.map_set]

def pcK (line : List UInt8) (xs : List ByteArray) (p0 : List UInt8) (k : Nat) : PC := (((xs.map fun x => x.data.toList).take k).drop 1).foldl attrStep (headIs line (trimL p0))
theorem pcK_next {line p0 : List UInt8} {xs : List ByteArray} {k : Nat} (h1 : 1 ≤ k) (hk : k < xs.length) : pcK line xs p0 (k + 1) = attrStep (pcK line xs p0 k) xs[k].data.toList := by
  unfold pcK
  have hl : k < (xs.map fun x => x.data.toList).length := by simpa using hk
  rw [List.take_succ_eq_append_getElem hl, List.drop_append_of_le_length (by rw [List.length_take]; omega), List.foldl_append]
  simp
theorem setP_no {line : List UInt8} {xs : List ByteArray} {p0 : ByteArray} (hxs : xs.map (fun x => x.data.toList) = splitL 59 (trimL line)) (h0 : 0 < xs.length) (hp : xs[0] = p0) (h : headOk (trimL p0.data.toList) = false) : setP line = none := by
  unfold setP
  rw [← hxs]
  cases xs with
  | nil => cases h0
  | cons a r =>
    simp only [List.getElem_cons_zero] at hp
    subst hp
    simp [h]
theorem setP_yes {line : List UInt8} {xs : List ByteArray} {p0 : ByteArray} (hxs : xs.map (fun x => x.data.toList) = splitL 59 (trimL line)) (h0 : 0 < xs.length) (hp : xs[0] = p0) (h : headOk (trimL p0.data.toList) = true) : setP line = some (pcK line xs p0.data.toList xs.length) := by
  unfold setP pcK
  rw [← hxs, List.take_of_length_le (by simp)]
  cases xs with
  | nil => cases h0
  | cons a r =>
    simp only [List.getElem_cons_zero] at hp
    subst hp
    simp [h]

set_option maxHeartbeats 16000000 in
set_option maxRecDepth 100000 in
theorem parseSet_any (line : ByteArray) (w : World) (hs : line.size ≤ 4398046511104) (he : ErrsS w) (hv : NumVars w) :
    Calls Tryz.prog 16 #[.string line] w (SetPost line.data.toList w) := by
  obtain ⟨B, hB⟩ : ∃ B, B = w.heap.size := ⟨_, rfl⟩
  have HB := Lib.hid hB
  have hB0 : B ≤ w.heap.size := by omega
  have HE := Lib.hid he
  have HV := Lib.hid hv
  clear hB he hv
  obtain ⟨i0, hi, hz0, hz1, hz2⟩ := info_parts strInfo
  go_enter Tryz.func16, Tryz.ntmps16
  go_wp2_with fail
  refine (zzTrim_any line _ hs).mono ?_
  rintro e w0 ⟨⟨tl, rfl, htl⟩, rfl⟩
  have htz := (trim_size htl hs).2
  have HTL := Lib.hid htl
  clear htl
  go_wp2_with fail
  refine (zzSplit_any tl _ 59 _ rfl htz).mono ?_
  rintro e w2 ⟨xs, ⟨g, cap, rfl, hownx, hb2⟩, hxs⟩
  have hgB : B ≤ g := by
    rcases hownx.2 with ⟨h1, _⟩ | ⟨g', cap', cur, h1, h2, _⟩
    · cases h1
    · cases h1; have := HB.out; omega
  have hpx : PartsAt g xs w2 := PartsAt.of_own hownx
  have hxs2 : xs.map (fun x => x.data.toList) = splitL 59 (trimL line.data.toList) := by rw [← HTL.out]; exact hxs
  have hn0 : 0 < xs.length := by
    have h1 := congrArg List.length hxs
    rw [List.length_map, ← count_split] at h1
    omega
  have hnz : xs.length ≤ 4398046511105 := by
    have h1 := congrArg List.length hxs
    have h2 := splitL_length_le 59 tl.data.toList
    rw [List.length_map] at h1
    rw [← Lib.size_eq] at h2
    omega
  have hxm : ∀ k (h : k < xs.length), xs[k].size ≤ 4398046511104 := by
    intro k hk
    have h2 := splitL_mem_le 59 tl.data.toList xs[k].data.toList (by rw [← hxs]; exact List.mem_map.2 ⟨_, List.getElem_mem hk, rfl⟩)
    rw [← Lib.size_eq, ← Lib.size_eq] at h2
    omega
  have HXS := Lib.hid hxs2
  have HXM := Lib.hid hxm
  have HB2 : Hid (Below B w w2) := Lib.hid (HB.out ▸ hb2)
  have HPX := Lib.hid hpx
  clear hxs hxs2 hxm hownx hb2 hpx HTL
  obtain ⟨p0, hp0⟩ : ∃ p, xs[0] = p := ⟨_, rfl⟩
  have hc0 := HPX.out.cell hn0
  have hps := HXM.out 0 hn0
  rw [hp0] at hc0 hps
  have HP0 := Lib.hid hp0
  clear hp0
  have HNO : Hid (headOk (trimL p0.data.toList) = false → setP line.data.toList = none) := Lib.hid (fun h => setP_no HXS.out hn0 HP0.out h)
  have hf0 : w2.frozen? ⟨g, 0, none⟩ = false := by obtain ⟨cur, hc, _⟩ := HPX.out; exact Lib.frozen_of_heap hc _
  obtain ⟨t1, q1, e1⟩ := (HE.out.kept (HB.out ▸ HB2.out)).blank
  go_upto_region 2 with fail
  go_cut [31] (fun v wx => (∃ q, v = .bool q ∧ (q = true → setP line.data.toList = none)) ∧ w2 = wx)
  case first =>
    have HBL : Hid (p0.toList.isEmpty = true → setP line.data.toList = none) := Lib.hid (fun h => HNO.out (by
      have h1 : p0.data.toList = [] := by rw [← Lib.toList_data]; simpa using h
      rw [h1]; rfl))
    by_cases hn1 : xs.length = 1
    · have d1 : ((xs.length : Int) == 1) = true := by rw [beq_iff_eq]; omega
      have d1' : (xs.length == 1) = true := by rw [beq_iff_eq]; exact hn1
      have HN1 := Lib.hid hn1
      clear hn1
      go_wp2
      go_meet
      case rel => exact ⟨⟨_, rfl, fun h => HBL.out (by simpa using h)⟩, rfl⟩
    · have d1 : ((xs.length : Int) == 1) = false := by rw [beq_eq_false_iff_ne]; omega
      have d1' : (xs.length == 1) = false := by rw [beq_eq_false_iff_ne]; exact hn1
      go_wp2
      go_meet
      case rel => exact ⟨⟨_, rfl, fun h => by cases h⟩, rfl⟩
  case rest =>
  obtain ⟨⟨q, rfl, hq⟩, rfl⟩ := hcut
  rcases q with _ | _
  case true =>
    have HN := Lib.hid (hq rfl)
    clear hq
    go_wp2
    go_quiet (fail)
    go_wp2
    go_ret2
    exact SetPost.err HN.out (HB.out ▸ below_drewN HB2.out _)
  clear hq e1
  go_upto_region 5 with (go_at_call 30; refine (zzTrim_any p0 _ hps).mono ?_; rintro e w' ⟨⟨t, rfl, ht⟩, rfl⟩; obtain ⟨hts, hts2⟩ := trim_size ht hps; have HT := Lib.hid ht; clear ht)
  have hpx3 := parts_set (k := 0) HPX.out t
  have hb3 : Below B w (w2.setCell ⟨g, 0, none⟩ (.string t)) := HB2.out.setCell (p := ⟨g, 0, none⟩) hgB _
  generalize w2.setCell ⟨g, 0, none⟩ (.string t) = w3 at hpx3 hb3 ⊢
  have hc3 : w3.cell? ⟨g, 0, none⟩ = some (.string t) := by
    rw [hpx3.cell (k := 0) (by rw [List.length_set]; exact hn0), List.getElem_set_self]
  obtain ⟨t2, p2, e2⟩ := (HE.out.kept (HB.out ▸ hb3)).eq
  obtain ⟨t3, p3, e3⟩ := (HE.out.kept (HB.out ▸ hb3)).name
  obtain ⟨t4, p4, e4⟩ := (HE.out.kept (HB.out ▸ hb3)).value
  have HB3 := Lib.hid hb3
  have HPX3 := Lib.hid hpx3
  have HSZ3 : Hid (B ≤ w3.heap.size) := Lib.hid (Nat.le_trans hB0 hb3.size)
  clear hc0 hf0 hpx3 hb3 HPX HB2
  rcases hb : hasB 61 (trimL p0.data.toList) with _ | _
  · as_aux_lemma =>
      have HN := Lib.hid (HNO.out (by unfold headOk; rw [hb]; rfl))
      have HB1 := Lib.hid hb
      clear hb
      go_wp2_with (go_at_call 31; refine (zzCut_any _ _ 61 _ rfl hts).mono ?_; rintro e w' ⟨⟨x, y, rfl, hx, hy⟩, m, rfl⟩; rw [HT.out, HB1.out]; clear hx hy)
      go_quiet (fail)
      go_wp2
      go_ret2
      exact SetPost.err HN.out (HB.out ▸ below_drewN (below_drewN HB3.out _) _)
  have HB1 := Lib.hid hb
  rcases htk : tokS (trimL (cutA 61 (trimL p0.data.toList))) with _ | _
  · as_aux_lemma =>
      have HN := Lib.hid (HNO.out (by unfold headOk; rw [hb, htk]; rfl))
      have HTK := Lib.hid htk
      clear hb htk
      go_wp2_with (first
        | (go_at_call 31; refine (zzCut_any _ _ 61 _ rfl hts).mono ?_; rintro e w' ⟨⟨x, y, rfl, hx, hy⟩, m, rfl⟩; rw [HT.out, HB1.out]; have hxz := (cutA_size hx hts hts2).2; have HX : Hid (x.data.toList = cutA 61 (trimL p0.data.toList)) := Lib.hid (by rw [hx, HT.out]); clear hx hy)
        | (go_at_call 30; refine (zzTrim_any x _ hxz).mono ?_; rintro e w' ⟨⟨x2, rfl, hx2⟩, rfl⟩; have hx2z := (trim_size hx2 hxz).2; have HX2 : Hid (x2.data.toList = trimL (cutA 61 (trimL p0.data.toList))) := Lib.hid (by rw [hx2, HX.out]); clear hx2)
        | (go_at_call 32; refine (isToken_any x2 _ (by unfold maxLen; omega)).mono ?_; rintro e w' ⟨rfl, rfl⟩; rw [HX2.out, HTK.out]))
      go_quiet (fail)
      go_wp2
      go_ret2
      exact SetPost.err HN.out (HB.out ▸ below_drewN (below_drewN HB3.out _) _)
  have HTK := Lib.hid htk
  rcases hal : allB valB (stripL (cutB 61 (trimL p0.data.toList)) true) with _ | _
  · as_aux_lemma =>
      have HN := Lib.hid (HNO.out (by unfold headOk; rw [hb, htk, hal]; rfl))
      have HAL := Lib.hid hal
      clear hb htk hal
      go_wp2_with (first
        | (go_at_call 31; refine (zzCut_any _ _ 61 _ rfl hts).mono ?_; rintro e w' ⟨⟨x, y, rfl, hx, hy⟩, m, rfl⟩; rw [HT.out, HB1.out]; have hxz := (cutA_size hx hts hts2).2; have hyz := (cutB_size hy hts2).1; have HX : Hid (x.data.toList = cutA 61 (trimL p0.data.toList)) := Lib.hid (by rw [hx, HT.out]); have HY : Hid (y.data.toList = cutB 61 (trimL p0.data.toList)) := Lib.hid (by rw [hy, HT.out]); clear hx hy)
        | (go_at_call 30; refine (zzTrim_any x _ hxz).mono ?_; rintro e w' ⟨⟨x2, rfl, hx2⟩, rfl⟩; have hx2z := (trim_size hx2 hxz).2; have HX2 : Hid (x2.data.toList = trimL (cutA 61 (trimL p0.data.toList))) := Lib.hid (by rw [hx2, HX.out]); clear hx2)
        | (go_at_call 32; refine (isToken_any x2 _ (by unfold maxLen; omega)).mono ?_; rintro e w' ⟨rfl, rfl⟩; rw [HX2.out, HTK.out])
        | (go_at_call 33; refine (pcv_any y true _ hyz).mono ?_; rintro e w' ⟨⟨z, rfl, hz⟩, rfl⟩; rw [HY.out, HAL.out]; clear hz))
      go_quiet (fail)
      go_wp2
      go_ret2
      exact SetPost.err HN.out (HB.out ▸ below_drewN (below_drewN HB3.out _) _)
  have HAL := Lib.hid hal
  have HYES : Hid (setP line.data.toList = some (pcK line.data.toList xs p0.data.toList xs.length)) := Lib.hid (setP_yes HXS.out hn0 HP0.out (by unfold headOk; rw [hb, htk, hal]; rfl))
  obtain ⟨qq, hqq⟩ : ∃ q, qB (cutB 61 (trimL p0.data.toList)) true = q := ⟨_, rfl⟩
  have HQ := Lib.hid hqq
  clear hb htk hal hqq e2 e3 e4
  go_wp2_with (first
      | (go_at_call 31; refine (zzCut_any _ _ 61 _ rfl hts).mono ?_; rintro e w4 ⟨⟨x, y, rfl, hx, hy⟩, m, hw'⟩; have HBW : Hid (Below w3.heap.size w3 w4) := Lib.hid (hw' ▸ below_drewN (Below.refl _ _) _); clear hw'; rw [HT.out, HB1.out]; have hxz := (cutA_size hx hts hts2).2; have hyz := (cutB_size hy hts2).1; have HX : Hid (x.data.toList = cutA 61 (trimL p0.data.toList)) := Lib.hid (by rw [hx, HT.out]); have HY : Hid (y.data.toList = cutB 61 (trimL p0.data.toList)) := Lib.hid (by rw [hy, HT.out]); clear hx hy)
      | (go_at_call 30; refine (zzTrim_any x _ hxz).mono ?_; rintro e w' ⟨⟨x2, rfl, hx2⟩, rfl⟩; have hx2z := (trim_size hx2 hxz).2; have HX2 : Hid (x2.data.toList = trimL (cutA 61 (trimL p0.data.toList))) := Lib.hid (by rw [hx2, HX.out]); clear hx2)
      | (go_at_call 32; refine (isToken_any x2 _ (by unfold maxLen; omega)).mono ?_; rintro e w' ⟨rfl, rfl⟩; rw [HX2.out, HTK.out])
      | (go_at_call 33; refine (pcv_any y true _ hyz).mono ?_; rintro e w' ⟨⟨z, rfl, hz⟩, rfl⟩; rw [HY.out, HAL.out, HQ.out]; rw [HY.out, HAL.out] at hz; have HZ := Lib.hid hz; clear hz))
  obtain ⟨c0, hc0⟩ : ∃ c : Ck, c = ⟨x2, z, qq, ⟨#[]⟩, ⟨#[]⟩, 0, false, false, 0, false, line, none, 0, 0⟩ := ⟨_, rfl⟩
  have hS0 : SetS w B w4.heap.size g xs 1 1 c0 (pcK line.data.toList xs p0.data.toList 1) (w4.alloc (.cells #[.string x2, .string z, .bool qq, .string ⟨#[]⟩, .string ⟨#[]⟩, .int .i64 0, .bool false, .bool false, .int .i64 0, .bool false, .string line, .slice none 0 0] 55)) := by
    subst hc0
    have hal := alloc_at w4 #[.string x2, .string z, .bool qq, .string ⟨#[]⟩, .string ⟨#[]⟩, .int .i64 0, .bool false, .bool false, .int .i64 0, .bool false, .string line, .slice none 0 0] 55
    have hpk : pcK line.data.toList xs p0.data.toList 1 = headIs line.data.toList (trimL p0.data.toList) := by
      unfold pcK
      rw [List.drop_eq_nil_of_le (by rw [List.length_take]; omega)]; rfl
    rw [hpk]
    refine ⟨Nat.le_trans HSZ3.out HBW.out.size, hgB, hal.1, ⟨HX2.out, ?_, HQ.out.symm, rfl, rfl, rfl, rfl, rfl, rfl, rfl, rfl⟩, ⟨xs.set 0 t, by rw [List.length_set], ?_, (HPX3.out.kept HBW.out).kept hal.2.1⟩, ⟨[], ⟨rfl, .inl ⟨rfl, rfl⟩⟩, rfl, by simp [Value.ownBlock], Nat.zero_le _⟩, (HB3.out.trans (HBW.out.mono HSZ3.out)).trans (hal.2.1.mono (Nat.le_trans HSZ3.out HBW.out.size))⟩
    · have := HZ.out
      show z.data.toList = stripL (cutB 61 (trimL p0.data.toList)) true
      simpa using this
    · cases xs with
      | nil => rfl
      | cons a r => rfl
  have HC0 := Lib.hid hc0
  have HS0 := Lib.hid hS0
  clear hc0 hS0 HZ HX2 HQ HX HY HPX3 HT
  refine ps_loop (pk := pcK line.data.toList xs p0.data.toList) HB.out HV.out hn0 hnz HXM.out (fun k h h1 => pcK_next h1 h) HS0.out ?_
  intro a' w' h
  unfold PsExit at h
  obtain ⟨i, h⟩ := h
  obtain ⟨u7, h⟩ := h
  obtain ⟨u11, h⟩ := h
  obtain ⟨u12, h⟩ := h
  obtain ⟨u13, h⟩ := h
  obtain ⟨u14, h⟩ := h
  obtain ⟨u15, h⟩ := h
  obtain ⟨u16, h⟩ := h
  obtain ⟨u17, h⟩ := h
  obtain ⟨u18, h⟩ := h
  obtain ⟨u19, h⟩ := h
  obtain ⟨u71, h⟩ := h
  obtain ⟨u72, h⟩ := h
  obtain ⟨u73, h⟩ := h
  obtain ⟨u74, h⟩ := h
  obtain ⟨u75, h⟩ := h
  obtain ⟨u76, h⟩ := h
  obtain ⟨u77, h⟩ := h
  obtain ⟨u78, h⟩ := h
  obtain ⟨u79, h⟩ := h
  obtain ⟨u80, h⟩ := h
  obtain ⟨u81, h⟩ := h
  obtain ⟨u82, h⟩ := h
  obtain ⟨u83, h⟩ := h
  obtain ⟨u84, h⟩ := h
  obtain ⟨u85, h⟩ := h
  obtain ⟨u86, h⟩ := h
  obtain ⟨u87, h⟩ := h
  obtain ⟨u88, h⟩ := h
  obtain ⟨u89, h⟩ := h
  obtain ⟨u90, h⟩ := h
  obtain ⟨u91, h⟩ := h
  obtain ⟨u92, h⟩ := h
  obtain ⟨u93, h⟩ := h
  obtain ⟨u94, h⟩ := h
  obtain ⟨u95, h⟩ := h
  obtain ⟨u96, h⟩ := h
  obtain ⟨u97, h⟩ := h
  obtain ⟨u98, h⟩ := h
  obtain ⟨u99, h⟩ := h
  obtain ⟨u100, h⟩ := h
  obtain ⟨u101, h⟩ := h
  obtain ⟨u102, h⟩ := h
  obtain ⟨u103, h⟩ := h
  obtain ⟨u104, h⟩ := h
  obtain ⟨u105, h⟩ := h
  obtain ⟨u106, h⟩ := h
  obtain ⟨u107, h⟩ := h
  obtain ⟨u108, h⟩ := h
  obtain ⟨u109, h⟩ := h
  obtain ⟨u110, h⟩ := h
  obtain ⟨u111, h⟩ := h
  obtain ⟨u112, h⟩ := h
  obtain ⟨u113, h⟩ := h
  obtain ⟨u114, h⟩ := h
  obtain ⟨u115, h⟩ := h
  obtain ⟨u116, h⟩ := h
  obtain ⟨u117, h⟩ := h
  obtain ⟨u118, h⟩ := h
  obtain ⟨u119, h⟩ := h
  obtain ⟨u120, h⟩ := h
  obtain ⟨u121, h⟩ := h
  obtain ⟨u122, h⟩ := h
  obtain ⟨u123, h⟩ := h
  obtain ⟨u124, h⟩ := h
  obtain ⟨u125, h⟩ := h
  obtain ⟨u126, h⟩ := h
  obtain ⟨u127, h⟩ := h
  obtain ⟨u128, h⟩ := h
  obtain ⟨u129, h⟩ := h
  obtain ⟨u130, h⟩ := h
  obtain ⟨u131, h⟩ := h
  obtain ⟨u132, h⟩ := h
  obtain ⟨u133, h⟩ := h
  obtain ⟨u134, h⟩ := h
  obtain ⟨u135, h⟩ := h
  obtain ⟨u136, h⟩ := h
  obtain ⟨u137, h⟩ := h
  obtain ⟨u138, h⟩ := h
  obtain ⟨u139, h⟩ := h
  obtain ⟨u140, h⟩ := h
  obtain ⟨u141, h⟩ := h
  obtain ⟨u142, h⟩ := h
  obtain ⟨u143, h⟩ := h
  obtain ⟨u144, h⟩ := h
  obtain ⟨u145, h⟩ := h
  obtain ⟨u146, h⟩ := h
  obtain ⟨u147, h⟩ := h
  obtain ⟨u148, h⟩ := h
  obtain ⟨u149, h⟩ := h
  obtain ⟨u150, h⟩ := h
  obtain ⟨u151, h⟩ := h
  obtain ⟨u152, h⟩ := h
  obtain ⟨u153, h⟩ := h
  obtain ⟨u154, h⟩ := h
  obtain ⟨u155, h⟩ := h
  obtain ⟨u156, h⟩ := h
  obtain ⟨u157, h⟩ := h
  obtain ⟨u158, h⟩ := h
  obtain ⟨u159, h⟩ := h
  obtain ⟨u160, h⟩ := h
  obtain ⟨u161, h⟩ := h
  obtain ⟨u162, h⟩ := h
  obtain ⟨u163, h⟩ := h
  obtain ⟨u164, h⟩ := h
  obtain ⟨u165, h⟩ := h
  obtain ⟨u166, h⟩ := h
  obtain ⟨u167, h⟩ := h
  obtain ⟨u168, h⟩ := h
  obtain ⟨u169, h⟩ := h
  obtain ⟨u170, h⟩ := h
  obtain ⟨u171, h⟩ := h
  obtain ⟨u172, h⟩ := h
  obtain ⟨u173, h⟩ := h
  obtain ⟨u174, h⟩ := h
  obtain ⟨u175, h⟩ := h
  obtain ⟨u176, h⟩ := h
  obtain ⟨u177, h⟩ := h
  obtain ⟨u178, h⟩ := h
  obtain ⟨u179, h⟩ := h
  obtain ⟨u180, h⟩ := h
  obtain ⟨u181, h⟩ := h
  obtain ⟨u182, h⟩ := h
  obtain ⟨u183, h⟩ := h
  obtain ⟨u184, h⟩ := h
  obtain ⟨u185, h⟩ := h
  obtain ⟨u186, h⟩ := h
  obtain ⟨u187, h⟩ := h
  obtain ⟨u188, h⟩ := h
  obtain ⟨u189, h⟩ := h
  obtain ⟨u190, h⟩ := h
  obtain ⟨u191, h⟩ := h
  obtain ⟨u192, h⟩ := h
  obtain ⟨u193, h⟩ := h
  obtain ⟨u194, h⟩ := h
  obtain ⟨u195, h⟩ := h
  obtain ⟨u196, h⟩ := h
  obtain ⟨u197, h⟩ := h
  obtain ⟨u198, h⟩ := h
  obtain ⟨u199, h⟩ := h
  obtain ⟨u200, h⟩ := h
  obtain ⟨u201, h⟩ := h
  obtain ⟨u202, h⟩ := h
  obtain ⟨u203, h⟩ := h
  obtain ⟨u204, h⟩ := h
  obtain ⟨u205, h⟩ := h
  obtain ⟨u206, h⟩ := h
  obtain ⟨u207, h⟩ := h
  obtain ⟨u208, h⟩ := h
  obtain ⟨u209, h⟩ := h
  obtain ⟨u210, h⟩ := h
  obtain ⟨u211, h⟩ := h
  obtain ⟨u212, h⟩ := h
  obtain ⟨u213, h⟩ := h
  obtain ⟨u214, h⟩ := h
  obtain ⟨u215, h⟩ := h
  obtain ⟨u216, h⟩ := h
  obtain ⟨u217, h⟩ := h
  obtain ⟨u218, h⟩ := h
  obtain ⟨u219, h⟩ := h
  obtain ⟨u220, h⟩ := h
  obtain ⟨u221, h⟩ := h
  obtain ⟨u222, h⟩ := h
  obtain ⟨u223, h⟩ := h
  obtain ⟨⟨c, h5⟩, rfl⟩ := h
  have H5 := Lib.hid h5
  clear h5
  go_wp2
  go_ret2
  have h5 := H5.out
  obtain ⟨us, u1, u2, u3, u4⟩ := h5.unp
  have h6 := HB.out
  subst h6
  exact ⟨.inl ⟨_, c, _, rfl, HYES.out, h5.at_, h5.hb, h5.eq, ⟨us, u1, u2⟩⟩, h5.be⟩
end Go.Proofs.YtfijncfoefbohaaGreatDoor
