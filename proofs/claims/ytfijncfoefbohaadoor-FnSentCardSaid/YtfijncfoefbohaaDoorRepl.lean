/- zzReplaceAll with one byte sought and '-' in its place; sanitizeCookieName. -/
import Derived.Test.YtfijncfoefbohaaDoorSan
import Derived.Test.YtfijncfoefbohaaDoorIdx
import Derived.Lib.AppendStr
namespace Go.Proofs.YtfijncfoefbohaaDoor
open Go Go.RowKit

def subL (c : UInt8) (l : List UInt8) : List UInt8 := l.map fun x => if x = c then 45 else x
theorem subL_len (c : UInt8) (l : List UInt8) : (subL c l).length = l.length := by unfold subL; rw [List.length_map]
theorem subL_none {c : UInt8} {l : List UInt8} (h : ∀ x ∈ l, x ≠ c) : subL c l = l := by
  unfold subL
  conv => rhs; rw [← List.map_id l]
  exact List.map_congr_left fun x hx => by rw [if_neg (h x hx)]; rfl
theorem subL_app (c : UInt8) (a b : List UInt8) : subL c (a ++ b) = subL c a ++ subL c b := List.map_append
theorem hasB_not {c : UInt8} {l : List UInt8} (h : hasB c l = false) : ∀ x ∈ l, x ≠ c := by
  rw [← cutA_none h]; exact cutA_ne
theorem subL_hit {c : UInt8} {l : List UInt8} (h : hasB c l = true) : subL c l = cutA c l ++ 45 :: subL c (l.drop ((cutA c l).length + 1)) := by
  have hlt := cutA_lt h
  have hs : l = cutA c l ++ c :: l.drop ((cutA c l).length + 1) := cut_parts h
  conv => lhs; rw [hs]
  rw [subL_app, subL_none cutA_ne]
  show cutA c l ++ (if c = c then (45 : UInt8) else c) :: subL c _ = _
  rw [if_pos rfl]

set_option maxHeartbeats 1600000 in
set_option maxRecDepth 100000 in
theorem zzReplaceAll_any (s old nw : ByteArray) (c : UInt8) (w : World) (hold : old.data.toList = [c]) (hnw : nw.data.toList = [45]) (hs : s.size ≤ 4398046511104) :
    Calls Tryd.prog 104 #[.string s, .string old, .string nw] w fun e w' => StrPost (subL c s.data.toList) e ∧ Below w.heap.size w w' := by
  obtain ⟨i0, hi, hz0, hz1, hz2⟩ := info_parts byteInfo'
  obtain ⟨B, hB⟩ : ∃ B, B = w.heap.size := ⟨_, rfl⟩
  have HB := Lib.hid hB
  have hB0 : B ≤ w.heap.size := by omega
  have hos : old.size = 1 := by rw [Lib.size_eq, hold]; rfl
  have hns : nw.size = 1 := by rw [Lib.size_eq, hnw]; rfl
  have HNW := Lib.hid hnw
  clear hB hnw
  go_enter Tryd.func104, Tryd.ntmps104
  go_wp2
  go_loopw [0, 7, 8] (fun r v i wr => ∃ (rs : ByteArray) (o : List UInt8), r = .string rs ∧ wr.ownsRow B 5 1 v o.length (Lib.byteCells o) ∧ Below B w wr ∧ o ++ subL c rs.data.toList = subL c s.data.toList) (fun r _ _ _ => strLen r)
  case atStart => exact ⟨s, [], rfl, ⟨rfl, .inl ⟨rfl, rfl⟩⟩, Below.refl _ _, rfl⟩
  case round =>
    obtain ⟨rs, o, rfl, hown, hbel, hsub⟩ := hrel
    have hlen : o.length + rs.size = s.size := by
      have h := congrArg List.length hsub
      rw [List.length_append, subL_len, subL_len, ← Lib.size_eq, ← Lib.size_eq] at h
      exact h
    have HSUB := Lib.hid hsub
    have HLEN := Lib.hid hlen
    have hl1 : o.length ≤ 4398046511104 := by omega
    have hl2 : rs.size ≤ 4398046511104 := by omega
    clear hsub hlen
    have hBw : B ≤ wr.heap.size := Nat.le_trans hB0 hbel.size
    by_cases hh : hasB c rs.data.toList = true
    · have hk1 := cutA_lt hh
      have hix : idxB c rs.data.toList = ((cutA c rs.data.toList).length : Int) := by unfold idxB; rw [if_pos hh]
      have HH := Lib.hid (subL_hit hh)
      have HT := Lib.hid (cutA_take (c := c) (l := rs.data.toList))
      rw [← Lib.size_eq] at hk1
      have HIX := Lib.hid hix
      clear hh hix
      obtain ⟨k, hk⟩ : ∃ k, (cutA c rs.data.toList).length = k := ⟨_, rfl⟩
      rw [hk] at HH HIX HT hk1
      have HK := Lib.hid hk
      clear hk
      go_wp2_with fail
      refine (zzIndex_any rs old c _ hold (by omega)).mono ?_
      rintro e w' ⟨rfl, rfl⟩
      rw [HIX.out]
      have hex : (rs.extract 0 k).size = k := by rw [Lib.size_eq, Lib.extract_data, List.drop_zero, Nat.sub_zero, List.length_take, ← Lib.size_eq]; omega
      have hex2 : (rs.extract 0 k).data.toList = cutA c rs.data.toList := by rw [Lib.extract_data, List.drop_zero, Nat.sub_zero, HT.out]
      have hdr : (rs.extract (k + 1) rs.size).data.toList = rs.data.toList.drop (k + 1) := by rw [Lib.extract_data, List.take_of_length_le (by simp)]
      have hds : (rs.extract (k + 1) rs.size).size = rs.size - (k + 1) := by rw [Lib.size_eq, hdr, List.length_drop, ← Lib.size_eq]
      have HEX2 := Lib.hid hex2
      have HDR := Lib.hid hdr
      have HDS := Lib.hid hds
      have HEX := Lib.hid hex
      clear hex hex2 hdr hds
      go_wp2_with (at_builtin; refine Lib.wpList_append_own_string _ rfl (.tmp 18) (.tmp 21) _ _ rfl B 5 i0 Tryd.underlying62 Tryd.underlying9 hi hz0 hz1 hz2 _ _ _ rfl hown (rs.extract 0 k) rfl ?c1 ?c2 hBw ?_)
      case c1 => have := HEX.out; unfold maxLen; omega
      case c2 => have := HEX.out; omega
      intro v' w1 hown' hg hnil
      have hown2 : w1.ownsRow B 5 1 v' (o ++ cutA c rs.data.toList).length (Lib.byteCells (o ++ cutA c rs.data.toList)) := by
        rw [Lib.byteCells_append, List.length_append, HK.out, ← HEX2.out]
        have := hown'
        rw [show min k rs.size = k by omega] at this
        exact this
      have hb1 : Below B w w1 := hbel.grown hg hBw (fun k hk => (hown.lt k hk).1)
      have hBw1 : B ≤ w1.heap.size := Nat.le_trans hB0 hb1.size
      have hl3 : (o ++ cutA c rs.data.toList).length ≤ 8796093022208 := by rw [List.length_append, HK.out]; omega
      clear hown hown' hg hnil hbel
      have HL3 := Lib.hid hl3
      clear hl3
      go_wp2_with (at_builtin; refine Lib.wpList_append_own_string _ rfl (.tmp 22) (.tmp 23) _ _ rfl B 5 i0 Tryd.underlying62 Tryd.underlying9 hi hz0 hz1 hz2 _ _ _ rfl hown2 nw rfl ?d1 ?d2 hBw1 ?_)
      case d1 => have := HL3.out; unfold maxLen; omega
      case d2 => have := HL3.out; omega
      intro v2 w2 hown3 hg2 hnil2
      have hown4 : w2.ownsRow B 5 1 v2 (o ++ cutA c rs.data.toList ++ [45]).length (Lib.byteCells (o ++ cutA c rs.data.toList ++ [45])) := by
        have hx : Lib.strCells nw = Lib.byteCells nw.data.toList := rfl
        rw [Lib.byteCells_append (o ++ cutA c rs.data.toList), ← HNW.out, ← hx, List.length_append, ← Lib.size_eq, hns, List.length_append]
        exact hown3
      have hb2 : Below B w w2 := hb1.grown hg2 hBw1 (fun k hk => (hown2.lt k hk).1)
      have R : Hid (w2.ownsRow B 5 1 v2 (o ++ cutA c rs.data.toList ++ [45]).length (Lib.byteCells (o ++ cutA c rs.data.toList ++ [45]))) := Lib.hid hown4
      clear hown2 hown3 hown4 hg2 hnil2 hb1
      go_wp2
      go_roundw
      case rel =>
        refine ⟨_, _, rfl, R.out, hb2, ?_⟩
        rw [HDR.out, ← HSUB.out, HH.out]; simp
      case measure => show (rs.extract (k + 1) rs.size).size < rs.size; rw [HDS.out]; omega
    · have hh' : hasB c rs.data.toList = false := by simpa using hh
      have HH := Lib.hid (subL_none (hasB_not hh'))
      have hix : idxB c rs.data.toList = -1 := by unfold idxB; rw [if_neg hh]
      have HIX := Lib.hid hix
      clear hh hh' hix
      go_wp2_with fail
      refine (zzIndex_any rs old c _ hold (by omega)).mono ?_
      rintro e w' ⟨rfl, rfl⟩
      rw [HIX.out]
      go_wp2_with (at_builtin; refine Lib.wpList_append_own_string _ rfl (.tmp 14) (.tmp 15) _ _ rfl B 5 i0 Tryd.underlying62 Tryd.underlying9 hi hz0 hz1 hz2 _ _ _ rfl hown rs rfl ?c1 ?c2 hBw ?_)
      case c1 => unfold maxLen; omega
      case c2 => omega
      intro v' w1 hown' hg hnil
      have hown2 : w1.ownsRow B 5 1 v' (o.length + rs.size) (Lib.byteCells (o ++ rs.data.toList)) := by rw [Lib.byteCells_append]; exact hown'
      have hcv := conv_own hown2
      have hb1 : Below B w w1 := hbel.grown hg hBw (fun k hk => (hown.lt k hk).1)
      clear hown' hown2 hg hnil hown
      go_wp2
      go_ret
      exact ⟨⟨_, rfl, by rw [← HSUB.out, HH.out]⟩, by have := HB.out; rw [← this]; exact hb1⟩

/-- A cookie's name as it is sent. -/
def nameL (l : List UInt8) : List UInt8 := subL 13 (subL 10 l)

theorem sanName_any (s : ByteArray) (w : World) (hs : s.size ≤ 4398046511104) :
    Calls Tryd.prog 80 #[.string s] w fun e w' => StrPost (nameL s.data.toList) e ∧ Below w.heap.size w w' := by
  go_enter Tryd.func80, Tryd.ntmps80
  go_wp2_with fail
  refine (zzReplaceAll_any s _ _ 10 _ rfl rfl hs).mono ?_
  rintro e w1 ⟨⟨x, rfl, hx⟩, hb1⟩
  have hxs : x.size ≤ 4398046511104 := by rw [Lib.size_eq, hx, subL_len, ← Lib.size_eq]; exact hs
  have HX := Lib.hid hx
  clear hx
  go_wp2_with fail
  refine (zzReplaceAll_any x _ _ 13 _ rfl rfl hxs).mono ?_
  rintro e w2 ⟨⟨y, rfl, hy⟩, hb2⟩
  have HB := Lib.hid (hb1.trans (hb2.mono hb1.size))
  have HY := Lib.hid hy
  clear hb1 hb2 hy
  go_wp2
  go_ret
  exact ⟨⟨y, rfl, by rw [HY.out, HX.out]; rfl⟩, HB.out⟩
theorem i_Clean_any (s : ByteArray) (w : World) (hs : s.size ≤ 4398046511104) :
    Calls Tryd.prog 29 #[.string s] w fun e w' => StrPost (nameL s.data.toList) e ∧ Below w.heap.size w w' := by
  have hzz : ∀ w, Calls Tryd.prog 58 #[.string s] w fun e w' => StrPost (nameL s.data.toList) e ∧ Below w.heap.size w w' := by
    intro w
    go_enter Tryd.func58, Tryd.ntmps58
    go_wp2_with fail
    refine (sanName_any s _ hs).mono ?_
    rintro e w1 ⟨⟨x, rfl, hx⟩, hb1⟩
    have HX := Lib.hid hx
    clear hx
    go_wp2
    go_ret
    exact ⟨⟨x, rfl, HX.out⟩, hb1⟩
  have HZ := Lib.hid hzz
  clear hzz
  go_enter Tryd.func29, Tryd.ntmps29
  go_wp2_with fail
  refine (HZ.out _).mono ?_
  rintro e w1 ⟨⟨x, rfl, hx⟩, hb1⟩
  have HX := Lib.hid hx
  clear hx
  go_wp2
  go_ret
  exact ⟨⟨x, rfl, HX.out⟩, hb1⟩

theorem nameL_none {l : List UInt8} (h : ∀ x ∈ l, x ≠ 10 ∧ x ≠ 13) : nameL l = l := by
  unfold nameL
  rw [subL_none (fun x hx => (h x hx).1), subL_none (fun x hx => (h x hx).2)]
theorem subL_mem {c : UInt8} {l : List UInt8} : ∀ x ∈ subL c l, x = 45 ∨ x ≠ c ∧ x ∈ l := by
  intro x hx
  unfold subL at hx
  rw [List.mem_map] at hx
  obtain ⟨a, ha, rfl⟩ := hx
  by_cases h : a = c
  · rw [if_pos h]; exact .inl rfl
  · rw [if_neg h]; exact .inr ⟨h, ha⟩
theorem nameL_clean (l : List UInt8) : ∀ x ∈ nameL l, x ≠ 10 ∧ x ≠ 13 := by
  intro x hx
  rcases subL_mem x hx with rfl | ⟨h1, h2⟩
  · decide
  · rcases subL_mem x h2 with rfl | ⟨h3, _⟩
    · decide
    · exact ⟨h3, h1⟩
theorem nameL_len (l : List UInt8) : (nameL l).length = l.length := by unfold nameL; rw [subL_len, subL_len]
theorem tok_clean {l : List UInt8} (h : tokS l = true) : ∀ x ∈ l, x ≠ 10 ∧ x ≠ 13 := by
  unfold tokS allB at h
  simp only [Bool.and_eq_true, List.all_eq_true] at h
  intro x hx
  have h2 := h.2 x hx
  constructor
  · rintro rfl; revert h2; decide
  · rintro rfl; revert h2; decide
end Go.Proofs.YtfijncfoefbohaaDoor
