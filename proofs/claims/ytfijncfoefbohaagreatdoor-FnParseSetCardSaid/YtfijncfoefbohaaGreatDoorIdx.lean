/- Searches for one byte: zzIndex, zzContains, zzCut, zzSplit, zzCount. -/
import Derived.Test.YtfijncfoefbohaaGreatDoorSplit
import Derived.Deep.QuietTactic
import Derived.BigQuiet
namespace Go.Proofs.YtfijncfoefbohaaGreatDoor
open Go Go.RowKit

def cutA (c : UInt8) (l : List UInt8) : List UInt8 := l.takeWhile fun x => x != c
def cutB (c : UInt8) (l : List UInt8) : List UInt8 := l.drop ((cutA c l).length + 1)
def hasB (c : UInt8) (l : List UInt8) : Bool := l.contains c
def idxB (c : UInt8) (l : List UInt8) : Int := if hasB c l then ((cutA c l).length : Int) else -1

theorem ret_int {k : IntKind} {a b : Int} (h : a = b) : Ending.returned (.int k a) = .returned (.int k b) := by rw [h]
theorem takeWhile_of {c : UInt8} {p r : List UInt8} (h : ∀ x ∈ p, x ≠ c) : cutA c (p ++ c :: r) = p := by
  unfold cutA
  rw [List.takeWhile_append_of_pos (by simpa using h)]
  simp
theorem idxB_hit {s : ByteArray} {c : UInt8} {k : Nat} (hk : k < s.size) (h : ∀ x ∈ s.data.toList.take k, x ≠ c) (he : s[k] = c) : idxB c s.data.toList = (k : Int) := by
  have hd : s.data.toList = s.data.toList.take k ++ c :: s.data.toList.drop (k + 1) := by
    conv => lhs; rw [← List.take_append_drop k s.data.toList]
    rw [List.drop_eq_getElem_cons (by simpa using hk), ← getElem_list s k hk, he]
  have h1 : hasB c s.data.toList = true := by unfold hasB; rw [hd]; simp
  unfold idxB
  rw [h1, if_pos rfl]
  conv => lhs; rw [hd, takeWhile_of h]
  rw [List.length_take, ← Lib.size_eq]
  omega
theorem idxB_none {l : List UInt8} {c : UInt8} (h : ∀ x ∈ l, x ≠ c) : idxB c l = -1 := by
  unfold idxB hasB
  rw [if_neg]
  intro h2
  have : c ∈ l := by simpa using h2
  exact h c this rfl
theorem take_ne_succ {s : ByteArray} {c : UInt8} {k : Nat} (hk : k < s.size) (h : ∀ x ∈ s.data.toList.take k, x ≠ c) (hne : s[k] ≠ c) : ∀ x ∈ s.data.toList.take (k + 1), x ≠ c := by
  intro x hx
  rw [take_snoc s k hk, List.mem_append] at hx
  rcases hx with hx | hx
  · exact h x hx
  · simp at hx; rw [hx]; exact hne
theorem sub_one {s sub : ByteArray} {c : UInt8} {k : Nat} (hsub : sub.data.toList = [c]) (hk : k < s.size) : ((s.extract k (k + sub.size)).toList == sub.toList) = (s[k] == c) := by
  have hz : sub.size = 1 := by rw [Lib.size_eq, hsub]; rfl
  rw [hz, Lib.extract_toList, Lib.toList_data, hsub, List.drop_eq_getElem_cons (by simpa using hk), ← getElem_list s k hk]
  simp

set_option maxHeartbeats 400000 in
theorem zzIndex_any (s sub : ByteArray) (c : UInt8) (w : World) (hsub : sub.data.toList = [c]) (hs : s.size < 9223372036854775807) :
    Calls Tryz.prog 45 #[.string s, .string sub] w fun e w' => e = .returned (.int .i64 (idxB c s.data.toList)) ∧ w = w' := by
  have hsz : sub.size = 1 := by rw [Lib.size_eq, hsub]; rfl
  have HSUB := Lib.hid hsub
  clear hsub
  have hs1 : (1 : Int) ≤ sub.size := by omega
  have hs2 : (sub.size : Int) ≤ 1 := by omega
  have HSZ := Lib.hid hsz
  clear hsz
  go_enter Tryz.func45, Tryz.ntmps45
  go_wp2
  go_loop [5] (fun i => ∃ k : Nat, k ≤ s.size ∧ i = .int .i64 k ∧ ∀ x ∈ s.data.toList.take k, x ≠ c) (fun i => s.size - (intOf i).toNat)
  case atStart => exact ⟨0, Nat.zero_le _, rfl, by simp⟩
  case round =>
    obtain ⟨k, hk, rfl, ha⟩ := hrel
    have HA := Lib.hid ha; clear ha
    by_cases hlt : k < s.size
    · have hd : decide ((k : Int) + sub.size ≤ s.size) = true := by rw [decide_eq_true_eq]; omega
      have he1 := sub_one HSUB.out hlt
      have HE := Lib.hid he1
      clear he1
      go_wp2
      · have h1 : ((s.extract k (k + sub.size)).toList == sub.toList) = true := by assumption
        go_ret
        exact ⟨ret_int (idxB_hit hlt HA.out (by rw [HE.out] at h1; simpa using h1)).symm, rfl⟩
      · have h1 : ((s.extract k (k + sub.size)).toList == sub.toList) = false := by assumption
        go_round
        case rel => exact ⟨k + 1, by omega, by go_num, take_ne_succ hlt HA.out (by rw [HE.out] at h1; simpa using h1)⟩
        case measure => simp [intOf]; omega
    · have hd : decide ((k : Int) + sub.size ≤ s.size) = false := by rw [decide_eq_false_iff_not]; omega
      go_wp2
      go_ret
      exact ⟨ret_int (idxB_none (by have := HA.out; rw [take_all s k (by omega)] at this; exact this)).symm, rfl⟩

theorem zzContains_any (s sub : ByteArray) (c : UInt8) (w : World) (hsub : sub.data.toList = [c]) (hs : s.size < 9223372036854775807) :
    Calls Tryz.prog 59 #[.string s, .string sub] w fun e w' => e = .returned (.bool (hasB c s.data.toList)) ∧ w = w' := by
  by_cases hh : hasB c s.data.toList = true
  · have hi : (0 : Int) ≤ idxB c s.data.toList := by unfold idxB; rw [if_pos hh]; omega
    go_enter Tryz.func59, Tryz.ntmps59
    go_wp2_with (go_at_call 45; refine (zzIndex_any _ _ c _ hsub hs).mono ?_; rintro e w' ⟨rfl, rfl⟩)
    go_ret
    exact ⟨ret_bool (by rw [hh]), rfl⟩
  · have hh' : hasB c s.data.toList = false := by simpa using hh
    have hi : idxB c s.data.toList = -1 := by unfold idxB; rw [if_neg hh]
    have HI := Lib.hid hi
    have hd : decide ((0 : Int) ≤ idxB c s.data.toList) = false := by rw [hi]; rfl
    clear hi hh
    go_enter Tryz.func59, Tryz.ntmps59
    go_wp2_with (go_at_call 45; refine (zzIndex_any _ _ c _ hsub hs).mono ?_; rintro e w' ⟨rfl, rfl⟩)
    go_ret
    exact ⟨ret_bool (by rw [hh']), rfl⟩

/-- zzCut's three results. -/
def CutPost (c : UInt8) (l : List UInt8) (e : Ending) : Prop :=
  ∃ x y : ByteArray, e = .returned (.tuple #[.string x, .string y, .bool (hasB c l)]) ∧ x.data.toList = cutA c l ∧ y.data.toList = cutB c l

theorem CutPost_mk {c : UInt8} {l : List UInt8} {x y : ByteArray} {b : Bool} (hb : hasB c l = b) (hx : x.data.toList = cutA c l) (hy : y.data.toList = cutB c l) :
    CutPost c l (.returned (.tuple #[.string x, .string y, .bool b])) := ⟨x, y, by rw [hb], hx, hy⟩
theorem cutA_self {c : UInt8} {l : List UInt8} (h : ∀ x ∈ l, x ≠ c) : cutA c l = l := by
  have := List.takeWhile_append_of_pos (p := fun x => x != c) (l₁ := l) (l₂ := []) (by simpa using h)
  simpa [cutA] using this
theorem cutA_none {c : UInt8} {l : List UInt8} (h : hasB c l = false) : cutA c l = l := by
  unfold hasB at h
  refine cutA_self fun x hx e => ?_
  subst e
  rw [List.contains_eq_mem] at h
  simp [hx] at h
theorem cutA_ne {c : UInt8} {l : List UInt8} : ∀ x ∈ cutA c l, x ≠ c := by
  intro x hx
  have h := List.all_takeWhile (p := fun x => x != c) (l := l)
  have := List.all_eq_true.1 h x hx
  simpa using this
theorem cutB_none {c : UInt8} {l : List UInt8} (h : hasB c l = false) : cutB c l = [] := by
  unfold cutB; rw [cutA_none h]; simp
theorem cutA_le {c : UInt8} {l : List UInt8} : (cutA c l).length ≤ l.length := (List.takeWhile_sublist _).length_le
theorem cutA_lt {c : UInt8} {l : List UInt8} (h : hasB c l = true) : (cutA c l).length < l.length := by
  unfold hasB at h
  have hm : c ∈ l := by simpa using h
  rcases Nat.lt_or_ge (cutA c l).length l.length with h1 | h1
  · exact h1
  · exfalso
    have h3 : cutA c l = l := (List.takeWhile_prefix (p := fun x => x != c) (l := l)).eq_of_length (Nat.le_antisymm cutA_le h1)
    rw [← h3] at hm
    exact cutA_ne c hm rfl
theorem cutA_take {c : UInt8} {l : List UInt8} : cutA c l = l.take (cutA c l).length := by
  have := List.takeWhile_prefix (p := fun x => x != c) (l := l)
  exact (List.prefix_iff_eq_take.1 this)

set_option maxHeartbeats 400000 in
theorem zzCut_any (s sub : ByteArray) (c : UInt8) (w : World) (hsub : sub.data.toList = [c]) (hs : s.size < 9223372036854775807) :
    Calls Tryz.prog 31 #[.string s, .string sub] w fun e w' => CutPost c s.data.toList e ∧ ∃ m, w' = w.drewN m := by
  have hsz : sub.size = 1 := by rw [Lib.size_eq, hsub]; rfl
  by_cases hh : hasB c s.data.toList = true
  · have hi : idxB c s.data.toList = ((cutA c s.data.toList).length : Int) := by unfold idxB; rw [if_pos hh]
    have hl := cutA_lt hh
    rw [← Lib.size_eq] at hl
    obtain ⟨n, hn⟩ : ∃ n, n = (cutA c s.data.toList).length := ⟨_, rfl⟩
    rw [← hn] at hi hl
    have hA : (s.extract 0 n).data.toList = cutA c s.data.toList := by rw [Lib.extract_data, cutA_take, hn]; simp
    have hB : (s.extract (n + sub.size) s.size).data.toList = cutB c s.data.toList := by
      unfold cutB
      rw [Lib.extract_data, hsz, ← hn, List.take_of_length_le (by simp)]
    have HA := Lib.hid hA
    have HB := Lib.hid hB
    have HI := Lib.hid hi
    have HH := Lib.hid hh
    have HSUB := Lib.hid hsub
    have hs1 : (1 : Int) ≤ sub.size := by omega
    have hs2 : (sub.size : Int) ≤ 1 := by omega
    clear hA hB hi hn hh hsub hsz
    go_enter Tryz.func31, Tryz.ntmps31
    go_wp2_with (go_at_call 45; refine (zzIndex_any _ _ c _ HSUB.out hs).mono ?_; rintro e w' ⟨rfl, rfl⟩; rw [HI.out])
    go_quiet (fail)
    go_wp2
    go_ret3
    exact ⟨CutPost_mk HH.out HA.out HB.out, _, rfl⟩
  · have hh' : hasB c s.data.toList = false := by simpa using hh
    have hd : decide ((0 : Int) ≤ idxB c s.data.toList) = false := by unfold idxB; rw [if_neg hh]; rfl
    have HH := Lib.hid hh'
    clear hh hh'
    go_enter Tryz.func31, Tryz.ntmps31
    go_wp2_with (go_at_call 45; refine (zzIndex_any _ _ c _ hsub hs).mono ?_; rintro e w' ⟨rfl, rfl⟩)
    go_ret3
    exact ⟨CutPost_mk HH.out (cutA_none HH.out).symm (cutB_none HH.out).symm, 0, rfl⟩

def strLen : Value → Nat
  | .string s => s.size
  | _ => 0

def SplitRest (c : UInt8) (s t : ByteArray) (xs : List ByteArray) : Prop := xs.map (·.data.toList) ++ splitL c t.data.toList = splitL c s.data.toList
theorem cutA_cons_ne {c a : UInt8} {l : List UInt8} (h : a ≠ c) : cutA c (a :: l) = a :: cutA c l := by
  unfold cutA; rw [List.takeWhile_cons_of_pos (by simpa using h)]
theorem cutA_cons_eq {c : UInt8} {l : List UInt8} : cutA c (c :: l) = [] := by
  unfold cutA; rw [List.takeWhile_cons_of_neg (by simp)]
theorem cut_parts {c : UInt8} {l : List UInt8} (h : hasB c l = true) : l = cutA c l ++ c :: cutB c l := by
  induction l with
  | nil => simp [hasB] at h
  | cons a l ih =>
    by_cases e : a = c
    · subst e
      unfold cutB
      rw [cutA_cons_eq]; rfl
    · have h2 : hasB c l = true := by
        unfold hasB at *
        rw [List.contains_cons] at h
        simpa [Ne.symm e] using h
      have := ih h2
      have hb : cutB c (a :: l) = cutB c l := by unfold cutB; rw [cutA_cons_ne e]; rfl
      rw [cutA_cons_ne e, hb, List.cons_append, ← this]
theorem split_step {c : UInt8} {s t t2 x : ByteArray} {xs : List ByteArray} (h : SplitRest c s t xs) (hh : hasB c t.data.toList = true) (hx : x.data.toList = cutA c t.data.toList) (h2 : t2.data.toList = cutB c t.data.toList) :
    SplitRest c s t2 (xs ++ [x]) := by
  unfold SplitRest at *
  have hd := cut_parts hh
  rw [← h, List.map_append, List.append_assoc]
  congr 1
  conv => rhs; rw [hd]
  rw [splitL_hit c _ _ cutA_ne, List.map_cons, List.map_nil, hx, h2]
  rfl
theorem split_last {c : UInt8} {s t : ByteArray} {xs : List ByteArray} (h : SplitRest c s t xs) (hh : hasB c t.data.toList = false) : (xs ++ [t]).map (·.data.toList) = splitL c s.data.toList := by
  unfold SplitRest at h
  rw [← h, List.map_append]
  congr 1
  rw [splitL_none]; rfl
  intro x hx e
  subst e
  unfold hasB at hh
  rw [List.contains_eq_mem] at hh
  simp [hx] at hh

set_option maxHeartbeats 1000000 in
theorem zzSplit_any (s sub : ByteArray) (c : UInt8) (w : World) (hsub : sub.data.toList = [c]) (hs : s.size ≤ 4398046511104) :
    Calls Tryz.prog 29 #[.string s, .string sub] w fun e w' => ∃ xs, NewStrs w w' e xs ∧ xs.map (·.data.toList) = splitL c s.data.toList := by
  have hsz : sub.size = 1 := by rw [Lib.size_eq, hsub]; rfl
  have HSUB := Lib.hid hsub
  clear hsub
  have hs1 : (1 : Int) ≤ sub.size := by omega
  have hs2 : (sub.size : Int) ≤ 1 := by omega
  have HSZ := Lib.hid hsz
  clear hsz
  obtain ⟨B, hB⟩ : ∃ B, B = w.heap.size := ⟨_, rfl⟩
  have HB := Lib.hid hB
  have hB0 : B ≤ w.heap.size := by omega
  clear hB
  go_enter Tryz.func29, Tryz.ntmps29
  go_wp2
  go_loopw [0, 5] (fun sv v wr => ∃ (t : ByteArray) (xs : List ByteArray), sv = .string t ∧ xs.length + t.size ≤ s.size ∧ wr.ownsRow B 9 1 v xs.length (xs.map Value.string) ∧ Below B w wr ∧ SplitRest c s t xs) (fun sv _ _ => strLen sv)
  case atStart => exact ⟨s, [], rfl, by simp, World.ownsRow_nil _ _ _ _, Below.refl _ _, rfl⟩
  case round =>
    obtain ⟨t, xs, rfl, hlen, hown, hbel, hsp⟩ := hrel
    have hsz := hbel.size
    by_cases hh : hasB c t.data.toList = true
    · have hi : idxB c t.data.toList = ((cutA c t.data.toList).length : Int) := by unfold idxB; rw [if_pos hh]
      have hl := cutA_lt hh
      rw [← Lib.size_eq] at hl
      obtain ⟨n, hn⟩ : ∃ n, n = (cutA c t.data.toList).length := ⟨_, rfl⟩
      rw [← hn] at hi hl
      have hA : (t.extract 0 n).data.toList = cutA c t.data.toList := by rw [Lib.extract_data, cutA_take, hn]; simp
      have hBB : (t.extract (n + sub.size) t.size).data.toList = cutB c t.data.toList := by
        unfold cutB
        rw [Lib.extract_data, HSZ.out, ← hn, List.take_of_length_le (by simp)]
      have HSP := Lib.hid (split_step hsp hh hA hBB)
      have HI := Lib.hid hi
      have hlt2 : (t.extract (n + sub.size) t.size).size + 1 ≤ t.size := by rw [ByteArray.size_extract]; omega
      clear hA hBB hi hn hh hsp
      go_wp2_with (first
        | (go_at_call 45; refine (zzIndex_any _ _ c _ HSUB.out (by omega)).mono ?_; rintro e w' ⟨rfl, rfl⟩; rw [HI.out])
        | (at_builtin; refine wpList_app1 rfl (.tmp 16) (.tmp 20) _ _ rfl _ _ Tryz.underlying23 strInfo rfl B _ _ _ rfl hown (.string (t.extract 0 n)) rfl rfl ?c1 ?c2 ?c3 ?_))
      case c1 => omega
      case c2 => omega
      case c3 => omega
      intro g cap w1 hown1 hb1 hg1 hat hBg
      have R : w1.ownsRow B 9 1 (.slice (some ⟨g, 0, none⟩) (xs.length + 1) cap) (xs ++ [t.extract 0 n]).length ((xs ++ [t.extract 0 n]).map Value.string) := by simpa using hown1
      have hb2 := hbel.trans hb1
      clear hown1 hb1 hg1 hat hown hbel
      go_wp2
      go_roundw
      case rel => exact ⟨_, _, rfl, by simp; omega, R, hb2, HSP.out⟩
      case measure => simp [strLen]; omega
    · have hh' : hasB c t.data.toList = false := by simpa using hh
      have hi : decide (idxB c t.data.toList < 0) = true := by unfold idxB; rw [if_neg hh]; rfl
      have HE := Lib.hid (split_last hsp hh')
      clear hh hh' hsp
      go_wp2_with (first
        | (go_at_call 45; refine (zzIndex_any _ _ c _ HSUB.out (by omega)).mono ?_; rintro e w' ⟨rfl, rfl⟩)
        | (at_builtin; refine wpList_app1 rfl (.tmp 12) (.tmp 14) _ _ rfl _ _ Tryz.underlying23 strInfo rfl B _ _ _ rfl hown (.string t) rfl rfl ?d1 ?d2 ?d3 ?_))
      case d1 => omega
      case d2 => omega
      case d3 => omega
      intro g cap w1 hown1 hb1 hg1 hat hBg
      have R : w1.ownsRow B 9 1 (.slice (some ⟨g, 0, none⟩) (xs.length + 1) cap) (xs ++ [t]).length ((xs ++ [t]).map Value.string) := by simpa using hown1
      have hb2 := hbel.trans hb1
      clear hown1 hb1 hg1 hat hown hbel
      have HR : Hid (NewStrs w w1 (.returned (.slice (some ⟨g, 0, none⟩) (xs.length + 1) cap)) (xs ++ [t])) := by
        have := HB.out; subst this
        exact ⟨g, cap, by simp, by simpa using R, hb2⟩
      go_wp2
      go_ret
      exact ⟨_, HR, HE.out⟩
end Go.Proofs.YtfijncfoefbohaaGreatDoor
