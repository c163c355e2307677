/- The reference's DomainName. -/
import Derived.Test.YtfijncfoefbohaaDoorDom
namespace Go.Proofs.YtfijncfoefbohaaDoor
open Go Go.RowKit

def domParts (l : List UInt8) : List (List UInt8) := if (splitL 46 l).getLast?.getD [] = [] ∧ 1 < (splitL 46 l).length then (splitL 46 l).dropLast else splitL 46 l
def domOk (ps : List (List UInt8)) : Bool := ps.all labB && ps.any (anyB letB)
def undot (l : List UInt8) : List UInt8 := if headN l == 46 then l.tail else l
def domB (l : List UInt8) : Bool := !(decide (255 < l.length)) && (!l.isEmpty && domOk (domParts (undot l)))

theorem dom_cases (xs : List ByteArray) (l : List UInt8) (hx : xs.map (·.data.toList) = splitL 46 l) (hn : 1 ≤ xs.length) : ∃ m, m ≤ xs.length ∧ domParts l = (xs.take m).map (·.data.toList) ∧
    ((xs.length = 1 ∧ m = xs.length) ∨ (1 < xs.length ∧ m = xs.length - 1 ∧ ∃ z, z.toList = [] ∧ ∃ h : xs.length - 1 < xs.length, xs[xs.length - 1] = z) ∨
      (1 < xs.length ∧ m = xs.length ∧ ∃ z, z.toList.isEmpty = false ∧ ∃ h : xs.length - 1 < xs.length, xs[xs.length - 1] = z)) := by
  have hlen : (splitL 46 l).length = xs.length := by rw [← hx]; simp
  have hlast : (splitL 46 l).getLast?.getD [] = (xs[xs.length - 1]'(by omega)).data.toList := by
    rw [← hx, List.getLast?_eq_getElem?]
    simp [List.getElem?_eq_getElem (show xs.length - 1 < xs.length by omega)]
  unfold domParts
  rw [hlen, hlast, ← hx]
  by_cases h1 : xs.length = 1
  · exact ⟨xs.length, Nat.le_refl _, by rw [if_neg (by omega), List.take_length], .inl ⟨h1, rfl⟩⟩
  · by_cases h2 : (xs[xs.length - 1]'(by omega)).data.toList = []
    · exact ⟨xs.length - 1, by omega, by rw [if_pos ⟨h2, by omega⟩, List.dropLast_eq_take, List.map_take, List.length_map], .inr (.inl ⟨by omega, rfl, _, by rw [Lib.toList_data]; exact h2, _, rfl⟩)⟩
    · exact ⟨xs.length, Nat.le_refl _, by rw [if_neg (fun h => h2 h.1), List.take_length], .inr (.inr ⟨by omega, rfl, _, by rw [Lib.toList_data]; rw [List.isEmpty_eq_false_iff]; exact h2, _, rfl⟩)⟩
theorem dom_fin {s : ByteArray} {l : List UInt8} {ps : List (List UInt8)} (h : ¬ 255 < s.size) (he : s.toList.isEmpty = false) (hl : l = undot s.data.toList) (hp : domParts l = ps) : domB s.data.toList = domOk ps := by
  rw [Lib.toList_data] at he
  unfold domB
  rw [← hl, hp, he, ← Lib.size_eq, show decide (255 < s.size) = false from by rw [decide_eq_false_iff_not]; exact h]; simp
theorem domOk_true {ps : List (List UInt8)} (h : ps.all labB = true) : domOk ps = ps.any (anyB letB) := by unfold domOk; rw [h]; rfl
theorem domOk_false {ps : List (List UInt8)} {p : List UInt8} (hm : p ∈ ps) (h : labB p = false) : domOk ps = false := by
  unfold domOk
  rw [List.all_eq_false.2 ⟨p, hm, by simp [h]⟩]; rfl
theorem take_any_succ (xs : List ByteArray) (k : Nat) (hk : k < xs.length) (f : List UInt8 → Bool) :
    ((xs.take (k + 1)).map (·.data.toList)).any f = (((xs.take k).map (·.data.toList)).any f || f xs[k].data.toList) := by
  rw [List.take_succ_eq_append_getElem hk, List.map_append, List.any_append]; simp
theorem take_all_succ (xs : List ByteArray) (k : Nat) (hk : k < xs.length) (f : List UInt8 → Bool) :
    ((xs.take (k + 1)).map (·.data.toList)).all f = (((xs.take k).map (·.data.toList)).all f && f xs[k].data.toList) := by
  rw [List.take_succ_eq_append_getElem hk, List.map_append, List.all_append]; simp
theorem any_succ (p : Int → Bool) (s : ByteArray) (k : Nat) (h : k < s.size) : anyB p (s.data.toList.take (k + 1)) = (anyB p (s.data.toList.take k) || p (s[k].toNat : Int)) := by
  rw [take_snoc s k h]; unfold anyB; rw [List.any_append]; simp
theorem mem_take_of {xs : List ByteArray} {k m : Nat} (hk : k < xs.length) (hm : k < m) : xs[k].data.toList ∈ (xs.take m).map (·.data.toList) := by
  rw [List.mem_map]
  refine ⟨xs[k], ?_, rfl⟩
  rw [List.mem_take_iff_getElem]
  exact ⟨k, by omega, rfl⟩

set_option maxHeartbeats 2000000 in
theorem s_DomainName_any (s : ByteArray) (w : World) (hs : s.size ≤ 2147483647) :
    Calls Tryd.prog 17 #[.string s] w fun e w' => e = .returned (.bool (domB s.data.toList)) ∧ Below w.heap.size w w' := by
  by_cases h255 : 255 < s.size
  · have hd : decide ((255 : Int) < (s.size : Int)) = true := by rw [decide_eq_true_eq]; omega
    go_enter Tryd.func17, Tryd.ntmps17
    go_wp2
    go_ret
    exact ⟨ret_bool (by unfold domB; rw [← Lib.size_eq, show decide (255 < s.size) = true from by rw [decide_eq_true_eq]; exact h255]; rfl), Below.refl _ _⟩
  have hd : decide ((255 : Int) < (s.size : Int)) = false := by rw [decide_eq_false_iff_not]; omega
  by_cases h0 : s.size = 0
  · have he : s.toList = [] := by rw [Lib.toList_data]; exact List.eq_nil_of_length_eq_zero (by simpa using h0)
    go_enter Tryd.func17, Tryd.ntmps17
    go_wp2
    go_ret
    exact ⟨ret_bool (by rw [Lib.toList_data] at he; unfold domB; rw [he]; simp), Below.refl _ _⟩
  have he : s.toList.isEmpty = false := by
    rw [Lib.toList_data, List.isEmpty_eq_false_iff]; intro h; apply h0; have := congrArg List.length h; simpa using this
  have h1 : 0 < s.size := by omega
  clear h0
  have HQ : ∃ s' : ByteArray, s'.data.toList = undot s.data.toList ∧ s'.size ≤ s.size ∧ ((((s[0].toNat : Int) == 46) = true ∧ s' = s.extract 1 s.size) ∨ (((s[0].toNat : Int) == 46) = false ∧ s' = s)) := by
    unfold undot headN
    rw [head_of s h1]
    by_cases h : ((s[0].toNat : Int) == 46) = true
    · exact ⟨s.extract 1 s.size, by rw [if_pos h, Lib.extract_data, List.drop_one, List.take_of_length_le (by simp)], extract_size_le _ _ _, .inl ⟨h, rfl⟩⟩
    · have h' : ((s[0].toNat : Int) == 46) = false := by simpa using h
      exact ⟨s, by rw [h']; rfl, Nat.le_refl _, .inr ⟨h', rfl⟩⟩
  obtain ⟨s', hs', hsz, hcase⟩ := HQ
  have HS := Lib.hid hs'
  clear hs'
  rcases hcase with ⟨h46, hE⟩ | ⟨h46, hE⟩
  all_goals
    have HE := Lib.hid hE
    clear hE
    go_enter Tryd.func17, Tryd.ntmps17
    go_wp2_with fail
    first | rw [← HE.out] | (have := HE.out; subst this)
    refine (s_Split_any s' 46 46 rfl _ (by omega)).mono ?_
    rintro e w1 ⟨xs, ⟨g, cap, rfl, hown, hb⟩, hx⟩
    have hn : 1 ≤ xs.length := by
      have h2 := congrArg List.length hx
      rw [List.length_map, splitL_length] at h2
      omega
    have hl255 : xs.length ≤ 256 := by
      have h2 := congrArg List.length hx
      have h3 := splitL_length_le 46 s'.data.toList
      rw [List.length_map] at h2
      rw [← Lib.size_eq] at h3
      omega
    have hcell : ∀ j (hj : j < xs.length), w1.cell? ⟨g, j, none⟩ = some (.string xs[j]) := by
      intro j hj
      rw [hown.cellAt j (by omega), List.getElem?_map, List.getElem?_eq_getElem hj]; rfl
    have hcap : xs.length ≤ cap := by
      rcases hown.2 with ⟨h, _⟩ | ⟨_, _, _, h, _, _, h2, _⟩
      · cases h
      · cases h; exact h2
    have HC := Lib.hid hcell
    have HX := Lib.hid hx
    clear hcell
    obtain ⟨m, hm, hM⟩ : ∃ m, m ≤ xs.length ∧ domParts s'.data.toList = (xs.take m).map (·.data.toList) ∧
        ((xs.length = 1 ∧ m = xs.length) ∨ (1 < xs.length ∧ m = xs.length - 1 ∧ ∃ z, z.toList = [] ∧ ∃ h : xs.length - 1 < xs.length, xs[xs.length - 1] = z) ∨ (1 < xs.length ∧ m = xs.length ∧ ∃ z, z.toList.isEmpty = false ∧ ∃ h : xs.length - 1 < xs.length, xs[xs.length - 1] = z))  := dom_cases xs _ hx hn
    obtain ⟨hdp, hM⟩ := hM
    have HDP := Lib.hid hdp
    clear hdp hx
    rcases hM with ⟨h1n, hm2⟩ | ⟨h1n, hm2, z, hemp, hlt, hz⟩ | ⟨h1n, hm2, z, hemp, hlt, hz⟩
    · have hd1 : decide ((1 : Int) < (xs.length : Int)) = false := by rw [decide_eq_false_iff_not]; omega
      have HM := Lib.hid hm2
      clear h1n hm2
      go_wp2
      go_loop [5, 41] (fun lt i => ∃ k : Nat, k ≤ xs.length ∧ i = .int .i64 k ∧ lt = .bool (((xs.take k).map (·.data.toList)).any (anyB letB)) ∧ ((xs.take k).map (·.data.toList)).all labB = true) (fun _ i => xs.length - (intOf i).toNat)
      case atStart => exact ⟨0, Nat.zero_le _, rfl, rfl, rfl⟩
      case round =>
        obtain ⟨k, hk, rfl, rfl, hall⟩ := hrel
        have HALL := Lib.hid hall
        clear hall
        by_cases hkm : k < xs.length
        · have hkx : k < xs.length := by omega
          have hck := HC.out k hkx
          obtain ⟨x, hx⟩ : ∃ x, x = xs[k] := ⟨_, rfl⟩
          rw [← hx] at hck
          have hxsz : x.size ≤ 2147483647 := by
            have h2 := splitL_mem_le 46 s'.data.toList x.data.toList (by rw [← HX.out, hx]; exact List.mem_map.2 ⟨_, List.getElem_mem hkx, rfl⟩)
            rw [← Lib.size_eq, ← Lib.size_eq] at h2
            omega
          have HXK := Lib.hid hx
          clear hx
          obtain ⟨b0, hb0⟩ : ∃ b0, b0 = (((xs.take k).map (·.data.toList)).any (anyB letB)) := ⟨_, rfl⟩
          rw [← hb0]
          have HB0 := Lib.hid hb0
          clear hb0
          go_wp2_with fail
          refine (s_label_any x _ (by unfold maxLen; omega)).mono ?_
          rintro e w' ⟨rfl, rfl⟩
          by_cases hlab : labB x.data.toList = true
          · go_wp2
            go_loop [5, 50] (fun lt i => ∃ (j : Nat) (b : Bool), j ≤ x.size ∧ i = .int .i64 j ∧ lt = .bool b ∧ b = (b0 || anyB letB (x.data.toList.take j))) (fun _ i => x.size - (intOf i).toNat)
            case atStart => exact ⟨0, b0, Nat.zero_le _, rfl, rfl, by simp [anyB]⟩
            case round =>
              obtain ⟨j, b, hj, rfl, rfl, hb1⟩ := hrel
              have HB1 := Lib.hid hb1
              clear hb1
              by_cases hjl : j < x.size
              · have hst := any_succ letB x j hjl
                have HST := Lib.hid hst
                clear hst
                cases b
                · go_wp2_with (go_at_call 46; refine (s_letter_any _ _).mono ?_; rintro e w' ⟨rfl, rfl⟩)
                  go_round
                  case rel => exact ⟨j + 1, _, by omega, by go_num, rfl, by rw [HST.out, ← Bool.or_assoc, ← HB1.out]; rfl⟩
                  case measure => simp [intOf]; omega
                · go_wp2_with (go_at_call 46; refine (s_letter_any _ _).mono ?_; rintro e w' ⟨rfl, rfl⟩)
                  go_round
                  case rel => exact ⟨j + 1, _, by omega, by go_num, rfl, by rw [HST.out, ← Bool.or_assoc, ← HB1.out]; rfl⟩
                  case measure => simp [intOf]; omega
              · have hxj := take_all x j (by omega)
                have HXJ := Lib.hid hxj
                clear hxj
                go_wp2
                go_round
                case rel => exact ⟨k + 1, by omega, by go_num, by rw [take_any_succ xs k hkx, ← HB0.out, ← HXK.out, HB1.out, HXJ.out], by rw [take_all_succ xs k hkx, HALL.out, ← HXK.out, hlab]; rfl⟩
                case measure => simp [intOf]; omega
          · have hlab' : labB x.data.toList = false := by simpa using hlab
            clear hlab
            go_wp2
            go_ret
            exact ⟨ret_bool (by rw [dom_fin h255 he HS.out HDP.out, domOk_false (mem_take_of hkx (by have := HM.out; omega)) (by rw [← HXK.out]; exact hlab')]), hb⟩
        · go_wp2
          go_ret
          exact ⟨ret_bool (by
            have hkM : k = m := by have := HM.out; omega
            rw [dom_fin h255 he HS.out HDP.out, ← hkM, domOk_true HALL.out, List.map_take]), hb⟩
    · have hd1 : decide ((1 : Int) < (xs.length : Int)) = true := by rw [decide_eq_true_eq]; omega
      have hc := HC.out _ hlt
      rw [hz] at hc
      clear hz
      have HM := Lib.hid hm2
      clear hm2
      go_wp2
      rw [← HM.out]
      go_loop [5, 41] (fun lt i => ∃ k : Nat, k ≤ m ∧ i = .int .i64 k ∧ lt = .bool (((xs.take k).map (·.data.toList)).any (anyB letB)) ∧ ((xs.take k).map (·.data.toList)).all labB = true) (fun _ i => m - (intOf i).toNat)
      case atStart => exact ⟨0, Nat.zero_le _, rfl, rfl, rfl⟩
      case round =>
        obtain ⟨k, hk, rfl, rfl, hall⟩ := hrel
        have HALL := Lib.hid hall
        clear hall
        by_cases hkm : k < m
        · have hkx : k < xs.length := by omega
          have hck := HC.out k hkx
          obtain ⟨x, hx⟩ : ∃ x, x = xs[k] := ⟨_, rfl⟩
          rw [← hx] at hck
          have hxsz : x.size ≤ 2147483647 := by
            have h2 := splitL_mem_le 46 s'.data.toList x.data.toList (by rw [← HX.out, hx]; exact List.mem_map.2 ⟨_, List.getElem_mem hkx, rfl⟩)
            rw [← Lib.size_eq, ← Lib.size_eq] at h2
            omega
          have HXK := Lib.hid hx
          clear hx
          obtain ⟨b0, hb0⟩ : ∃ b0, b0 = (((xs.take k).map (·.data.toList)).any (anyB letB)) := ⟨_, rfl⟩
          rw [← hb0]
          have HB0 := Lib.hid hb0
          clear hb0
          go_wp2_with fail
          refine (s_label_any x _ (by unfold maxLen; omega)).mono ?_
          rintro e w' ⟨rfl, rfl⟩
          by_cases hlab : labB x.data.toList = true
          · go_wp2
            go_loop [5, 50] (fun lt i => ∃ (j : Nat) (b : Bool), j ≤ x.size ∧ i = .int .i64 j ∧ lt = .bool b ∧ b = (b0 || anyB letB (x.data.toList.take j))) (fun _ i => x.size - (intOf i).toNat)
            case atStart => exact ⟨0, b0, Nat.zero_le _, rfl, rfl, by simp [anyB]⟩
            case round =>
              obtain ⟨j, b, hj, rfl, rfl, hb1⟩ := hrel
              have HB1 := Lib.hid hb1
              clear hb1
              by_cases hjl : j < x.size
              · have hst := any_succ letB x j hjl
                have HST := Lib.hid hst
                clear hst
                cases b
                · go_wp2_with (go_at_call 46; refine (s_letter_any _ _).mono ?_; rintro e w' ⟨rfl, rfl⟩)
                  go_round
                  case rel => exact ⟨j + 1, _, by omega, by go_num, rfl, by rw [HST.out, ← Bool.or_assoc, ← HB1.out]; rfl⟩
                  case measure => simp [intOf]; omega
                · go_wp2_with (go_at_call 46; refine (s_letter_any _ _).mono ?_; rintro e w' ⟨rfl, rfl⟩)
                  go_round
                  case rel => exact ⟨j + 1, _, by omega, by go_num, rfl, by rw [HST.out, ← Bool.or_assoc, ← HB1.out]; rfl⟩
                  case measure => simp [intOf]; omega
              · have hxj := take_all x j (by omega)
                have HXJ := Lib.hid hxj
                clear hxj
                go_wp2
                go_round
                case rel => exact ⟨k + 1, by omega, by go_num, by rw [take_any_succ xs k hkx, ← HB0.out, ← HXK.out, HB1.out, HXJ.out], by rw [take_all_succ xs k hkx, HALL.out, ← HXK.out, hlab]; rfl⟩
                case measure => simp [intOf]; omega
          · have hlab' : labB x.data.toList = false := by simpa using hlab
            clear hlab
            go_wp2
            go_ret
            exact ⟨ret_bool (by rw [dom_fin h255 he HS.out HDP.out, domOk_false (mem_take_of hkx (by have := HM.out; omega)) (by rw [← HXK.out]; exact hlab')]), hb⟩
        · go_wp2
          go_ret
          exact ⟨ret_bool (by
            have hkM : k = m := by have := HM.out; omega
            rw [dom_fin h255 he HS.out HDP.out, ← hkM, domOk_true HALL.out, List.map_take]), hb⟩
    · have hd1 : decide ((1 : Int) < (xs.length : Int)) = true := by rw [decide_eq_true_eq]; omega
      have hc := HC.out _ hlt
      rw [hz] at hc
      clear hz
      have HM := Lib.hid hm2
      clear hm2
      go_wp2
      go_loop [5, 41] (fun lt i => ∃ k : Nat, k ≤ xs.length ∧ i = .int .i64 k ∧ lt = .bool (((xs.take k).map (·.data.toList)).any (anyB letB)) ∧ ((xs.take k).map (·.data.toList)).all labB = true) (fun _ i => xs.length - (intOf i).toNat)
      case atStart => exact ⟨0, Nat.zero_le _, rfl, rfl, rfl⟩
      case round =>
        obtain ⟨k, hk, rfl, rfl, hall⟩ := hrel
        have HALL := Lib.hid hall
        clear hall
        by_cases hkm : k < xs.length
        · have hkx : k < xs.length := by omega
          have hck := HC.out k hkx
          obtain ⟨x, hx⟩ : ∃ x, x = xs[k] := ⟨_, rfl⟩
          rw [← hx] at hck
          have hxsz : x.size ≤ 2147483647 := by
            have h2 := splitL_mem_le 46 s'.data.toList x.data.toList (by rw [← HX.out, hx]; exact List.mem_map.2 ⟨_, List.getElem_mem hkx, rfl⟩)
            rw [← Lib.size_eq, ← Lib.size_eq] at h2
            omega
          have HXK := Lib.hid hx
          clear hx
          obtain ⟨b0, hb0⟩ : ∃ b0, b0 = (((xs.take k).map (·.data.toList)).any (anyB letB)) := ⟨_, rfl⟩
          rw [← hb0]
          have HB0 := Lib.hid hb0
          clear hb0
          go_wp2_with fail
          refine (s_label_any x _ (by unfold maxLen; omega)).mono ?_
          rintro e w' ⟨rfl, rfl⟩
          by_cases hlab : labB x.data.toList = true
          · go_wp2
            go_loop [5, 50] (fun lt i => ∃ (j : Nat) (b : Bool), j ≤ x.size ∧ i = .int .i64 j ∧ lt = .bool b ∧ b = (b0 || anyB letB (x.data.toList.take j))) (fun _ i => x.size - (intOf i).toNat)
            case atStart => exact ⟨0, b0, Nat.zero_le _, rfl, rfl, by simp [anyB]⟩
            case round =>
              obtain ⟨j, b, hj, rfl, rfl, hb1⟩ := hrel
              have HB1 := Lib.hid hb1
              clear hb1
              by_cases hjl : j < x.size
              · have hst := any_succ letB x j hjl
                have HST := Lib.hid hst
                clear hst
                cases b
                · go_wp2_with (go_at_call 46; refine (s_letter_any _ _).mono ?_; rintro e w' ⟨rfl, rfl⟩)
                  go_round
                  case rel => exact ⟨j + 1, _, by omega, by go_num, rfl, by rw [HST.out, ← Bool.or_assoc, ← HB1.out]; rfl⟩
                  case measure => simp [intOf]; omega
                · go_wp2_with (go_at_call 46; refine (s_letter_any _ _).mono ?_; rintro e w' ⟨rfl, rfl⟩)
                  go_round
                  case rel => exact ⟨j + 1, _, by omega, by go_num, rfl, by rw [HST.out, ← Bool.or_assoc, ← HB1.out]; rfl⟩
                  case measure => simp [intOf]; omega
              · have hxj := take_all x j (by omega)
                have HXJ := Lib.hid hxj
                clear hxj
                go_wp2
                go_round
                case rel => exact ⟨k + 1, by omega, by go_num, by rw [take_any_succ xs k hkx, ← HB0.out, ← HXK.out, HB1.out, HXJ.out], by rw [take_all_succ xs k hkx, HALL.out, ← HXK.out, hlab]; rfl⟩
                case measure => simp [intOf]; omega
          · have hlab' : labB x.data.toList = false := by simpa using hlab
            clear hlab
            go_wp2
            go_ret
            exact ⟨ret_bool (by rw [dom_fin h255 he HS.out HDP.out, domOk_false (mem_take_of hkx (by have := HM.out; omega)) (by rw [← HXK.out]; exact hlab')]), hb⟩
        · go_wp2
          go_ret
          exact ⟨ret_bool (by
            have hkM : k = m := by have := HM.out; omega
            rw [dom_fin h255 he HS.out HDP.out, ← hkM, domOk_true HALL.out, List.map_take]), hb⟩
end Go.Proofs.YtfijncfoefbohaaDoor
