/- White space at both ends of a text (zzSpace, zzTrimString), and how often a byte stands in it (zzCount). -/
import Derived.Test.YtfijncfoefbohaaGreatDoorIdx
import Derived.Test.YtfijncfoefbohaaGreatDoorSan
namespace Go.Proofs.YtfijncfoefbohaaGreatDoor
open Go Go.RowKit

def spB (n : Int) : Bool := decide (n = 32 ∨ n = 9 ∨ n = 10 ∨ n = 13)
def spU (c : UInt8) : Bool := spB c.toNat
def ltrim (l : List UInt8) : List UInt8 := l.dropWhile spU
def rtrim (l : List UInt8) : List UInt8 := (l.reverse.dropWhile spU).reverse
def trimL (l : List UInt8) : List UInt8 := rtrim (ltrim l)

theorem ltrim_yes {a : UInt8} {l : List UInt8} (h : spU a = true) : ltrim (a :: l) = ltrim l := by unfold ltrim; rw [List.dropWhile_cons_of_pos h]
theorem ltrim_no {a : UInt8} {l : List UInt8} (h : spU a = false) : ltrim (a :: l) = a :: l := by unfold ltrim; rw [List.dropWhile_cons_of_neg (by simp [h])]
theorem rtrim_yes {a : UInt8} {l : List UInt8} (h : spU a = true) : rtrim (l ++ [a]) = rtrim l := by
  unfold rtrim; rw [List.reverse_append, List.reverse_cons, List.reverse_nil, List.nil_append, List.cons_append, List.nil_append, List.dropWhile_cons_of_pos h]
theorem rtrim_no {a : UInt8} {l : List UInt8} (h : spU a = false) : rtrim (l ++ [a]) = l ++ [a] := by
  unfold rtrim; rw [List.reverse_append, List.reverse_cons, List.reverse_nil, List.nil_append, List.cons_append, List.nil_append, List.dropWhile_cons_of_neg (by simp [h])]; simp
theorem list_head (s : ByteArray) (h : 0 < s.size) : s.data.toList = s[0] :: (s.extract 1 s.size).data.toList := by
  have hl : 0 < s.data.toList.length := by simpa using h
  rw [Lib.extract_data, List.take_of_length_le (by simp), getElem_list s 0 h]
  have := List.drop_eq_getElem_cons hl
  rw [List.drop_zero] at this
  exact this
theorem list_last (s : ByteArray) (h : s.size - 1 < s.size) : s.data.toList = (s.extract 0 (s.size - 1)).data.toList ++ [s[s.size - 1]] := by
  have hl : s.size - 1 < s.data.toList.length := by simpa using h
  rw [Lib.extract_data, List.drop_zero, Nat.sub_zero, getElem_list s _ h, ← List.take_succ_eq_append_getElem hl, List.take_of_length_le (by simp; omega)]

theorem zzSpace_any (n : Int) (w : World) :
    Calls Tryz.prog 46 #[.int .u8 n] w fun e w' => e = .returned (.bool (spB n)) ∧ w = w' := by
  go_enter Tryz.func46, Tryz.ntmps46
  go_wp2
  all_goals
    go_ret
    refine ⟨ret_bool ?_, rfl⟩
    unfold spB
    first
      | (rw [Bool.eq_iff_iff]; simp only [beq_iff_eq, decide_eq_true_eq]; omega)
      | (symm; simp only [decide_eq_true_eq, decide_eq_false_iff_not, beq_iff_eq, beq_eq_false_iff_ne] at *; omega)

set_option maxHeartbeats 1000000 in
theorem zzTrim_any (s : ByteArray) (w : World) (hs : s.size ≤ 4398046511104) :
    Calls Tryz.prog 30 #[.string s] w fun e w' => StrPost (trimL s.data.toList) e ∧ w = w' := by
  go_enter Tryz.func30, Tryz.ntmps30
  go_wp2
  go_loop [0] (fun sv => ∃ t : ByteArray, sv = .string t ∧ t.size ≤ s.size ∧ ltrim t.data.toList = ltrim s.data.toList) (fun sv => strLen sv)
  case atStart => exact ⟨s, rfl, Nat.le_refl _, rfl⟩
  case round =>
    obtain ⟨t, rfl, ht, hl⟩ := hrel
    have HL := Lib.hid hl
    clear hl
    rcases (show (0 < t.size ∧ ∃ h : 0 < t.size, spB (t[0].toNat : Int) = true) ∨ ((0 < t.size ∧ ∃ h : 0 < t.size, spB (t[0].toNat : Int) = false) ∨ decide (0 < t.size) = false) by
      by_cases h : 0 < t.size
      · rcases h2 : spB (t[0].toNat : Int) with _ | _
        · exact .inr (.inl ⟨h, h, h2⟩)
        · exact .inl ⟨h, h, h2⟩
      · exact .inr (.inr (by simpa using h))) with ⟨h0, h0', hsp⟩ | h1
    · have HH := Lib.hid (list_head t h0)
      have HY : Hid (ltrim (t.extract 1 t.size).data.toList = ltrim s.data.toList) := Lib.hid (by rw [← HL.out, HH.out, ltrim_yes hsp])
      have hsz : (t.extract 1 t.size).size + 1 ≤ t.size := by rw [ByteArray.size_extract]; omega
      go_wp2_with (go_at_call 46; refine (zzSpace_any _ _).mono ?_; rintro e w' ⟨rfl, rfl⟩)
      go_round
      case rel => exact ⟨_, rfl, by omega, HY.out⟩
      case measure => simp [strLen]; omega
    · have HT : Hid (rtrim t.data.toList = trimL s.data.toList) := Lib.hid (by
        rcases h1 with ⟨h0, h0', h2⟩ | h0
        · unfold trimL; rw [← HL.out, list_head t h0, ltrim_no h2]
        · have : t.data.toList = [] := List.eq_nil_of_length_eq_zero (by rw [← Lib.size_eq]; simpa using h0)
          unfold trimL; rw [← HL.out, this]; rfl)
      clear HL
      rcases h1 with ⟨h0, h0', h2⟩ | h0
      all_goals
        go_wp2_with (go_at_call 46; refine (zzSpace_any _ _).mono ?_; rintro e w' ⟨rfl, rfl⟩)
        go_loop [0] (fun sv => ∃ u : ByteArray, sv = .string u ∧ u.size ≤ t.size ∧ rtrim u.data.toList = trimL s.data.toList) (fun sv => strLen sv)
        case atStart => exact ⟨t, rfl, Nat.le_refl _, HT.out⟩
        case round =>
          obtain ⟨u, rfl, hu, hl⟩ := hrel
          have HL := Lib.hid hl
          clear hl
          rcases (show (1 ≤ u.size ∧ ∃ h : u.size - 1 < u.size, spB (u[u.size - 1].toNat : Int) = true) ∨ ((1 ≤ u.size ∧ ∃ h : u.size - 1 < u.size, spB (u[u.size - 1].toNat : Int) = false) ∨ decide (0 < u.size) = false) by
            by_cases h : 1 ≤ u.size
            · have h3 : u.size - 1 < u.size := by omega
              rcases h2 : spB (u[u.size - 1].toNat : Int) with _ | _
              · exact .inr (.inl ⟨h, h3, h2⟩)
              · exact .inl ⟨h, h3, h2⟩
            · exact .inr (.inr (by rw [decide_eq_false_iff_not]; omega))) with ⟨k0, k1, ksp⟩ | ⟨k0, k1, ksp⟩ | k0
          · have k2 : 0 < u.size := k0
            have HH := Lib.hid (list_last u k1)
            have HY : Hid (rtrim (u.extract 0 (u.size - 1)).data.toList = trimL s.data.toList) := Lib.hid (by rw [← HL.out]; conv => rhs; rw [HH.out, rtrim_yes ksp])
            have hsz : (u.extract 0 (u.size - 1)).size + 1 ≤ u.size := by rw [ByteArray.size_extract]; omega
            go_wp2_with (go_at_call 46; refine (zzSpace_any _ _).mono ?_; rintro e w' ⟨rfl, rfl⟩)
            go_round
            case rel => exact ⟨_, rfl, by omega, HY.out⟩
            case measure => simp [strLen]; omega
          · have k2 : 0 < u.size := k0
            have HY : Hid (u.data.toList = trimL s.data.toList) := Lib.hid (by rw [← HL.out]; conv => rhs; rw [list_last u k1, rtrim_no ksp]
                                                                               exact list_last u k1)
            go_wp2_with (go_at_call 46; refine (zzSpace_any _ _).mono ?_; rintro e w' ⟨rfl, rfl⟩)
            go_ret
            exact ⟨⟨u, rfl, HY.out⟩, rfl⟩
          · have HY : Hid (u.data.toList = trimL s.data.toList) := Lib.hid (by
              have : u.data.toList = [] := List.eq_nil_of_length_eq_zero (by rw [← Lib.size_eq]; simpa using k0)
              rw [← HL.out, this]; rfl)
            go_wp2
            go_ret
            exact ⟨⟨u, rfl, HY.out⟩, rfl⟩

/-- How often a byte stands in a text. -/
def cntL (c : UInt8) (l : List UInt8) : Nat := l.count c
theorem count_take_hit {s : ByteArray} {c : UInt8} {k : Nat} (hk : k < s.size) (h : s[k] = c) : cntL c (s.data.toList.take (k + 1)) = cntL c (s.data.toList.take k) + 1 := by
  unfold cntL
  rw [take_snoc s k hk, List.count_append, h]; simp
theorem count_take_miss {s : ByteArray} {c : UInt8} {k : Nat} (hk : k < s.size) (h : s[k] ≠ c) : cntL c (s.data.toList.take (k + 1)) = cntL c (s.data.toList.take k) := by
  unfold cntL
  rw [take_snoc s k hk, List.count_append, List.count_singleton]; simp [h]
theorem count_le (s : ByteArray) (c : UInt8) (k : Nat) : cntL c (s.data.toList.take k) ≤ k :=
  Nat.le_trans List.count_le_length (List.length_take_le _ _)

end Go.Proofs.YtfijncfoefbohaaGreatDoor
