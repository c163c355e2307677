/- String predicates: tokens, bytes of values, among; and the value between quotes. -/
import Derived.Test.YtfijncfoefbohaaGreatDoorBytes
import Derived.Lib.Strings
namespace Go.Proofs.YtfijncfoefbohaaGreatDoor
open Go Go.RowKit

def allB (p : Int → Bool) (l : List UInt8) : Bool := l.all fun c => p c.toNat
def anyB (p : Int → Bool) (l : List UInt8) : Bool := l.any fun c => p c.toNat
def tokB (n : Int) : Bool := decide ((97 ≤ n ∧ n ≤ 122) ∨ (65 ≤ n ∧ n ≤ 90) ∨ (48 ≤ n ∧ n ≤ 57) ∨ n = 33 ∨ n = 35 ∨ n = 36 ∨ n = 37 ∨ n = 38 ∨ n = 39 ∨ n = 42 ∨ n = 43 ∨ n = 45 ∨ n = 46 ∨ n = 94 ∨ n = 95 ∨ n = 96 ∨ n = 124 ∨ n = 126)
def tokS (l : List UInt8) : Bool := !l.isEmpty && allB tokB l

theorem take_snoc (s : ByteArray) (k : Nat) (h : k < s.size) : s.data.toList.take (k + 1) = s.data.toList.take k ++ [s[k]] := by
  rw [List.take_succ_eq_append_getElem (by simpa using h)]; rfl
theorem take_all (s : ByteArray) (k : Nat) (h : s.size ≤ k) : s.data.toList.take k = s.data.toList := List.take_of_length_le (by simpa using h)
theorem all_step (p : Int → Bool) (s : ByteArray) (k : Nat) (h : k < s.size) (h1 : allB p (s.data.toList.take k) = true) (h2 : p (s[k].toNat : Int) = true) :
    allB p (s.data.toList.take (k + 1)) = true := by
  rw [take_snoc s k h]; unfold allB at *; rw [List.all_append, h1]; simp [h2]
theorem all_stop (p : Int → Bool) (s : ByteArray) (k : Nat) (h : k < s.size) (h2 : p (s[k].toNat : Int) = false) : allB p s.data.toList = false := by
  unfold allB
  rw [List.all_eq_false]
  exact ⟨s[k], by rw [show s[k] = s.data.toList[k]'(by simpa using h) from rfl]; exact List.getElem_mem _, by simp [h2]⟩
theorem any_step (p : Int → Bool) (s : ByteArray) (k : Nat) (h : k < s.size) (h1 : anyB p (s.data.toList.take k) = false) (h2 : p (s[k].toNat : Int) = false) :
    anyB p (s.data.toList.take (k + 1)) = false := by
  rw [take_snoc s k h]; unfold anyB at *; rw [List.any_append, h1]; simp [h2]
theorem any_stop (p : Int → Bool) (s : ByteArray) (k : Nat) (h : k < s.size) (h2 : p (s[k].toNat : Int) = true) : anyB p s.data.toList = true := by
  unfold anyB
  rw [List.any_eq_true]
  exact ⟨s[k], by rw [show s[k] = s.data.toList[k]'(by simpa using h) from rfl]; exact List.getElem_mem _, h2⟩

set_option maxHeartbeats 1000000 in
theorem isToken_any (s : ByteArray) (w : World) (hs : s.size ≤ maxLen) :
    Calls Tryz.prog 32 #[.string s] w fun e w' => e = .returned (.bool (tokS s.data.toList)) ∧ w = w' := by
  unfold maxLen at hs
  by_cases h0 : s.size = 0
  · have hE : tokS s.data.toList = false := by
      have : s.data.toList = [] := List.eq_nil_of_length_eq_zero (by simpa using h0)
      simp [tokS, this]
    have H := Lib.hid hE; clear hE
    go_enter Tryz.func32, Tryz.ntmps32
    go_wp2
    go_ret
    exact ⟨ret_bool H.out.symm, rfl⟩
  · have hE : tokS s.data.toList = allB tokB s.data.toList := by
      unfold tokS
      cases hl : s.data.toList with
      | nil => exfalso; apply h0; have := congrArg List.length hl; simpa using this
      | cons a l => rfl
    have H := Lib.hid hE; clear hE
    have h1 : 0 < s.size := by omega
    have h2 : ((s.size : Int) == 0) = false := by rw [beq_eq_false_iff_ne]; omega
    clear h0
    go_enter Tryz.func32, Tryz.ntmps32
    go_wp2
    go_loop [3] (fun i => ∃ k : Nat, k ≤ s.size ∧ i = .int .i64 k ∧ allB tokB (s.data.toList.take k) = true) (fun i => s.size - (intOf i).toNat)
    case atStart => exact ⟨0, Nat.zero_le _, rfl, rfl⟩
    case round =>
      obtain ⟨k, hk, rfl, ha⟩ := hrel
      have HA := Lib.hid ha; clear ha
      by_cases hlt : k < s.size
      · obtain ⟨c, hc⟩ : ∃ c : Nat, c = s[k].toNat := ⟨_, rfl⟩
        have hst := all_step tokB s k hlt HA.out
        have hsp := all_stop tokB s k hlt
        have HST := Lib.hid hst
        have HSP := Lib.hid hsp
        clear hst hsp hc
        go_wp2
        all_goals first
          | (go_round
             case rel => exact ⟨k + 1, by omega, by go_num, HST.out (by unfold tokB; rw [decide_eq_true_eq]; simp only [beq_iff_eq] at *; omega)⟩
             case measure => simp [intOf]; omega)
          | (go_ret
             exact ⟨ret_bool (by rw [H.out, HSP.out (by unfold tokB; rw [decide_eq_false_iff_not]; simp only [beq_eq_false_iff_ne, ne_eq] at *; omega)]), rfl⟩)
      · go_wp2
        go_ret
        exact ⟨ret_bool (by rw [H.out, ← HA.out, take_all s k (by omega)]), rfl⟩

set_option maxHeartbeats 1000000 in
theorem s_among_any (n : Int) (s : ByteArray) (w : World) (hs : s.size ≤ maxLen) :
    Calls Tryz.prog 22 #[.int .u8 n, .string s] w fun e w' => e = .returned (.bool (anyB (fun m => m == n) s.data.toList)) ∧ w = w' := by
  unfold maxLen at hs
  go_enter Tryz.func22, Tryz.ntmps22
  go_wp2
  go_loop [8] (fun i => ∃ k : Nat, k ≤ s.size ∧ i = .int .i64 k ∧ anyB (fun m => m == n) (s.data.toList.take k) = false) (fun i => s.size - (intOf i).toNat)
  case atStart => exact ⟨0, Nat.zero_le _, rfl, rfl⟩
  case round =>
    obtain ⟨k, hk, rfl, ha⟩ := hrel
    have HA := Lib.hid ha; clear ha
    by_cases hlt : k < s.size
    · have hst := any_step (fun m => m == n) s k hlt HA.out
      have hsp := any_stop (fun m => m == n) s k hlt
      have HST := Lib.hid hst
      have HSP := Lib.hid hsp
      clear hst hsp
      go_wp2
      all_goals first
        | (go_round
           case rel => exact ⟨k + 1, by omega, by go_num, HST.out (by assumption)⟩
           case measure => simp [intOf]; omega)
        | (go_ret
           exact ⟨ret_bool (by rw [HSP.out (by assumption)]), rfl⟩)
    · go_wp2
      go_ret
      exact ⟨ret_bool (by rw [← HA.out, take_all s k (by omega)]), rfl⟩

theorem tok_parts (n : Int) : (letB n || digB n || anyB (fun m => m == n) [33, 35, 36, 37, 38, 39, 42, 43, 45, 46, 94, 95, 96, 124, 126]) = tokB n := by
  unfold letB digB tokB anyB
  rw [Bool.eq_iff_iff]
  simp
  omega
theorem tokS_ne (l : List UInt8) (h : allB tokB l = true) : tokS l = !(l == []) := by
  unfold tokS; rw [h]; cases l <;> rfl
theorem tokS_false (l : List UInt8) (h : allB tokB l = false) : tokS l = false := by unfold tokS; rw [h]; simp

set_option maxHeartbeats 1000000 in
theorem s_Token_any (s : ByteArray) (w : World) (hs : s.size ≤ maxLen) :
    Calls Tryz.prog 12 #[.string s] w fun e w' => e = .returned (.bool (tokS s.data.toList)) ∧ w = w' := by
  unfold maxLen at hs
  go_enter Tryz.func12, Tryz.ntmps12
  go_wp2
  go_loop [6] (fun i => ∃ k : Nat, k ≤ s.size ∧ i = .int .i64 k ∧ allB tokB (s.data.toList.take k) = true) (fun i => s.size - (intOf i).toNat)
  case atStart => exact ⟨0, Nat.zero_le _, rfl, rfl⟩
  case round =>
    obtain ⟨k, hk, rfl, ha⟩ := hrel
    have HA := Lib.hid ha; clear ha
    by_cases hlt : k < s.size
    · have hst := all_step tokB s k hlt HA.out
      have hsp := all_stop tokB s k hlt
      have htp := tok_parts (s[k].toNat : Int)
      have HST := Lib.hid hst
      have HSP := Lib.hid hsp
      have HTP := Lib.hid htp
      clear hst hsp htp
      go_wp2_with (first
        | (go_at_call 20; refine (s_letter_any _ _).mono ?_; rintro e w' ⟨rfl, rfl⟩)
        | (go_at_call 21; refine (s_digit_any _ _).mono ?_; rintro e w' ⟨rfl, rfl⟩)
        | (go_at_call 22; refine (s_among_any _ _ _ (by decide)).mono ?_; rintro e w' ⟨rfl, rfl⟩))
      all_goals first
        | (go_round
           case rel => exact ⟨k + 1, by omega, by go_num, HST.out (by rw [← HTP.out]; simp_all)⟩
           case measure => simp [intOf]; omega)
        | (go_ret
           exact ⟨ret_bool (by exact (tokS_false _ (HSP.out (by rw [← HTP.out]; simp_all))).symm), rfl⟩)
    · have hz := tokS_ne s.data.toList (by rw [← HA.out, take_all s k (by omega)])
      have HZ := Lib.hid hz; clear hz
      go_wp2
      go_ret
      exact ⟨ret_bool (by rw [HZ.out, ← Lib.toList_data]; simp [List.isEmpty_iff]), rfl⟩
set_option maxHeartbeats 400000 in
theorem s_Octets_any (s : ByteArray) (w : World) (hs : s.size ≤ maxLen) :
    Calls Tryz.prog 13 #[.string s] w fun e w' => e = .returned (.bool (allB octB s.data.toList)) ∧ w = w' := by
  unfold maxLen at hs
  go_enter Tryz.func13, Tryz.ntmps13
  go_wp2
  go_loop [6] (fun i => ∃ k : Nat, k ≤ s.size ∧ i = .int .i64 k ∧ allB octB (s.data.toList.take k) = true) (fun i => s.size - (intOf i).toNat)
  case atStart => exact ⟨0, Nat.zero_le _, rfl, rfl⟩
  case round =>
    obtain ⟨k, hk, rfl, ha⟩ := hrel
    have HA := Lib.hid ha; clear ha
    by_cases hlt : k < s.size
    · have hst := all_step octB s k hlt HA.out
      have hsp := all_stop octB s k hlt
      have HST := Lib.hid hst
      have HSP := Lib.hid hsp
      clear hst hsp
      go_wp2_with (go_at_call 23; refine (s_octet_any _ _).mono ?_; rintro e w' ⟨rfl, rfl⟩)
      all_goals first
        | (go_round
           case rel => exact ⟨k + 1, by omega, by go_num, HST.out (by simp_all)⟩
           case measure => simp [intOf]; omega)
        | (go_ret
           exact ⟨ret_bool (HSP.out (by simp_all)).symm, rfl⟩)
    · go_wp2
      go_ret
      exact ⟨ret_bool (by rw [← HA.out, take_all s k (by omega)]), rfl⟩

/-! ### The value between quotes -/
def qB (l : List UInt8) (q : Bool) : Bool := q && (decide (1 < l.length) && ((((l.head?.getD 0).toNat : Int) == 34) && (((l.getLast?.getD 0).toNat : Int) == 34)))
def stripL (l : List UInt8) (q : Bool) : List UInt8 := if qB l q then l.tail.dropLast else l
theorem getElem_list (s : ByteArray) (k : Nat) (h : k < s.size) : s[k] = s.data.toList[k]'(by simpa using h) := rfl
theorem extract_size_le (s : ByteArray) (a b : Nat) : (s.extract a b).size ≤ s.size := by
  rw [ByteArray.size_extract]; omega
theorem head_of (s : ByteArray) (h : 0 < s.size) : s.data.toList.head?.getD 0 = s[0] := by
  rw [getElem_list s 0 h, List.head?_eq_getElem?, List.getElem?_eq_getElem (by simpa using h)]; rfl
theorem last_of (s : ByteArray) (h : s.size - 1 < s.size) : s.data.toList.getLast?.getD 0 = s[s.size - 1] := by
  rw [getElem_list s _ h, List.getLast?_eq_getElem?, List.getElem?_eq_getElem (by simp; omega)]
  simp
theorem strip_of (s : ByteArray) (q : Bool) (h : qB s.data.toList q = true) : (s.extract 1 (s.size - 1)).data.toList = stripL s.data.toList q := by
  unfold stripL
  rw [if_pos h, Lib.extract_data, List.dropLast_eq_take, List.length_tail, List.drop_one]
  simp
theorem strip_no (l : List UInt8) (q : Bool) (h : qB l q = false) : stripL l q = l := by
  unfold stripL; rw [h]; rfl
end Go.Proofs.YtfijncfoefbohaaGreatDoor
