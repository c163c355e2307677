/- isCookieDomainName computes the reference's DomainName. -/
import Derived.Test.YtfijncfoefbohaaGreatDoorDomLaw
import Derived.Test.YtfijncfoefbohaaGreatDoorDomName
namespace Go.Proofs.YtfijncfoefbohaaGreatDoor
open Go Go.RowKit

theorem domOk_eq (t : List UInt8) : domOk (domParts t) = icRun t 46 false 0 := by
  rw [domOk_run]
  unfold domOk domParts allLab
  by_cases h : (splitL 46 t).getLast?.getD [] = [] ∧ 1 < (splitL 46 t).length
  · rw [if_pos h, if_pos ⟨h.1, .inr h.2⟩, any_dropLast _ h.1, any_split]
  · rw [if_neg h, if_neg (by intro k; exact h ⟨k.1, k.2.resolve_left (by simp)⟩), any_split]
theorem icRun_none {l : List UInt8} {c : UInt8} {last : Int} {ok : Bool} {pl : Nat} (h : icStep last ok pl (c.toNat : Int) = none) : icRun (c :: l) last ok pl = false := by
  unfold icRun; rw [h]
theorem icRun_some {l : List UInt8} {c : UInt8} {last a : Int} {ok b : Bool} {pl p : Nat} (h : icStep last ok pl (c.toNat : Int) = some (a, b, p)) : icRun (c :: l) last ok pl = icRun l a b p := by
  conv => lhs; unfold icRun
  rw [h]
theorem icRun_nil (last : Int) (ok : Bool) (pl : Nat) : icRun [] last ok pl = if last = 45 ∨ 63 < pl then false else ok := rfl
theorem drop_cons (s : ByteArray) (k : Nat) (h : k < s.size) : s.data.toList.drop k = s[k] :: s.data.toList.drop (k + 1) := by
  rw [List.drop_eq_getElem_cons (by simpa using h)]; rfl
theorem drop_end (s : ByteArray) (k : Nat) (h : ¬ k < s.size) : s.data.toList.drop k = [] := List.drop_eq_nil_of_le (by simp; omega)

set_option maxHeartbeats 2000000 in
theorem isDom_any (s : ByteArray) (w : World) (hs : s.size ≤ maxLen) :
    Calls Tryz.prog 57 #[.string s] w fun e w' => e = .returned (.bool (domB s.data.toList)) ∧ w = w' := by
  unfold maxLen at hs
  by_cases h0 : s.size = 0
  · have hd0 : ((s.size : Int) == 0) = true := by rw [beq_iff_eq]; omega
    go_enter Tryz.func57, Tryz.ntmps57
    go_wp2
    go_ret
    exact ⟨ret_bool (by unfold domB; rw [List.eq_nil_of_length_eq_zero (show s.data.toList.length = 0 by simpa using h0)]; rfl), rfl⟩
  have hd0 : ((s.size : Int) == 0) = false := by rw [beq_eq_false_iff_ne]; omega
  by_cases h255 : 255 < s.size
  · have hd : decide ((255 : Int) < (s.size : Int)) = true := by rw [decide_eq_true_eq]; omega
    go_enter Tryz.func57, Tryz.ntmps57
    go_wp2
    go_ret
    exact ⟨ret_bool (by unfold domB; rw [← Lib.size_eq, show decide (255 < s.size) = true from by rw [decide_eq_true_eq]; exact h255]; rfl), rfl⟩
  have hd : decide ((255 : Int) < (s.size : Int)) = false := by rw [decide_eq_false_iff_not]; omega
  have he : s.toList.isEmpty = false := by
    rw [Lib.toList_data, List.isEmpty_eq_false_iff]; intro h; apply h0; have := congrArg List.length h; simpa using this
  have h1 : 0 < s.size := by omega
  clear h0
  have HQ : ∃ s' : ByteArray, s'.data.toList = undot s.data.toList ∧ s'.size ≤ s.size ∧ ((((s[0].toNat : Int) == 46) = true ∧ s' = s.extract 1 s.size) ∨ (((s[0].toNat : Int) == 46) = false ∧ s' = s)) := by
    unfold undot headN
    rw [head_of s h1]
    by_cases h : ((s[0].toNat : Int) == 46) = true
    · exact ⟨s.extract 1 s.size, by rw [if_pos h, Lib.extract_data, List.drop_one, List.take_of_length_le (by simp)], extract_size_le _ _ _, .inl ⟨h, rfl⟩⟩
    · have h' : ((s[0].toNat : Int) == 46) = false := by simpa using h
      exact ⟨s, by rw [h']; rfl, Nat.le_refl _, .inr ⟨h', rfl⟩⟩
  obtain ⟨s', hs', hsz, hcase⟩ := HQ
  have hfin : domB s.data.toList = icRun s'.data.toList 46 false 0 := by
    rw [dom_fin h255 he hs' rfl, domOk_eq]
  have HF := Lib.hid hfin
  clear hs' hfin he
  rcases hcase with ⟨h46, hE⟩ | ⟨h46, hE⟩
  all_goals
    have HE := Lib.hid hE
    clear hE
    go_enter Tryz.func57, Tryz.ntmps57
    go_wp2
    first | rw [← HE.out] | (have := HE.out; subst this)
    go_loop [3, 4, 5, 6] (fun la ok pl i => ∃ (k : Nat) (last : Int) (b : Bool) (p : Nat), k ≤ s'.size ∧ p ≤ k ∧ i = .int .i64 k ∧ la = .int .u8 last ∧ ok = .bool b ∧ pl = .int .i64 p ∧ icRun (s'.data.toList.drop k) last b p = icRun s'.data.toList 46 false 0) (fun _ _ _ i => s'.size - (intOf i).toNat)
    case atStart => exact ⟨0, 46, false, 0, Nat.zero_le _, Nat.le_refl _, rfl, rfl, rfl, rfl, by simp⟩
    case round =>
      obtain ⟨k, last, b, p, hk, hpk, rfl, rfl, rfl, rfl, hrun⟩ := hrel
      by_cases hlt : k < s'.size
      · rw [drop_cons s' k hlt] at hrun
        have HR := Lib.hid hrun
        clear hrun
        obtain ⟨c, hc⟩ : ∃ c, c = s'[k] := ⟨_, rfl⟩
        rw [← hc] at HR
        have HCC := Lib.hid hc
        clear hc
        go_wp2
        all_goals first
          | (go_round
             case rel => exact ⟨k + 1, _, _, _, by omega, (by omega : (p + 1 ≤ k + 1)), by go_num, rfl, rfl, by go_num, by rw [← HR.out, HCC.out]; exact (icRun_some (by unfold icStep letB digB; (try simp only [beq_iff_eq, beq_eq_false_iff_ne, ne_eq] at *); repeat (first | rfl | rw [if_pos (by first | omega | (simp only [decide_eq_true_eq]; omega))] | rw [if_neg (by first | omega | (simp only [decide_eq_true_eq]; omega))]))).symm⟩
             case measure => simp [intOf]; omega)
          | (go_round
             case rel => exact ⟨k + 1, _, _, 0, by omega, by omega, by go_num, rfl, rfl, by go_num, by rw [← HR.out, HCC.out]; exact (icRun_some (by unfold icStep letB digB; (try simp only [beq_iff_eq, beq_eq_false_iff_ne, ne_eq] at *); repeat (first | rfl | rw [if_pos (by first | omega | (simp only [decide_eq_true_eq]; omega))] | rw [if_neg (by first | omega | (simp only [decide_eq_true_eq]; omega))]))).symm⟩
             case measure => simp [intOf]; omega)
          | (go_ret
             exact ⟨ret_bool (by rw [HF.out, ← HR.out, HCC.out]; exact (icRun_none (by unfold icStep letB digB; (try simp only [beq_iff_eq, beq_eq_false_iff_ne, ne_eq] at *); repeat (first | rfl | rw [if_pos (by first | omega | (simp only [decide_eq_true_eq]; omega))] | rw [if_neg (by first | omega | (simp only [decide_eq_true_eq]; omega))]))).symm), rfl⟩)
      · rw [drop_end s' k hlt, icRun_nil] at hrun
        have HR := Lib.hid hrun
        clear hrun
        go_wp2
        all_goals
          go_ret
          exact ⟨ret_bool (by rw [HF.out, ← HR.out]; first | rw [if_pos (by omega)] | rw [if_neg (by omega)]), rfl⟩
end Go.Proofs.YtfijncfoefbohaaGreatDoor
