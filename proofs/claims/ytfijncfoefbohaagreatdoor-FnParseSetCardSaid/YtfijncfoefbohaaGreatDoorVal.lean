/- The value between quotes: parseCookieValue and the reference's Value compute the same triple. -/
import Derived.Test.YtfijncfoefbohaaGreatDoorStr
namespace Go.Proofs.YtfijncfoefbohaaGreatDoor
open Go Go.RowKit

/-- What parseCookieValue returns: the value, quoted, and whether it is one. -/
def PV (l : List UInt8) (q : Bool) (e : Ending) : Prop :=
  ∃ x : ByteArray, e = .returned (.tuple #[.string x, .bool (qB l q), .bool (allB valB (stripL l q))]) ∧ x.data.toList = if allB valB (stripL l q) then stripL l q else []

theorem PV_ok {l : List UInt8} {q b : Bool} {x : ByteArray} (hb : qB l q = b) (hx : x.data.toList = stripL l q) (ha : allB valB x.data.toList = true) :
    PV l q (.returned (.tuple #[.string x, .bool b, .bool true])) := by
  rw [hx] at ha
  exact ⟨x, by rw [hb, ha], by rw [ha, hx]; rfl⟩
theorem PV_no {l : List UInt8} {q b : Bool} {x : ByteArray} (hb : qB l q = b) (hx : x.data.toList = stripL l q) (ha : allB valB x.data.toList = false) :
    PV l q (.returned (.tuple #[.string { data := #[] }, .bool b, .bool false])) := by
  rw [hx] at ha
  exact ⟨_, by rw [hb, ha], by rw [ha]; rfl⟩
theorem qB_true {s : ByteArray} (h1 : 1 < s.size) (h2 : ((s[0].toNat : Int) == 34) = true) (h3 : ((s[s.size - 1].toNat : Int) == 34) = true) : qB s.data.toList true = true := by
  unfold qB; rw [head_of s (by omega), last_of s (by omega), h2, h3]; simpa using h1
theorem qB_two {s : ByteArray} (h1 : 1 < s.size) (h2 : ((s[0].toNat : Int) == 34) = false) : qB s.data.toList true = false := by
  unfold qB; rw [head_of s (by omega), h2]; simp
theorem qB_three {s : ByteArray} (h1 : 1 < s.size) (h3 : ((s[s.size - 1].toNat : Int) == 34) = false) : qB s.data.toList true = false := by
  unfold qB; rw [last_of s (by omega), h3]; simp
theorem qB_one {s : ByteArray} (h1 : ¬ 1 < s.size) : qB s.data.toList true = false := by
  unfold qB; simp only [Bool.true_and, Bool.and_eq_false_iff, decide_eq_false_iff_not]; exact .inl (by simpa using h1)

set_option maxHeartbeats 2000000 in
theorem pcv_any (s : ByteArray) (q : Bool) (w : World) (hs : s.size ≤ maxLen) :
    Calls Tryz.prog 33 #[.string s, .bool q] w fun e w' => PV s.data.toList q e ∧ w = w' := by
  unfold maxLen at hs
  cases q
  · have hq : qB s.data.toList false = false := rfl
    have hq2 := strip_no s.data.toList _ hq
    have HQ := Lib.hid hq
    have HX := Lib.hid hq2.symm
    clear hq hq2
    go_enter Tryz.func33, Tryz.ntmps33
    go_wp2
    go_loop [5, 7] (fun qq i => ∃ k : Nat, k ≤ s.size ∧ qq = .bool false ∧ i = .int .i64 k ∧ allB valB (s.data.toList.take k) = true) (fun _ i => s.size - (intOf i).toNat)
    case atStart => exact ⟨0, Nat.zero_le _, rfl, rfl, rfl⟩
    case round =>
      obtain ⟨k, hk, rfl, rfl, ha⟩ := hrel
      have HA := Lib.hid ha; clear ha
      by_cases hlt : k < s.size
      · have hst := all_step valB s k hlt HA.out
        have hsp := all_stop valB s k hlt
        have HST := Lib.hid hst
        have HSP := Lib.hid hsp
        clear hst hsp
        go_wp2_with (go_at_call 47; refine (validValueByte_any _ _).mono ?_; rintro e w' ⟨rfl, rfl⟩)
        all_goals first
          | (go_round
             case rel => exact ⟨k + 1, by omega, rfl, by go_num, HST.out (by simp_all)⟩
             case measure => simp [intOf]; omega)
          | (go_ret3
             exact ⟨PV_no HQ.out HX.out (HSP.out (by simp_all)), rfl⟩)
      · go_wp2
        go_ret3
        exact ⟨PV_ok HQ.out HX.out (by rw [← take_all s k (by omega)]; exact HA.out), rfl⟩
  · by_cases h1 : 1 < s.size
    · have hd1 : decide ((1 : Int) < (s.size : Int)) = true := by rw [decide_eq_true_eq]; omega
      by_cases h2 : ((s[0].toNat : Int) == 34) = true
      · by_cases h3 : ((s[s.size - 1].toNat : Int) == 34) = true
        · have hq := qB_true h1 h2 h3
          have hx := strip_of s _ hq
          have hxs := extract_size_le s 1 (s.size - 1)
          have HQ := Lib.hid hq
          clear hq
          have HX := Lib.hid hx
          clear hx
          go_enter Tryz.func33, Tryz.ntmps33
          go_wp2
          generalize s.extract 1 (s.size - 1) = x at *
          go_loop [5, 7] (fun qq i => ∃ k : Nat, k ≤ x.size ∧ qq = .bool true ∧ i = .int .i64 k ∧ allB valB (x.data.toList.take k) = true) (fun _ i => x.size - (intOf i).toNat)
          case atStart => exact ⟨0, Nat.zero_le _, rfl, rfl, rfl⟩
          case round =>
            obtain ⟨k, hk, rfl, rfl, ha⟩ := hrel
            have HA := Lib.hid ha; clear ha
            by_cases hlt : k < x.size
            · have hst := all_step valB x k hlt HA.out
              have hsp := all_stop valB x k hlt
              have HST := Lib.hid hst
              have HSP := Lib.hid hsp
              clear hst hsp
              go_wp2_with (go_at_call 47; refine (validValueByte_any _ _).mono ?_; rintro e w' ⟨rfl, rfl⟩)
              all_goals first
                | (go_round
                   case rel => exact ⟨k + 1, by omega, rfl, by go_num, HST.out (by simp_all)⟩
                   case measure => simp [intOf]; omega)
                | (go_ret3
                   exact ⟨PV_no HQ.out HX.out (HSP.out (by simp_all)), rfl⟩)
            · go_wp2
              go_ret3
              exact ⟨PV_ok HQ.out HX.out (by rw [← take_all x k (by omega)]; exact HA.out), rfl⟩
        · have h3' : ((s[s.size - 1].toNat : Int) == 34) = false := by simpa using h3
          clear h3
          have hq := qB_three h1 h3'
          have hq2 := strip_no s.data.toList _ hq
          have HQ := Lib.hid hq
          have HX := Lib.hid hq2.symm
          clear hq hq2
          go_enter Tryz.func33, Tryz.ntmps33
          go_wp2
          go_loop [5, 7] (fun qq i => ∃ k : Nat, k ≤ s.size ∧ qq = .bool false ∧ i = .int .i64 k ∧ allB valB (s.data.toList.take k) = true) (fun _ i => s.size - (intOf i).toNat)
          case atStart => exact ⟨0, Nat.zero_le _, rfl, rfl, rfl⟩
          case round =>
            obtain ⟨k, hk, rfl, rfl, ha⟩ := hrel
            have HA := Lib.hid ha; clear ha
            by_cases hlt : k < s.size
            · have hst := all_step valB s k hlt HA.out
              have hsp := all_stop valB s k hlt
              have HST := Lib.hid hst
              have HSP := Lib.hid hsp
              clear hst hsp
              go_wp2_with (go_at_call 47; refine (validValueByte_any _ _).mono ?_; rintro e w' ⟨rfl, rfl⟩)
              all_goals first
                | (go_round
                   case rel => exact ⟨k + 1, by omega, rfl, by go_num, HST.out (by simp_all)⟩
                   case measure => simp [intOf]; omega)
                | (go_ret3
                   exact ⟨PV_no HQ.out HX.out (HSP.out (by simp_all)), rfl⟩)
            · go_wp2
              go_ret3
              exact ⟨PV_ok HQ.out HX.out (by rw [← take_all s k (by omega)]; exact HA.out), rfl⟩
      · have h2' : ((s[0].toNat : Int) == 34) = false := by simpa using h2
        clear h2
        have hq := qB_two h1 h2'
        have hq2 := strip_no s.data.toList _ hq
        have HQ := Lib.hid hq
        have HX := Lib.hid hq2.symm
        clear hq hq2
        go_enter Tryz.func33, Tryz.ntmps33
        go_wp2
        go_loop [5, 7] (fun qq i => ∃ k : Nat, k ≤ s.size ∧ qq = .bool false ∧ i = .int .i64 k ∧ allB valB (s.data.toList.take k) = true) (fun _ i => s.size - (intOf i).toNat)
        case atStart => exact ⟨0, Nat.zero_le _, rfl, rfl, rfl⟩
        case round =>
          obtain ⟨k, hk, rfl, rfl, ha⟩ := hrel
          have HA := Lib.hid ha; clear ha
          by_cases hlt : k < s.size
          · have hst := all_step valB s k hlt HA.out
            have hsp := all_stop valB s k hlt
            have HST := Lib.hid hst
            have HSP := Lib.hid hsp
            clear hst hsp
            go_wp2_with (go_at_call 47; refine (validValueByte_any _ _).mono ?_; rintro e w' ⟨rfl, rfl⟩)
            all_goals first
              | (go_round
                 case rel => exact ⟨k + 1, by omega, rfl, by go_num, HST.out (by simp_all)⟩
                 case measure => simp [intOf]; omega)
              | (go_ret3
                 exact ⟨PV_no HQ.out HX.out (HSP.out (by simp_all)), rfl⟩)
          · go_wp2
            go_ret3
            exact ⟨PV_ok HQ.out HX.out (by rw [← take_all s k (by omega)]; exact HA.out), rfl⟩
    · have hd1 : decide ((1 : Int) < (s.size : Int)) = false := by rw [decide_eq_false_iff_not]; omega
      have hq := qB_one h1
      have hq2 := strip_no s.data.toList _ hq
      have HQ := Lib.hid hq
      have HX := Lib.hid hq2.symm
      clear hq hq2
      go_enter Tryz.func33, Tryz.ntmps33
      go_wp2
      go_loop [5, 7] (fun qq i => ∃ k : Nat, k ≤ s.size ∧ qq = .bool false ∧ i = .int .i64 k ∧ allB valB (s.data.toList.take k) = true) (fun _ i => s.size - (intOf i).toNat)
      case atStart => exact ⟨0, Nat.zero_le _, rfl, rfl, rfl⟩
      case round =>
        obtain ⟨k, hk, rfl, rfl, ha⟩ := hrel
        have HA := Lib.hid ha; clear ha
        by_cases hlt : k < s.size
        · have hst := all_step valB s k hlt HA.out
          have hsp := all_stop valB s k hlt
          have HST := Lib.hid hst
          have HSP := Lib.hid hsp
          clear hst hsp
          go_wp2_with (go_at_call 47; refine (validValueByte_any _ _).mono ?_; rintro e w' ⟨rfl, rfl⟩)
          all_goals first
            | (go_round
               case rel => exact ⟨k + 1, by omega, rfl, by go_num, HST.out (by simp_all)⟩
               case measure => simp [intOf]; omega)
            | (go_ret3
               exact ⟨PV_no HQ.out HX.out (HSP.out (by simp_all)), rfl⟩)
        · go_wp2
          go_ret3
          exact ⟨PV_ok HQ.out HX.out (by rw [← take_all s k (by omega)]; exact HA.out), rfl⟩

end Go.Proofs.YtfijncfoefbohaaGreatDoor
