/- (*Cookie).Valid. -/
import Derived.Test.YtfijncfoefbohaaDoorFits
namespace Go.Proofs.YtfijncfoefbohaaDoor
open Go Go.RowKit

def validB (c : Ck) : Bool := tokS c.name.data.toList && (allB valB c.value.data.toList && (allB pathB c.path.data.toList && ((decide (c.domain.size = 0) || vdB c.domain.data.toList) && (!c.part || c.secure))))

/-- nil, or an error made by errors.New. -/
def ErrPost (ok : Bool) (e : Ending) : Prop := (ok = true ∧ e = .returned .nilIface) ∨ (ok = false ∧ ∃ b, e = .returned (.iface 109 (.pointer (some ⟨b, 0, none⟩))))

theorem errNew_any (s : ByteArray) (w : World) :
    Calls Tryd.prog 81 #[.string s] w fun e w' => (∃ b, e = .returned (.iface 109 (.pointer (some ⟨b, 0, none⟩)))) ∧ Below w.heap.size w w' := by
  go_enter Tryd.func81, Tryd.ntmps81
  go_wp2
  go_ret
  exact ⟨⟨_, rfl⟩, (Below.refl _ _).alloc (Nat.le_refl _) _⟩

theorem bad_at {p : Int → Bool} {s : ByteArray} {k : Nat} (hk : k < s.size) (h : p (s[k].toNat : Int) = false) : allB p s.data.toList = false := all_stop p s k hk h

set_option maxHeartbeats 4000000 in
set_option maxRecDepth 100000 in
theorem valid_any (b : Nat) (c : Ck) (w : World) (hc : CkAt b c w) (hf : CkFits c) :
    Calls Tryd.prog 59 #[.pointer (some ⟨b, 0, none⟩)] w fun e w' => ErrPost (validB c) e ∧ Below w.heap.size w w' := by
  have hs1 := hf.name; have hs2 := hf.value; have hs3 := hf.path; have hs4 := hf.domain
  have c0 : w.cell? ⟨b, 0, none⟩ = some (.string c.name) := hc.cell 0
  have c1 : w.cell? ⟨b, 1, none⟩ = some (.string c.value) := hc.cell 1
  have c3 : w.cell? ⟨b, 3, none⟩ = some (.string c.path) := hc.cell 3
  have c4 : w.cell? ⟨b, 4, none⟩ = some (.string c.domain) := hc.cell 4
  have c6 : w.cell? ⟨b, 6, none⟩ = some (.bool c.secure) := hc.cell 6
  have c9 : w.cell? ⟨b, 9, none⟩ = some (.bool c.part) := hc.cell 9
  rcases ht : tokS c.name.data.toList with _ | _
  · have HV : Hid (validB c = false) := Lib.hid (by unfold validB; rw [ht]; rfl)
    go_enter Tryd.func59, Tryd.ntmps59
    go_wp2_with (go_at_call 71; refine (isToken_any _ _ (by unfold maxLen; omega)).mono ?_; rintro e w' ⟨rfl, rfl⟩)
    refine (errNew_any _ _).mono ?_; rintro e w2 ⟨⟨x, rfl⟩, hb⟩
    go_wp2
    go_ret
    exact ⟨.inr ⟨HV.out, x, rfl⟩, hb⟩
  have HT := Lib.hid ht
  go_enter Tryd.func59, Tryd.ntmps59
  go_wp2_with (go_at_call 71; refine (isToken_any _ _ (by unfold maxLen; omega)).mono ?_; rintro e w' ⟨rfl, rfl⟩)
  go_loop [3] (fun i => ∃ k : Nat, k ≤ c.value.size ∧ i = .int .i64 k ∧ allB valB (c.value.data.toList.take k) = true) (fun i => c.value.size - (intOf i).toNat)
  case atStart => exact ⟨0, Nat.zero_le _, rfl, rfl⟩
  case round =>
    obtain ⟨k, hk, rfl, hpre⟩ := hrel
    have HPRE := Lib.hid hpre
    clear hpre
    by_cases hlt : k < c.value.size
    · by_cases hok : valB (c.value[k].toNat : Int) = true
      · have HST := Lib.hid (all_step valB c.value k hlt HPRE.out hok)
        go_wp2_with (go_at_call 82; refine (validValueByte_any _ _).mono ?_; rintro e w' ⟨rfl, rfl⟩)
        go_round
        case rel => exact ⟨k + 1, by omega, by go_num, HST.out⟩
        case measure => simp [intOf]; omega
      · have hok' : valB (c.value[k].toNat : Int) = false := by simpa using hok
        have HV : Hid (validB c = false) := Lib.hid (by unfold validB; rw [HT.out, bad_at hlt hok']; rfl)
        clear hok
        go_wp2_with (go_at_call 82; refine (validValueByte_any _ _).mono ?_; rintro e w' ⟨rfl, rfl⟩)
        refine (errNew_any _ _).mono ?_; rintro e w2 ⟨⟨x, rfl⟩, hb⟩
        go_wp2
        go_ret
        exact ⟨.inr ⟨HV.out, x, rfl⟩, hb⟩
    · have hall := HPRE.out
      rw [take_all c.value k (by omega)] at hall
      have HALL := Lib.hid hall
      have hd : decide ((k : Int) < (c.value.size : Int)) = false := by rw [decide_eq_false_iff_not]; omega
      clear hall
      go_upto_if 38 with fail
      go_cut [4] (fun _ wx => wx = w ∧ allB pathB c.path.data.toList = true)
      case first =>
        rcases Nat.eq_zero_or_pos c.path.size with h0 | h0
        · have t0 : decide (0 < c.path.size) = false := by rw [decide_eq_false_iff_not]; omega
          have hp : allB pathB c.path.data.toList = true := by
            have : c.path.data.toList = [] := List.eq_nil_of_length_eq_zero (by rw [← Lib.size_eq]; exact h0)
            rw [this]; rfl
          have HP := Lib.hid hp
          clear h0 hp
          rw [t0]
          go_wp2
          go_meet
          case rel => exact ⟨rfl, HP.out⟩
        · have t0 : decide (0 < c.path.size) = true := by rw [decide_eq_true_iff]; omega
          clear h0
          rw [t0]
          go_wp2
          go_loop [4] (fun i => ∃ k : Nat, k ≤ c.path.size ∧ i = .int .i64 k ∧ allB pathB (c.path.data.toList.take k) = true) (fun i => c.path.size - (intOf i).toNat)
          case atStart => exact ⟨0, Nat.zero_le _, rfl, rfl⟩
          case round =>
            obtain ⟨k2, hk2, rfl, hpre2⟩ := hrel
            have HPRE2 := Lib.hid hpre2
            clear hpre2
            by_cases hlt2 : k2 < c.path.size
            · by_cases hok : pathB (c.path[k2].toNat : Int) = true
              · have HST := Lib.hid (all_step pathB c.path k2 hlt2 HPRE2.out hok)
                go_wp2_with (go_at_call 83; refine (validPathByte_any _ _).mono ?_; rintro e w' ⟨rfl, rfl⟩)
                go_round
                case rel => exact ⟨k2 + 1, by omega, by go_num, HST.out⟩
                case measure => simp [intOf]; omega
              · have hok' : pathB (c.path[k2].toNat : Int) = false := by simpa using hok
                have HV : Hid (validB c = false) := Lib.hid (by unfold validB; rw [HT.out, HALL.out, bad_at hlt2 hok']; rfl)
                clear hok
                go_wp2_with (go_at_call 83; refine (validPathByte_any _ _).mono ?_; rintro e w' ⟨rfl, rfl⟩)
                refine (errNew_any _ _).mono ?_; rintro e w2 ⟨⟨x, rfl⟩, hb⟩
                go_wp2
                go_ret
                exact ⟨.inr ⟨HV.out, x, rfl⟩, hb⟩
            · have hp := HPRE2.out
              rw [take_all c.path k2 (by omega)] at hp
              have HP := Lib.hid hp
              have hd : decide ((k2 : Int) < (c.path.size : Int)) = false := by rw [decide_eq_false_iff_not]; omega
              clear hp
              go_wp2
              go_meet
              case rel => exact ⟨rfl, HP.out⟩
      case rest =>
      obtain ⟨rfl, hpth⟩ := hcut
      have HPTH := Lib.hid hpth
      clear hpth
      have HV : Hid (validB c = ((decide (c.domain.size = 0) || vdB c.domain.data.toList) && (!c.part || c.secure))) := Lib.hid (by unfold validB; rw [HT.out, HALL.out, HPTH.out]; rfl)
      clear HT HALL HPTH HPRE
      clear hc hf ht c0 c1 c3
      rcases hpt : c.part with _ | _
      · rw [hpt] at c9
        rcases Nat.eq_zero_or_pos c.domain.size with h0 | h0
        · have t0 : decide (0 < c.domain.size) = false := by rw [decide_eq_false_iff_not]; omega
          have HR : Hid (validB c = true) := Lib.hid (by rw [HV.out, h0, hpt]; rfl)
          clear h0
          go_upto_if 62 with fail
          try rw [t0]
          go_wp2
          go_ret
          exact ⟨.inl ⟨HR.out, rfl⟩, Below.refl _ _⟩
        · have t0 : decide (0 < c.domain.size) = true := by rw [decide_eq_true_iff]; omega
          have hz : decide (c.domain.size = 0) = false := by rw [decide_eq_false_iff_not]; omega
          rcases hv : vdB c.domain.data.toList with _ | _
          · have HR : Hid (validB c = false) := Lib.hid (by rw [HV.out, hz, hv]; rfl)
            clear h0 hz
            go_upto_if 62 with fail
            try rw [t0]
            go_wp2_with fail
            refine (validDomain_any c.domain _ (by omega)).mono ?_; rintro e w21 ⟨rfl, rfl⟩
            go_wp2_with fail
            refine (errNew_any _ _).mono ?_; rintro e w2 ⟨⟨x, rfl⟩, hb⟩
            go_wp2
            go_ret
            exact ⟨.inr ⟨HR.out, x, rfl⟩, hb⟩
          · have HR : Hid (validB c = true) := Lib.hid (by rw [HV.out, hz, hv, hpt]; rfl)
            clear h0 hz
            go_upto_if 62 with fail
            try rw [t0]
            go_wp2_with fail
            refine (validDomain_any c.domain _ (by omega)).mono ?_; rintro e w21 ⟨rfl, rfl⟩
            go_wp2
            go_ret
            exact ⟨.inl ⟨HR.out, rfl⟩, Below.refl _ _⟩
      · rw [hpt] at c9
        rcases hsec : c.secure with _ | _
        all_goals
          rw [hsec] at c6
          rcases Nat.eq_zero_or_pos c.domain.size with h0 | h0
          · have t0 : decide (0 < c.domain.size) = false := by rw [decide_eq_false_iff_not]; omega
            have HR : Hid (validB c = c.secure) := Lib.hid (by rw [HV.out, h0, hpt]; rfl)
            rw [hsec] at HR
            clear h0
            go_upto_if 62 with fail
            try rw [t0]
            go_wp2_with fail
            first
              | (refine (errNew_any _ _).mono ?_; rintro e w2 ⟨⟨x, rfl⟩, hb⟩
                 go_wp2
                 go_ret
                 exact ⟨.inr ⟨HR.out, x, rfl⟩, hb⟩)
              | (go_ret
                 exact ⟨.inl ⟨HR.out, rfl⟩, Below.refl _ _⟩)
          · have t0 : decide (0 < c.domain.size) = true := by rw [decide_eq_true_iff]; omega
            have hz : decide (c.domain.size = 0) = false := by rw [decide_eq_false_iff_not]; omega
            rcases hv : vdB c.domain.data.toList with _ | _
            · have HR : Hid (validB c = false) := Lib.hid (by rw [HV.out, hz, hv]; rfl)
              clear h0 hz
              go_upto_if 62 with fail
              try rw [t0]
              go_wp2_with fail
              refine (validDomain_any c.domain _ (by omega)).mono ?_; rintro e w21 ⟨rfl, rfl⟩
              go_wp2_with fail
              refine (errNew_any _ _).mono ?_; rintro e w2 ⟨⟨x, rfl⟩, hb⟩
              go_wp2
              go_ret
              exact ⟨.inr ⟨HR.out, x, rfl⟩, hb⟩
            · have HR : Hid (validB c = c.secure) := Lib.hid (by rw [HV.out, hz, hv, hpt]; rfl)
              rw [hsec] at HR
              clear h0 hz
              go_upto_if 62 with fail
              try rw [t0]
              go_wp2_with fail
              refine (validDomain_any c.domain _ (by omega)).mono ?_; rintro e w21 ⟨rfl, rfl⟩
              go_wp2_with fail
              first
                | (refine (errNew_any _ _).mono ?_; rintro e w2 ⟨⟨x, rfl⟩, hb⟩
                   go_wp2
                   go_ret
                   exact ⟨.inr ⟨HR.out, x, rfl⟩, hb⟩)
                | (go_ret
                   exact ⟨.inl ⟨HR.out, rfl⟩, Below.refl _ _⟩)

set_option maxHeartbeats 4000000 in
theorem i_Valid_any (c : Ck) (w : World) (hf : CkFits c) :
    Calls Tryd.prog 31 #[.agg c.cells] w fun e w' => e = .returned (.bool (validB c)) ∧ Below w.heap.size w w' := by
  unfold Ck.cells
  go_enter Tryd.func31, Tryd.ntmps31
  go_wp2_with fail
  refine (of_any c _).mono ?_
  rintro e w1 ⟨rfl, hb1⟩
  unfold Ck.cells
  go_wp2_with fail
  obtain ⟨a1, a2, a3⟩ := alloc_at w1 c.cells 58
  have hb2 : Below w.heap.size w w1 := (((Below.refl _ _).alloc (Nat.le_refl _) _).trans (hb1.mono (by show _ ≤ (w.heap.push _).size; simp)))
  have hb3 : Below w.heap.size w (w1.alloc (.cells c.cells 58)) := hb2.trans (a2.mono hb2.size)
  refine (valid_any w1.heap.size c (w1.alloc (.cells c.cells 58)) a1 hf).mono ?_
  rintro e w3 ⟨hx, hb4⟩
  have HB := Lib.hid (hb3.trans (hb4.mono hb3.size))
  clear a1 a2 a3 hb1 hb2 hb3 hb4
  rcases hx with ⟨hv, rfl⟩ | ⟨hv, x, rfl⟩
  · go_wp2
    go_ret
    exact ⟨ret_bool hv.symm, HB.out⟩
  · go_wp2
    go_ret
    exact ⟨ret_bool hv.symm, HB.out⟩
end Go.Proofs.YtfijncfoefbohaaDoor
