/- zzFits2, zzFits1: sizes. -/
import Derived.Test.YtfijncfoefbohaaGreatDoorOpen
namespace Go.Proofs.YtfijncfoefbohaaGreatDoor
open Go Go.RowKit

def fitsL (xs : List ByteArray) : Bool := decide (xs.length ≤ 2147483647) && xs.all fun x => decide (x.size ≤ 2147483647)

theorem StrsAt.len {xs : List ByteArray} {v : Value} {w : World} (h : StrsAt xs v w) : xs.length ≤ maxLen := by
  rcases h with ⟨_, rfl⟩ | ⟨a, cap, _, h1, h2, _⟩
  · exact Nat.zero_le _
  · omega
theorem StrsAt.mem {xs : List ByteArray} {v : Value} {w : World} (h : StrsAt xs v w) : ∀ x ∈ xs, x.size ≤ maxLen := by
  rcases h with ⟨_, rfl⟩ | ⟨a, cap, _, h1, h2, _, h3⟩
  · simp
  · exact h3
theorem StrsAt.below {xs : List ByteArray} {v : Value} {w w' : World} (h : StrsAt xs v w) (hb : Below w.heap.size w w') : StrsAt xs v w' := by
  rcases h with h | ⟨a, cap, h0, h1, h2, h3, h4⟩
  · exact .inl h
  · refine .inr ⟨a, cap, h0, h1, h2, fun i hi => ?_, h4⟩
    have hc := h3 i hi
    have hlt : (a.add i).block < w.heap.size := by
      rcases Nat.lt_or_ge (a.add i).block w.heap.size with h' | h'
      · exact h'
      · simp [World.cell?, Array.getElem?_eq_none h'] at hc
    rw [hb.cell hlt]
    exact hc

theorem fits_no {xs : List ByteArray} {k : Nat} (hk : k < xs.length) (h : ¬ xs[k].size ≤ 2147483647) : fitsL xs = false := by
  unfold fitsL
  rw [Bool.and_eq_false_iff]
  right
  rw [List.all_eq_false]
  exact ⟨_, List.getElem_mem hk, by simpa using h⟩
theorem fits_big {xs : List ByteArray} (h : ¬ xs.length ≤ 2147483647) : fitsL xs = false := by
  unfold fitsL
  rw [Bool.and_eq_false_iff]
  left
  simpa using h
theorem fits_yes {xs : List ByteArray} (h1 : xs.length ≤ 2147483647) (h : ∀ i (hi : i < xs.length), xs[i].size ≤ 2147483647) : fitsL xs = true := by
  unfold fitsL
  rw [Bool.and_eq_true, List.all_eq_true]
  refine ⟨by simpa using h1, fun x hx => ?_⟩
  obtain ⟨i, hi, rfl⟩ := List.getElem_of_mem hx
  simpa using h i hi

set_option maxHeartbeats 800000 in
theorem zzFits2_any (xs : List ByteArray) (v : Value) (w : World) (h : StrsAt xs v w) :
    Calls Tryz.prog 4 #[v] w fun e w' => e = .returned (.bool (fitsL xs)) ∧ w = w' := by
  have hlen := h.len
  have hmem := h.mem
  unfold maxLen at hlen hmem
  rcases h with ⟨rfl, rfl⟩ | ⟨a, cap, rfl, hlc, hcm, hc, -⟩
  · have hf : fitsL [] = true := by decide
    have HF := Lib.hid hf
    go_enter Tryz.func4, Tryz.ntmps4
    go_wp2
    go_loop [4, 10] (fun _ i => i = .int .i64 0) (fun _ _ => 0)
    case atStart => rfl
    case round =>
      subst hrel
      go_wp2
      go_ret
      exact ⟨ret_bool HF.out.symm, rfl⟩
  · have HC := Lib.hid hc
    have HM := Lib.hid hmem
    clear hc hmem
    by_cases h0 : xs.length ≤ 2147483647
    · have hd : decide ((2147483647 : Int) < (xs.length : Int)) = false := by rw [decide_eq_false_iff_not]; omega
      go_enter Tryz.func4, Tryz.ntmps4
      go_wp2
      go_loop [4, 10] (fun _ i => ∃ k : Nat, k ≤ xs.length ∧ i = .int .i64 k ∧ ∀ j (hj : j < xs.length), j < k → xs[j].size ≤ 2147483647) (fun _ i => xs.length - (intOf i).toNat)
      case atStart => exact ⟨0, Nat.zero_le _, rfl, fun j _ h => by omega⟩
      case round =>
        obtain ⟨k, hk, rfl, ha⟩ := hrel
        have HA := Lib.hid ha
        clear ha
        by_cases hlt : k < xs.length
        · have hck := HC.out k hlt
          have hsz := HM.out xs[k] (List.getElem_mem hlt)
          obtain ⟨x, hx⟩ : ∃ x, xs[k] = x := ⟨_, rfl⟩
          have HX := Lib.hid hx
          rw [hx] at hck hsz
          clear hx
          by_cases hbig : x.size ≤ 2147483647
          · have hd2 : decide ((2147483647 : Int) < (x.size : Int)) = false := by rw [decide_eq_false_iff_not]; omega
            go_wp2
            go_round
            case rel =>
              refine ⟨k + 1, by omega, by go_num, fun j hj hjk => ?_⟩
              rcases Nat.lt_or_ge j k with h1 | h1
              · exact HA.out j hj h1
              · obtain rfl : j = k := by omega
                rw [HX.out]; exact hbig
            case measure => simp [intOf]; omega
          · have hd2 : decide ((2147483647 : Int) < (x.size : Int)) = true := by rw [decide_eq_true_eq]; omega
            have HF := Lib.hid (fits_no hlt (by rw [HX.out]; exact hbig))
            go_wp2
            go_ret
            exact ⟨ret_bool HF.out.symm, rfl⟩
        · have hd2 : decide ((k : Int) < (xs.length : Int)) = false := by rw [decide_eq_false_iff_not]; omega
          have HF := Lib.hid (fits_yes h0 (fun i hi => HA.out i hi (by omega)))
          go_wp2
          go_ret
          exact ⟨ret_bool HF.out.symm, rfl⟩
    · have hd : decide ((2147483647 : Int) < (xs.length : Int)) = true := by rw [decide_eq_true_eq]; omega
      have HF := Lib.hid (fits_big h0)
      go_enter Tryz.func4, Tryz.ntmps4
      go_wp2
      go_ret
      exact ⟨ret_bool HF.out.symm, rfl⟩

/-- zzFits1's answer. -/
def FitPost (c : Ck) (e : Ending) : Prop := ∃ r : Bool, e = .returned (.bool r) ∧ (r = true → CkFits c ∧ c.raw.size ≤ 2147483647)

end Go.Proofs.YtfijncfoefbohaaGreatDoor
