/- FnCleanName returns true at every input. -/
import Derived.Test.YtfijncfoefbohaaDoorWorks
import Derived.Test.YtfijncfoefbohaaDoorRepl
import Derived.Test.YtfijncfoefbohaaDoorLawClean
namespace Go.Proofs.YtfijncfoefbohaaDoor
open Go Go.RowKit

theorem byte_ne {x : ByteArray} {c : UInt8} (h : ∀ b ∈ x.data.toList, b ≠ c) (k : Nat) (hk : k < x.size) : ((x[k].toNat : Int) == (c.toNat : Int)) = false := by
  rw [beq_eq_false_iff_ne]
  intro e
  have hm : x[k] ∈ x.data.toList := by rw [getElem_list x k hk]; exact List.getElem_mem _
  refine h _ hm (UInt8.toNat_inj.1 (by omega))

set_option maxHeartbeats 1000000 in
theorem fnCleanName_walk (s : ByteArray) (w : World) (hs : s.size ≤ maxLen) :
    Calls Tryd.prog 6 #[.string s] w fun e w' => e = .returned (.bool true) ∧ Below w.heap.size w w' := by
  by_cases h0 : (2147483647 : Int) < (s.size : Int)
  · have hd : decide ((2147483647 : Int) < (s.size : Int)) = true := by rw [decide_eq_true_eq]; exact h0
    go_enter Tryd.func6, Tryd.ntmps6
    go_wp2
    go_ret
    exact ⟨rfl, Below.refl _ _⟩
  · have hd : decide ((2147483647 : Int) < (s.size : Int)) = false := by rw [decide_eq_false_iff_not]; exact h0
    have hs4 : s.size ≤ 4398046511104 := by omega
    have ha : nameL [97] = [97] := by decide
    have HA := Lib.hid ha
    clear ha
    rcases htk : tokS s.data.toList with _ | _
    all_goals
      have HTK := Lib.hid htk
      go_enter Tryd.func6, Tryd.ntmps6
      go_wp2_with fail
      refine (i_Clean_any s _ hs4).mono ?_; rintro e w1 ⟨⟨x, rfl, hx⟩, hb1⟩
      have hxs : x.size ≤ 2147483647 := by rw [Lib.size_eq, hx, nameL_len, ← Lib.size_eq]; omega
      have hcl := nameL_clean s.data.toList
      rw [← hx] at hcl
      have HCL := Lib.hid hcl
      have HX := Lib.hid hx
      clear hcl hx
      go_wp2
      go_loop [4, 12] (fun _ i => ∃ k : Nat, k ≤ x.size ∧ i = .int .i64 k) (fun _ i => x.size - (intOf i).toNat)
      case atStart => exact ⟨0, Nat.zero_le _, rfl⟩
      case round =>
        obtain ⟨k, hk, rfl⟩ := hrel
        by_cases hlt : k < x.size
        · have h13 : ((x[k].toNat : Int) == 13) = false := byte_ne (c := 13) (fun b hb => (HCL.out b hb).2) k hlt
          have h10 : ((x[k].toNat : Int) == 10) = false := byte_ne (c := 10) (fun b hb => (HCL.out b hb).1) k hlt
          go_wp2
          go_round
          case rel => exact ⟨k + 1, by omega, by go_num⟩
          case measure => simp [intOf]; omega
        · have hlt' : decide ((k : Int) < (x.size : Int)) = false := by rw [decide_eq_false_iff_not]; omega
          go_wp2_with fail
          refine (works_any _).mono ?_; rintro e w2 ⟨rfl, hb2⟩
          have HB := Lib.hid (hb1.trans (hb2.mono hb1.size))
          clear hb1 hb2
          go_wp2_with fail
          refine (s_Token_any s _ (by omega)).mono ?_; rintro e w3 ⟨rfl, rfl⟩
          first
            | (have hxe : x = s := ba_ext (by rw [HX.out]; exact nameL_none (tok_clean htk)); subst hxe)
            | skip
          go_wp2_with fail
          refine (i_Clean_any x _ (by omega)).mono ?_; rintro e w4 ⟨⟨y, rfl, hy⟩, hb4⟩
          have hye : y = x := ba_ext (by rw [hy]; exact nameL_none HCL.out)
          subst hye
          have HB2 := Lib.hid (HB.out.trans (hb4.mono HB.out.size))
          clear HB hb4 hy
          go_wp2_with fail
          refine (i_Clean_any _ _ (by decide)).mono ?_; rintro e w5 ⟨⟨z, rfl, hz⟩, hb5⟩
          have hze : z = ⟨#[97]⟩ := ba_ext (by rw [hz]; exact HA.out)
          subst hze
          have HB3 := Lib.hid (HB2.out.trans (hb5.mono HB2.out.size))
          clear HB2 hb5 hz
          go_wp2
          go_ret
          exact ⟨rfl, HB3.out⟩
end Go.Proofs.YtfijncfoefbohaaDoor
