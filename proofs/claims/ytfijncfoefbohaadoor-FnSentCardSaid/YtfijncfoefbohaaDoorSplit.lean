/- The reference's Split: the parts of a text between separators, in a new slice. -/
import Derived.Test.YtfijncfoefbohaaDoorKit
import Derived.Test.YtfijncfoefbohaaDoorStr
namespace Go.Proofs.YtfijncfoefbohaaDoor
open Go Go.RowKit

/-- A new slice of strings: the texts xs, in a block of the call's own. -/
def NewStrs (w w' : World) (e : Ending) (xs : List ByteArray) : Prop :=
  ∃ g cap, e = .returned (.slice (some ⟨g, 0, none⟩) xs.length cap) ∧ w'.ownsRow w.heap.size 9 1 (.slice (some ⟨g, 0, none⟩) xs.length cap) xs.length (xs.map Value.string) ∧ Below w.heap.size w w'

def SplitAt (s : ByteArray) (c : UInt8) (k fr : Nat) (xs : List ByteArray) : Prop :=
  xs.map (·.data.toList) ++ splitL c (s.data.toList.drop fr) = splitL c s.data.toList ∧ (∀ x ∈ (s.data.toList.drop fr).take (k - fr), x ≠ c)

theorem splitAt_start (s : ByteArray) (c : UInt8) : SplitAt s c 0 0 [] := ⟨by simp, by simp⟩
theorem splitAt_miss {s : ByteArray} {c : UInt8} {k fr : Nat} {xs : List ByteArray} (h : SplitAt s c k fr xs) (hk : k < s.size) (hf : fr ≤ k) (hne : s[k] ≠ c) : SplitAt s c (k + 1) fr xs := by
  refine ⟨h.1, fun x hx => ?_⟩
  have hl : k - fr < (s.data.toList.drop fr).length := by simp; omega
  rw [show k + 1 - fr = (k - fr) + 1 from by omega, List.take_succ_eq_append_getElem hl, List.mem_append] at hx
  rcases hx with hx | hx
  · exact h.2 x hx
  · simp only [List.getElem_drop, List.mem_singleton] at hx
    subst hx
    rw [getElem_list s k hk] at hne
    simpa [show fr + (k - fr) = k from by omega] using hne
theorem splitAt_hit {s : ByteArray} {c : UInt8} {k fr : Nat} {xs : List ByteArray} (h : SplitAt s c k fr xs) (hk : k < s.size) (hf : fr ≤ k) (he : s[k] = c) : SplitAt s c (k + 1) (k + 1) (xs ++ [s.extract fr k]) := by
  refine ⟨?_, by simp⟩
  rw [← h.1, List.map_append, List.append_assoc]
  congr 1
  have hl : k < s.data.toList.length := by simpa using hk
  have hd : s.data.toList.drop fr = (s.data.toList.drop fr).take (k - fr) ++ c :: s.data.toList.drop (k + 1) := by
    conv => lhs; rw [← List.take_append_drop (k - fr) (s.data.toList.drop fr)]
    rw [List.drop_drop, show fr + (k - fr) = k from by omega, List.drop_eq_getElem_cons hl, ← getElem_list s k hk, he]
  rw [hd, splitL_hit c _ _ h.2]
  simp only [List.map_cons, List.map_nil, Lib.extract_data, List.cons_append, List.nil_append]
theorem splitAt_end {s : ByteArray} {c : UInt8} {k fr : Nat} {xs : List ByteArray} (h : SplitAt s c k fr xs) (hk : s.size ≤ k) : (xs ++ [s.extract fr s.size]).map (·.data.toList) = splitL c s.data.toList := by
  have h2 : ∀ x ∈ s.data.toList.drop fr, x ≠ c := fun x hx => h.2 x (by rw [List.take_of_length_le (by simp; omega)]; exact hx)
  rw [← h.1, splitL_none c _ h2, List.map_append]
  simp only [List.map_cons, List.map_nil, Lib.extract_data]
  rw [List.take_of_length_le (by simp)]

set_option maxHeartbeats 1000000 in
theorem s_Split_any (s : ByteArray) (n : Int) (c : UInt8) (hn : n = (c.toNat : Int)) (w : World) (hs : s.size ≤ 4398046511104) :
    Calls Tryd.prog 26 #[.string s, .int .u8 n] w fun e w' => ∃ xs, NewStrs w w' e xs ∧ xs.map (·.data.toList) = splitL c s.data.toList := by
  have HN := Lib.hid hn; clear hn
  obtain ⟨B, hB⟩ : ∃ B, B = w.heap.size := ⟨_, rfl⟩
  have HB := Lib.hid hB
  have hB0 : B ≤ w.heap.size := by omega
  clear hB
  go_enter Tryd.func26, Tryd.ntmps26
  go_wp2
  go_loopw [5, 6, 10] (fun v f i wr => ∃ (k fr : Nat) (xs : List ByteArray), k ≤ s.size ∧ fr ≤ k ∧ i = .int .i64 k ∧ f = .int .i64 fr ∧ wr.ownsRow B 9 1 v xs.length (xs.map Value.string) ∧ Below B w wr ∧ xs.length ≤ k ∧ SplitAt s c k fr xs) (fun _ _ i _ => s.size - (intOf i).toNat)
  case atStart => exact ⟨0, 0, [], Nat.zero_le _, Nat.le_refl _, rfl, rfl, World.ownsRow_nil _ _ _ _, Below.refl _ _, Nat.le_refl _, splitAt_start s c⟩
  case round =>
    obtain ⟨k, fr, xs, hk, hf, rfl, rfl, hown, hbel, hlen, hsp⟩ := hrel
    have hsz := hbel.size
    by_cases hlt : k < s.size
    · by_cases heq : ((s[k].toNat : Int) == n) = true
      · have hc : s[k] = c := by
          have := HN.out; rw [beq_iff_eq, this] at heq
          exact UInt8.toNat_inj.1 (by omega)
        have hsp' := splitAt_hit hsp hlt hf hc
        have HSP := Lib.hid hsp'
        clear hsp' hsp hc
        go_wp2_with (at_builtin; refine wpList_app1 rfl (.tmp 18) (.tmp 23) _ _ rfl _ _ Tryd.underlying24 strInfo rfl B _ _ _ rfl hown (.string (s.extract fr k)) rfl rfl ?c1 ?c2 ?c3 ?_)
        case c1 => omega
        case c2 => omega
        case c3 => omega
        intro g cap w1 hown1 hb1 hg1 hat hBg
        have R : w1.ownsRow B 9 1 (.slice (some ⟨g, 0, none⟩) (xs.length + 1) cap) (xs ++ [s.extract fr k]).length ((xs ++ [s.extract fr k]).map Value.string) := by simpa using hown1
        have hb2 := hbel.trans hb1
        clear hown1 hb1 hg1 hat hown hbel
        go_wp2
        go_roundw
        case rel => exact ⟨k + 1, k + 1, _, by omega, by omega, by go_num, by go_num, R, hb2, by simp; omega, HSP.out⟩
        case measure => simp [intOf]; omega
      · have heq' : ((s[k].toNat : Int) == n) = false := by simpa using heq
        have hc : s[k] ≠ c := by
          have := HN.out
          intro h2
          rw [h2, this] at heq'
          simp at heq'
        have hsp' := splitAt_miss hsp hlt hf hc
        have HSP := Lib.hid hsp'
        clear hsp' hsp hc heq
        go_wp2
        go_roundw
        case rel => exact ⟨k + 1, fr, xs, by omega, by omega, by go_num, rfl, hown, hbel, by omega, HSP.out⟩
        case measure => simp [intOf]; omega
    · have hend := splitAt_end hsp (by omega)
      have HE := Lib.hid hend
      clear hend hsp
      go_wp2_with (at_builtin; refine wpList_app1 rfl (.tmp 28) (.tmp 32) _ _ rfl _ _ Tryd.underlying24 strInfo rfl B _ _ _ rfl hown (.string (s.extract fr s.size)) rfl rfl ?d1 ?d2 ?d3 ?_)
      case d1 => omega
      case d2 => omega
      case d3 => omega
      intro g cap w1 hown1 hb1 hg1 hat hBg
      have R : w1.ownsRow B 9 1 (.slice (some ⟨g, 0, none⟩) (xs.length + 1) cap) (xs ++ [s.extract fr s.size]).length ((xs ++ [s.extract fr s.size]).map Value.string) := by simpa using hown1
      have hb2 := hbel.trans hb1
      clear hown1 hb1 hg1 hat hown hbel
      have HR : Hid (NewStrs w w1 (.returned (.slice (some ⟨g, 0, none⟩) (xs.length + 1) cap)) (xs ++ [s.extract fr s.size])) := by
        have := HB.out; subst this
        exact ⟨g, cap, by simp, by simpa using R, hb2⟩
      go_wp2
      go_ret
      exact ⟨_, HR, HE.out⟩
end Go.Proofs.YtfijncfoefbohaaDoor
