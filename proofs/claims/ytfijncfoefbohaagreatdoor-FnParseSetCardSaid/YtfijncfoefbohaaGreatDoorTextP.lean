/- spec.Lower, spec.Upper. spec.known, spec.Mode, spec.Number: what they give when they say yes. What a part of the reference is as text: plain laws. -/
import Derived.Test.YtfijncfoefbohaaGreatDoorSan
import Derived.Test.YtfijncfoefbohaaGreatDoorSet
import Derived.Lib.ConvBytes
import Derived.Lib.Case
import Derived.Test.YtfijncfoefbohaaGreatDoorBack
import Derived.Test.YtfijncfoefbohaaGreatDoorFits
namespace Go.Proofs.YtfijncfoefbohaaGreatDoor
open Go Go.RowKit

/-- The bytes l lie in block g, as []byte(s) lays them. -/
def RowB (g : Nat) (l : List UInt8) (w : World) : Prop := ∃ (cur : Array Value) (sz : Nat), w.heap[g]? = some (.cells cur 5 (sz, sz + 1)) ∧ cur.size = sz ∧ l.length ≤ sz ∧ cur.toList.take l.length = Lib.byteCells l
theorem RowB.new (w : World) (s : ByteArray) : RowB w.heap.size s.data.toList (Lib.bytesWorld w 5 s) := by
  refine ⟨_, _, Lib.bytesWorld_at_new w _ s, rfl, ?_, ?_⟩
  · unfold Lib.bytesCells; simp
  · unfold Lib.bytesCells Lib.byteCells
    simp
theorem RowB.cell {g : Nat} {l : List UInt8} {w : World} (h : RowB g l w) {j : Nat} (hj : j < l.length) : w.cell? ⟨g, j, none⟩ = some (.int .u8 (l[j].toNat : Int)) := by
  obtain ⟨cur, sz, h1, h2, h3, h4⟩ := h
  have h5 : (cur.toList.take l.length)[j]? = some (.int .u8 (l[j].toNat : Int)) := by rw [h4]; simp [Lib.byteCells, hj]
  rw [List.getElem?_take_of_lt hj] at h5
  simp [World.cell?, h1]
  simpa using h5
theorem RowB.frozen {g : Nat} {l : List UInt8} {w : World} (h : RowB g l w) {j : Nat} (hj : j < l.length) : w.frozen? ⟨g, j, none⟩ = false := by
  obtain ⟨cur, sz, h1, h2, h3, h4⟩ := h
  simp [World.frozen?, h1]
  omega
theorem RowB.set {g : Nat} {l : List UInt8} {w : World} (h : RowB g l w) (j : Nat) (b : UInt8) : RowB g (l.set j b) (w.setCell ⟨g, j, none⟩ (.int .u8 (b.toNat : Int))) := by
  obtain ⟨cur, sz, h1, h2, h3, h4⟩ := h
  refine ⟨cur.setIfInBounds j (.int .u8 (b.toNat : Int)), sz, ?_, by simpa using h2, by simpa using h3, ?_⟩
  · simp [World.setCell, Array.getElem?_modify, h1]
  · rw [List.length_set, Array.toList_setIfInBounds, List.take_set, h4]
    unfold Lib.byteCells
    rw [List.map_set]
theorem RowB.conv {g : Nat} {l : List UInt8} {w : World} (h : RowB g l w) (cap : Nat) : (convert 74 9 (.slice (some ⟨g, 0, none⟩) l.length cap)).run Tryz.prog w = .ok (.string ⟨l.toArray⟩) w := by
  refine run_convert_bytes_back w 74 9 5 ⟨g, 0, none⟩ cap l Tryz.underlying74 Tryz.underlying5 Tryz.underlying9 (fun j hj => ?_)
  rw [Lib.add_plain, Nat.zero_add]
  exact h.cell hj
theorem low_yes (c : UInt8) (h : 65 ≤ c.toNat ∧ c.toNat ≤ 90) : (Lib.lowerB c).toNat = c.toNat + 32 := by
  have h1 : Lib.isUpperB c = true := by unfold Lib.isUpperB; rw [Bool.and_eq_true, decide_eq_true_iff, decide_eq_true_iff, UInt8.le_iff_toNat_le, UInt8.le_iff_toNat_le]; exact h
  unfold Lib.lowerB
  rw [h1, if_pos rfl, UInt8.toNat_add]
  show (c.toNat + 32) % 256 = _
  omega
theorem low_no (c : UInt8) (h : ¬ (65 ≤ c.toNat ∧ c.toNat ≤ 90)) : Lib.lowerB c = c := by
  have h1 : ¬ Lib.isUpperB c = true := by unfold Lib.isUpperB; rw [Bool.and_eq_true, decide_eq_true_iff, decide_eq_true_iff, UInt8.le_iff_toNat_le, UInt8.le_iff_toNat_le]; exact h
  unfold Lib.lowerB
  rw [if_neg h1]
theorem up_yes (c : UInt8) (h : 97 ≤ c.toNat ∧ c.toNat ≤ 122) : (Lib.upperB c).toNat = c.toNat - 32 := by
  have h1 : Lib.isLowerB c = true := by unfold Lib.isLowerB; rw [Bool.and_eq_true, decide_eq_true_iff, decide_eq_true_iff, UInt8.le_iff_toNat_le, UInt8.le_iff_toNat_le]; exact h
  unfold Lib.upperB
  rw [h1, if_pos rfl, UInt8.toNat_sub_of_le _ _ (by rw [UInt8.le_iff_toNat_le]; show 32 ≤ c.toNat; omega)]
  rfl
theorem up_no (c : UInt8) (h : ¬ (97 ≤ c.toNat ∧ c.toNat ≤ 122)) : Lib.upperB c = c := by
  have h1 : ¬ Lib.isLowerB c = true := by unfold Lib.isLowerB; rw [Bool.and_eq_true, decide_eq_true_iff, decide_eq_true_iff, UInt8.le_iff_toNat_le, UInt8.le_iff_toNat_le]; exact h
  unfold Lib.upperB
  rw [if_neg h1]

set_option maxHeartbeats 2000000 in
theorem s_Lower_any (s : ByteArray) (w : World) (hs : s.size ≤ 4398046511104) :
    Calls Tryz.prog 27 #[.string s] w fun e w' => StrPost (Lib.toLowerA s.data.toList) e ∧ Below w.heap.size w w' := by
  have hcv := Lib.run_convert_string_bytes (P := Tryz.prog) w 9 74 5 s Tryz.underlying9 Tryz.underlying74 Tryz.underlying5
  have hrow := RowB.new w s
  have hbe : Below w.heap.size w (Lib.bytesWorld w 5 s) := Lib.bytesWorld_below _ _ _
  have HROW := Lib.hid hrow
  have HBE := Lib.hid hbe
  clear hrow hbe
  obtain ⟨g, hg⟩ : ∃ g, w.heap.size = g := ⟨_, rfl⟩
  rw [hg] at hcv HROW
  have HG := Lib.hid hg
  clear hg
  generalize grownCap w s.size 0 5 = cap at hcv
  generalize Lib.bytesWorld w 5 s = w1 at hcv HROW HBE
  go_enter Tryz.func27, Tryz.ntmps27
  go_wp2
  clear hcv
  go_loopw [10] (fun i wr => ∃ k : Nat, k ≤ s.size ∧ i = .int .i64 k ∧ RowB g ((Lib.toLowerA (s.data.toList.take k)) ++ s.data.toList.drop k) wr ∧ Below w.heap.size w wr) (fun i _ => s.size - (intOf i).toNat)
  case atStart => exact ⟨0, Nat.zero_le _, rfl, by simpa [Lib.toLowerA] using HROW.out, HBE.out⟩
  case round =>
    obtain ⟨k, hk, rfl, hr, hb⟩ := hrel
    have HR := Lib.hid hr
    have HB := Lib.hid hb
    by_cases hlt : k < s.size
    case neg =>
      have hd : decide (k < s.size) = false := by rw [decide_eq_false_iff_not]; exact hlt
      have hd' : decide ((k : Int) < (s.size : Int)) = false := by rw [decide_eq_false_iff_not]; omega
      have hall : (Lib.toLowerA (s.data.toList.take k)) ++ s.data.toList.drop k = Lib.toLowerA s.data.toList := by
        rw [List.drop_eq_nil_of_le (by rw [← Lib.size_eq]; omega), List.append_nil, List.take_of_length_le (by rw [← Lib.size_eq]; omega)]
      rw [hall] at hr
      have hcb := hr.conv cap
      have hll : (Lib.toLowerA s.data.toList).length = s.size := by unfold Lib.toLowerA; rw [List.length_map, ← Lib.size_eq]
      rw [hll] at hcb
      clear hr hb
      go_wp2
      go_ret
      exact ⟨⟨_, rfl, by simp⟩, HB.out⟩
    have hd : decide (k < s.size) = true := by rw [decide_eq_true_iff]; exact hlt
    have hlen : ((Lib.toLowerA (s.data.toList.take k)) ++ s.data.toList.drop k).length = s.size := by unfold Lib.toLowerA; rw [List.length_append, List.length_map, List.length_take, List.length_drop, ← Lib.size_eq]; omega
    have hkl : k < ((Lib.toLowerA (s.data.toList.take k)) ++ s.data.toList.drop k).length := by omega
    have hfl : (Lib.toLowerA (s.data.toList.take k)).length = k := by unfold Lib.toLowerA; rw [List.length_map, List.length_take, ← Lib.size_eq]; omega
    have hel : ((Lib.toLowerA (s.data.toList.take k)) ++ s.data.toList.drop k)[k] = s[k] := by
      rw [List.getElem_append_right (by omega), List.getElem_drop, getElem_list s k hlt]
      congr 1; omega
    have hck := hr.cell hkl
    rw [hel] at hck
    have hfz := hr.frozen hkl
    have hsd : s.data.toList.drop k = s[k] :: s.data.toList.drop (k + 1) := by rw [getElem_list s k hlt]; exact List.drop_eq_getElem_cons (by rw [← Lib.size_eq]; exact hlt)
    have HST : Hid (∀ b : UInt8, Lib.lowerB s[k] = b → ((Lib.toLowerA (s.data.toList.take k)) ++ s.data.toList.drop k).set k b = (Lib.toLowerA (s.data.toList.take (k + 1))) ++ s.data.toList.drop (k + 1)) := Lib.hid (fun b hb2 => by
      rw [hsd, List.set_append_right _ _ (by omega), hfl, Nat.sub_self, List.set_cons_zero, take_snoc s k hlt]
      unfold Lib.toLowerA
      rw [List.map_append, List.map_cons, List.map_nil, hb2]; simp)
    have HSN : Hid (Lib.lowerB s[k] = s[k] → (Lib.toLowerA (s.data.toList.take k)) ++ s.data.toList.drop k = (Lib.toLowerA (s.data.toList.take (k + 1))) ++ s.data.toList.drop (k + 1)) := Lib.hid (fun hb2 => by
      rw [hsd, take_snoc s k hlt]
      unfold Lib.toLowerA
      rw [List.map_append, List.map_cons, List.map_nil, hb2]; simp)
    clear hr hb hel hsd hfl hlen
    have HKL := Lib.hid hkl
    clear hkl
    obtain ⟨c, hc⟩ : ∃ c, s[k] = c := ⟨_, rfl⟩
    rw [hc] at hck HST HSN
    clear hc
    have hc0 : c.toNat < 256 := c.toNat_lt
    by_cases h1 : 65 ≤ c.toNat ∧ c.toNat ≤ 90
    · have d1 : decide ((65 : Int) ≤ (c.toNat : Int)) = true := by rw [decide_eq_true_iff]; omega
      have d2 : decide ((c.toNat : Int) ≤ (90 : Int)) = true := by rw [decide_eq_true_iff]; omega
      have HLB := Lib.hid (low_yes c h1)
      have HVV : Hid (((Lib.lowerB c).toNat : Int) = (c.toNat : Int) + 97 - 65) := Lib.hid (by rw [HLB.out]; omega)
      go_wp2
      go_roundw
      case rel =>
        refine ⟨k + 1, by omega, by go_num, ?_, HB.out.setCell (p := ⟨g, k, none⟩) (by rw [HG.out]; exact Nat.le_refl _) _⟩
        have h := HR.out.set k (Lib.lowerB c)
        rw [HST.out _ rfl, HVV.out] at h
        exact h
      case measure => simp [intOf]; omega
    · rcases (show (¬ 65 ≤ c.toNat) ∨ (65 ≤ c.toNat ∧ ¬ c.toNat ≤ 90) by omega) with h2 | ⟨h2, h3⟩
      all_goals
        have HLB := Lib.hid (low_no c h1)
        first
          | (have d1 : decide ((65 : Int) ≤ (c.toNat : Int)) = false := by rw [decide_eq_false_iff_not]; omega)
          | (have d1 : decide ((65 : Int) ≤ (c.toNat : Int)) = true := by rw [decide_eq_true_iff]; omega
             have d2 : decide ((c.toNat : Int) ≤ (90 : Int)) = false := by rw [decide_eq_false_iff_not]; omega)
        clear h1
        go_wp2
        go_roundw
        case rel => exact ⟨k + 1, by omega, by go_num, by rw [← HSN.out HLB.out]; exact HR.out, HB.out⟩
        case measure => simp [intOf]; omega

set_option maxHeartbeats 2000000 in
theorem s_Upper_any (s : ByteArray) (w : World) (hs : s.size ≤ 4398046511104) :
    Calls Tryz.prog 28 #[.string s] w fun e w' => StrPost (Lib.toUpperA s.data.toList) e ∧ Below w.heap.size w w' := by
  have hcv := Lib.run_convert_string_bytes (P := Tryz.prog) w 9 74 5 s Tryz.underlying9 Tryz.underlying74 Tryz.underlying5
  have hrow := RowB.new w s
  have hbe : Below w.heap.size w (Lib.bytesWorld w 5 s) := Lib.bytesWorld_below _ _ _
  have HROW := Lib.hid hrow
  have HBE := Lib.hid hbe
  clear hrow hbe
  obtain ⟨g, hg⟩ : ∃ g, w.heap.size = g := ⟨_, rfl⟩
  rw [hg] at hcv HROW
  have HG := Lib.hid hg
  clear hg
  generalize grownCap w s.size 0 5 = cap at hcv
  generalize Lib.bytesWorld w 5 s = w1 at hcv HROW HBE
  go_enter Tryz.func28, Tryz.ntmps28
  go_wp2
  clear hcv
  go_loopw [10] (fun i wr => ∃ k : Nat, k ≤ s.size ∧ i = .int .i64 k ∧ RowB g ((Lib.toUpperA (s.data.toList.take k)) ++ s.data.toList.drop k) wr ∧ Below w.heap.size w wr) (fun i _ => s.size - (intOf i).toNat)
  case atStart => exact ⟨0, Nat.zero_le _, rfl, by simpa [Lib.toUpperA] using HROW.out, HBE.out⟩
  case round =>
    obtain ⟨k, hk, rfl, hr, hb⟩ := hrel
    have HR := Lib.hid hr
    have HB := Lib.hid hb
    by_cases hlt : k < s.size
    case neg =>
      have hd : decide (k < s.size) = false := by rw [decide_eq_false_iff_not]; exact hlt
      have hd' : decide ((k : Int) < (s.size : Int)) = false := by rw [decide_eq_false_iff_not]; omega
      have hall : (Lib.toUpperA (s.data.toList.take k)) ++ s.data.toList.drop k = Lib.toUpperA s.data.toList := by
        rw [List.drop_eq_nil_of_le (by rw [← Lib.size_eq]; omega), List.append_nil, List.take_of_length_le (by rw [← Lib.size_eq]; omega)]
      rw [hall] at hr
      have hcb := hr.conv cap
      have hll : (Lib.toUpperA s.data.toList).length = s.size := by unfold Lib.toUpperA; rw [List.length_map, ← Lib.size_eq]
      rw [hll] at hcb
      clear hr hb
      go_wp2
      go_ret
      exact ⟨⟨_, rfl, by simp⟩, HB.out⟩
    have hd : decide (k < s.size) = true := by rw [decide_eq_true_iff]; exact hlt
    have hlen : ((Lib.toUpperA (s.data.toList.take k)) ++ s.data.toList.drop k).length = s.size := by unfold Lib.toUpperA; rw [List.length_append, List.length_map, List.length_take, List.length_drop, ← Lib.size_eq]; omega
    have hkl : k < ((Lib.toUpperA (s.data.toList.take k)) ++ s.data.toList.drop k).length := by omega
    have hfl : (Lib.toUpperA (s.data.toList.take k)).length = k := by unfold Lib.toUpperA; rw [List.length_map, List.length_take, ← Lib.size_eq]; omega
    have hel : ((Lib.toUpperA (s.data.toList.take k)) ++ s.data.toList.drop k)[k] = s[k] := by
      rw [List.getElem_append_right (by omega), List.getElem_drop, getElem_list s k hlt]
      congr 1; omega
    have hck := hr.cell hkl
    rw [hel] at hck
    have hfz := hr.frozen hkl
    have hsd : s.data.toList.drop k = s[k] :: s.data.toList.drop (k + 1) := by rw [getElem_list s k hlt]; exact List.drop_eq_getElem_cons (by rw [← Lib.size_eq]; exact hlt)
    have HST : Hid (∀ b : UInt8, Lib.upperB s[k] = b → ((Lib.toUpperA (s.data.toList.take k)) ++ s.data.toList.drop k).set k b = (Lib.toUpperA (s.data.toList.take (k + 1))) ++ s.data.toList.drop (k + 1)) := Lib.hid (fun b hb2 => by
      rw [hsd, List.set_append_right _ _ (by omega), hfl, Nat.sub_self, List.set_cons_zero, take_snoc s k hlt]
      unfold Lib.toUpperA
      rw [List.map_append, List.map_cons, List.map_nil, hb2]; simp)
    have HSN : Hid (Lib.upperB s[k] = s[k] → (Lib.toUpperA (s.data.toList.take k)) ++ s.data.toList.drop k = (Lib.toUpperA (s.data.toList.take (k + 1))) ++ s.data.toList.drop (k + 1)) := Lib.hid (fun hb2 => by
      rw [hsd, take_snoc s k hlt]
      unfold Lib.toUpperA
      rw [List.map_append, List.map_cons, List.map_nil, hb2]; simp)
    clear hr hb hel hsd hfl hlen
    have HKL := Lib.hid hkl
    clear hkl
    obtain ⟨c, hc⟩ : ∃ c, s[k] = c := ⟨_, rfl⟩
    rw [hc] at hck HST HSN
    clear hc
    have hc0 : c.toNat < 256 := c.toNat_lt
    by_cases h1 : 97 ≤ c.toNat ∧ c.toNat ≤ 122
    · have d1 : decide ((97 : Int) ≤ (c.toNat : Int)) = true := by rw [decide_eq_true_iff]; omega
      have d2 : decide ((c.toNat : Int) ≤ (122 : Int)) = true := by rw [decide_eq_true_iff]; omega
      have HLB := Lib.hid (up_yes c h1)
      have HVV : Hid (((Lib.upperB c).toNat : Int) = (c.toNat : Int) - 97 + 65) := Lib.hid (by rw [HLB.out]; omega)
      go_wp2
      go_roundw
      case rel =>
        refine ⟨k + 1, by omega, by go_num, ?_, HB.out.setCell (p := ⟨g, k, none⟩) (by rw [HG.out]; exact Nat.le_refl _) _⟩
        have h := HR.out.set k (Lib.upperB c)
        rw [HST.out _ rfl, HVV.out] at h
        exact h
      case measure => simp [intOf]; omega
    · rcases (show (¬ 97 ≤ c.toNat) ∨ (97 ≤ c.toNat ∧ ¬ c.toNat ≤ 122) by omega) with h2 | ⟨h2, h3⟩
      all_goals
        have HLB := Lib.hid (up_no c h1)
        first
          | (have d1 : decide ((97 : Int) ≤ (c.toNat : Int)) = false := by rw [decide_eq_false_iff_not]; omega)
          | (have d1 : decide ((97 : Int) ≤ (c.toNat : Int)) = true := by rw [decide_eq_true_iff]; omega
             have d2 : decide ((c.toNat : Int) ≤ (122 : Int)) = false := by rw [decide_eq_false_iff_not]; omega)
        clear h1
        go_wp2
        go_roundw
        case rel => exact ⟨k + 1, by omega, by go_num, by rw [← HSN.out HLB.out]; exact HR.out, HB.out⟩
        case measure => simp [intOf]; omega
end Go.Proofs.YtfijncfoefbohaaGreatDoor

namespace Go.Proofs.YtfijncfoefbohaaGreatDoor
open Go Go.RowKit

def knL : List ByteArray := [⟨#[80, 97, 116, 104]⟩, ⟨#[68, 111, 109, 97, 105, 110]⟩, ⟨#[77, 97, 120, 45, 65, 103, 101]⟩, ⟨#[83, 101, 99, 117, 114, 101]⟩, ⟨#[72, 116, 116, 112, 79, 110, 108, 121]⟩, ⟨#[83, 97, 109, 101, 83, 105, 116, 101]⟩, ⟨#[80, 97, 114, 116, 105, 116, 105, 111, 110, 101, 100]⟩]
def knC : Array Value := #[.string ⟨#[80, 97, 116, 104]⟩, .string ⟨#[68, 111, 109, 97, 105, 110]⟩, .string ⟨#[77, 97, 120, 45, 65, 103, 101]⟩, .string ⟨#[83, 101, 99, 117, 114, 101]⟩, .string ⟨#[72, 116, 116, 112, 79, 110, 108, 121]⟩, .string ⟨#[83, 97, 109, 101, 83, 105, 116, 101]⟩, .string ⟨#[80, 97, 114, 116, 105, 116, 105, 111, 110, 101, 100]⟩]

theorem known_any (w : World) : Calls Tryz.prog 26 #[] w fun e w' => e = .returned (.slice (some ⟨w.heap.size, 0, none⟩) 7 7) ∧ w' = w.alloc (.cells knC 9) := by
  unfold knC
  go_enter Tryz.func26, Tryz.ntmps26
  go_wp2
  go_ret
  exact ⟨rfl, rfl⟩

theorem mode_any (s : ByteArray) (w : World) (hs : s.size ≤ 4398046511104) :
    Calls Tryz.prog 25 #[.string s] w fun e w' => e = .returned (.int .i64 (siteOf s.data.toList)) ∧ Below w.heap.size w w' := by
  go_enter Tryz.func25, Tryz.ntmps25
  go_wp2_with fail
  refine (s_Lower_any s w hs).mono ?_
  rintro e w1 ⟨⟨x, rfl, hx⟩, hb⟩
  have HB := Lib.hid hb
  have HX := Lib.hid hx
  have key : ∀ k : List UInt8, (x.toList == k) = true ∨ (x.toList == k) = false := fun k => by cases (x.toList == k) <;> simp
  have hq : ∀ k : List UInt8, (x.toList == k) = true → Lib.toLowerA s.data.toList = k := fun k h => by
    rw [Lib.toList_data, hx] at h; simpa using h
  have hn : ∀ k : List UInt8, (x.toList == k) = false → Lib.toLowerA s.data.toList ≠ k := fun k h => by
    rw [Lib.toList_data, hx] at h; simpa using h
  have HQ := Lib.hid hq
  have HN := Lib.hid hn
  clear hb hx hq hn
  rcases key [108, 97, 120] with h1 | h1
  · have R : Hid (siteOf s.data.toList = 2) := Lib.hid (by unfold siteOf kLax kStrict kNone; rw [if_pos (HQ.out _ h1)])
    clear key
    go_wp2
    go_ret
    exact ⟨ret_int R.out.symm, HB.out⟩
  rcases key [115, 116, 114, 105, 99, 116] with h2 | h2
  · have R : Hid (siteOf s.data.toList = 3) := Lib.hid (by unfold siteOf kLax kStrict kNone; rw [if_neg (HN.out _ h1), if_pos (HQ.out _ h2)])
    clear key
    go_wp2
    go_ret
    exact ⟨ret_int R.out.symm, HB.out⟩
  rcases key [110, 111, 110, 101] with h3 | h3
  · have R : Hid (siteOf s.data.toList = 4) := Lib.hid (by unfold siteOf kLax kStrict kNone; rw [if_neg (HN.out _ h1), if_neg (HN.out _ h2), if_pos (HQ.out _ h3)])
    clear key
    go_wp2
    go_ret
    exact ⟨ret_int R.out.symm, HB.out⟩
  have R : Hid (siteOf s.data.toList = 1) := Lib.hid (by unfold siteOf kLax kStrict kNone; rw [if_neg (HN.out _ h1), if_neg (HN.out _ h2), if_neg (HN.out _ h3)])
  clear key
  go_wp2
  go_ret
  exact ⟨ret_int R.out.symm, HB.out⟩

theorem foldD_lt : ∀ (l : List UInt8) (acc n : Nat), digs l → acc < n → foldD acc l < n * 10 ^ l.length
  | [], acc, n, _, h => by simpa [foldD] using h
  | c :: r, acc, n, hd, h => by
    have hc := hd c (by simp)
    rw [foldD_cons, List.length_cons, Nat.pow_succ, Nat.mul_comm (10 ^ r.length) 10, ← Nat.mul_assoc]
    exact foldD_lt r _ _ (fun b hb => hd b (by simp [hb])) (by omega)
theorem foldD_snoc (l : List UInt8) (c : UInt8) : foldD 0 (l ++ [c]) = foldD 0 l * 10 + (c.toNat - 48) := by rw [foldD_app]; rfl
structure NumOk (l : List UInt8) (n : Int) : Prop where
  digs : digs l
  ne : l ≠ []
  len : l.length ≤ 9
  val : n = (foldD 0 l : Int)
  head : l.head? = some 48 → foldD 0 l = 0

def NumPost (l : List UInt8) (e : Ending) : Prop := ∃ (n : Int) (ok : Bool), e = .returned (.tuple #[.int .i64 n, .bool ok]) ∧ (ok = true → NumOk l n)
set_option maxHeartbeats 4000000 in
theorem number_any (s : ByteArray) (w : World) (hs : s.size ≤ 4398046511104) :
    Calls Tryz.prog 24 #[.string s] w fun e w' => NumPost s.data.toList e ∧ w = w' := by
  go_enter Tryz.func24, Tryz.ntmps24
  go_wp2
  go_loop [4, 8] (fun v i => ∃ (k : Nat) (n : Int), k ≤ s.size ∧ i = .int .i64 k ∧ v = .int .i64 n ∧ digs (s.data.toList.take k) ∧ (k ≤ 9 → n = (foldD 0 (s.data.toList.take k) : Int))) (fun _ i => s.size - (intOf i).toNat)
  case atStart => exact ⟨0, 0, Nat.zero_le _, rfl, rfl, fun b hb => by simp at hb, fun _ => rfl⟩
  case round =>
    obtain ⟨k, n, hk, rfl, rfl, hdg, hn⟩ := hrel
    have HDG := Lib.hid hdg
    have HN := Lib.hid hn
    clear hdg hn
    by_cases hlt : k < s.size
    case pos =>
      have hd : decide (k < s.size) = true := by rw [decide_eq_true_iff]; exact hlt
      have HT := Lib.hid (take_snoc s k hlt)
      obtain ⟨c, hc⟩ : ∃ c, s[k] = c := ⟨_, rfl⟩
      have HC := Lib.hid hc
      have hc0 : c.toNat < 256 := c.toNat_lt
      by_cases h1 : 48 ≤ c.toNat ∧ c.toNat ≤ 57
      · have hdb : digB (s[k].toNat : Int) = true := by rw [hc]; unfold digB; rw [decide_eq_true_iff]; omega
        have HDB := Lib.hid hdb
        have HD2 : Hid (digs (s.data.toList.take (k + 1))) := Lib.hid (by
          rw [HT.out]
          intro b hb
          rcases List.mem_append.1 hb with hb | hb
          · exact HDG.out b hb
          · simp only [List.mem_singleton] at hb
            rw [hb, HC.out]; exact h1)
        by_cases h9 : k < 9
        · have hv := HN.out (by omega)
          have hlt9 : foldD 0 (s.data.toList.take k) < 1000000000 := by
            have h2 := foldD_lt (s.data.toList.take k) 0 1 HDG.out (by omega)
            have h3 : (s.data.toList.take k).length ≤ 9 := by rw [List.length_take]; omega
            have h4 : 10 ^ (s.data.toList.take k).length ≤ 10 ^ 9 := Nat.pow_le_pow_right (by omega) h3
            omega
          obtain ⟨m, hm⟩ : ∃ m, foldD 0 (s.data.toList.take k) = m := ⟨_, rfl⟩
          rw [hm] at hv hlt9
          have HM := Lib.hid hm
          subst hv
          have HV2 : Hid (((m : Int) * 10 + ((s[k].toNat : Int) - 48) % 256) = (foldD 0 (s.data.toList.take (k + 1)) : Int)) := Lib.hid (by
            rw [HT.out, foldD_snoc, HM.out, HC.out]
            omega)
          clear hm hdb HT hc
          go_wp2_with (go_at_call 21; refine (s_digit_any _ _).mono ?_; rintro e w' ⟨rfl, rfl⟩; rw [HDB.out])
          go_round
          case rel => exact ⟨k + 1, _, by omega, by go_num, rfl, HD2.out, fun _ => HV2.out⟩
          case measure => simp [intOf]; omega
        · clear hc hdb
          go_wp2_with (go_at_call 21; refine (s_digit_any _ _).mono ?_; rintro e w' ⟨rfl, rfl⟩; rw [HDB.out])
          go_round
          case rel => exact ⟨k + 1, _, by omega, by go_num, rfl, HD2.out, fun h => absurd h (by omega)⟩
          case measure => simp [intOf]; omega
      · have hdb : digB (s[k].toNat : Int) = false := by rw [hc]; unfold digB; rw [decide_eq_false_iff_not]; omega
        have HDB := Lib.hid hdb
        clear hc hdb
        go_wp2_with (go_at_call 21; refine (s_digit_any _ _).mono ?_; rintro e w' ⟨rfl, rfl⟩; rw [HDB.out])
        go_ret2
        exact ⟨⟨_, _, rfl, fun h => by cases h⟩, rfl⟩
    have hd : decide (k < s.size) = false := by rw [decide_eq_false_iff_not]; exact hlt
    have hke : k = s.size := by omega
    have hal : s.data.toList.take k = s.data.toList := take_all s k (by omega)
    rw [hal] at HDG HN
    by_cases h1 : 1 ≤ s.size ∧ s.size ≤ 9
    · obtain ⟨h1, h9⟩ := h1
      have hn := HN.out (by omega)
      have hne : s.data.toList ≠ [] := by intro e; rw [Lib.size_eq, e] at h1; simp at h1
      have hl9 : s.data.toList.length ≤ 9 := by rw [← Lib.size_eq]; exact h9
      have hh : s.data.toList.head? = some s[0] := by rw [getElem_list s 0 h1, List.head?_eq_getElem?, List.getElem?_eq_getElem]
      have HR : Hid ((s[0] = 48 → s.size = 1) → NumOk s.data.toList n) := Lib.hid (fun h => ⟨HDG.out, hne, hl9, hn, fun h2 => by
        rw [hh] at h2
        simp only [Option.some.injEq] at h2
        have h3 := h h2
        have h4 : s.data.toList = [s[0]] := by
          have h5 : s.data.toList.length = 1 := by rw [← Lib.size_eq]; exact h3
          match hm : s.data.toList, h5 with
          | [a], _ =>
            rw [hm] at hh
            simp only [List.head?_cons, Option.some.injEq] at hh
            rw [hh]
        rw [h4, h2]; rfl⟩)
      have e1 : decide ((1 : Int) ≤ (s.size : Int)) = true := by rw [decide_eq_true_iff]; omega
      have e2 : decide ((s.size : Int) ≤ 9) = true := by rw [decide_eq_true_iff]; omega
      have e1' : decide (1 ≤ s.size) = true := by rw [decide_eq_true_iff]; omega
      have e2' : decide (s.size ≤ 9) = true := by rw [decide_eq_true_iff]; omega
      clear hn hne hl9 hh hal HN HDG
      by_cases h48 : s[0] = 48
      · have e3 : ((s[0].toNat : Int) == 48) = true := by rw [h48]; rfl
        by_cases hs1 : s.size = 1
        · have HR2 := Lib.hid (HR.out (fun _ => hs1))
          have e4 : ((s.size : Int) == 1) = true := by rw [beq_iff_eq]; omega
          have e5 : (s.size == 1) = true := by rw [beq_iff_eq]; exact hs1
          clear HR h48 hs1
          go_wp2
          all_goals
            go_ret2
            exact ⟨⟨_, _, rfl, fun _ => HR2.out⟩, rfl⟩
        · have e4 : ((s.size : Int) == 1) = false := by rw [beq_eq_false_iff_ne]; omega
          have e5 : (s.size == 1) = false := by rw [beq_eq_false_iff_ne]; exact hs1
          clear HR h48 hs1
          go_wp2
          all_goals
            go_ret2
            exact ⟨⟨_, _, rfl, fun h => by first | (cases h; done) | (exfalso; simp at e4 e3; omega)⟩, rfl⟩
      · have HR2 := Lib.hid (HR.out (fun h => absurd h h48))
        have e3 : ((s[0].toNat : Int) == 48) = false := by rw [beq_eq_false_iff_ne]; intro h; exact h48 (UInt8.toNat_inj.1 (by show s[0].toNat = 48; omega))
        clear HR h48
        go_wp2
        all_goals
          go_ret2
          exact ⟨⟨_, _, rfl, fun _ => HR2.out⟩, rfl⟩
    · rcases (show (¬ 1 ≤ s.size) ∨ (1 ≤ s.size ∧ ¬ s.size ≤ 9) by omega) with h2 | ⟨h2, h3⟩
      · have e1 : decide ((1 : Int) ≤ (s.size : Int)) = false := by rw [decide_eq_false_iff_not]; omega
        have e1' : decide (1 ≤ s.size) = false := by rw [decide_eq_false_iff_not]; omega
        clear h1
        go_wp2
        all_goals
          go_ret2
          exact ⟨⟨_, _, rfl, fun h => by cases h⟩, rfl⟩
      · have e1 : decide ((1 : Int) ≤ (s.size : Int)) = true := by rw [decide_eq_true_iff]; omega
        have e1' : decide (1 ≤ s.size) = true := by rw [decide_eq_true_iff]; omega
        have e2 : decide ((s.size : Int) ≤ 9) = false := by rw [decide_eq_false_iff_not]; omega
        have e2' : decide (s.size ≤ 9) = false := by rw [decide_eq_false_iff_not]; omega
        clear h1
        go_wp2
        all_goals
          go_ret2
          exact ⟨⟨_, _, rfl, fun h => by cases h⟩, rfl⟩
end Go.Proofs.YtfijncfoefbohaaGreatDoor

namespace Go.Proofs.YtfijncfoefbohaaGreatDoor
open Go Go.RowKit

structure Pt where
  kind : Int
  name : ByteArray
  value : ByteArray
  cas : Int
def Pt.cells (p : Pt) : Array Value := #[.int .i64 p.kind, .string p.name, .string p.value, .int .i64 p.cas]
def kn (k : Int) : List UInt8 := ((knL.getD k.toNat ⟨#[]⟩).data).toList
def baseT (p : Pt) : List UInt8 := if p.kind < 7 then kn p.kind else p.name.data.toList
def caseT (c : Int) (l : List UInt8) : List UInt8 := if c = 1 then Lib.toLowerA l else if c = 2 then Lib.toUpperA l else l
def nameT (p : Pt) : List UInt8 := caseT p.cas (baseT p)
def flagK (p : Pt) : Bool := decide (p.kind = 3) || (decide (p.kind = 4) || (decide (p.kind = 6) || (decide (p.kind = 7) && p.value.data.toList.isEmpty)))
def textT (p : Pt) : List UInt8 := if flagK p then nameT p else nameT p ++ 61 :: p.value.data.toList
def keys8 : List (List UInt8) := [kPath, kDomain, kAge, kSecure, kHttp, kSame, kPart, [101, 120, 112, 105, 114, 101, 115]]
structure TextOk (p : Pt) : Prop where
  lo : 0 ≤ p.kind
  hi : p.kind ≤ 7
  val : allB octB p.value.data.toList = true
  name : p.kind = 7 → tokS p.name.data.toList = true ∧ Lib.toLowerA p.name.data.toList ∉ keys8
  flag : flagK p = true → p.value.data.toList = []

theorem low_low (c : UInt8) : Lib.lowerB (Lib.lowerB c) = Lib.lowerB c := by
  by_cases h : 65 ≤ c.toNat ∧ c.toNat ≤ 90
  · refine low_no _ ?_
    rw [low_yes c h]; omega
  · rw [low_no c h, low_no c h]
theorem low_up (c : UInt8) : Lib.lowerB (Lib.upperB c) = Lib.lowerB c := by
  by_cases h : 97 ≤ c.toNat ∧ c.toNat ≤ 122
  · have h1 := up_yes c h
    refine UInt8.toNat_inj.1 ?_
    rw [low_yes (Lib.upperB c) (by rw [h1]; omega), h1, low_no c (by omega)]
    omega
  · rw [up_no c h]
theorem lower_case (k : Int) (l : List UInt8) : Lib.toLowerA (caseT k l) = Lib.toLowerA l := by
  unfold caseT
  split
  · unfold Lib.toLowerA; rw [List.map_map]; exact List.map_congr_left fun c _ => low_low c
  · split
    · unfold Lib.toLowerA Lib.toUpperA; rw [List.map_map]; exact List.map_congr_left fun c _ => low_up c
    · rfl
theorem tok_low (c : UInt8) (h : tokB c.toNat = true) : tokB (Lib.lowerB c).toNat = true := by
  by_cases h1 : 65 ≤ c.toNat ∧ c.toNat ≤ 90
  · rw [low_yes c h1]
    unfold tokB
    rw [decide_eq_true_eq]
    have : ((c.toNat + 32 : Nat) : Int) = (c.toNat : Int) + 32 := by omega
    omega
  · rw [low_no c h1]; exact h
theorem tok_up (c : UInt8) (h : tokB c.toNat = true) : tokB (Lib.upperB c).toNat = true := by
  by_cases h1 : 97 ≤ c.toNat ∧ c.toNat ≤ 122
  · rw [up_yes c h1]
    unfold tokB
    rw [decide_eq_true_eq]
    omega
  · rw [up_no c h1]; exact h
theorem tok_case (k : Int) {l : List UInt8} (h : tokS l = true) : tokS (caseT k l) = true := by
  have hb := tok_mem h
  have hne := tok_ne h
  have mk : ∀ m : List UInt8, m ≠ [] → (∀ b ∈ m, tokB b.toNat = true) → tokS m = true := by
    intro m h1 h2
    unfold tokS allB
    cases m with
    | nil => exact absurd rfl h1
    | cons a r =>
      rw [List.all_eq_true.2 h2]; rfl
  unfold caseT
  split
  · refine mk _ (by unfold Lib.toLowerA; simpa using hne) (fun b hm => ?_)
    obtain ⟨c, hc, rfl⟩ := List.mem_map.1 hm
    exact tok_low c (hb c hc)
  · split
    · refine mk _ (by unfold Lib.toUpperA; simpa using hne) (fun b hm => ?_)
      obtain ⟨c, hc, rfl⟩ := List.mem_map.1 hm
      exact tok_up c (hb c hc)
    · exact h
theorem kn_tok : ∀ k : Int, 0 ≤ k → k < 7 → tokS (kn k) = true := by
  intro k h1 h2
  rcases (show k = 0 ∨ k = 1 ∨ k = 2 ∨ k = 3 ∨ k = 4 ∨ k = 5 ∨ k = 6 by omega) with rfl | rfl | rfl | rfl | rfl | rfl | rfl <;> decide
theorem base_tok {p : Pt} (h : TextOk p) : tokS (baseT p) = true := by
  unfold baseT
  split
  · exact kn_tok _ h.lo (by assumption)
  · exact (h.name (by have := h.hi; omega)).1
theorem name_tok {p : Pt} (h : TextOk p) : tokS (nameT p) = true := tok_case _ (base_tok h)
theorem name_low (p : Pt) : Lib.toLowerA (nameT p) = Lib.toLowerA (baseT p) := lower_case _ _
/-- What a part does to the cookie that is wanted. -/
def partPC (p : Pt) (pc : PC) : PC :=
  if p.kind = 0 then { pc with path := p.value.data.toList }
  else if p.kind = 1 then { pc with domain := p.value.data.toList }
  else if p.kind = 3 then { pc with secure := true }
  else if p.kind = 4 then { pc with http := true }
  else if p.kind = 5 then { pc with site := siteOf p.value.data.toList }
  else if p.kind = 6 then { pc with part := true }
  else { pc with unp := pc.unp ++ [textT p] }
theorem text_step {p : Pt} (h : TextOk p) (pc : PC) : attrStep pc (32 :: textT p) = setAttr pc (textT p) (Lib.toLowerA (baseT p)) p.value.data.toList := by
  unfold textT
  rcases hf : flagK p with _ | _
  · rw [if_neg (by simp), step_attr (name_tok h) h.val, name_low]
  · rw [if_pos rfl, step_flag (name_tok h), name_low, h.flag hf]
theorem base_of {p : Pt} (h : p.kind < 7) : baseT p = kn p.kind := if_pos h
theorem part_step {p : Pt} (h : TextOk p) (h2 : p.kind ≠ 2) (pc : PC) : attrStep pc (32 :: textT p) = partPC p pc := by
  rw [text_step h]
  have hlo := h.lo
  have hhi := h.hi
  unfold partPC
  rcases (show p.kind = 0 ∨ p.kind = 1 ∨ p.kind = 3 ∨ p.kind = 4 ∨ p.kind = 5 ∨ p.kind = 6 ∨ p.kind = 7 by omega) with hk | hk | hk | hk | hk | hk | hk
  · rw [base_of (by omega), hk, show Lib.toLowerA (kn 0) = kPath by decide]; exact set_path _ _ _
  · rw [base_of (by omega), hk, show Lib.toLowerA (kn 1) = kDomain by decide]; exact set_domain _ _ _
  · rw [base_of (by omega), hk, show Lib.toLowerA (kn 3) = kSecure by decide]; exact set_secure _ _ _
  · rw [base_of (by omega), hk, show Lib.toLowerA (kn 4) = kHttp by decide]; exact set_http _ _ _
  · rw [base_of (by omega), hk, show Lib.toLowerA (kn 5) = kSame by decide]; exact set_same _ _ _
  · rw [base_of (by omega), hk, show Lib.toLowerA (kn 6) = kPart by decide]; exact set_part _ _ _
  · have hb : baseT p = p.name.data.toList := if_neg (by omega)
    obtain ⟨-, hn⟩ := h.name hk
    rw [hb, hk, if_neg (by decide), if_neg (by decide), if_neg (by decide), if_neg (by decide), if_neg (by decide), if_neg (by decide)]
    unfold keys8 at hn
    simp only [List.mem_cons, List.not_mem_nil, or_false, not_or] at hn
    obtain ⟨n1, n2, n3, n4, n5, n6, n7, -⟩ := hn
    unfold setAttr
    rw [if_neg n6, if_neg n4, if_neg n5, if_neg n2, if_neg n3, if_neg n1, if_neg n7]
/-- Max-Age. -/
theorem age_step {p : Pt} (h : TextOk p) (h2 : p.kind = 2) (pc : PC) {n : Int} (ha : ageOf p.value.data.toList = some n) : attrStep pc (32 :: textT p) = { pc with age := n } := by
  rw [text_step h, base_of (by omega), h2, show Lib.toLowerA (kn 2) = kAge by decide]
  exact set_age _ _ _ _ ha
theorem text_last {p : Pt} (h : TextOk p) : lastOk (textT p) := by
  unfold textT
  rcases hf : flagK p with _ | _
  · rw [if_neg (by simp)]; exact lastOk_pair h.val
  · rw [if_pos rfl]; exact lastOk_tok (name_tok h)
theorem tok_no59 {l : List UInt8} (h : tokS l = true) : no59 l := fun x hx => (tok_byte (tok_mem h x hx)).2.1
theorem oct_no59 {l : List UInt8} (h : allB octB l = true) : no59 l := fun x hx => (oct_byte (allB_mem h x hx)).1
theorem text_no59 {p : Pt} (h : TextOk p) : no59 (textT p) := by
  unfold textT
  rcases hf : flagK p with _ | _
  · rw [if_neg (by simp)]
    refine no59_app (tok_no59 (name_tok h)) ?_
    intro x hx
    rcases List.mem_cons.1 hx with rfl | hx
    · decide
    · exact oct_no59 h.val x hx
  · rw [if_pos rfl]; exact tok_no59 (name_tok h)

/-! ### The line -/
def headT (n v : List UInt8) (q : Bool) : List UInt8 := n ++ 61 :: quoL v q
/-- A LINE OF A NAME, A VALUE AND TEXTS SETS THE COOKIE THAT IS WANTED. -/
theorem line_set {n v : List UInt8} {q : Bool} {ts : List (List UInt8)} (hn : tokS n = true) (hv : allB octB v = true) (h1 : ∀ t ∈ ts, lastOk t) (h2 : ∀ t ∈ ts, no59 t) (line : List UInt8) (hl : line = headT n v q ++ items ts) :
    setP line = some ((ts.map fun t => 32 :: t).foldl attrStep ⟨n, v, q, [], [], 0, false, false, 0, false, line, []⟩) := by
  have h61 : ∀ b ∈ n, b ≠ 61 := fun b hb => (tok_byte (tok_mem hn b hb)).1
  have h34 : ∀ b ∈ v, b ≠ 34 := fun b hb => (oct_byte (allB_mem hv b hb)).2.1
  have hsp : ∀ b ∈ v, spU b = false := fun b hb => (oct_byte (allB_mem hv b hb)).2.2.1
  have hlast : lastOk (headT n v q) := ⟨by unfold headT; simp, pair_last (fun _ => hsp)⟩
  have hhead : ∀ b, (headT n v q).head? = some b → spU b = false := pair_head hn
  have h59 : no59 (headT n v q) := by
    unfold headT
    refine no59_app (tok_no59 hn) ?_
    intro x hx
    rcases List.mem_cons.1 hx with rfl | hx
    · decide
    · unfold quoL at hx
      split at hx
      · rcases List.mem_cons.1 hx with rfl | hx
        · decide
        · rcases List.mem_append.1 hx with hx | hx
          · exact oct_no59 hv x hx
          · simp at hx; subst hx; decide
      · exact oct_no59 hv x hx
  have htr : trimL line = line := by rw [hl]; exact trim_items _ _ hhead hlast h1
  have hta : trimL (headT n v q) = headT n v q := trim_id hhead hlast.2
  have hho : headOk (headT n v q) = true := by
    unfold headOk headT
    rw [hasB_eq, cutA_eq h61, cutB_eq h61, tok_trim hn, hn, quo_strip _ h34, oct_val hv]
    rfl
  unfold setP
  rw [htr]
  have hspl : splitL 59 line = headT n v q :: ts.map (fun t => 32 :: t) := by rw [hl]; exact split_items _ _ h59 h2
  rw [hspl]
  simp only [hta, hho, if_true]
  congr 2
  unfold headIs headT
  rw [cutA_eq h61, cutB_eq h61, tok_trim hn, quo_strip _ h34, quo_q _ h34]
end Go.Proofs.YtfijncfoefbohaaGreatDoor
