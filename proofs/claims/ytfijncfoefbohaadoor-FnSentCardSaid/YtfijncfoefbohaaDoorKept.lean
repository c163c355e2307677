/- The reference's Kept, Blank, Written; the package's sanitizers of values and paths. -/
import Derived.Test.YtfijncfoefbohaaDoorSan
namespace Go.Proofs.YtfijncfoefbohaaDoor
open Go Go.RowKit

def blankB (n : Int) : Bool := (n == 32) || (n == 44)
theorem app_data (a b : ByteArray) : (a ++ b).data.toList = a.data.toList ++ b.data.toList := by
  rw [ByteArray.data_append, Array.toList_append]
theorem quo_data (s : ByteArray) : (({ data := #[34] } : ByteArray) ++ s ++ { data := #[34] }).data.toList = 34 :: (s.data.toList ++ [34]) := by
  rw [app_data, app_data]; rfl
def writL (l : List UInt8) (q : Bool) : List UInt8 := if q || anyB blankB l then 34 :: (l ++ [34]) else l

set_option maxHeartbeats 1600000 in
theorem s_Kept_false (s : ByteArray) (w : World) (hs : s.size ≤ 4398046511104) :
    Calls Tryd.prog 23 #[.string s, .bool false] w fun e w' => StrPost (keepB valB s.data.toList) e ∧ Below w.heap.size w w' := by
  obtain ⟨B, hB⟩ : ∃ B, B = w.heap.size := ⟨_, rfl⟩
  have HB := Lib.hid hB
  have hB0 : B ≤ w.heap.size := by omega
  clear hB
  go_enter Tryd.func23, Tryd.ntmps23
  go_wp2
  go_loopw [5, 9] (fun v i wr => ∃ k : Nat, k ≤ s.size ∧ i = .int .i64 k ∧ wr.ownsRow B 5 1 v (keepB valB (s.data.toList.take k)).length (Lib.byteCells (keepB valB (s.data.toList.take k))) ∧ Below B w wr) (fun _ i _ => s.size - (intOf i).toNat)
  case atStart => exact ⟨0, Nat.zero_le _, rfl, World.ownsRow_nil _ _ _ _, Below.refl _ _⟩
  case round =>
    obtain ⟨k, hk, rfl, hown, hbel⟩ := hrel
    have hsz := hbel.size
    by_cases hlt : k < s.size
    · by_cases hok : valB (s[k].toNat : Int) = true
      · have hle := keepB_le valB (s.data.toList.take k)
        have hle2 := List.length_take_le k s.data.toList
        have HST := Lib.hid (keepB_step valB s k hlt hok)
        go_wp2_with (first
          | (go_at_call 53; refine (s_ValueByte_any _ _).mono ?_; rintro e w' ⟨rfl, rfl⟩)
          | (at_builtin; refine wpList_app1 rfl (.tmp 29) (.tmp 33) _ _ rfl _ _ Tryd.underlying62 byteInfo' rfl B _ _ _ rfl hown (.int .u8 (s[k].toNat : Int)) rfl rfl ?d1 ?d2 ?d3 ?_))
        case d1 => omega
        case d2 => omega
        case d3 => omega
        intro g cap w2 hown1 hb2 hg1 hat hBg
        have R : w2.ownsRow B 5 1 (.slice (some ⟨g, 0, none⟩) ((keepB valB (s.data.toList.take k)).length + 1) cap) (keepB valB (s.data.toList.take (k + 1))).length (Lib.byteCells (keepB valB (s.data.toList.take (k + 1)))) := by
          rw [HST.out, Lib.byteCells_append, List.length_append]; exact hown1
        have hb3 := hbel.trans hb2
        clear hown1 hb2 hg1 hat hown hbel
        go_wp2
        go_roundw
        case rel => exact ⟨k + 1, by omega, by go_num, R, hb3⟩
        case measure => simp [intOf]; omega
      · have hok' : valB (s[k].toNat : Int) = false := by simpa using hok
        have HST := Lib.hid (keepB_skip valB s k hlt hok')
        clear hok
        go_wp2_with (go_at_call 53; refine (s_ValueByte_any _ _).mono ?_; rintro e w' ⟨rfl, rfl⟩)
        go_roundw
        case rel => exact ⟨k + 1, by omega, by go_num, by rw [HST.out]; exact hown, hbel⟩
        case measure => simp [intOf]; omega
    · have hta := take_all s k (by omega)
      rw [hta] at hown
      have hcv := conv_own hown
      clear hta
      go_wp2
      go_ret
      exact ⟨⟨_, rfl, rfl⟩, by have := HB.out; rw [← this]; exact hbel⟩

set_option maxHeartbeats 1600000 in
theorem s_Kept_true (s : ByteArray) (w : World) (hs : s.size ≤ 4398046511104) :
    Calls Tryd.prog 23 #[.string s, .bool true] w fun e w' => StrPost (keepB pathB s.data.toList) e ∧ Below w.heap.size w w' := by
  obtain ⟨B, hB⟩ : ∃ B, B = w.heap.size := ⟨_, rfl⟩
  have HB := Lib.hid hB
  have hB0 : B ≤ w.heap.size := by omega
  clear hB
  go_enter Tryd.func23, Tryd.ntmps23
  go_wp2
  go_loopw [5, 9] (fun v i wr => ∃ k : Nat, k ≤ s.size ∧ i = .int .i64 k ∧ wr.ownsRow B 5 1 v (keepB pathB (s.data.toList.take k)).length (Lib.byteCells (keepB pathB (s.data.toList.take k))) ∧ Below B w wr) (fun _ i _ => s.size - (intOf i).toNat)
  case atStart => exact ⟨0, Nat.zero_le _, rfl, World.ownsRow_nil _ _ _ _, Below.refl _ _⟩
  case round =>
    obtain ⟨k, hk, rfl, hown, hbel⟩ := hrel
    have hsz := hbel.size
    by_cases hlt : k < s.size
    · by_cases hok : pathB (s[k].toNat : Int) = true
      · have hle := keepB_le pathB (s.data.toList.take k)
        have hle2 := List.length_take_le k s.data.toList
        have HST := Lib.hid (keepB_step pathB s k hlt hok)
        go_wp2_with (first
          | (go_at_call 52; refine (s_PathByte_any _ _).mono ?_; rintro e w' ⟨rfl, rfl⟩)
          | (at_builtin; refine wpList_app1 rfl (.tmp 29) (.tmp 33) _ _ rfl _ _ Tryd.underlying62 byteInfo' rfl B _ _ _ rfl hown (.int .u8 (s[k].toNat : Int)) rfl rfl ?d1 ?d2 ?d3 ?_))
        case d1 => omega
        case d2 => omega
        case d3 => omega
        intro g cap w2 hown1 hb2 hg1 hat hBg
        have R : w2.ownsRow B 5 1 (.slice (some ⟨g, 0, none⟩) ((keepB pathB (s.data.toList.take k)).length + 1) cap) (keepB pathB (s.data.toList.take (k + 1))).length (Lib.byteCells (keepB pathB (s.data.toList.take (k + 1)))) := by
          rw [HST.out, Lib.byteCells_append, List.length_append]; exact hown1
        have hb3 := hbel.trans hb2
        clear hown1 hb2 hg1 hat hown hbel
        go_wp2
        go_roundw
        case rel => exact ⟨k + 1, by omega, by go_num, R, hb3⟩
        case measure => simp [intOf]; omega
      · have hok' : pathB (s[k].toNat : Int) = false := by simpa using hok
        have HST := Lib.hid (keepB_skip pathB s k hlt hok')
        clear hok
        go_wp2_with (go_at_call 52; refine (s_PathByte_any _ _).mono ?_; rintro e w' ⟨rfl, rfl⟩)
        go_roundw
        case rel => exact ⟨k + 1, by omega, by go_num, by rw [HST.out]; exact hown, hbel⟩
        case measure => simp [intOf]; omega
    · have hta := take_all s k (by omega)
      rw [hta] at hown
      have hcv := conv_own hown
      clear hta
      go_wp2
      go_ret
      exact ⟨⟨_, rfl, rfl⟩, by have := HB.out; rw [← this]; exact hbel⟩

set_option maxHeartbeats 400000 in
theorem s_Blank_any (s : ByteArray) (w : World) (hs : s.size ≤ maxLen) :
    Calls Tryd.prog 41 #[.string s] w fun e w' => e = .returned (.bool (anyB blankB s.data.toList)) ∧ w = w' := by
  unfold maxLen at hs
  go_enter Tryd.func41, Tryd.ntmps41
  go_wp2
  go_loop [6] (fun i => ∃ k : Nat, k ≤ s.size ∧ i = .int .i64 k ∧ anyB blankB (s.data.toList.take k) = false) (fun i => s.size - (intOf i).toNat)
  case atStart => exact ⟨0, Nat.zero_le _, rfl, rfl⟩
  case round =>
    obtain ⟨k, hk, rfl, ha⟩ := hrel
    have HA := Lib.hid ha; clear ha
    by_cases hlt : k < s.size
    · have HST := Lib.hid (any_step blankB s k hlt HA.out)
      have HSP := Lib.hid (any_stop blankB s k hlt)
      go_wp2
      all_goals first
        | (go_round
           case rel => exact ⟨k + 1, by omega, by go_num, HST.out (by unfold blankB; simp_all)⟩
           case measure => simp [intOf]; omega)
        | (go_ret
           exact ⟨ret_bool (HSP.out (by unfold blankB; simp_all)).symm, rfl⟩)
    · go_wp2
      go_ret
      exact ⟨ret_bool (by rw [← HA.out, take_all s k (by omega)]), rfl⟩
theorem s_Written_any (s : ByteArray) (q : Bool) (w : World) (hs : s.size ≤ 4398046511104) :
    Calls Tryd.prog 22 #[.string s, .bool q] w fun e w' => StrPost (writL s.data.toList q) e ∧ w = w' := by
  have h1 : ∀ x : ByteArray, x.data.toList = 34 :: (s.data.toList ++ [34]) → (q || anyB blankB s.data.toList) = true → x.data.toList = writL s.data.toList q := by
    intro x hx hq; unfold writL; rw [if_pos hq, hx]
  have h2 : (q || anyB blankB s.data.toList) = false → s.data.toList = writL s.data.toList q := by
    intro hq; unfold writL; rw [hq]; rfl
  have H1 := Lib.hid h1
  have H2 := Lib.hid h2
  clear h1 h2
  cases q
  · go_enter Tryd.func22, Tryd.ntmps22
    go_wp2_with (go_at_call 41; refine (s_Blank_any _ _ (by unfold maxLen; omega)).mono ?_; rintro e w' ⟨rfl, rfl⟩)
    · go_ret
      exact ⟨⟨_, rfl, H1.out _ (quo_data s) (by simpa using ‹_›)⟩, rfl⟩
    · go_ret
      exact ⟨⟨_, rfl, H2.out (by simpa using ‹_›)⟩, rfl⟩
  · go_enter Tryd.func22, Tryd.ntmps22
    go_wp2
    go_ret
    exact ⟨⟨_, rfl, H1.out _ (quo_data s) rfl⟩, rfl⟩
end Go.Proofs.YtfijncfoefbohaaDoor
