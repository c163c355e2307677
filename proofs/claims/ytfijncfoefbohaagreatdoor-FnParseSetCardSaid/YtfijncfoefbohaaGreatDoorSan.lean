/- Bytes that are kept: sanitizeOrWarn with both tests. -/
import Derived.Test.YtfijncfoefbohaaGreatDoorStr
import Derived.Test.YtfijncfoefbohaaGreatDoorKit
import Derived.Laws.IdiomStrings
import Derived.Lib.UnsafeStr
namespace Go.Proofs.YtfijncfoefbohaaGreatDoor
open Go Go.RowKit

def keepB (p : Int → Bool) (l : List UInt8) : List UInt8 := l.filter fun c => p c.toNat
/-- The call returns the text l. -/
def StrPost (l : List UInt8) (e : Ending) : Prop := ∃ x : ByteArray, e = .returned (.string x) ∧ x.data.toList = l

theorem keepB_all {p : Int → Bool} {l : List UInt8} (h : allB p l = true) : keepB p l = l := by
  unfold keepB
  rw [List.filter_eq_self]
  exact fun x hx => (List.all_eq_true.1 h) x hx
theorem keepB_le (p : Int → Bool) (l : List UInt8) : (keepB p l).length ≤ l.length := List.length_filter_le _ _
theorem keepB_step (p : Int → Bool) (s : ByteArray) (k : Nat) (h : k < s.size) (hp : p (s[k].toNat : Int) = true) : keepB p (s.data.toList.take (k + 1)) = keepB p (s.data.toList.take k) ++ [s[k]] := by
  rw [take_snoc s k h]; unfold keepB; rw [List.filter_append]; simp [hp]
theorem keepB_skip (p : Int → Bool) (s : ByteArray) (k : Nat) (h : k < s.size) (hp : p (s[k].toNat : Int) = false) : keepB p (s.data.toList.take (k + 1)) = keepB p (s.data.toList.take k) := by
  rw [take_snoc s k h]; unfold keepB; rw [List.filter_append]; simp [hp]

theorem byteInfo' : (Tryz.prog.info? 5).map (fun i => (i.zero, i.size, i.bytes)) = some (some (.int .u8 0), 1, 1) := by kernel_rfl
/-- string(b) of a byte slice that the call owns. -/
theorem conv_own {w : World} {B : Nat} {v : Value} {l : List UInt8} {n : Nat} (h : w.ownsRow B 5 1 v n (Lib.byteCells l)) : (convert 74 9 v).run Tryz.prog w = .ok (.string ⟨l.toArray⟩) w := by
  have hn : n = l.length := by have := h.1; rw [Lib.byteCells_length] at this; omega
  rcases h.2 with ⟨rfl, h0⟩ | ⟨g, cap, cur, rfl, _⟩
  · have hl : l = [] := List.eq_nil_of_length_eq_zero (by omega)
    subst hl
    have := run_convert_bytes_string w 74 9 5 none 0 0 Tryz.underlying74 Tryz.underlying5 Tryz.underlying9
    rw [this]
    simp [Conv.bytesToString]
    rfl
  · have hc0 := h.cells (g := g) rfl
    subst hn
    have hc : ∀ j (hj : j < l.length), w.cell? ((⟨g, 0, none⟩ : Addr).add j) = some (.int .u8 (l[j].toNat : Int)) := fun j hj => hc0 j _ (by simp [Lib.byteCells, hj])
    exact run_convert_bytes_back w 74 9 5 ⟨g, 0, none⟩ cap l Tryz.underlying74 Tryz.underlying5 Tryz.underlying9 hc

set_option maxHeartbeats 1600000 in
theorem san_val (f s : ByteArray) (w : World) (hs : s.size ≤ 4398046511104) :
    Calls Tryz.prog 54 #[.string f, .func (.func 47) #[] #[], .string s] w fun e w' => StrPost (keepB valB s.data.toList) e ∧ Below w.heap.size w w' := by
  by_cases hall : allB valB s.data.toList = true
  · have HK := Lib.hid (keepB_all hall)
    have HALL := Lib.hid hall
    clear hall
    go_enter Tryz.func54, Tryz.ntmps54
    go_wp2
    go_loop [7, 8] (fun ok i => ∃ k : Nat, k ≤ s.size ∧ i = .int .i64 k ∧ ok = .bool true) (fun _ i => s.size - (intOf i).toNat)
    case atStart => exact ⟨0, Nat.zero_le _, rfl, rfl⟩
    case round =>
      obtain ⟨k, hk, rfl, rfl⟩ := hrel
      by_cases hlt : k < s.size
      · have hok : valB (s[k].toNat : Int) = true := by
          cases h : valB (s[k].toNat : Int)
          · have := all_stop valB s k hlt h; rw [HALL.out] at this; cases this
          · rfl
        go_wp2_with (go_at_call 47; refine (validValueByte_any _ _).mono ?_; rintro e w' ⟨rfl, rfl⟩)
        go_round
        case rel => exact ⟨k + 1, by omega, by go_num, rfl⟩
        case measure => simp [intOf]; omega
      · go_wp2
        go_ret
        exact ⟨⟨s, rfl, HK.out.symm⟩, Below.refl _ _⟩
  · have hall' : allB valB s.data.toList = false := by simpa using hall
    have HALL := Lib.hid hall'
    clear hall hall'
    obtain ⟨i0, hi, hz0, hz1, hz2⟩ := info_parts byteInfo'
    obtain ⟨B, hB⟩ : ∃ B, B = w.heap.size := ⟨_, rfl⟩
    have HB := Lib.hid hB
    have hB0 : B ≤ w.heap.size := by omega
    clear hB
    go_enter Tryz.func54, Tryz.ntmps54
    go_wp2
    go_loop [7, 8] (fun ok i => ∃ k : Nat, k ≤ s.size ∧ i = .int .i64 k ∧ ok = .bool true ∧ allB valB (s.data.toList.take k) = true) (fun _ i => s.size - (intOf i).toNat)
    case atStart => exact ⟨0, Nat.zero_le _, rfl, rfl, rfl⟩
    case round =>
      obtain ⟨k, hk, rfl, rfl, hpre⟩ := hrel
      have HPRE := Lib.hid hpre
      clear hpre
      by_cases hlt : k < s.size
      · by_cases hok : valB (s[k].toNat : Int) = true
        · have HST := Lib.hid (all_step valB s k hlt HPRE.out hok)
          go_wp2_with (go_at_call 47; refine (validValueByte_any _ _).mono ?_; rintro e w' ⟨rfl, rfl⟩)
          go_round
          case rel => exact ⟨k + 1, by omega, by go_num, rfl, HST.out⟩
          case measure => simp [intOf]; omega
        · have hok' : valB (s[k].toNat : Int) = false := by simpa using hok
          clear hok
          go_wp2_with (first
            | (go_at_call 47; refine (validValueByte_any _ _).mono ?_; rintro e w' ⟨rfl, rfl⟩)
            | (at_make; refine wpList_make_own _ rfl _ _ _ rfl B 5 i0 (.int .u8 0) 1 Tryz.underlying74 hi hz0 hz1 _ _ _ s.size rfl rfl rfl ?c1 ?c2 ?c3 ?_))
          case c1 => rw [hz2]; omega
          case c2 => unfold maxLen; omega
          case c3 => omega
          intro w1 hown hg
          have hb1 : Below B w w1 := (Below.refl B w).grown hg hB0 (fun k hk => by cases hk)
          have hown0 : w1.ownsRow B 5 1 (.slice (some ⟨w.heap.size, 0, none⟩) 0 s.size) (keepB valB (s.data.toList.take 0)).length (Lib.byteCells (keepB valB (s.data.toList.take 0))) := hown
          clear hown hg hok'
          generalize Value.slice (some ⟨w.heap.size, 0, none⟩) 0 s.size = v0 at *
          go_wp2
          go_loopw [9, 10, 11] (fun v i _ wr => ∃ k : Nat, k ≤ s.size ∧ i = .int .i64 k ∧ wr.ownsRow B 5 1 v (keepB valB (s.data.toList.take k)).length (Lib.byteCells (keepB valB (s.data.toList.take k))) ∧ Below B w wr) (fun _ i _ _ => s.size - (intOf i).toNat)
          case atStart => exact ⟨0, Nat.zero_le _, rfl, hown0, hb1⟩
          case round =>
            obtain ⟨k2, hk2, rfl, hown, hbel⟩ := hrel
            have hsz := hbel.size
            by_cases hlt2 : k2 < s.size
            · by_cases hok : valB (s[k2].toNat : Int) = true
              · have hle := keepB_le valB (s.data.toList.take k2)
                have hle2 := List.length_take_le k2 s.data.toList
                have HST := Lib.hid (keepB_step valB s k2 hlt2 hok)
                go_wp2_with (first
                  | (go_at_call 47; refine (validValueByte_any _ _).mono ?_; rintro e w' ⟨rfl, rfl⟩)
                  | (at_builtin; refine wpList_app1 rfl (.tmp 40) (.tmp 42) _ _ rfl _ _ Tryz.underlying74 byteInfo' rfl B _ _ _ rfl hown (.int .u8 (s[k2].toNat : Int)) rfl rfl ?d1 ?d2 ?d3 ?_))
                case d1 => omega
                case d2 => omega
                case d3 => omega
                intro g cap w2 hown1 hb2 hg1 hat hBg
                have R : w2.ownsRow B 5 1 (.slice (some ⟨g, 0, none⟩) ((keepB valB (s.data.toList.take k2)).length + 1) cap) (keepB valB (s.data.toList.take (k2 + 1))).length (Lib.byteCells (keepB valB (s.data.toList.take (k2 + 1)))) := by
                  rw [HST.out, Lib.byteCells_append, List.length_append]; exact hown1
                have hb3 := hbel.trans hb2
                clear hown1 hb2 hg1 hat hown hbel
                go_wp2
                go_roundw
                case rel => exact ⟨k2 + 1, by omega, by go_num, R, hb3⟩
                case measure => simp [intOf]; omega
              · have hok' : valB (s[k2].toNat : Int) = false := by simpa using hok
                have HST := Lib.hid (keepB_skip valB s k2 hlt2 hok')
                clear hok
                go_wp2_with (go_at_call 47; refine (validValueByte_any _ _).mono ?_; rintro e w' ⟨rfl, rfl⟩)
                go_roundw
                case rel => exact ⟨k2 + 1, by omega, by go_num, by rw [HST.out]; exact hown, hbel⟩
                case measure => simp [intOf]; omega
            · have hk3 : k2 = s.size := by omega
              have hta := take_all s k2 (by omega)
              rw [hta] at hown
              have hcv := conv_own hown
              have HTA := Lib.hid hta
              clear hk3 hta
              go_wp2
              go_ret
              exact ⟨⟨_, rfl, rfl⟩, by have := HB.out; rw [← this]; exact hbel⟩
      · exfalso
        have := HPRE.out
        rw [take_all s k (by omega), HALL.out] at this
        cases this

set_option maxHeartbeats 1600000 in
theorem san_path (f s : ByteArray) (w : World) (hs : s.size ≤ 4398046511104) :
    Calls Tryz.prog 54 #[.string f, .func (.func 56) #[] #[], .string s] w fun e w' => StrPost (keepB pathB s.data.toList) e ∧ Below w.heap.size w w' := by
  by_cases hall : allB pathB s.data.toList = true
  · have HK := Lib.hid (keepB_all hall)
    have HALL := Lib.hid hall
    clear hall
    go_enter Tryz.func54, Tryz.ntmps54
    go_wp2
    go_loop [7, 8] (fun ok i => ∃ k : Nat, k ≤ s.size ∧ i = .int .i64 k ∧ ok = .bool true) (fun _ i => s.size - (intOf i).toNat)
    case atStart => exact ⟨0, Nat.zero_le _, rfl, rfl⟩
    case round =>
      obtain ⟨k, hk, rfl, rfl⟩ := hrel
      by_cases hlt : k < s.size
      · have hok : pathB (s[k].toNat : Int) = true := by
          cases h : pathB (s[k].toNat : Int)
          · have := all_stop pathB s k hlt h; rw [HALL.out] at this; cases this
          · rfl
        go_wp2_with (go_at_call 56; refine (validPathByte_any _ _).mono ?_; rintro e w' ⟨rfl, rfl⟩)
        go_round
        case rel => exact ⟨k + 1, by omega, by go_num, rfl⟩
        case measure => simp [intOf]; omega
      · go_wp2
        go_ret
        exact ⟨⟨s, rfl, HK.out.symm⟩, Below.refl _ _⟩
  · have hall' : allB pathB s.data.toList = false := by simpa using hall
    have HALL := Lib.hid hall'
    clear hall hall'
    obtain ⟨i0, hi, hz0, hz1, hz2⟩ := info_parts byteInfo'
    obtain ⟨B, hB⟩ : ∃ B, B = w.heap.size := ⟨_, rfl⟩
    have HB := Lib.hid hB
    have hB0 : B ≤ w.heap.size := by omega
    clear hB
    go_enter Tryz.func54, Tryz.ntmps54
    go_wp2
    go_loop [7, 8] (fun ok i => ∃ k : Nat, k ≤ s.size ∧ i = .int .i64 k ∧ ok = .bool true ∧ allB pathB (s.data.toList.take k) = true) (fun _ i => s.size - (intOf i).toNat)
    case atStart => exact ⟨0, Nat.zero_le _, rfl, rfl, rfl⟩
    case round =>
      obtain ⟨k, hk, rfl, rfl, hpre⟩ := hrel
      have HPRE := Lib.hid hpre
      clear hpre
      by_cases hlt : k < s.size
      · by_cases hok : pathB (s[k].toNat : Int) = true
        · have HST := Lib.hid (all_step pathB s k hlt HPRE.out hok)
          go_wp2_with (go_at_call 56; refine (validPathByte_any _ _).mono ?_; rintro e w' ⟨rfl, rfl⟩)
          go_round
          case rel => exact ⟨k + 1, by omega, by go_num, rfl, HST.out⟩
          case measure => simp [intOf]; omega
        · have hok' : pathB (s[k].toNat : Int) = false := by simpa using hok
          clear hok
          go_wp2_with (first
            | (go_at_call 56; refine (validPathByte_any _ _).mono ?_; rintro e w' ⟨rfl, rfl⟩)
            | (at_make; refine wpList_make_own _ rfl _ _ _ rfl B 5 i0 (.int .u8 0) 1 Tryz.underlying74 hi hz0 hz1 _ _ _ s.size rfl rfl rfl ?c1 ?c2 ?c3 ?_))
          case c1 => rw [hz2]; omega
          case c2 => unfold maxLen; omega
          case c3 => omega
          intro w1 hown hg
          have hb1 : Below B w w1 := (Below.refl B w).grown hg hB0 (fun k hk => by cases hk)
          have hown0 : w1.ownsRow B 5 1 (.slice (some ⟨w.heap.size, 0, none⟩) 0 s.size) (keepB pathB (s.data.toList.take 0)).length (Lib.byteCells (keepB pathB (s.data.toList.take 0))) := hown
          clear hown hg hok'
          generalize Value.slice (some ⟨w.heap.size, 0, none⟩) 0 s.size = v0 at *
          go_wp2
          go_loopw [9, 10, 11] (fun v i _ wr => ∃ k : Nat, k ≤ s.size ∧ i = .int .i64 k ∧ wr.ownsRow B 5 1 v (keepB pathB (s.data.toList.take k)).length (Lib.byteCells (keepB pathB (s.data.toList.take k))) ∧ Below B w wr) (fun _ i _ _ => s.size - (intOf i).toNat)
          case atStart => exact ⟨0, Nat.zero_le _, rfl, hown0, hb1⟩
          case round =>
            obtain ⟨k2, hk2, rfl, hown, hbel⟩ := hrel
            have hsz := hbel.size
            by_cases hlt2 : k2 < s.size
            · by_cases hok : pathB (s[k2].toNat : Int) = true
              · have hle := keepB_le pathB (s.data.toList.take k2)
                have hle2 := List.length_take_le k2 s.data.toList
                have HST := Lib.hid (keepB_step pathB s k2 hlt2 hok)
                go_wp2_with (first
                  | (go_at_call 56; refine (validPathByte_any _ _).mono ?_; rintro e w' ⟨rfl, rfl⟩)
                  | (at_builtin; refine wpList_app1 rfl (.tmp 40) (.tmp 42) _ _ rfl _ _ Tryz.underlying74 byteInfo' rfl B _ _ _ rfl hown (.int .u8 (s[k2].toNat : Int)) rfl rfl ?d1 ?d2 ?d3 ?_))
                case d1 => omega
                case d2 => omega
                case d3 => omega
                intro g cap w2 hown1 hb2 hg1 hat hBg
                have R : w2.ownsRow B 5 1 (.slice (some ⟨g, 0, none⟩) ((keepB pathB (s.data.toList.take k2)).length + 1) cap) (keepB pathB (s.data.toList.take (k2 + 1))).length (Lib.byteCells (keepB pathB (s.data.toList.take (k2 + 1)))) := by
                  rw [HST.out, Lib.byteCells_append, List.length_append]; exact hown1
                have hb3 := hbel.trans hb2
                clear hown1 hb2 hg1 hat hown hbel
                go_wp2
                go_roundw
                case rel => exact ⟨k2 + 1, by omega, by go_num, R, hb3⟩
                case measure => simp [intOf]; omega
              · have hok' : pathB (s[k2].toNat : Int) = false := by simpa using hok
                have HST := Lib.hid (keepB_skip pathB s k2 hlt2 hok')
                clear hok
                go_wp2_with (go_at_call 56; refine (validPathByte_any _ _).mono ?_; rintro e w' ⟨rfl, rfl⟩)
                go_roundw
                case rel => exact ⟨k2 + 1, by omega, by go_num, by rw [HST.out]; exact hown, hbel⟩
                case measure => simp [intOf]; omega
            · have hk3 : k2 = s.size := by omega
              have hta := take_all s k2 (by omega)
              rw [hta] at hown
              have hcv := conv_own hown
              have HTA := Lib.hid hta
              clear hk3 hta
              go_wp2
              go_ret
              exact ⟨⟨_, rfl, rfl⟩, by have := HB.out; rw [← this]; exact hbel⟩
      · exfalso
        have := HPRE.out
        rw [take_all s k (by omega), HALL.out] at this
        cases this
end Go.Proofs.YtfijncfoefbohaaGreatDoor
