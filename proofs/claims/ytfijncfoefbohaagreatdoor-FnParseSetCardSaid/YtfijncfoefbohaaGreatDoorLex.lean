/- zzToLower; strconv.Atoi at every text. -/
import Derived.Test.YtfijncfoefbohaaGreatDoorShelf
import Derived.Test.YtfijncfoefbohaaGreatDoorAtoi0
import Derived.Test.YtfijncfoefbohaaGreatDoorPairs
namespace Go.Proofs.YtfijncfoefbohaaGreatDoor
open Go Go.RowKit

def prB (n : Int) : Bool := decide (32 ≤ n ∧ n ≤ 126)
theorem pr_ascii {l : List UInt8} (h : allB prB l = true) : ∀ (j : Nat) (b : UInt8), l[j]? = some b → b.toNat < 128 := by
  intro j b hb
  have h2 := allB_mem h b (List.mem_of_getElem? hb)
  unfold prB at h2
  rw [decide_eq_true_eq] at h2
  omega

set_option maxHeartbeats 1000000 in
theorem zzToLower_yes (s : ByteArray) (w : World) (hs : s.size ≤ 4398046511104) (h : allB prB s.data.toList = true) :
    Calls Tryz.prog 34 #[.string s] w fun e w' => (∃ x : ByteArray, e = .returned (.tuple #[.string x, .bool true]) ∧ x.data.toList = Lib.toLowerA s.data.toList) ∧ Below w.heap.size w w' := by
  have HP := Lib.hid h
  have hpr : ∀ k (hk : k < s.size), 32 ≤ (s[k].toNat : Int) ∧ (s[k].toNat : Int) ≤ 126 := by
    intro k hk
    have h2 := allB_mem h s[k] (by rw [getElem_list s k hk]; exact List.getElem_mem _)
    unfold prB at h2
    rw [decide_eq_true_eq] at h2
    exact h2
  have HPR := Lib.hid hpr
  clear h hpr
  go_enter Tryz.func34, Tryz.ntmps34
  go_wp2
  go_loop [4] (fun i => ∃ k : Nat, k ≤ s.size ∧ i = .int .i64 k) (fun i => s.size - (intOf i).toNat)
  case atStart => exact ⟨0, Nat.zero_le _, rfl⟩
  case round =>
    obtain ⟨k, hk, rfl⟩ := hrel
    by_cases hlt : k < s.size
    · obtain ⟨p1, p2⟩ := HPR.out k hlt
      have d1 : decide ((s[k].toNat : Int) < 32) = false := by rw [decide_eq_false_iff_not]; omega
      have d2 : decide ((126 : Int) < (s[k].toNat : Int)) = false := by rw [decide_eq_false_iff_not]; omega
      go_wp2
      go_round
      case rel => exact ⟨k + 1, by omega, by go_num⟩
      case measure => simp [intOf]; omega
    · have hd : decide ((k : Int) < (s.size : Int)) = false := by rw [decide_eq_false_iff_not]; omega
      go_wp2_with fail
      refine (Tryz.strings_ToLower_ascii s w (by omega) (pr_ascii HP.out)).mono ?_
      rintro e w1 ⟨rfl, hb⟩
      have HB := Lib.hid hb
      clear hb
      generalize hx : (⟨(Lib.toLowerA s.data.toList).toArray⟩ : ByteArray) = x
      have HX : Hid (x.data.toList = Lib.toLowerA s.data.toList) := Lib.hid (by rw [← hx])
      clear hx
      go_wp2
      go_ret2
      exact ⟨⟨x, rfl, HX.out⟩, HB.out⟩

set_option maxHeartbeats 1000000 in
theorem zzToLower_no (s : ByteArray) (w : World) (hs : s.size ≤ 4398046511104) (h : allB prB s.data.toList = false) :
    Calls Tryz.prog 34 #[.string s] w fun e w' => e = .returned (.tuple #[.string ⟨#[]⟩, .bool false]) ∧ w = w' := by
  have HP := Lib.hid h
  clear h
  go_enter Tryz.func34, Tryz.ntmps34
  go_wp2
  go_loop [4] (fun i => ∃ k : Nat, k ≤ s.size ∧ i = .int .i64 k ∧ allB prB (s.data.toList.take k) = true) (fun i => s.size - (intOf i).toNat)
  case atStart => exact ⟨0, Nat.zero_le _, rfl, rfl⟩
  case round =>
    obtain ⟨k, hk, rfl, hp⟩ := hrel
    have HA := Lib.hid hp
    clear hp
    by_cases hlt : k < s.size
    · by_cases h1 : (s[k].toNat : Int) < 32
      · have d1 : decide ((s[k].toNat : Int) < 32) = true := by rw [decide_eq_true_iff]; exact h1
        go_wp2
        go_ret2
        exact ⟨rfl, rfl⟩
      have d1 : decide ((s[k].toNat : Int) < 32) = false := by rw [decide_eq_false_iff_not]; exact h1
      by_cases h2 : (126 : Int) < (s[k].toNat : Int)
      · have d2 : decide ((126 : Int) < (s[k].toNat : Int)) = true := by rw [decide_eq_true_iff]; exact h2
        go_wp2
        go_ret2
        exact ⟨rfl, rfl⟩
      have d2 : decide ((126 : Int) < (s[k].toNat : Int)) = false := by rw [decide_eq_false_iff_not]; exact h2
      have HS := Lib.hid (all_step prB s k hlt HA.out (by unfold prB; rw [decide_eq_true_eq]; omega))
      go_wp2
      go_round
      case rel => exact ⟨k + 1, by omega, by go_num, HS.out⟩
      case measure => simp [intOf]; omega
    · exfalso
      have := HA.out
      rw [take_all s k (by omega), HP.out] at this
      cases this

/-! ### strconv.Atoi -/
theorem var_keep {n : String} {g : Nat} {cs : Array Value} {w w' : World} (hg : Tryz.prog.globalNamed n = some g) (h : w.var? Tryz.prog n = some cs) (hb : Below w.heap.size w w') : w'.var? Tryz.prog n = some cs := by
  unfold World.var? at h ⊢
  rw [hg] at h ⊢
  simp only [Option.bind_some] at h ⊢
  have hlt : g < w.heap.size := by
    rcases Nat.lt_or_ge g w.heap.size with h' | h'
    · exact h'
    · rw [Array.getElem?_eq_none h'] at h
      cases h
  rw [hb.block _ hlt]
  exact h
structure NumVars (w : World) : Prop where
  a : ∃ tp p, w.var? Tryz.prog "strconv.ErrSyntax" = some #[.iface tp p]
  b : ∃ tp p, w.var? Tryz.prog "strconv.ErrRange" = some #[.iface tp p]
theorem NumVars.kept {w w' : World} (h : NumVars w) (hb : Below w.heap.size w w') : NumVars w' := by
  obtain ⟨t1, p1, h1⟩ := h.a
  obtain ⟨t2, p2, h2⟩ := h.b
  exact ⟨⟨t1, p1, var_keep (g := 4) (by kernel_rfl) h1 hb⟩, ⟨t2, p2, var_keep (g := 5) (by kernel_rfl) h2 hb⟩⟩

/-- The number that a text is, if it is one. -/
def numOf? (l : List UInt8) : Option Int := match Lib.atoiAll l with
  | .ok v => some v
  | _ => none
def AtoiPost (l : List UInt8) (e : Ending) : Prop :=
  (∃ v, numOf? l = some v ∧ e = .returned (.tuple #[.int .i64 v, .nilIface])) ∨
  (numOf? l = none ∧ ∃ (n : Int) (N : Nat), e = .returned (.tuple #[.int .i64 n, .iface 95 (.pointer (some ⟨N, 0, none⟩))]))
theorem atoi_any (s : ByteArray) (w : World) (hs : s.size ≤ 4398046511104) (hv : NumVars w) :
    Calls Tryz.prog 35 #[.string s] w fun e w' => AtoiPost s.data.toList e ∧ Below w.heap.size w w' := by
  cases h : Lib.atoiAll s.data.toList
  · refine (Any.strconv_Atoi_ok Tryz.laysC172_a s (by omega) _ h w).mono ?_
    rintro e w' ⟨rfl, hw⟩
    refine ⟨.inl ⟨_, by unfold numOf?; rw [h], rfl⟩, ?_⟩
    rcases hw with rfl | ⟨t, rfl⟩
    · exact Below.refl _ _
    · exact Lib.bytesWorld_below _ _ _
  · obtain ⟨tp, p, h2⟩ := hv.a
    refine (Any.strconv_Atoi_syntax_var Tryz.laysC172_a s (by omega) h tp p w h2).mono ?_
    rintro e w' ⟨N, rfl, _, _, hb⟩
    exact ⟨.inr ⟨by unfold numOf?; rw [h], _, N, rfl⟩, hb⟩
  · obtain ⟨tp, p, h2⟩ := hv.b
    refine (Any.strconv_Atoi_range_var Tryz.laysC172_a s (by omega) h tp p w h2).mono ?_
    rintro e w' ⟨N, rfl, _, _, hb⟩
    exact ⟨.inr ⟨by unfold numOf?; rw [h], _, N, rfl⟩, hb⟩
end Go.Proofs.YtfijncfoefbohaaGreatDoor
