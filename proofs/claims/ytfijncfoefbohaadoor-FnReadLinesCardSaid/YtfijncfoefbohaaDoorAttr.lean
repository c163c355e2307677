/- laws.plain, spec.Digits, spec.Attributes. -/
import Derived.Test.YtfijncfoefbohaaDoorQ
import Derived.Test.YtfijncfoefbohaaDoorRepl
import Derived.Deep.RegionHeld3
import Derived.Deep.DrawnRows
namespace Go.Proofs.YtfijncfoefbohaaDoor
open Go Go.RowKit

/-- A cookie as the reference has it. -/
def Ck.pcells (c : Ck) : Array Value := #[.string c.name, .string c.value, .bool c.quoted, .string c.path, .string c.domain, .int .i64 c.age, .bool c.secure, .bool c.http, .int .i64 c.site, .bool c.part, .slice c.uo c.un c.uc]

set_option maxHeartbeats 4000000 in
theorem plain_any (c : Ck) (w : World) :
    Calls Tryd.prog 25 #[.agg c.cells] w fun e w' => e = .returned (.agg c.pcells) ∧ Below w.heap.size w w' := by
  unfold Ck.cells
  go_enter Tryd.func25, Tryd.ntmps25
  go_wp2
  (try simp only [Exit.inBlock, Exit.then])
  refine bodyPost_ret (v := .agg c.pcells) ?_ rfl ⟨rfl, ?_⟩
  · exact results_cell_row rfl _ _ (w.heap.size + 1) 32 c.pcells (0, 0) _ rfl (heap_alloc2_new _ _ _) Tryd.underlying32 rfl (by kernel_rfl)
  · exact ((Below.refl _ _).alloc (Nat.le_refl _) _).alloc (by show _ ≤ (w.heap.push _).size; simp) _

def digL (n : Nat) : List UInt8 := if n = 0 then [] else Lib.decDigits n
theorem digL_step (n : Nat) (h : 0 < n) : digL n = digL (n / 10) ++ [UInt8.ofNat (48 + n % 10)] := by
  unfold digL
  rw [if_neg (by omega)]
  conv => lhs; unfold Lib.decDigits
  by_cases h1 : n < 10
  · rw [dif_pos h1, if_pos (by omega), Nat.mod_eq_of_lt h1]; rfl
  · rw [dif_neg h1, if_neg (by omega)]

theorem digL_len (n : Nat) : (digL n).length ≤ n := by
  induction n using Nat.strongRecOn with
  | _ n ih =>
    rcases Nat.eq_zero_or_pos n with h | h
    · subst h; exact Nat.le_refl _
    · rw [digL_step n h, List.length_append]
      have := ih (n / 10) (by omega)
      simp only [List.length_cons, List.length_nil]
      omega

set_option maxHeartbeats 1000000 in
set_option maxRecDepth 100000 in
theorem digits_any (n : Nat) (w : World) (hn : n < 9223372036854775808) :
    Calls Tryd.prog 55 #[.int .i64 n] w fun e w' => StrPost (digL n) e ∧ Below w.heap.size w w' := by
  go_enter Tryd.func55, Tryd.ntmps55
  go_wp2
  go_loopw [0, 3] (fun a s wr => ∃ (k : Nat) (x : ByteArray), a = .int .i64 k ∧ k ≤ n ∧ s = .string x ∧ digL k ++ x.data.toList = digL n ∧ Below w.heap.size w wr) (fun a _ _ => (intOf a).toNat)
  case atStart => exact ⟨n, ⟨#[]⟩, rfl, Nat.le_refl _, rfl, by simp, Below.refl _ _⟩
  case round =>
    obtain ⟨k, x, rfl, hk, rfl, hx, hb⟩ := hrel
    have HX := Lib.hid hx
    clear hx
    rcases Nat.eq_zero_or_pos k with h0 | h0
    · have HX2 : Hid (x.data.toList = digL n) := Lib.hid (by rw [← HX.out, h0]; rfl)
      have hd : decide (0 < k) = false := by rw [decide_eq_false_iff_not]; omega
      clear HX
      go_wp2
      go_ret
      exact ⟨⟨x, rfl, HX2.out⟩, hb⟩
    · have hd : decide (0 < k) = true := by rw [decide_eq_true_iff]; omega
      have HS := Lib.hid (digL_step k h0)
      have hr : (k : Int).tmod 10 = ((k % 10 : Nat) : Int) := by rw [Int.tmod_eq_emod_of_nonneg (by omega)]; omega
      have hq : (k : Int).tdiv 10 = ((k / 10 : Nat) : Int) := by rw [Int.tdiv_eq_ediv_of_nonneg (by omega)]; omega
      have hm : k % 10 < 10 := by omega
      have hu8 : (((UInt8.ofNat (48 + k % 10)).toNat : Nat) : Int) = 48 + (k : Int) % 10 := by rw [UInt8.toNat_ofNat']; omega
      have hcv : (convert 62 9 (.slice (some ⟨wr.heap.size, 0, none⟩) 1 1)).run Tryd.prog (wr.alloc (.cells #[.int .u8 (48 + (k : Int) % 10)] 5)) = .ok (.string ⟨[UInt8.ofNat (48 + k % 10)].toArray⟩) (wr.alloc (.cells #[.int .u8 (48 + (k : Int) % 10)] 5)) := by
        refine run_convert_bytes_back _ 62 9 5 ⟨wr.heap.size, 0, none⟩ 1 [UInt8.ofNat (48 + k % 10)] Tryd.underlying62 Tryd.underlying5 Tryd.underlying9 ?_
        intro j hj
        have hj0 : j = 0 := by simp at hj; omega
        subst hj0
        rw [Lib.add_plain, Lib.cell_of_heap (alloc_at wr _ _).1]
        simp only [List.getElem_cons_zero]
        rw [hu8]
        rfl
      have hxl : ¬ 9223372036854775807 < 1 + x.size := by
        have h1 := congrArg List.length HX.out
        rw [HS.out, List.length_append, List.length_append, ← Lib.size_eq] at h1
        have h2 := digL_len n
        simp only [List.length_cons, List.length_nil] at h1
        omega
      have hb2 : ∀ o, Below w.heap.size w (wr.alloc o) := fun o => hb.alloc hb.size o
      have HB2 := Lib.hid hb2
      clear hb hb2 hu8
      go_wp2
      go_roundw
      case rel => exact ⟨k / 10, _, by rw [Int.natCast_ediv]; rfl, by omega, rfl, by rw [← HX.out, HS.out, app_data]; simp, HB2.out _⟩
      case measure => simp [intOf]; omega

theorem digL_len10 (n : Nat) : (digL n).length ≤ n / 10 + 1 := by
  rcases Nat.eq_zero_or_pos n with h | h
  · subst h; exact Nat.zero_le _
  · rw [digL_step n h, List.length_append]
    have := digL_len (n / 10)
    simp only [List.length_cons, List.length_nil]
    omega

set_option maxHeartbeats 1000000 in
set_option maxRecDepth 100000 in
theorem digits_int (n : Int) (w : World) (hn : n ≤ 9223372036854775807) :
    Calls Tryd.prog 55 #[.int .i64 n] w fun e w' => StrPost (digL n.toNat) e ∧ Below w.heap.size w w' := by
  by_cases h0 : 0 ≤ n
  · obtain ⟨k, rfl⟩ : ∃ k : Nat, n = (k : Int) := ⟨n.toNat, by omega⟩
    exact digits_any k w (by omega)
  · have hz : digL n.toNat = [] := by rw [show n.toNat = 0 by omega]; rfl
    have HZ := Lib.hid hz
    have hd : decide (0 < n) = false := by rw [decide_eq_false_iff_not]; omega
    clear hz h0
    go_enter Tryd.func55, Tryd.ntmps55
    go_wp2
    go_loopw [0, 3] (fun a s wr => a = .int .i64 n ∧ s = .string ⟨#[]⟩ ∧ wr = w) (fun _ _ _ => 0)
    case atStart => exact ⟨rfl, rfl, rfl⟩
    case round =>
      obtain ⟨rfl, rfl, rfl⟩ := hrel
      go_wp2
      go_ret
      exact ⟨⟨_, rfl, HZ.out.symm⟩, Below.refl _ _⟩

/-- A variable of type []string in block o, whose list xs the call owns. -/
def OutAt (B o : Nat) (xs : List ByteArray) (w : World) : Prop :=
  B ≤ o ∧ ∃ v, w.heap[o]? = some (.cells #[v] 24 (0, 0)) ∧ w.ownsRow B 9 1 v xs.length (xs.map Value.string) ∧ v.ownBlock ≠ some o ∧ (xs = [] → v = .slice none 0 0)

theorem OutAt.lt {B o : Nat} {xs : List ByteArray} {w : World} (h : OutAt B o xs w) : o < w.heap.size := by
  obtain ⟨_, v, hv, _⟩ := h
  exact (Array.getElem?_eq_some_iff.1 hv).1
theorem OutAt.kept {B o : Nat} {xs : List ByteArray} {w w' : World} (h : OutAt B o xs w) (hb : Below w.heap.size w w') : OutAt B o xs w' := by
  have hlt := h.lt
  obtain ⟨h0, v, hv, hown, hne⟩ := h
  refine ⟨h0, v, (hb.block o hlt).trans hv, ?_, hne⟩
  refine hown.kept (row := none) ⟨hb.os, hb.tape, hb.output, hb.size, fun k hk _ => hb.block k hk⟩ ?_
  cases hv : v.ownBlock <;> simp

theorem heap_set1 {w : World} {o : Nat} {v : Value} {T : TypeId} (h : w.heap[o]? = some (.cells #[v] T (0, 0))) (u : Value) : (w.setCell ⟨o, 0, none⟩ u).heap[o]? = some (.cells #[u] T (0, 0)) := by
  simp [World.setCell, Array.getElem?_modify, h]

set_option maxHeartbeats 1000000 in
/-- .. of the closure. -/
theorem add_any (B o : Nat) (xs : List ByteArray) (b : Bool) (s : ByteArray) (w : World) (h : OutAt B o xs w) (hn : xs.length ≤ 1000) (hBw : B ≤ w.heap.size) :
    Calls Tryd.prog 54 #[.bool b, .string s, .pointer (some ⟨o, 0, none⟩)] w fun e w' => e = .returned (.tuple #[]) ∧ OutAt B o (if b then xs ++ [s] else xs) w' ∧ Below B w w' := by
  cases b
  · have H := Lib.hid h
    clear h
    go_enter Tryd.func54, Tryd.ntmps54
    go_wp2
    go_end0
    exact ⟨rfl, H.out, Below.refl _ _⟩
  · have hlt := h.lt
    obtain ⟨h0, v, hv, hown, hne, -⟩ := h
    have c0 : w.cell? ⟨o, 0, none⟩ = some v := by rw [Lib.cell_of_heap hv]; rfl
    have HV := Lib.hid hv
    obtain ⟨ao, cap0, rfl⟩ := own_shape hown
    clear hv
    go_enter Tryd.func54, Tryd.ntmps54
    go_wp2_with (at_builtin; refine wpList_app1 rfl (.tmp 6) (.tmp 8) _ _ rfl _ _ Tryd.underlying24 strInfo rfl B _ _ _ rfl hown (.string s) rfl rfl ?c1 ?c2 ?c3 ?_)
    case c1 => omega
    case c2 => omega
    case c3 => omega
    intro g cap w1 hown1 hb1 hg1 hat hBg
    have hv1 : w1.heap[o]? = some (.cells #[.slice ao xs.length cap0] 24 (0, 0)) := (hg1.block o hlt (fun e => hne e.symm)).trans HV.out
    have hgo : g ≠ o := by
      rcases hat with h1 | h1
      · intro e; subst e; exact hne h1.symm
      · omega
    have R : Hid (OutAt B o (xs ++ [s]) (w1.setCell ⟨o, 0, none⟩ (.slice (some ⟨g, 0, none⟩) (xs.length + 1) cap)) ∧ Below B w (w1.setCell ⟨o, 0, none⟩ (.slice (some ⟨g, 0, none⟩) (xs.length + 1) cap))) := by
      refine Lib.hid ⟨⟨h0, _, heap_set1 hv1 _, ?_, by simpa [Value.ownBlock] using hgo, fun h => absurd h (by simp)⟩, hb1.setCell (p := ⟨o, 0, none⟩) h0 _⟩
      have hbs := (Below.refl 0 w1).setCell (p := ⟨o, 0, none⟩) (Nat.zero_le _) (.slice (some ⟨g, 0, none⟩) (xs.length + 1) cap)
      have hgr : w1.grownBy (w1.setCell ⟨o, 0, none⟩ (.slice (some ⟨g, 0, none⟩) (xs.length + 1) cap)) (some o) := ⟨hbs.os, hbs.tape, hbs.output, hbs.size, fun k _ hk => Below.heap_setCell _ _ _ _ (by intro e; exact hk (by rw [e]))⟩
      have h3 := hown1.kept hgr (.inr (by simpa [Value.ownBlock] using hgo))
      simpa using h3
    have d0 : w1.cell? ⟨o, 0, none⟩ = some (.slice ao xs.length cap0) := by rw [Lib.cell_of_heap hv1]; rfl
    have f0 : w1.frozen? ⟨o, 0, none⟩ = false := Lib.frozen_of_heap hv1 0
    clear hown1 hb1 hg1 hat hown hne hv1 hgo c0
    go_wp2
    go_end0
    exact ⟨rfl, R.out⟩

def pPath : List UInt8 := [80, 97, 116, 104, 61]
def pDomain : List UInt8 := [68, 111, 109, 97, 105, 110, 61]
def pAge : List UInt8 := [77, 97, 120, 45, 65, 103, 101, 61]
def pAge0 : List UInt8 := [77, 97, 120, 45, 65, 103, 101, 61, 48]
def pSecure : List UInt8 := [83, 101, 99, 117, 114, 101]
def pHttp : List UInt8 := [72, 116, 116, 112, 79, 110, 108, 121]
def pLax : List UInt8 := [83, 97, 109, 101, 83, 105, 116, 101, 61, 76, 97, 120]
def pStrict : List UInt8 := [83, 97, 109, 101, 83, 105, 116, 101, 61, 83, 116, 114, 105, 99, 116]
def pNone : List UInt8 := [83, 97, 109, 101, 83, 105, 116, 101, 61, 78, 111, 110, 101]
def pPart : List UInt8 := [80, 97, 114, 116, 105, 116, 105, 111, 110, 101, 100]
def optL (b : Bool) (l : List UInt8) : List (List UInt8) := if b then [l] else []
/-- The attributes, in the reference's order. -/
def attrL (c : Ck) (dom : Bool) : List (List UInt8) :=
  optL (!c.path.toList.isEmpty) (pPath ++ keepB pathB c.path.data.toList) ++ optL (!c.domain.toList.isEmpty && dom) (pDomain ++ undot c.domain.data.toList) ++ optL (decide (0 < c.age)) (pAge ++ digL c.age.toNat) ++ optL (decide (c.age < 0)) pAge0 ++ optL c.secure pSecure ++ optL c.http pHttp ++ optL (c.site == 2) pLax ++ optL (c.site == 3) pStrict ++ optL (c.site == 4) pNone ++ optL c.part pPart
def AttrPost (c : Ck) (dom : Bool) (w : World) (e : Ending) (w' : World) : Prop :=
  ∃ (v : Value) (xs : List ByteArray), e = .returned v ∧ w'.ownsRow (w.heap.size + 1) 9 1 v xs.length (xs.map Value.string) ∧ xs.map (fun x => x.data.toList) = attrL c dom ∧ Below w.heap.size w w' ∧ (xs = [] → v = .slice none 0 0)
/-- Under way: the list L is in the variable, the cookie stands. -/
structure AtS (w : World) (c : Ck) (k : Nat) (L : List (List UInt8)) (wx : World) : Prop where
  box : wx.heap[w.heap.size]? = some (.cells c.pcells 32 (0, 0))
  out : ∃ xs, OutAt (w.heap.size + 1) (w.heap.size + 1) xs wx ∧ xs.map (fun x => x.data.toList) = L
  be : Below w.heap.size w wx
  len : L.length ≤ k

theorem AtS.lt {w wx : World} {c : Ck} {k : Nat} {L : List (List UInt8)} (h : AtS w c k L wx) : w.heap.size + 1 ≤ wx.heap.size := by
  obtain ⟨xs, h1, _⟩ := h.out
  have := h1.lt; omega
theorem AtS.kept {w wx wy : World} {c : Ck} {k : Nat} {L : List (List UInt8)} (h : AtS w c k L wx) (hy : Below wx.heap.size wx wy) : AtS w c k L wy := by
  have hl := h.lt
  obtain ⟨xs, h1, h2⟩ := h.out
  exact ⟨(hy.block _ (by omega)).trans h.box, ⟨xs, h1.kept hy, h2⟩, h.be.trans (hy.mono (by omega)), h.len⟩
theorem AtS.add {w wx : World} {c : Ck} {k : Nat} {L : List (List UInt8)} (h : AtS w c k L wx) (hk : k ≤ 900) (b : Bool) (s : ByteArray) :
    Calls Tryd.prog 54 #[.bool b, .string s, .pointer (some ⟨w.heap.size + 1, 0, none⟩)] wx fun e w' => e = .returned (.tuple #[]) ∧ AtS w c (k + 1) (L ++ optL b s.data.toList) w' := by
  have hl := h.lt
  obtain ⟨xs, h1, h2⟩ := h.out
  have hn : xs.length ≤ 1000 := by have := h.len; rw [← h2, List.length_map] at this; omega
  refine (add_any _ _ xs b s wx h1 hn hl).mono ?_
  rintro e w' ⟨rfl, ho, hb⟩
  refine ⟨rfl, (hb.block _ (by omega)).trans h.box, ⟨_, ho, ?_⟩, h.be.trans (hb.mono (by omega)), ?_⟩
  · cases b
    · simp [optL, h2]
    · simp [optL, h2]
  · have := h.len
    cases b <;> simp [optL] <;> omega

theorem undot_all (s : ByteArray) : ∃ (s' : ByteArray) (b : Bool), s'.data.toList = undot s.data.toList ∧ s'.size ≤ s.size ∧ (b = false → s' = s) ∧ (b = true → 1 ≤ s.size ∧ s' = s.extract 1 s.size) ∧
    ((s.toList = [] ∧ b = false) ∨ (s.toList.isEmpty = false ∧ ∃ h : 0 < s.size, ((s[0].toNat : Int) == 46) = b)) := by
  rcases Nat.eq_zero_or_pos s.size with h0 | h0
  · have : s.data.toList = [] := List.eq_nil_of_length_eq_zero (by rw [← Lib.size_eq]; exact h0)
    exact ⟨s, false, by rw [this]; rfl, Nat.le_refl _, fun _ => rfl, (by intro h; cases h), .inl ⟨by rw [Lib.toList_data]; exact this, rfl⟩⟩
  · have he : s.toList.isEmpty = false := by
      rw [Lib.toList_data, List.isEmpty_eq_false_iff]; intro h; exact absurd (show s.size = 0 by rw [Lib.size_eq, h]; rfl) (by omega)
    obtain ⟨s', h1, h2, h3⟩ := undot_cases s h0
    rcases h3 with ⟨h3, h4⟩ | ⟨h3, h4⟩
    · exact ⟨s', true, h1, h2, (by intro h; cases h), fun _ => ⟨h0, h4⟩, .inr ⟨he, h0, h3⟩⟩
    · exact ⟨s', false, h1, h2, fun _ => h4, (by intro h; cases h), .inr ⟨he, h0, h3⟩⟩

set_option maxHeartbeats 4000000 in
set_option maxRecDepth 100000 in
theorem attr_any (c : Ck) (dom : Bool) (w : World) (hf : CkFits c) :
    Calls Tryd.prog 24 #[.agg c.pcells, .bool dom] w (AttrPost c dom w) := by
  unfold Ck.pcells
  go_enter Tryd.func24, Tryd.ntmps24
  go_upto_region 3 with fail
  have at0 : AtS w c 0 [] ((w.alloc (.cells c.pcells 32)).alloc (.cells #[.slice none 0 0] 24)) :=
    ⟨heap_alloc2_old _ _ _, ⟨[], ⟨Nat.le_refl _, _, heap_alloc2_new _ _ _, ⟨rfl, .inl ⟨rfl, rfl⟩⟩, by simp [Value.ownBlock], fun _ => rfl⟩, rfl⟩,
      ((Below.refl _ _).alloc (Nat.le_refl _) _).alloc (by show _ ≤ (w.heap.push _).size; simp) _, Nat.le_refl _⟩
  unfold Ck.pcells at at0
  generalize (w.alloc (.cells #[.string c.name, .string c.value, .bool c.quoted, .string c.path, .string c.domain, .int .i64 c.age, .bool c.secure, .bool c.http, .int .i64 c.site, .bool c.part, .slice c.uo c.un c.uc] 32)).alloc (.cells #[.slice none 0 0] 24) = w0 at at0 ⊢
  have b4 : w0.cell? ⟨w.heap.size, 4, none⟩ = some (.string c.domain) := by rw [Lib.cell_of_heap at0.box]; rfl
  obtain ⟨d', b17, hd', hdz, hbf, hbt, hcs⟩ := undot_all c.domain
  have HD := Lib.hid hd'
  have HBF := Lib.hid hbf
  have HBT := Lib.hid hbt
  clear hd' hbf hbt
  go_upto_region 4 with fail
  go_cut [17] (fun v wx => v = .bool b17 ∧ wx = w0)
  case first =>
    rcases hcs with ⟨e1, rfl⟩ | ⟨e1, h0, e2⟩
    · go_wp2
      go_meet
      case rel => exact ⟨rfl, rfl⟩
    · go_wp2
      go_meet
      case rel => exact ⟨rfl, rfl⟩
  case rest =>
  obtain ⟨rfl, rfl⟩ := hcut
  go_upto_if 17 with fail
  go_cut [7] (fun v wx => v = .string d' ∧ wx = wc)
  case first =>
    rcases hb : b17 with _ | _
    · have h1 := HBF.out hb
      clear hb
      go_wp2
      go_meet
      case rel => exact ⟨by rw [h1], rfl⟩
    · have h1 := HBT.out hb
      have h2 : (1 : Int) ≤ (c.domain.size : Int) := by omega
      clear hb
      go_wp2
      go_meet
      case rel => exact ⟨by rw [h1.2], rfl⟩
  case rest =>
  obtain ⟨rfl, rfl⟩ := hcut
  clear hcs HBF HBT
  clear b4
  have b3 : wc.cell? ⟨w.heap.size, 3, none⟩ = some (.string c.path) := by rw [Lib.cell_of_heap at0.box]; rfl
  have hpz := hf.path
  go_upto_region 6 with fail
  go_cut [] (fun wx => AtS w c 1 (optL (!c.path.toList.isEmpty) (pPath ++ keepB pathB c.path.data.toList)) wx)
  case first =>
    have hb3 := b3
    have AT := Lib.hid at0
    have KK : Hid (∀ wy, AtS w c 0 [] wy → AtS w c 0 [] wy ∧ wy.cell? ⟨w.heap.size, 3, none⟩ = some (.string c.path)) := Lib.hid (fun wy h => ⟨h, by rw [Lib.cell_of_heap h.box]; rfl⟩)
    have KZ : Hid (∀ wy L, AtS w c 1 L wy → wy.cell? ⟨w.heap.size, 3, none⟩ = some (.string c.path)) := Lib.hid (fun wy L h => by rw [Lib.cell_of_heap h.box]; rfl)
    have KX : Hid (∀ x : ByteArray, x.data.toList = keepB pathB c.path.data.toList → ¬ 9223372036854775807 < 5 + x.size) := Lib.hid (fun x hx => by have := keepB_size' hx hpz; omega)
    clear at0
    go_region_held3 (fun w' => w'.cell? ⟨w.heap.size, 3, none⟩ = some (.string c.path)) (first | exact b3 | exact hk3 | exact hk4) (first
      | (go_at_call 23; refine (s_Kept_true c.path _ (by omega)).mono ?_; rintro e wk ⟨⟨x, rfl, hx⟩, hbk⟩; obtain ⟨atk, hk3⟩ := KK.out wk (AT.out.kept ((Below.refl _ _).drew.trans hbk)); have hxl : ¬ 9223372036854775807 < 5 + x.size := KX.out x hx; have ATK := Lib.hid atk; have HX := Lib.hid hx; clear atk hx hbk)
      | (go_at_call 54; refine (ATK.out.add (by omega) _ _).mono ?_; rintro e wz ⟨rfl, hz⟩; have HZ := Lib.hid hz; have hk4 := (KZ.out wz _ hz); clear hz))
    all_goals
      go_wp2
      go_meet
      case rel =>
        have h := HZ.out
        rw [app_data, HX.out] at h
        exact h
  case rest =>
  clear b3 at0
  obtain ⟨L1, hL1⟩ : ∃ L1, optL (!c.path.toList.isEmpty) (pPath ++ keepB pathB c.path.data.toList) = L1 := ⟨_, rfl⟩
  rw [hL1] at hcut
  have HL1 := Lib.hid hL1
  have at1 := hcut
  clear hL1 hcut
  have b4 : wc.cell? ⟨w.heap.size, 4, none⟩ = some (.string c.domain) := by rw [Lib.cell_of_heap at1.box]; rfl
  have hdd := hf.domain
  have hdl : ¬ 9223372036854775807 < 7 + d'.size := by omega
  go_upto_region 7 with fail
  go_cut [] (fun wx => AtS w c 2 (L1 ++ optL (!c.domain.toList.isEmpty && dom) (pDomain ++ undot c.domain.data.toList)) wx)
  case first =>
    have AT := Lib.hid at1
    have he : c.domain.toList.isEmpty = true ∨ c.domain.toList.isEmpty = false := Bool.eq_false_or_eq_true _
    rcases he with he | he
    · have he2 : c.domain.toList = [] := by simpa using he
      have HE := Lib.hid he
      clear at1 he
      go_wp2_with fail
      refine (AT.out.add (by omega) _ _).mono ?_
      rintro e w2 ⟨rfl, h2⟩
      have H2 := Lib.hid h2
      clear h2
      go_wp2
      go_meet
      case rel =>
        have h := H2.out
        rw [app_data, HD.out] at h
        rw [HE.out]
        exact h
    · have HE := Lib.hid he
      clear at1
      go_wp2_with fail
      refine (AT.out.add (by omega) _ _).mono ?_
      rintro e w2 ⟨rfl, h2⟩
      have H2 := Lib.hid h2
      clear h2
      go_wp2
      go_meet
      case rel =>
        have h := H2.out
        rw [app_data, HD.out] at h
        rw [HE.out]
        exact h
  case rest =>
  clear b4 at1 hdl HD hdz
  generalize wc = w2 at hcut ⊢
  obtain ⟨L2, hL2⟩ : ∃ L2, L1 ++ optL (!c.domain.toList.isEmpty && dom) (pDomain ++ undot c.domain.data.toList) = L2 := ⟨_, rfl⟩
  rw [hL2] at hcut
  have HL2 := Lib.hid hL2
  have at2 := hcut
  clear hL2 hcut
  have b5 : w2.cell? ⟨w.heap.size, 5, none⟩ = some (.int .i64 c.age) := by rw [Lib.cell_of_heap at2.box]; rfl
  have hag := hf.age1
  go_upto_region 8 with fail
  go_cut [] (fun wx => AtS w c 3 (L2 ++ optL (decide (0 < c.age)) (pAge ++ digL c.age.toNat)) wx)
  case first =>
    have AT := Lib.hid at2
    have KK : Hid (∀ wy, AtS w c 2 L2 wy → AtS w c 2 L2 wy ∧ wy.cell? ⟨w.heap.size, 5, none⟩ = some (.int .i64 c.age)) := Lib.hid (fun wy h => ⟨h, by rw [Lib.cell_of_heap h.box]; rfl⟩)
    have KZ : Hid (∀ wy L, AtS w c 3 L wy → wy.cell? ⟨w.heap.size, 5, none⟩ = some (.int .i64 c.age)) := Lib.hid (fun wy L h => by rw [Lib.cell_of_heap h.box]; rfl)
    have KX : Hid (∀ x : ByteArray, x.data.toList = digL c.age.toNat → ¬ 9223372036854775807 < 8 + x.size) := Lib.hid (fun x hx => by have h1 := digL_len10 c.age.toNat; rw [← hx, ← Lib.size_eq] at h1; omega)
    clear at2
    go_region_held3 (fun w' => w'.cell? ⟨w.heap.size, 5, none⟩ = some (.int .i64 c.age)) (first | exact b5 | exact hk3 | exact hk4) (first
      | (go_at_call 55; refine (digits_int c.age _ hag).mono ?_; rintro e wk ⟨⟨x, rfl, hx⟩, hbk⟩; obtain ⟨atk, hk3⟩ := KK.out wk (AT.out.kept ((Below.refl _ _).drew.trans hbk)); have hxl : ¬ 9223372036854775807 < 8 + x.size := KX.out x hx; have ATK := Lib.hid atk; have HX := Lib.hid hx; clear atk hx hbk)
      | (go_at_call 54; refine (ATK.out.add (by omega) _ _).mono ?_; rintro e wz ⟨rfl, hz⟩; have HZ := Lib.hid hz; have hk4 := (KZ.out wz _ hz); clear hz))
    all_goals
      go_wp2
      go_meet
      case rel =>
        have h := HZ.out
        rw [app_data, HX.out] at h
        exact h
  case rest =>
  clear b5 at2 hag
  generalize wc = w3 at hcut ⊢
  obtain ⟨L3, hL3⟩ : ∃ L3, L2 ++ optL (decide (0 < c.age)) (pAge ++ digL c.age.toNat) = L3 := ⟨_, rfl⟩
  rw [hL3] at hcut
  have HL3 := Lib.hid hL3
  have at3 := hcut
  clear hL3 hcut
  have b3 : w3.cell? ⟨w.heap.size, 5, none⟩ = some (.int .i64 c.age) := by rw [Lib.cell_of_heap at3.box]; rfl
  go_wp2_with fail
  refine (at3.add (by omega) _ _).mono ?_
  rintro e w4 ⟨rfl, at4⟩
  clear b3 at3
  have b4 : w4.cell? ⟨w.heap.size, 6, none⟩ = some (.bool c.secure) := by rw [Lib.cell_of_heap at4.box]; rfl
  go_wp2_with fail
  refine (at4.add (by omega) _ _).mono ?_
  rintro e w5 ⟨rfl, at5⟩
  clear b4 at4
  have b5 : w5.cell? ⟨w.heap.size, 7, none⟩ = some (.bool c.http) := by rw [Lib.cell_of_heap at5.box]; rfl
  go_wp2_with fail
  refine (at5.add (by omega) _ _).mono ?_
  rintro e w6 ⟨rfl, at6⟩
  clear b5 at5
  have b6 : w6.cell? ⟨w.heap.size, 8, none⟩ = some (.int .i64 c.site) := by rw [Lib.cell_of_heap at6.box]; rfl
  go_wp2_with fail
  refine (at6.add (by omega) _ _).mono ?_
  rintro e w7 ⟨rfl, at7⟩
  clear b6 at6
  have b7 : w7.cell? ⟨w.heap.size, 8, none⟩ = some (.int .i64 c.site) := by rw [Lib.cell_of_heap at7.box]; rfl
  go_wp2_with fail
  refine (at7.add (by omega) _ _).mono ?_
  rintro e w8 ⟨rfl, at8⟩
  clear b7 at7
  have b8 : w8.cell? ⟨w.heap.size, 8, none⟩ = some (.int .i64 c.site) := by rw [Lib.cell_of_heap at8.box]; rfl
  go_wp2_with fail
  refine (at8.add (by omega) _ _).mono ?_
  rintro e w9 ⟨rfl, at9⟩
  clear b8 at8
  have b9 : w9.cell? ⟨w.heap.size, 9, none⟩ = some (.bool c.part) := by rw [Lib.cell_of_heap at9.box]; rfl
  go_wp2_with fail
  refine (at9.add (by omega) _ _).mono ?_
  rintro e w10 ⟨rfl, at10⟩
  clear b9 at9
  obtain ⟨xs, hout, hxs⟩ := at10.out
  have hbe := at10.be
  obtain ⟨-, v, hv, hown, -, hnil⟩ := hout
  obtain ⟨ao, cap, rfl⟩ := own_shape hown
  have c0 : w10.cell? ⟨w.heap.size + 1, 0, none⟩ = some (.slice ao xs.length cap) := by rw [Lib.cell_of_heap hv]; rfl
  have R : Hid (AttrPost c dom w (.returned (.slice ao xs.length cap)) w10) := Lib.hid ⟨_, xs, rfl, hown, by rw [hxs, ← HL3.out, ← HL2.out, ← HL1.out]; rfl, hbe, hnil⟩
  clear at10 hv hown hxs hbe hnil HL1 HL2 HL3
  go_wp2
  go_ret
  exact R.out
end Go.Proofs.YtfijncfoefbohaaDoor
