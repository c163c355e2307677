/- laws.plain, spec.Digits, spec.Attributes. -/
import Derived.Test.YtfijncfoefbohaaGreatDoorQ
import Derived.Test.YtfijncfoefbohaaGreatDoorRepl
import Derived.Deep.RegionHeld3
import Derived.Deep.DrawnRows
namespace Go.Proofs.YtfijncfoefbohaaGreatDoor
open Go Go.RowKit

/-- A cookie as the reference has it. -/
def Ck.pcells (c : Ck) : Array Value := #[.string c.name, .string c.value, .bool c.quoted, .string c.path, .string c.domain, .int .i64 c.age, .bool c.secure, .bool c.http, .int .i64 c.site, .bool c.part, .slice c.uo c.un c.uc]

set_option maxHeartbeats 4000000 in
theorem plain_any (c : Ck) (w : World) :
    Calls Tryz.prog 10 #[.agg c.cells] w fun e w' => e = .returned (.agg c.pcells) ∧ Below w.heap.size w w' := by
  unfold Ck.cells
  go_enter Tryz.func10, Tryz.ntmps10
  go_wp2
  (try simp only [Exit.inBlock, Exit.then])
  refine bodyPost_ret (v := .agg c.pcells) ?_ rfl ⟨rfl, ?_⟩
  · exact results_cell_row rfl _ _ (w.heap.size + 1) 31 c.pcells (0, 0) _ rfl (heap_alloc2_new _ _ _) Tryz.underlying31 rfl (by kernel_rfl)
  · exact ((Below.refl _ _).alloc (Nat.le_refl _) _).alloc (by show _ ≤ (w.heap.push _).size; simp) _

def digL (n : Nat) : List UInt8 := if n = 0 then [] else Lib.decDigits n
theorem digL_step (n : Nat) (h : 0 < n) : digL n = digL (n / 10) ++ [UInt8.ofNat (48 + n % 10)] := by
  unfold digL
  rw [if_neg (by omega)]
  conv => lhs; unfold Lib.decDigits
  by_cases h1 : n < 10
  · rw [dif_pos h1, if_pos (by omega), Nat.mod_eq_of_lt h1]; rfl
  · rw [dif_neg h1, if_neg (by omega)]

theorem digL_len (n : Nat) : (digL n).length ≤ n := by
  induction n using Nat.strongRecOn with
  | _ n ih =>
    rcases Nat.eq_zero_or_pos n with h | h
    · subst h; exact Nat.le_refl _
    · rw [digL_step n h, List.length_append]
      have := ih (n / 10) (by omega)
      simp only [List.length_cons, List.length_nil]
      omega

theorem digL_len10 (n : Nat) : (digL n).length ≤ n / 10 + 1 := by
  rcases Nat.eq_zero_or_pos n with h | h
  · subst h; exact Nat.zero_le _
  · rw [digL_step n h, List.length_append]
    have := digL_len (n / 10)
    simp only [List.length_cons, List.length_nil]
    omega

/-- A variable of type []string in block o, whose list xs the call owns. -/
def OutAt (B o : Nat) (xs : List ByteArray) (w : World) : Prop :=
  B ≤ o ∧ ∃ v, w.heap[o]? = some (.cells #[v] 23 (0, 0)) ∧ w.ownsRow B 9 1 v xs.length (xs.map Value.string) ∧ v.ownBlock ≠ some o ∧ (xs = [] → v = .slice none 0 0)

theorem OutAt.lt {B o : Nat} {xs : List ByteArray} {w : World} (h : OutAt B o xs w) : o < w.heap.size := by
  obtain ⟨_, v, hv, _⟩ := h
  exact (Array.getElem?_eq_some_iff.1 hv).1
theorem OutAt.kept {B o : Nat} {xs : List ByteArray} {w w' : World} (h : OutAt B o xs w) (hb : Below w.heap.size w w') : OutAt B o xs w' := by
  have hlt := h.lt
  obtain ⟨h0, v, hv, hown, hne⟩ := h
  refine ⟨h0, v, (hb.block o hlt).trans hv, ?_, hne⟩
  refine hown.kept (row := none) ⟨hb.os, hb.tape, hb.output, hb.size, fun k hk _ => hb.block k hk⟩ ?_
  cases hv : v.ownBlock <;> simp

theorem heap_set1 {w : World} {o : Nat} {v : Value} {T : TypeId} (h : w.heap[o]? = some (.cells #[v] T (0, 0))) (u : Value) : (w.setCell ⟨o, 0, none⟩ u).heap[o]? = some (.cells #[u] T (0, 0)) := by
  simp [World.setCell, Array.getElem?_modify, h]

def pPath : List UInt8 := [80, 97, 116, 104, 61]
def pDomain : List UInt8 := [68, 111, 109, 97, 105, 110, 61]
def pAge : List UInt8 := [77, 97, 120, 45, 65, 103, 101, 61]
def pAge0 : List UInt8 := [77, 97, 120, 45, 65, 103, 101, 61, 48]
def pSecure : List UInt8 := [83, 101, 99, 117, 114, 101]
def pHttp : List UInt8 := [72, 116, 116, 112, 79, 110, 108, 121]
def pLax : List UInt8 := [83, 97, 109, 101, 83, 105, 116, 101, 61, 76, 97, 120]
def pStrict : List UInt8 := [83, 97, 109, 101, 83, 105, 116, 101, 61, 83, 116, 114, 105, 99, 116]
def pNone : List UInt8 := [83, 97, 109, 101, 83, 105, 116, 101, 61, 78, 111, 110, 101]
def pPart : List UInt8 := [80, 97, 114, 116, 105, 116, 105, 111, 110, 101, 100]
def optL (b : Bool) (l : List UInt8) : List (List UInt8) := if b then [l] else []
/-- The attributes, in the reference's order. -/
def attrL (c : Ck) (dom : Bool) : List (List UInt8) :=
  optL (!c.path.toList.isEmpty) (pPath ++ keepB pathB c.path.data.toList) ++ optL (!c.domain.toList.isEmpty && dom) (pDomain ++ undot c.domain.data.toList) ++ optL (decide (0 < c.age)) (pAge ++ digL c.age.toNat) ++ optL (decide (c.age < 0)) pAge0 ++ optL c.secure pSecure ++ optL c.http pHttp ++ optL (c.site == 2) pLax ++ optL (c.site == 3) pStrict ++ optL (c.site == 4) pNone ++ optL c.part pPart
def AttrPost (c : Ck) (dom : Bool) (w : World) (e : Ending) (w' : World) : Prop :=
  ∃ (v : Value) (xs : List ByteArray), e = .returned v ∧ w'.ownsRow (w.heap.size + 1) 9 1 v xs.length (xs.map Value.string) ∧ xs.map (fun x => x.data.toList) = attrL c dom ∧ Below w.heap.size w w' ∧ (xs = [] → v = .slice none 0 0)
/-- Under way: the list L is in the variable, the cookie stands. -/
structure AtS (w : World) (c : Ck) (k : Nat) (L : List (List UInt8)) (wx : World) : Prop where
  box : wx.heap[w.heap.size]? = some (.cells c.pcells 31 (0, 0))
  out : ∃ xs, OutAt (w.heap.size + 1) (w.heap.size + 1) xs wx ∧ xs.map (fun x => x.data.toList) = L
  be : Below w.heap.size w wx
  len : L.length ≤ k

theorem AtS.lt {w wx : World} {c : Ck} {k : Nat} {L : List (List UInt8)} (h : AtS w c k L wx) : w.heap.size + 1 ≤ wx.heap.size := by
  obtain ⟨xs, h1, _⟩ := h.out
  have := h1.lt; omega
theorem AtS.kept {w wx wy : World} {c : Ck} {k : Nat} {L : List (List UInt8)} (h : AtS w c k L wx) (hy : Below wx.heap.size wx wy) : AtS w c k L wy := by
  have hl := h.lt
  obtain ⟨xs, h1, h2⟩ := h.out
  exact ⟨(hy.block _ (by omega)).trans h.box, ⟨xs, h1.kept hy, h2⟩, h.be.trans (hy.mono (by omega)), h.len⟩
theorem undot_all (s : ByteArray) : ∃ (s' : ByteArray) (b : Bool), s'.data.toList = undot s.data.toList ∧ s'.size ≤ s.size ∧ (b = false → s' = s) ∧ (b = true → 1 ≤ s.size ∧ s' = s.extract 1 s.size) ∧
    ((s.toList = [] ∧ b = false) ∨ (s.toList.isEmpty = false ∧ ∃ h : 0 < s.size, ((s[0].toNat : Int) == 46) = b)) := by
  rcases Nat.eq_zero_or_pos s.size with h0 | h0
  · have : s.data.toList = [] := List.eq_nil_of_length_eq_zero (by rw [← Lib.size_eq]; exact h0)
    exact ⟨s, false, by rw [this]; rfl, Nat.le_refl _, fun _ => rfl, (by intro h; cases h), .inl ⟨by rw [Lib.toList_data]; exact this, rfl⟩⟩
  · have he : s.toList.isEmpty = false := by
      rw [Lib.toList_data, List.isEmpty_eq_false_iff]; intro h; exact absurd (show s.size = 0 by rw [Lib.size_eq, h]; rfl) (by omega)
    obtain ⟨s', h1, h2, h3⟩ := undot_cases s h0
    rcases h3 with ⟨h3, h4⟩ | ⟨h3, h4⟩
    · exact ⟨s', true, h1, h2, (by intro h; cases h), fun _ => ⟨h0, h4⟩, .inr ⟨he, h0, h3⟩⟩
    · exact ⟨s', false, h1, h2, fun _ => h4, (by intro h; cases h), .inr ⟨he, h0, h3⟩⟩

end Go.Proofs.YtfijncfoefbohaaGreatDoor
