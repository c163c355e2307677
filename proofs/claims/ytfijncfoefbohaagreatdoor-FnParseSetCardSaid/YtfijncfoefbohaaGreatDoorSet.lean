/- (*Cookie).String: what is written. -/
import Derived.Test.YtfijncfoefbohaaGreatDoorClean
import Derived.Test.YtfijncfoefbohaaGreatDoorIp
import Derived.Test.YtfijncfoefbohaaGreatDoorItoa
import Derived.StillTailTactics
import Derived.Deep.DeepCutAuto
import Derived.Deep.CutBlock
import Derived.Deep.DeepMust
namespace Go.Proofs.YtfijncfoefbohaaGreatDoor
open Go Go.RowKit

structure Ck where
  name : ByteArray
  value : ByteArray
  quoted : Bool
  path : ByteArray
  domain : ByteArray
  age : Int
  secure : Bool
  http : Bool
  site : Int
  part : Bool
  raw : ByteArray
  uo : Option Addr
  un : Nat
  uc : Nat

def Ck.cells (c : Ck) : Array Value := #[.string c.name, .string c.value, .bool c.quoted, .string c.path, .string c.domain, .int .i64 c.age, .bool c.secure, .bool c.http, .int .i64 c.site, .bool c.part, .string c.raw, .slice c.uo c.un c.uc]
def sPath : List UInt8 := [59, 32, 80, 97, 116, 104, 61]
def sDomain : List UInt8 := [59, 32, 68, 111, 109, 97, 105, 110, 61]
def sAge : List UInt8 := [59, 32, 77, 97, 120, 45, 65, 103, 101, 61]
def sAge0 : List UInt8 := [59, 32, 77, 97, 120, 45, 65, 103, 101, 61, 48]
def sHttp : List UInt8 := [59, 32, 72, 116, 116, 112, 79, 110, 108, 121]
def sSecure : List UInt8 := [59, 32, 83, 101, 99, 117, 114, 101]
def sSite : List UInt8 := [59, 32, 83, 97, 109, 101, 83, 105, 116, 101, 61]
def sPart : List UInt8 := [59, 32, 80, 97, 114, 116, 105, 116, 105, 111, 110, 101, 100]
def sNone : List UInt8 := [78, 111, 110, 101]
def sLax : List UInt8 := [76, 97, 120]
def sStrict : List UInt8 := [83, 116, 114, 105, 99, 116]

def setA (c : Ck) : List UInt8 := c.name.data.toList ++ [61] ++ writL (keepB valB c.value.data.toList) c.quoted
def setPath (c : Ck) : List UInt8 := if c.path.size = 0 then [] else sPath ++ keepB pathB c.path.data.toList
def setDomain (c : Ck) : List UInt8 := if c.domain.size ≠ 0 ∧ vdB c.domain.data.toList = true then sDomain ++ undot c.domain.data.toList else []
def setAge (c : Ck) : List UInt8 := if 0 < c.age then sAge ++ Lib.decDigits c.age.toNat else if c.age < 0 then sAge0 else []
def setHttp (c : Ck) : List UInt8 := if c.http then sHttp else []
def setSecure (c : Ck) : List UInt8 := if c.secure then sSecure else []
def setSite (c : Ck) : List UInt8 := if c.site = 4 then sSite ++ sNone else if c.site = 2 then sSite ++ sLax else if c.site = 3 then sSite ++ sStrict else []
def setPart (c : Ck) : List UInt8 := if c.part then sPart else []
def setAll (c : Ck) : List UInt8 := setA c ++ setPath c ++ setDomain c ++ setAge c ++ setHttp c ++ setSecure c ++ setSite c ++ setPart c
def setL (c : Ck) : List UInt8 := if tokS c.name.data.toList then setAll c else []

/-- The cookie c lies in block b. -/
def CkAt (b : Nat) (c : Ck) (w : World) : Prop := w.heap[b]? = some (.cells c.cells 55 (0, 0))

theorem CkAt.cell {b : Nat} {c : Ck} {w : World} (h : CkAt b c w) (j : Nat) : w.cell? ⟨b, j, none⟩ = c.cells[j]? := by
  unfold CkAt at h; simp [World.cell?, h]
theorem CkAt.lt {b : Nat} {c : Ck} {w : World} (h : CkAt b c w) : b < w.heap.size := by
  unfold CkAt at h
  exact (Array.getElem?_eq_some_iff.1 h).1
theorem CkAt.below {b B : Nat} {c : Ck} {w w' : World} (h : CkAt b c w) (hb : Below B w w') (hB : b < B) : CkAt b c w' := (hb.block b hB).trans h

/-- The texts of a cookie are no longer than 2^31. -/
structure CkFits (c : Ck) : Prop where
  name : c.name.size ≤ 2147483647
  value : c.value.size ≤ 2147483647
  path : c.path.size ≤ 2147483647
  domain : c.domain.size ≤ 2147483647
  age0 : -9223372036854775808 ≤ c.age
  age1 : c.age ≤ 9223372036854775807

set_option maxHeartbeats 1000000 in
set_option maxRecDepth 100000 in
theorem string_bad (b : Nat) (c : Ck) (w : World) (hc : CkAt b c w) (hf : CkFits c) (ht : tokS c.name.data.toList = false) :
    Calls Tryz.prog 19 #[.pointer (some ⟨b, 0, none⟩)] w fun e w' => StrPost (setL c) e ∧ w = w' := by
  have hs := hf.name
  have c0 : w.cell? ⟨b, 0, none⟩ = some (.string c.name) := hc.cell 0
  have hL : setL c = [] := by unfold setL; rw [ht]; rfl
  have HL := Lib.hid hL
  clear hL
  go_enter Tryz.func19, Tryz.ntmps19
  go_wp2_with (go_at_call 32; refine (isToken_any _ _ (by unfold maxLen; omega)).mono ?_; rintro e w' ⟨rfl, rfl⟩)
  go_ret
  exact ⟨⟨_, rfl, HL.out.symm⟩, rfl⟩

/-- Under way: the builder holds l, the cookie stands. -/
structure St (w : World) (b : Nat) (c : Ck) (k : Nat) (l : List UInt8) (wx : World) : Prop where
  hb : b < w.heap.size
  lt : w.heap.size < wx.heap.size
  ck : CkAt b c wx
  bd : Bld w.heap.size w.heap.size l wx
  be : Below w.heap.size w wx
  len : l.length ≤ k * 3000000000

theorem St.kept {w wx wy : World} {b k : Nat} {c : Ck} {l : List UInt8} (h : St w b c k l wx) (hy : Below wx.heap.size wx wy) : St w b c k l wy :=
  ⟨h.hb, Nat.lt_of_lt_of_le h.lt hy.size, h.ck.below hy (Nat.lt_trans h.hb h.lt), h.bd.kept hy, h.be.trans (hy.mono (Nat.le_of_lt h.lt)), h.len⟩

theorem St.le {w wx : World} {b k k' : Nat} {c : Ck} {l l' : List UInt8} (h : St w b c k l wx) (hk : k ≤ k') (hl : l = l') : St w b c k' l' wx :=
  ⟨h.hb, h.lt, h.ck, hl ▸ h.bd, h.be, hl ▸ Nat.le_trans h.len (Nat.mul_le_mul_right _ hk)⟩

theorem St.wrote {w wx wy : World} {b k : Nat} {c : Ck} {l s : List UInt8} {e : Ending} (h : St w b c k l wx) (hw : Wrote w.heap.size w.heap.size (l ++ s) wx e wy) (hs : s.length ≤ 3000000000) : St w b c (k + 1) (l ++ s) wy := by
  obtain ⟨n, -, hbd, hbe, -⟩ := hw
  refine ⟨h.hb, Nat.lt_of_lt_of_le h.lt hbe.size, h.ck.below hbe h.hb, hbd, h.be.trans hbe, ?_⟩
  have := h.len
  rw [List.length_append]; omega

theorem St.write {w wx : World} {b k : Nat} {c : Ck} {l : List UInt8} (h : St w b c k l wx) (s : ByteArray) (hs : s.size ≤ 3000000000) (hk : k ≤ 20) :
    Calls Tryz.prog 37 #[.pointer (some ⟨w.heap.size, 0, none⟩), .string s] wx fun e w' => (∃ n : Int, e = .returned (.tuple #[.int .i64 n, .nilIface])) ∧ St w b c (k + 1) (l ++ s.data.toList) w' := by
  refine (bld_WriteString _ _ _ s _ h.bd (Nat.le_of_lt h.lt) (by have := h.len; omega)).mono ?_
  intro e w' hw
  exact ⟨by obtain ⟨n, he, -⟩ := hw; exact ⟨n, he⟩, h.wrote hw (by rw [← Lib.size_eq]; exact hs)⟩

theorem St.rune {w wx : World} {b k : Nat} {c : Ck} {l : List UInt8} (h : St w b c k l wx) (hk : k ≤ 20) :
    Calls Tryz.prog 38 #[.pointer (some ⟨w.heap.size, 0, none⟩), .int .i32 61] wx fun e w' => (∃ n : Int, e = .returned (.tuple #[.int .i64 n, .nilIface])) ∧ St w b c (k + 1) (l ++ [61]) w' := by
  refine (bld_WriteRune _ _ _ _ h.bd (Nat.le_of_lt h.lt) (by have := h.len; omega)).mono ?_
  intro e w' hw
  exact ⟨by obtain ⟨n, he, -⟩ := hw; exact ⟨n, he⟩, h.wrote hw (by simp)⟩

theorem keepB_size {p : Int → Bool} {s x : ByteArray} {q : Bool} (h : x.data.toList = writL (keepB p s.data.toList) q) (hs : s.size ≤ 2147483647) : x.size ≤ 3000000000 := by
  have h1 : (keepB p s.data.toList).length ≤ s.data.toList.length := List.length_filter_le _ _
  rw [Lib.size_eq, h]
  rw [Lib.size_eq] at hs
  unfold writL
  split <;> simp <;> omega
theorem keepB_size' {p : Int → Bool} {s x : ByteArray} (h : x.data.toList = keepB p s.data.toList) (hs : s.size ≤ 2147483647) : x.size ≤ 3000000000 := by
  have h1 : (keepB p s.data.toList).length ≤ s.data.toList.length := List.length_filter_le _ _
  rw [Lib.size_eq, h]
  rw [Lib.size_eq] at hs
  omega

def zero29 : Array Value := #[.int .u8 0, .int .u8 0, .int .u8 0, .int .u8 0, .int .u8 0, .int .u8 0, .int .u8 0, .int .u8 0, .int .u8 0, .int .u8 0, .int .u8 0, .int .u8 0, .int .u8 0, .int .u8 0, .int .u8 0, .int .u8 0, .int .u8 0, .int .u8 0, .int .u8 0, .int .u8 0, .int .u8 0, .int .u8 0, .int .u8 0, .int .u8 0, .int .u8 0, .int .u8 0, .int .u8 0, .int .u8 0, .int .u8 0]

theorem alloc_at (w : World) (cs : Array Value) (t : Nat) : (w.alloc (.cells cs t)).heap[w.heap.size]? = some (.cells cs t (0, 0)) ∧ Below w.heap.size w (w.alloc (.cells cs t)) ∧ w.heap.size < (w.alloc (.cells cs t)).heap.size :=
  ⟨by show (w.heap.push _)[w.heap.size]? = _; simp, (Below.refl _ _).alloc (Nat.le_refl _) _, by show _ < (w.heap.push _).size; simp⟩

theorem Bld.arr {B b g T : Nat} {cur : Array Value} {l : List UInt8} {w w' : World} (h : Bld B b l w) (hg : w.grownBy w' (some g)) (hgb : g ≠ b) (hT : w.heap[g]? = some (.cells cur T (0, 0))) (hne' : T ≠ 5) : Bld B b l w' := by
  obtain ⟨hB, v, hbk, hown, hne⟩ := h
  have hlt : b < w.heap.size := Lib.BuilderAt.lt ⟨hB, v, hbk, hown, hne⟩
  refine ⟨hB, v, (hg.block b hlt (by intro e; cases e; exact hgb rfl)).trans hbk, hown.kept hg ?_, hne⟩
  rcases hown.2 with ⟨rfl, _⟩ | ⟨k, cap, cur', rfl, _, hgg, _⟩
  · exact .inl rfl
  · right
    intro e
    simp only [Value.ownBlock, Option.some.injEq] at e
    subst e
    rw [hT] at hgg
    simp only [Option.some.injEq, Obj.cells.injEq] at hgg
    exact hne' hgg.2.1

theorem St.arr {w wx wy : World} {b k g T : Nat} {cur : Array Value} {c : Ck} {l : List UInt8} (h : St w b c k l wx) (hg : wx.grownBy wy (some g)) (hgb : w.heap.size < g) (hT : wx.heap[g]? = some (.cells cur T (0, 0))) (hne' : T ≠ 5) : St w b c k l wy := by
  refine ⟨h.hb, Nat.lt_of_lt_of_le h.lt hg.size, ?_, h.bd.arr hg (by omega) hT hne', ?_, h.len⟩
  · exact (hg.block b h.ck.lt (by intro e; cases e; have := h.hb; omega)).trans h.ck
  · exact h.be.grown hg (Nat.le_of_lt h.lt) (by intro k hk; cases hk; omega)

theorem St.array {w wx w' : World} {b k g T : Nat} {cur : Array Value} {c : Ck} {l s : List UInt8} {e : Ending} (h : St w b c k l wx) (hw : Wrote w.heap.size w.heap.size (l ++ s) wx e w') (hgb : w.heap.size < g) (hT : wx.heap[g]? = some (.cells cur T (0, 0))) (hne' : T ≠ 5) : w'.heap[g]? = some (.cells cur T (0, 0)) := by
  obtain ⟨n, -, -, -, hk⟩ := hw
  refine (hk g ?_ (by omega) ?_).trans hT
  · exact (Array.getElem?_eq_some_iff.1 hT).1
  · intro cs hcs
    rw [hT] at hcs
    simp only [Option.some.injEq, Obj.cells.injEq] at hcs
    exact hne' hcs.2.1

theorem arr_cells {g T n : Nat} {l : List UInt8} {w : World} (h : ArrAt g T n l w) (j : Nat) (u : Value) (hu : (Lib.byteCells l)[j]? = some u) : w.cell? ((⟨g, 0, none⟩ : Addr).add j) = some u := by
  obtain ⟨cur, hc, hs, ht⟩ := h
  have hj : j < l.length := by
    rw [← Lib.byteCells_length]
    exact (List.getElem?_eq_some_iff.1 hu).1
  rw [← ht, List.getElem?_take_of_lt hj] at hu
  rw [Lib.add_plain, Lib.cell_of_heap hc, Nat.zero_add]
  simpa using hu

theorem undot_cases (s : ByteArray) (h1 : 0 < s.size) : ∃ s' : ByteArray, s'.data.toList = undot s.data.toList ∧ s'.size ≤ s.size ∧ ((((s[0].toNat : Int) == 46) = true ∧ s' = s.extract 1 s.size) ∨ (((s[0].toNat : Int) == 46) = false ∧ s' = s)) := by
  unfold undot headN
  rw [head_of s h1]
  by_cases h : ((s[0].toNat : Int) == 46) = true
  · exact ⟨s.extract 1 s.size, by rw [if_pos h, Lib.extract_data, List.drop_one, List.take_of_length_le (by simp)], extract_size_le _ _ _, .inl ⟨h, rfl⟩⟩
  · have h' : ((s[0].toNat : Int) == 46) = false := by simpa using h
    exact ⟨s, by rw [h']; rfl, Nat.le_refl _, .inr ⟨h', rfl⟩⟩

set_option maxHeartbeats 4000000 in
set_option maxRecDepth 100000 in
theorem string_ok (b : Nat) (c : Ck) (w : World) (hc : CkAt b c w) (hf : CkFits c) (ht : tokS c.name.data.toList = true)
    (htab : 0 < c.age → ∀ w', Below w.heap.size w w' → Lib.TabIs Tryz.prog w' "internal/strconv.uint64pow10" .u64 Lib.pow10Tab) :
    Calls Tryz.prog 19 #[.pointer (some ⟨b, 0, none⟩)] w fun e w' => StrPost (setL c) e ∧ Below w.heap.size w w' := by
  have hs := hf.name
  have hs2 := hf.value
  have hs3 := hf.path
  have hs4 := hf.domain
  have HTAB := Lib.hid htab
  clear htab
  have hlt := hc.lt
  have HL : Hid (setL c = setAll c) := Lib.hid (by unfold setL; rw [ht]; rfl)
  have c0 : w.cell? ⟨b, 0, none⟩ = some (.string c.name) := hc.cell 0
  go_enter Tryz.func19, Tryz.ntmps19
  go_wp2_with (go_at_call 32; refine (isToken_any _ _ (by unfold maxLen; omega)).mono ?_; rintro e w' ⟨rfl, rfl⟩)
  obtain ⟨a1, a2, a3⟩ := alloc_at w #[.pointer none, .slice none 0 0] 76
  generalize w.alloc (.cells #[.pointer none, .slice none 0 0] 76) = W1 at a1 a2 a3 ⊢
  have hc1 : CkAt b c W1 := hc.below a2 hlt
  clear c0
  have c0 : W1.cell? ⟨b, 0, none⟩ = some (.string c.name) := hc1.cell 0
  have c1 : W1.cell? ⟨b, 1, none⟩ = some (.string c.value) := hc1.cell 1
  have c3 : W1.cell? ⟨b, 3, none⟩ = some (.string c.path) := hc1.cell 3
  have c4 : W1.cell? ⟨b, 4, none⟩ = some (.string c.domain) := hc1.cell 4
  go_still_tail 24, (by kernel_rfl)
  change wpList _ _ _ _ _ W1.drew
  have b2 : Below W1.heap.size W1 W1.drew := (Below.refl _ _).drew
  have b1 : W1.drew.heap[w.heap.size]? = some (.cells #[.pointer none, .slice none 0 0] 76 (0, 0)) := a1
  have b3 : w.heap.size < W1.drew.heap.size := a3
  have b4 : Below w.heap.size w W1.drew := a2.drew
  have b5 : CkAt b c W1.drew := hc1
  clear c0 c1 c3 c4 a1 a2 a3 hc1 b2
  generalize W1.drew = w2 at b1 b3 b4 b5 ⊢
  go_wp2_with fail
  refine (Tryz.Builder_Grow_fresh w.heap.size w.heap.size (c.name.size + c.value.size + c.domain.size + c.path.size + 110) _ (Nat.le_refl _) b1 (Nat.le_of_lt b3) (by omega)).mono ?_
  rintro e w3 ⟨rfl, hbd, hbe⟩
  have st : St w b c 0 [] w3 := ⟨hlt, Nat.lt_of_lt_of_le b3 hbe.size, b5.below hbe hlt, hbd, b4.trans hbe, Nat.le_refl _⟩
  clear b1 b3 b4 b5 hbd hbe w2 W1
  have c0 := st.ck.cell 0
  change w3.cell? ⟨b, 0, none⟩ = some (.string c.name) at c0
  go_wp2_with fail
  refine (st.write _ (by omega) (by omega)).mono ?_
  rintro e w4 ⟨⟨n4, rfl⟩, st4⟩
  clear c0 st
  go_wp2_with fail
  refine (st4.rune (by omega)).mono ?_
  rintro e w5 ⟨⟨n5, rfl⟩, st5⟩
  clear st4
  have c1 : w5.cell? ⟨b, 1, none⟩ = some (.string c.value) := st5.ck.cell 1
  have c2 : w5.cell? ⟨b, 2, none⟩ = some (.bool c.quoted) := st5.ck.cell 2
  go_wp2_with fail
  go_still_tail 8, (by kernel_rfl)
  change wpList _ _ _ _ _ w5.drew
  have st6 := st5.kept ((Below.refl w5.heap.size w5).drew)
  clear c1 c2 st5
  generalize w5.drew = w6 at st6 ⊢
  go_wp2_with fail
  refine (sanVal_any c.value c.quoted _ (by omega)).mono ?_
  rintro e w7 ⟨⟨xv, rfl, hxv⟩, hb7⟩
  have st7 := st6.kept hb7
  have HXV := Lib.hid hxv
  clear hxv hb7 st6
  go_wp2_with fail
  refine (st7.write xv (keepB_size HXV.out hs2) (by omega)).mono ?_
  rintro e w8 ⟨⟨n8, rfl⟩, st8⟩
  have st9 : St w b c 4 (setA c) w8 := st8.le (by omega) (by unfold setA; rw [HXV.out, List.nil_append])
  clear st8 st7 HXV
  have c3 : w8.cell? ⟨b, 3, none⟩ = some (.string c.path) := st9.ck.cell 3
  go_upto_if 62 with fail
  go_cut [] (fun wx => St w b c 6 (setA c ++ setPath c) wx)
  case first =>
    rcases Nat.eq_zero_or_pos c.path.size with h0 | h0
    · have t0 : decide (0 < c.path.size) = false := by rw [decide_eq_false_iff_not]; omega
      have HP : Hid (setPath c = []) := Lib.hid (by unfold setPath; rw [if_pos h0])
      clear h0
      rw [t0]
      go_wp2
      go_meet
      case rel => exact st9.le (by omega) (by rw [HP.out, List.append_nil])
    · have t0 : decide (0 < c.path.size) = true := by rw [decide_eq_true_iff]; omega
      have HP : Hid (setPath c = sPath ++ keepB pathB c.path.data.toList) := Lib.hid (by unfold setPath; rw [if_neg (by omega)])
      clear h0
      rw [t0]
      go_wp2_with fail
      refine (st9.write _ (by decide) (by omega)).mono ?_
      rintro e w10 ⟨⟨n10, rfl⟩, st10⟩
      clear c3 st9
      have c3 : w10.cell? ⟨b, 3, none⟩ = some (.string c.path) := st10.ck.cell 3
      go_wp2_with fail
      refine (sanPath_any c.path _ (by omega)).mono ?_
      rintro e w11 ⟨⟨xp, rfl, hxp⟩, hb11⟩
      have st11 := st10.kept hb11
      have HXP := Lib.hid hxp
      clear hxp hb11 st10
      go_wp2_with fail
      refine (st11.write xp (keepB_size' HXP.out hs3) (by omega)).mono ?_
      rintro e w12 ⟨⟨n12, rfl⟩, st12⟩
      go_wp2
      go_meet
      case rel => exact st12.le (by omega) (by rw [HP.out, HXP.out, ← List.append_assoc]; rfl)
  case rest =>
  clear c3 st9
  have c4 : wc.cell? ⟨b, 4, none⟩ = some (.string c.domain) := hcut.ck.cell 4
  go_upto_if 75 with fail
  have st20 : St w b c 6 (setA c ++ setPath c) wc := hcut
  generalize wc = w20 at st20 c4 ⊢
  clear hcut
  go_cut [4] (fun d wx => St w b c 8 (setA c ++ setPath c ++ setDomain c) wx)
  case first =>
    rcases Nat.eq_zero_or_pos c.domain.size with h0 | h0
    · have t0 : decide (0 < c.domain.size) = false := by rw [decide_eq_false_iff_not]; omega
      have HP : Hid (setDomain c = []) := Lib.hid (by unfold setDomain; rw [if_neg (by rintro ⟨h1, -⟩; exact h1 h0)])
      clear h0
      rw [t0]
      go_wp2
      go_meet
      case rel => exact st20.le (by omega) (by rw [HP.out, List.append_nil])
    · have t0 : decide (0 < c.domain.size) = true := by rw [decide_eq_true_iff]; omega
      rw [t0]
      go_wp2_with fail
      refine (validDomain_any c.domain _ (by omega)).mono ?_
      rintro e w21 ⟨rfl, rfl⟩
      rcases hv : vdB c.domain.data.toList with _ | _
      · have HP : Hid (setDomain c = []) := Lib.hid (by unfold setDomain; rw [if_neg (by rintro ⟨-, h1⟩; rw [hv] at h1; cases h1)])
        go_wp2
        go_meet
        case rel => exact st20.le (by omega) (by rw [HP.out, List.append_nil])
      · have HP : Hid (setDomain c = sDomain ++ undot c.domain.data.toList) := Lib.hid (by unfold setDomain; rw [if_pos ⟨by omega, hv⟩])
        clear hv
        obtain ⟨s', hs', hsz, hcase⟩ := undot_cases c.domain h0
        have HS := Lib.hid hs'
        clear hs'
        rcases hcase with ⟨h46, hE⟩ | ⟨h46, hE⟩
        all_goals
          have HE := Lib.hid hE
          clear hE
          go_wp2_with fail
          refine (st20.write _ (by decide) (by omega)).mono ?_
          rintro e w22 ⟨⟨n22, rfl⟩, st22⟩
          go_wp2_with fail
          first | rw [← HE.out] | (have hE2 := HE.out; subst hE2)
          refine (st22.write _ (by omega) (by omega)).mono ?_
          rintro e w23 ⟨⟨n23, rfl⟩, st23⟩
          go_wp2
          go_meet
          case rel => exact st23.le (by omega) (by rw [HP.out, ← List.append_assoc]; exact congrArg (fun z => setA c ++ setPath c ++ sDomain ++ z) HS.out)
  case rest =>
  clear c4 st20
  obtain ⟨L0, hL0⟩ : ∃ L0, setA c ++ setPath c ++ setDomain c = L0 := ⟨_, rfl⟩
  rw [hL0] at hcut
  have HL0 := Lib.hid hL0
  clear hL0
  go_upto_region 19 with fail
  obtain ⟨a1, a2, a3⟩ := alloc_at wc zero29 80
  unfold zero29 at a1 a2 a3
  have hz : zero29.size = 29 := rfl
  unfold zero29 at hz
  generalize (#[.int .u8 0, .int .u8 0, .int .u8 0, .int .u8 0, .int .u8 0, .int .u8 0, .int .u8 0, .int .u8 0, .int .u8 0, .int .u8 0, .int .u8 0, .int .u8 0, .int .u8 0, .int .u8 0, .int .u8 0, .int .u8 0, .int .u8 0, .int .u8 0, .int .u8 0, .int .u8 0, .int .u8 0, .int .u8 0, .int .u8 0, .int .u8 0, .int .u8 0, .int .u8 0, .int .u8 0, .int .u8 0, .int .u8 0] : Array Value) = cur at a1 a2 a3 hz ⊢
  have st30 := hcut.kept a2
  have hN : w.heap.size < wc.heap.size := hcut.lt
  generalize wc.alloc (.cells cur 80) = w30 at a1 a2 a3 st30 ⊢
  generalize wc.heap.size = N at a1 hN ⊢
  clear a2 a3 hcut
  have c5 : w30.cell? ⟨b, 5, none⟩ = some (.int .i64 c.age) := st30.ck.cell 5
  go_upto_if 97 with fail
  go_cut [] (fun wx => St w b c 10 (L0 ++ setAge c) wx)
  case first =>
    rcases Int.lt_trichotomy c.age 0 with h0 | h0 | h0
    · have t0 : decide (0 < c.age) = false := by rw [decide_eq_false_iff_not]; omega
      have t1 : decide (c.age < 0) = true := by rw [decide_eq_true_iff]; omega
      have HP : Hid (setAge c = sAge0) := Lib.hid (by unfold setAge; rw [if_neg (by omega), if_pos h0])
      clear h0
      rw [t0]
      go_upto_if 110 with fail
      first | rw [t1] | skip
      go_wp2_with fail
      refine (st30.write _ (by decide) (by omega)).mono ?_
      rintro e w31 ⟨⟨n31, rfl⟩, st31⟩
      go_wp2
      go_meet
      case rel => exact st31.le (by omega) (by rw [HP.out]; rfl)
    · have t0 : decide (0 < c.age) = false := by rw [decide_eq_false_iff_not]; omega
      have t1 : decide (c.age < 0) = false := by rw [decide_eq_false_iff_not]; omega
      have HP : Hid (setAge c = []) := Lib.hid (by unfold setAge; rw [if_neg (by omega), if_neg (by omega)])
      clear h0
      rw [t0]
      go_upto_if 110 with fail
      first | rw [t1] | skip
      go_wp2
      go_meet
      case rel => exact st30.le (by omega) (by rw [HP.out, List.append_nil])
    · have t0 : decide (0 < c.age) = true := by rw [decide_eq_true_iff]; omega
      obtain ⟨u, hu⟩ : ∃ u : Nat, c.age = (u : Int) := ⟨c.age.toNat, by omega⟩
      have HP : Hid (setAge c = sAge ++ Lib.decDigits u) := Lib.hid (by unfold setAge; rw [if_pos h0, hu]; rfl)
      have HT := Lib.hid (HTAB.out h0)
      have hu1 : 1 ≤ u := by omega
      have hu2 : u < 9223372036854775808 := by have := hf.age1; omega
      clear h0
      rw [t0]
      clear c5
      go_wp2_with fail
      refine (bld_WriteString _ _ _ _ _ st30.bd (Nat.le_of_lt st30.lt) (by have := st30.len; show _ + 10 ≤ _; omega)).mono ?_
      intro e w31 hw31
      have st31 := st30.wrote hw31 (by decide)
      have arr31 := st30.array hw31 hN a1 (by decide)
      have HW := Lib.hid hw31
      obtain ⟨n31, rfl, -⟩ := hw31
      have c5 : w31.cell? ⟨b, 5, none⟩ = some (.int .i64 u) := by rw [← hu]; exact st31.ck.cell 5
      clear st30 a1 HW
      go_wp2_with fail
      go_still_tail 5, (by kernel_rfl)
      change wpList _ _ _ _ _ w31.drew
      have st32 := st31.kept ((Below.refl w31.heap.size w31).drew)
      have arr32 : w31.drew.heap[N]? = some (.cells cur 80 (0, 0)) := arr31
      clear c5 st31 arr31
      generalize w31.drew = w32 at st32 arr32 ⊢
      have HT2 : Hid (∀ w', Below w32.heap.size w32 w' → Lib.TabIs Tryz.prog w' "internal/strconv.uint64pow10" .u64 Lib.pow10Tab) := Lib.hid (fun w' hw' => HT.out w' (st32.be.trans (hw'.mono (Nat.le_of_lt st32.lt))))
      go_wp2_with fail
      refine (appendInt_any N 80 29 u (by omega) hu1 hu2 cur _ arr32 hz HT2.out).mono ?_
      rintro e w33 ⟨rfl, harr, hgr⟩
      have st33 := st32.arr hgr hN arr32 (by decide)
      have HARR := Lib.hid harr
      have HLEN : (Lib.decDigits u).length ≤ 29 := by
        obtain ⟨cc, h1, h2, h3⟩ := harr
        have h4 := congrArg List.length h3
        have h5 : cc.toList.length = 29 := by rw [Array.length_toList]; exact h2
        rw [Lib.byteCells_length, List.length_take, h5] at h4
        omega
      clear st32 arr32 harr hgr
      go_wp2_with fail
      refine (bld_Write _ _ _ (Lib.decDigits u) ⟨N, 0, none⟩ (Lib.decDigits u).length 29 _ st33.bd (Nat.le_of_lt st33.lt) (by have := st33.len; omega) rfl (arr_cells HARR.out)).mono ?_
      intro e w34 hw34
      have st34 := st33.wrote hw34 (by omega)
      obtain ⟨n34, rfl, -⟩ := hw34
      clear st33 HARR
      go_wp2
      go_meet
      case rel => exact st34.le (by omega) (by rw [HP.out, ← List.append_assoc]; rfl)
  case rest =>
  clear c5 st30 a1 hN hz
  have st40 : St w b c 10 (L0 ++ setAge c) wc := hcut
  clear hcut
  have HQ : Hid (setAll c = L0 ++ setAge c ++ setHttp c ++ setSecure c ++ setSite c ++ setPart c) := Lib.hid (by rw [← HL0.out]; rfl)
  generalize L0 ++ setAge c = L1 at st40 HQ ⊢
  generalize wc = w40 at st40 ⊢
  have c7 : w40.cell? ⟨b, 7, none⟩ = some (.bool c.http) := st40.ck.cell 7
  go_upto_if 115 with fail
  go_cut [] (fun wx => St w b c 11 (L1 ++ setHttp c) wx)
  case first =>
    rcases hq : c.http with _ | _
    · go_wp2
      go_meet
      case rel => exact st40.le (by omega) (by unfold setHttp; rw [hq]; simp)
    · go_wp2_with fail
      refine (st40.write _ (by decide) (by omega)).mono ?_
      rintro e w41 ⟨⟨n41, rfl⟩, st41⟩
      go_wp2
      go_meet
      case rel => exact st41.le (by omega) (by unfold setHttp; rw [hq]; rfl)
  case rest =>
  clear c7 st40
  have st50 : St w b c 11 (L1 ++ setHttp c) wc := hcut
  clear hcut
  generalize wc = w50 at st50 ⊢
  have c6 : w50.cell? ⟨b, 6, none⟩ = some (.bool c.secure) := st50.ck.cell 6
  go_upto_if 120 with fail
  go_cut [] (fun wx => St w b c 12 (L1 ++ setHttp c ++ setSecure c) wx)
  case first =>
    rcases hq : c.secure with _ | _
    · go_wp2
      go_meet
      case rel => exact st50.le (by omega) (by unfold setSecure; rw [hq]; simp)
    · go_wp2_with fail
      refine (st50.write _ (by decide) (by omega)).mono ?_
      rintro e w51 ⟨⟨n51, rfl⟩, st51⟩
      go_wp2
      go_meet
      case rel => exact st51.le (by omega) (by unfold setSecure; rw [hq]; rfl)
  case rest =>
  clear c6 st50
  have st60 : St w b c 12 (L1 ++ setHttp c ++ setSecure c) wc := hcut
  clear hcut
  generalize wc = w60 at st60 ⊢
  have c8 : w60.cell? ⟨b, 8, none⟩ = some (.int .i64 c.site) := st60.ck.cell 8
  go_upto_block 0 with fail
  go_cut [126, 128, 131, 134] (fun x1 x2 x3 x4 wx => St w b c 13 (L1 ++ setHttp c ++ setSecure c ++ setSite c) wx)
  case first =>
    by_cases h1 : c.site = 1
    · have HP : setSite c = [] := by unfold setSite; rw [if_neg (by omega), if_neg (by omega), if_neg (by omega)]
      have t1 : (c.site == 1) = true := by rw [h1]; rfl
      have HP := Lib.hid HP
      clear h1
      go_wp2
      go_meet
      case rel => exact st60.le (by omega) (by rw [HP.out, List.append_nil])
    have t1 : (c.site == 1) = false := by rw [beq_eq_false_iff_ne]; exact h1
    by_cases h4 : c.site = 4
    · have HP : setSite c = sSite ++ sNone := by unfold setSite; rw [if_pos h4]
      have t4 : (c.site == 4) = true := by rw [h4]; rfl
      have HP := Lib.hid HP
      clear h1 h4
      go_wp2_with fail
      refine (st60.write _ (by decide) (by omega)).mono ?_
      rintro e w61 ⟨⟨n61, rfl⟩, st61⟩
      go_wp2
      go_meet
      case rel => exact st61.le (by omega) (by rw [HP.out]; rfl)
    have t4 : (c.site == 4) = false := by rw [beq_eq_false_iff_ne]; exact h4
    by_cases h2 : c.site = 2
    · have HP : setSite c = sSite ++ sLax := by unfold setSite; rw [if_neg h4, if_pos h2]
      have t2 : (c.site == 2) = true := by rw [h2]; rfl
      have HP := Lib.hid HP
      clear h1 h4 h2
      go_wp2_with fail
      refine (st60.write _ (by decide) (by omega)).mono ?_
      rintro e w61 ⟨⟨n61, rfl⟩, st61⟩
      go_wp2
      go_meet
      case rel => exact st61.le (by omega) (by rw [HP.out]; rfl)
    have t2 : (c.site == 2) = false := by rw [beq_eq_false_iff_ne]; exact h2
    by_cases h3 : c.site = 3
    · have HP : setSite c = sSite ++ sStrict := by unfold setSite; rw [if_neg h4, if_neg h2, if_pos h3]
      have t3 : (c.site == 3) = true := by rw [h3]; rfl
      have HP := Lib.hid HP
      clear h1 h4 h2 h3
      go_wp2_with fail
      refine (st60.write _ (by decide) (by omega)).mono ?_
      rintro e w61 ⟨⟨n61, rfl⟩, st61⟩
      go_wp2
      go_meet
      case rel => exact st61.le (by omega) (by rw [HP.out]; rfl)
    have t3 : (c.site == 3) = false := by rw [beq_eq_false_iff_ne]; exact h3
    have HP : setSite c = [] := by unfold setSite; rw [if_neg h4, if_neg h2, if_neg h3]
    have HP := Lib.hid HP
    clear h1 h4 h2 h3
    go_wp2
    go_meet
    case rel => exact st60.le (by omega) (by rw [HP.out, List.append_nil])
  case rest =>
  clear c8 st60
  have st70 : St w b c 13 (L1 ++ setHttp c ++ setSecure c ++ setSite c) wc := hcut
  clear hcut
  generalize wc = w70 at st70 ⊢
  have c9 : w70.cell? ⟨b, 9, none⟩ = some (.bool c.part) := st70.ck.cell 9
  go_upto_if 140 with fail
  go_cut [] (fun wx => St w b c 14 (L1 ++ setHttp c ++ setSecure c ++ setSite c ++ setPart c) wx)
  case first =>
    rcases hq : c.part with _ | _
    · go_wp2
      go_meet
      case rel => exact st70.le (by omega) (by unfold setPart; rw [hq]; simp)
    · go_wp2_with fail
      refine (st70.write _ (by decide) (by omega)).mono ?_
      rintro e w71 ⟨⟨n71, rfl⟩, st71⟩
      go_wp2
      go_meet
      case rel => exact st71.le (by omega) (by unfold setPart; rw [hq]; rfl)
  case rest =>
  clear c9 st70
  have st80 : St w b c 14 (setL c) wc := hcut.le (Nat.le_refl _) (by rw [HL.out, HQ.out])
  clear hcut
  generalize wc = w80 at st80 ⊢
  go_wp2_with fail
  refine (Tryz.Builder_String_any _ _ _ _ (.inr st80.bd) (Nat.le_of_lt st80.lt)).mono ?_
  rintro e w81 ⟨rfl, hb81⟩
  have HB := Lib.hid (st80.be.trans hb81)
  clear hb81 st80
  go_wp2
  go_ret
  exact ⟨⟨_, rfl, rfl⟩, HB.out⟩
end Go.Proofs.YtfijncfoefbohaaGreatDoor
