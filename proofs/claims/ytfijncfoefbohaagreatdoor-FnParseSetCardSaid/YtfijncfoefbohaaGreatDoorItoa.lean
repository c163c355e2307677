/- strconv.AppendInt at base 10 and a positive number, onto the head of an array of the caller's own (whatever the type its block bears). -/
import Derived.Test.YtfijncfoefbohaaGreatDoorBuild
import Derived.Test.YtfijncfoefbohaaGreatDoorShelf
namespace Go.Proofs.YtfijncfoefbohaaGreatDoor
open Go Go.RowKit Go.Sort Go.Lib

/-- Block g is an array of n bytes whose first are the bytes l. -/
def ArrAt (g T n : Nat) (l : List UInt8) (w : World) : Prop := ∃ cur, w.heap[g]? = some (.cells cur T (0, 0)) ∧ cur.size = n ∧ cur.toList.take l.length = Lib.byteCells l

section
variable {P : Program} {w : World}
theorem run_app_room_str (T : TypeId) (t u ty e : TypeId) (i : TypeInfo) (ht : P.underlying t = some (.slice e)) (hu : P.underlying u = some .string) (hi : P.info? e = some i) (hs1 : i.size = 1)
    (g sLen sCap : Nat) (cur : Array Value) (hg : w.heap[g]? = some (.cells cur T (0, 0))) (s : ByteArray) (hroom : sLen + s.size ≤ sCap) (hfit : sLen + s.size ≤ cur.size) :
    (Builtin.append_ #[t, u] ty #[.slice (some ⟨g, 0, none⟩) sLen sCap, .string s]).run P w =
      .ok (.slice (some ⟨g, 0, none⟩) (sLen + s.size) sCap) (w.setRow g (cur.toList.take sLen ++ strCells s ++ cur.toList.drop (sLen + s.size)).toArray) := by
  have hf := run_firstCells_string (P := P) w 1 s
  have hst := run_storeCells_at P g sLen T (strCells s) 0 cur w hg (by simpa [strCells_length] using hfit) (strCells_oneCell s)
  simp only [Nat.add_zero, strCells_length] at hst
  simp [Builtin.append_, run_underlying ht, run_underlying hu, sizeOf, typeInfo, hi, hs1, Builtin.lenOf, hroom, hf, Addr.add_lit, hst]
theorem run_app_room (T : TypeId) (t ty e : TypeId) (i : TypeInfo) (ht : P.underlying t = some (.slice e)) (hi : P.info? e = some i) (hs1 : i.size = 1)
    (g sLen sCap : Nat) (cur : Array Value) (hg : w.heap[g]? = some (.cells cur T (0, 0))) (a : Addr) (m c : Nat) (news : List Value) (hl : news.length = m)
    (hnews : ∀ j u, news[j]? = some u → w.cell? (a.add j) = some u) (h1 : ∀ u ∈ news, u.oneCell' = true) (hroom : sLen + m ≤ sCap) (hfit : sLen + m ≤ cur.size) :
    (Builtin.append_ #[t, t] ty #[.slice (some ⟨g, 0, none⟩) sLen sCap, .slice (some a) m c]).run P w =
      .ok (.slice (some ⟨g, 0, none⟩) (sLen + m) sCap) (w.setRow g (cur.toList.take sLen ++ news ++ cur.toList.drop (sLen + m)).toArray) := by
  have hf := run_firstCells_some (P := P) w 1 m a m c news (by rw [hl, Nat.mul_one]) hnews
  have hst := run_storeCells_at P g sLen T news 0 cur w hg (by rw [hl]; simpa using hfit) h1
  simp only [Nat.add_zero, hl] at hst
  simp [Builtin.append_, run_underlying ht, sizeOf, typeInfo, hi, hs1, Builtin.lenOf, hroom, hf, Addr.add_lit, hst]
theorem wpList_app_room_str {ops : Array Oper} {rest : List Oper} {o : Oper} {ac : Act} {Q : Exit → Act → World → Prop} (hgd : o.guard = none) (sl x : Operand) (T t u e : TypeId)
    (ho : o.op = .call { callee := .builtin .append, args := #[sl, x], argTypes := #[t, u] })
    (i : TypeInfo) (ht : P.underlying t = some (.slice e)) (hu : P.underlying u = some .string) (hi : P.info? e = some i) (hs1 : i.size = 1)
    (g sLen sCap : Nat) (cur : Array Value) (hg : w.heap[g]? = some (.cells cur T (0, 0))) (s : ByteArray) (hs : ac.eval sl = .slice (some ⟨g, 0, none⟩) sLen sCap) (hx : ac.eval x = .string s) (hroom : sLen + s.size ≤ sCap) (hfit : sLen + s.size ≤ cur.size)
    (h : wpList P ops Q rest (ac.put o.dst (.slice (some ⟨g, 0, none⟩) (sLen + s.size) sCap)) (w.setRow g (cur.toList.take sLen ++ strCells s ++ cur.toList.drop (sLen + s.size)).toArray)) : wpList P ops Q (o :: rest) ac w := by
  refine wpList_plain hgd fun K hK => ?_
  have hr := run_app_room_str (P := P) (w := w) T t u o.type e i ht hu hi hs1 g sLen sCap cur hg s hroom hfit
  unfold Oper.wp execOp
  simp only [ho, resolve, invoke, builtin, Sem.run_bind, Sem.run_pure, Result.andThen_ok, List.map_toArray, List.map_cons, List.map_nil, hs, hx, hr]
  exact hK _ _ h
theorem wpList_app_room {ops : Array Oper} {rest : List Oper} {o : Oper} {ac : Act} {Q : Exit → Act → World → Prop} (hgd : o.guard = none) (sl x : Operand) (T t e : TypeId)
    (ho : o.op = .call { callee := .builtin .append, args := #[sl, x], argTypes := #[t, t] })
    (i : TypeInfo) (ht : P.underlying t = some (.slice e)) (hi : P.info? e = some i) (hs1 : i.size = 1)
    (g sLen sCap : Nat) (cur : Array Value) (hg : w.heap[g]? = some (.cells cur T (0, 0))) (a : Addr) (m c : Nat) (news : List Value) (hs : ac.eval sl = .slice (some ⟨g, 0, none⟩) sLen sCap) (hx : ac.eval x = .slice (some a) m c) (hl : news.length = m)
    (hnews : ∀ j u, news[j]? = some u → w.cell? (a.add j) = some u) (h1 : ∀ u ∈ news, u.oneCell' = true) (hroom : sLen + m ≤ sCap) (hfit : sLen + m ≤ cur.size)
    (h : wpList P ops Q rest (ac.put o.dst (.slice (some ⟨g, 0, none⟩) (sLen + m) sCap)) (w.setRow g (cur.toList.take sLen ++ news ++ cur.toList.drop (sLen + m)).toArray)) : wpList P ops Q (o :: rest) ac w := by
  refine wpList_plain hgd fun K hK => ?_
  have hr := run_app_room (P := P) (w := w) T t o.type e i ht hi hs1 g sLen sCap cur hg a m c news hl hnews h1 hroom hfit
  unfold Oper.wp execOp
  simp only [ho, resolve, invoke, builtin, Sem.run_bind, Sem.run_pure, Result.andThen_ok, List.map_toArray, List.map_cons, List.map_nil, hs, hx, hr]
  exact hK _ _ h
end

theorem arr_put {g T n : Nat} {w : World} {cur : Array Value} (l : List UInt8) (hg : w.heap[g]? = some (.cells cur T (0, 0))) (hn : cur.size = n) (hl : l.length ≤ n) :
    ArrAt g T n l (w.setRow g (Lib.byteCells l ++ cur.toList.drop l.length).toArray) ∧ w.grownBy (w.setRow g (Lib.byteCells l ++ cur.toList.drop l.length).toArray) (some g) := by
  refine ⟨⟨_, setRow_heap w g cur _ T _ hg, ?_, ?_⟩, ⟨rfl, rfl, rfl, by simp [World.setRow], fun k _ hk => setRow_other w g k _ (fun e => hk (by rw [e]))⟩⟩
  · simp only [List.size_toArray, List.length_append, List.length_drop, Array.length_toList, Lib.byteCells_length]
    omega
  · conv => lhs; rw [← Lib.byteCells_length l]
    exact List.take_left

set_option maxHeartbeats 3200000 in
set_option maxRecDepth 100000 in
theorem appendUint_any (g : Nat) (T : Nat) (n u : Nat) (hn : 20 ≤ n) (h1 : 1 ≤ u) (h64 : u < 9223372036854775808) (cur : Array Value) (w : World) (hg : w.heap[g]? = some (.cells cur T (0, 0))) (hsz : cur.size = n)
    (htab : ∀ w', Below w.heap.size w w' → Lib.TabIs Tryz.prog w' "internal/strconv.uint64pow10" .u64 Lib.pow10Tab) :
    Calls Tryz.prog 73 #[.slice (some ⟨g, 0, none⟩) 0 n, .int .u64 u, .int .i64 10] w fun e w' => e = .returned (.slice (some ⟨g, 0, none⟩) (Lib.decDigits u).length n) ∧ ArrAt g T n (Lib.decDigits u) w' ∧ w.grownBy w' (some g) := by
  obtain ⟨i0, hi, hz0, hz1, hz2⟩ := info_parts byteInfo
  have hglt : g < w.heap.size := (Array.getElem?_eq_some_iff.1 hg).1
  by_cases hu : u < 100
  · have hlen : (Lib.decDigits u).length ≤ 20 := by
      rw [Lib.decDigits_length]
      by_cases h10 : u < 10
      · rw [Lib.nDigits_small h10]; omega
      · rw [Lib.nDigits_big h10, Lib.nDigits_small (show u / 10 < 10 by omega)]; omega
    have hss : (⟨(Lib.decDigits u).toArray⟩ : ByteArray).size = (Lib.decDigits u).length := by simp [ByteArray.size]
    have harr := arr_put (Lib.decDigits u) hg hsz (by omega)
    have HARR := Lib.hid harr
    have HSS := Lib.hid hss
    clear harr hss
    go_enter Tryz.func73, Tryz.ntmps73
    go_wp2_with (first
      | (go_at_call 82; refine (Tryz.internal_strconv_small u hu _).mono ?_; rintro e w' ⟨rfl, rfl⟩)
      | (at_builtin; refine wpList_app_room_str rfl (.tmp 13) (.tmp 16) T _ _ 5 rfl i0 Tryz.underlying74 Tryz.underlying9 hi hz1 g 0 n cur hg ⟨(Lib.decDigits u).toArray⟩ rfl rfl ?c1 ?c2 ?_))
    case c1 => rw [HSS.out]; omega
    case c2 => rw [HSS.out]; omega
    go_ret
    exact ⟨rfl, HARR.out.1, HARR.out.2⟩
  · have hu100 : 100 ≤ u := by omega
    have hnd20 : Lib.nDigits u ≤ 20 := by have := Lib.numDigits_eq u h1 (by omega); split at this <;> omega
    have hlen : (Lib.decDigits u).length ≤ 20 := by rw [Lib.decDigits_length]; exact hnd20
    have hal : Tryz.prog.arrayLen 116 = 24 := by kernel_rfl
    have hsl : ∀ W, (Instr.sliceAt 116 (.pointer (some ⟨w.heap.size, 0, none⟩)) none (some (.int .i64 (Lib.nDigits u : Int))) none).run Tryz.prog W = .ok (.slice (some ⟨w.heap.size, 0, none⟩) (Lib.nDigits u) 24) W := fun W => by
      rw [run_sliceAt_array_h W 116 ⟨w.heap.size, 0, none⟩ (by kernel_rfl) .i64 (Lib.nDigits u : Int) (by omega) (by rw [hal]; omega)]
      go_simp
    have hH0 := Lib.holds_zero0 w 116 (Lib.nDigits u) (by omega)
    have hfmt := Tryz.internal_strconv_formatBase10 w.heap.size 0 24 u (Array.replicate (Lib.nDigits u) 0) (w.alloc (.cells Lib.zeros24 116)) hH0 (by rw [Array.size_replicate]; exact Lib.lt_pow_nDigits u) (by omega) (by rw [Array.size_replicate]; omega)
    rw [Array.size_replicate] at hfmt
    have HFMT := Lib.hid hfmt
    have HH0 := Lib.hid hH0
    have iu : (100 : Int) ≤ (u : Int) := by omega
    have HTAB := Lib.hid (htab (w.alloc (.cells Lib.zeros24 116)) ((Below.refl _ _).alloc (Nat.le_refl _) _))
    have HAL := Lib.hid hal
    clear hH0 hal hfmt htab
    go_enter Tryz.func73, Tryz.ntmps73
    go_wp2_with fail
    refine (Tryz.internal_strconv_numDigits u h1 (by omega) _ HTAB.out).mono ?_
    rintro e w1 ⟨rfl, rfl⟩
    go_wp2_with fail
    refine HFMT.out.mono ?_
    rintro e w2 ⟨rfl, k, v', dk, rfl, hF⟩
    have hcells : ∀ j u', (Lib.byteCells (Lib.decDigits u))[j]? = some u' → ((putRow (fun (b : UInt8) => Value.int .u8 (b.toNat : Int)) (w.alloc (.cells Lib.zeros24 116)) w.heap.size 0 dk).drewN k).cell? ((⟨w.heap.size, 0, none⟩ : Addr).add j) = some u' := by
      intro j u' hj
      have hjl : j < (Lib.decDigits u).length := by
        have h5 := (List.getElem?_eq_some_iff.1 hj).1
        rwa [Lib.byteCells_length] at h5
      have e5 : (Lib.byteCells (Lib.decDigits u))[j]? = some (Value.int .u8 ((Lib.decDigits u)[j].toNat : Int)) := by simp [Lib.byteCells, hjl]
      rw [e5] at hj
      cases hj
      rw [Lib.row_is_numeral hF j hjl, Lib.add_plain, World.cell?_drewN]
      exact cell?_putRow (fun (b : UInt8) => Value.int .u8 (b.toNat : Int)) _ w.heap.size 0 _ dk HH0.out (by rw [hF.size, Array.size_replicate]) j (by rw [hF.size]; rw [Lib.decDigits_length] at hjl; exact hjl)
    obtain ⟨os, eo⟩ := Lib.fin_at w (.cells Lib.zeros24 116) dk k 0
    have hbel : Below w.heap.size w ((putRow (fun (b : UInt8) => Value.int .u8 (b.toNat : Int)) (w.alloc (.cells Lib.zeros24 116)) w.heap.size 0 dk).drewN k) := by rw [eo]; exact Lib.below_grow _ w (Nat.le_refl _) k os
    generalize (putRow (fun (b : UInt8) => Value.int .u8 (b.toNat : Int)) (w.alloc (.cells Lib.zeros24 116)) w.heap.size 0 dk).drewN k = W2 at hcells hbel ⊢
    clear eo hF
    have hg2 : W2.heap[g]? = some (.cells cur T (0, 0)) := (hbel.block g hglt).trans hg
    have harr := arr_put (Lib.decDigits u) hg2 hsz (by omega)
    have HARR := Lib.hid harr
    have HBEL := Lib.hid hbel
    have HLEN := Lib.hid (Lib.decDigits_length u)
    clear harr hbel
    go_wp2_with (at_builtin; refine wpList_app_room rfl (.tmp 24) (.tmp 26) T _ 5 rfl i0 Tryz.underlying74 hi hz1 g 0 n cur hg2 ⟨w.heap.size, 0, none⟩ (Lib.nDigits u) 24 (Lib.byteCells (Lib.decDigits u)) rfl rfl ?c1 hcells (byteCells_one _) ?c3 ?c4 ?_)
    case c1 => rw [Lib.byteCells_length, HLEN.out]
    case c3 => omega
    case c4 => omega
    go_ret
    refine ⟨by rw [HLEN.out]; rfl, ?_, ?_⟩
    · have := HARR.out.1
      rw [HLEN.out] at this
      exact this
    · have h3 := HARR.out.2
      rw [HLEN.out] at h3
      have h2 := HBEL.out
      exact ⟨h3.os.trans h2.os, h3.tape.trans h2.tape, h3.output.trans h2.output, Nat.le_trans h2.size h3.size, fun j hj hne => (h3.block j (Nat.lt_of_lt_of_le hj h2.size) hne).trans (h2.block j hj)⟩

set_option maxHeartbeats 800000 in
/-- strconv.AppendInt(dst, u, 10), u above 0, dst the head of an array. -/
theorem appendInt_any (g : Nat) (T : Nat) (n u : Nat) (hn : 20 ≤ n) (h1 : 1 ≤ u) (h64 : u < 9223372036854775808) (cur : Array Value) (w : World) (hg : w.heap[g]? = some (.cells cur T (0, 0))) (hsz : cur.size = n)
    (htab : ∀ w', Below w.heap.size w w' → Lib.TabIs Tryz.prog w' "internal/strconv.uint64pow10" .u64 Lib.pow10Tab) :
    Calls Tryz.prog 43 #[.slice (some ⟨g, 0, none⟩) 0 n, .int .i64 u, .int .i64 10] w fun e w' => e = .returned (.slice (some ⟨g, 0, none⟩) (Lib.decDigits u).length n) ∧ ArrAt g T n (Lib.decDigits u) w' ∧ w.grownBy w' (some g) := by
  have hinner : Calls Tryz.prog 60 #[.slice (some ⟨g, 0, none⟩) 0 n, .int .i64 u, .int .i64 10] w fun e w' => e = .returned (.slice (some ⟨g, 0, none⟩) (Lib.decDigits u).length n) ∧ ArrAt g T n (Lib.decDigits u) w' ∧ w.grownBy w' (some g) := by
    have hc := appendUint_any g T n u hn h1 h64 cur w hg hsz htab
    have HC := Lib.hid hc
    clear hc htab
    have hw : IntKind.u64.wrap (u : Int) = (u : Int) := by rw [IntKind.wrap_u64]; omega
    have h0 : decide ((u : Int) < 0) = false := by rw [decide_eq_false_iff_not]; omega
    go_enter Tryz.func60, Tryz.ntmps60
    go_wp2_with fail
    refine HC.out.mono ?_
    rintro e w' ⟨rfl, hA, hG⟩
    have HA := Lib.hid hA
    clear hA
    go_wp2
    go_ret
    exact ⟨rfl, HA.out, hG⟩
  have HI := Lib.hid hinner
  clear hinner htab
  go_enter Tryz.func43, Tryz.ntmps43
  go_wp2_with fail
  refine HI.out.mono ?_
  rintro e w' ⟨rfl, hA, hG⟩
  have HA := Lib.hid hA
  clear hA
  go_wp2
  go_ret
  exact ⟨rfl, HA.out, hG⟩
end Go.Proofs.YtfijncfoefbohaaGreatDoor
