/- Arguments opened: []string, impl.Cookie. -/
import Derived.Test.YtfijncfoefbohaaGreatDoorWorks
import Derived.Lib.SmallJoins
import Derived.SliceStrings
import Derived.WideShapes
import Derived.ChangeArms
namespace Go.Proofs.YtfijncfoefbohaaGreatDoor
open Go Go.RowKit Go.Joins Go.ChangeShapes Go.WideShapes Go.Deep

/-- A []string value: the texts xs. -/
def StrsAt (xs : List ByteArray) (v : Value) (w : World) : Prop :=
  (v = .slice none 0 0 ∧ xs = []) ∨
  ∃ (a : Addr) (cap : Nat), v = .slice (some a) xs.length cap ∧ xs.length ≤ cap ∧ cap ≤ maxLen ∧ (∀ i (h : i < xs.length), w.cell? (a.add i) = some (.string xs[i])) ∧ (∀ x ∈ xs, x.size ≤ maxLen)

section
variable {H : Type} {enc : TypeId × Value → H} {w : World} {base : Nat} {spare : Nat → Bool} {held : Bool}
theorem open_strs1 {fuel : Nat} {v : Value} {x : DataW H × List MemPlace} (h : DataW.trod enc Tryz.prog w base spare held fuel 23 [v] = some x) : ∃ xs, StrsAt xs v w := by
  rcases open_strings Tryz.underlying23 Tryz.underlying9 (by kernel_rfl) h with ⟨h1, _⟩ | ⟨a, len, cap, ss, h1, _, hlc, hcm, hlen, _, hc, hm⟩
  · exact ⟨[], .inl ⟨by simpa using h1, rfl⟩⟩
  · have hll : len ≤ ss.length := by rw [hlen]; split <;> omega
    have hlt : (ss.take len).length = len := by rw [List.length_take]; omega
    refine ⟨ss.take len, .inr ⟨a, cap, by rw [hlt]; simpa using h1, by omega, hcm, ?_, fun x hx => hm x (List.mem_of_mem_take hx)⟩⟩
    intro i hi
    rw [hlt] at hi
    rw [hc i (by omega), List.getElem_take]
    rw [List.getD_eq_getElem?_getD, List.getElem?_eq_getElem (by omega)]
    rfl
set_option maxRecDepth 100000 in
set_option maxRecDepth 100000 in
theorem open_strs {r : Reach} {b0 : Nat} {v : Value} {d : DataW H} {ps : List MemPlace} (hv : Value.okWide Tryz.prog w r b0 23 v) (h : DataW.Trod enc Tryz.prog w base spare held 23 v d ps) : ∃ xs, StrsAt xs v w := by
  obtain ⟨a, len, cap, rfl⟩ := okWide_slice Tryz.underlying23 hv
  obtain ⟨fuel, hf⟩ := h
  exact open_strs1 (by simpa [Value.cells] using hf)

set_option maxRecDepth 100000 in
theorem open_agg12 {P : Program} {r : Reach} {b0 : Nat} {t : TypeId} {f0 f1 f2 f3 f4 f5 f6 f7 f8 f9 f10 f11 : Field} {v : Value} {d : DataW H} {p : List MemPlace} (hs : P.underlying t = some (.struct #[f0, f1, f2, f3, f4, f5, f6, f7, f8, f9, f10, f11])) (hone : oneCellFields P #[f0, f1, f2, f3, f4, f5, f6, f7, f8, f9, f10, f11] = true) (hC : P.cellsOf t = 12)
    (hv : Value.okWide P w r b0 t v) (h : DataW.Trod enc P w base spare held t v d p) :
    ∃ (v0 v1 v2 v3 v4 v5 v6 v7 v8 v9 v10 v11 : Value) (y0 y1 y2 y3 y4 y5 y6 y7 y8 y9 y10 y11 : DataW H × List MemPlace) (n : Nat), v = .agg #[v0, v1, v2, v3, v4, v5, v6, v7, v8, v9, v10, v11] ∧ DataW.trod enc P w base spare held n f0.type [v0] = some y0 ∧ DataW.trod enc P w base spare held n f1.type [v1] = some y1 ∧ DataW.trod enc P w base spare held n f2.type [v2] = some y2 ∧ DataW.trod enc P w base spare held n f3.type [v3] = some y3 ∧ DataW.trod enc P w base spare held n f4.type [v4] = some y4 ∧ DataW.trod enc P w base spare held n f5.type [v5] = some y5 ∧ DataW.trod enc P w base spare held n f6.type [v6] = some y6 ∧ DataW.trod enc P w base spare held n f7.type [v7] = some y7 ∧ DataW.trod enc P w base spare held n f8.type [v8] = some y8 ∧ DataW.trod enc P w base spare held n f9.type [v9] = some y9 ∧ DataW.trod enc P w base spare held n f10.type [v10] = some y10 ∧ DataW.trod enc P w base spare held n f11.type [v11] = some y11 := by
  obtain ⟨cs, rfl, hsz⟩ := okWide_struct hs hv
  obtain ⟨l⟩ := cs
  match l, hsz.trans hC with
  | [c0, c1, c2, c3, c4, c5, c6, c7, c8, c9, c10, c11], _ =>
    obtain ⟨fuel, hf⟩ := h
    obtain ⟨xs, n, _, hx, _, hlen, hg⟩ := DataW.trod_struct hs hf
    obtain ⟨o0, k0⟩ := hone_of hone 0 f0 rfl
    obtain ⟨o1, k1⟩ := hone_of hone 1 f1 rfl
    obtain ⟨o2, k2⟩ := hone_of hone 2 f2 rfl
    obtain ⟨o3, k3⟩ := hone_of hone 3 f3 rfl
    obtain ⟨o4, k4⟩ := hone_of hone 4 f4 rfl
    obtain ⟨o5, k5⟩ := hone_of hone 5 f5 rfl
    obtain ⟨o6, k6⟩ := hone_of hone 6 f6 rfl
    obtain ⟨o7, k7⟩ := hone_of hone 7 f7 rfl
    obtain ⟨o8, k8⟩ := hone_of hone 8 f8 rfl
    obtain ⟨o9, k9⟩ := hone_of hone 9 f9 rfl
    obtain ⟨o10, k10⟩ := hone_of hone 10 f10 rfl
    obtain ⟨o11, k11⟩ := hone_of hone 11 f11 rfl
    match xs, hlen with
    | [y0, y1, y2, y3, y4, y5, y6, y7, y8, y9, y10, y11], _ =>
      exact ⟨c0, c1, c2, c3, c4, c5, c6, c7, c8, c9, c10, c11, y0, y1, y2, y3, y4, y5, y6, y7, y8, y9, y10, y11, n, rfl, by simpa [Value.cells, o0, k0] using hg 0 f0 rfl, by simpa [Value.cells, o1, k1] using hg 1 f1 rfl, by simpa [Value.cells, o2, k2] using hg 2 f2 rfl, by simpa [Value.cells, o3, k3] using hg 3 f3 rfl, by simpa [Value.cells, o4, k4] using hg 4 f4 rfl, by simpa [Value.cells, o5, k5] using hg 5 f5 rfl, by simpa [Value.cells, o6, k6] using hg 6 f6 rfl, by simpa [Value.cells, o7, k7] using hg 7 f7 rfl, by simpa [Value.cells, o8, k8] using hg 8 f8 rfl, by simpa [Value.cells, o9, k9] using hg 9 f9 rfl, by simpa [Value.cells, o10, k10] using hg 10 f10 rfl, by simpa [Value.cells, o11, k11] using hg 11 f11 rfl⟩

end

/-- What a cookie argument is: its texts fit, its numbers too, its list of texts stands. -/
structure CkOk (c : Ck) (w : World) : Prop where
  name : c.name.size ≤ maxLen
  value : c.value.size ≤ maxLen
  path : c.path.size ≤ maxLen
  domain : c.domain.size ≤ maxLen
  raw : c.raw.size ≤ maxLen
  age0 : -9223372036854775808 ≤ c.age
  age1 : c.age ≤ 9223372036854775807
  site0 : -9223372036854775808 ≤ c.site
  site1 : c.site ≤ 9223372036854775807
  unp : ∃ xs, StrsAt xs (.slice c.uo c.un c.uc) w

theorem wf64 {n : Int} (h : (Lit.int .i64 n).wf = true) : -9223372036854775808 ≤ n ∧ n ≤ 9223372036854775807 := by
  have h2 : IntKind.i64.min ≤ n ∧ n ≤ 9223372036854775807 := by simpa [Lit.wf] using h
  exact ⟨h2.1, h2.2⟩

set_option maxRecDepth 100000 in
theorem open_cookie {H : Type} {enc : TypeId × Value → H} {w : World} {base : Nat} {spare : Nat → Bool} {held : Bool} {r : Reach} {b0 : Nat} {v : Value} {d : DataW H} {p : List MemPlace}
    (hv : Value.okWide Tryz.prog w r b0 35 v) (h : DataW.Trod enc Tryz.prog w base spare held 35 v d p) : ∃ c : Ck, v = .agg c.cells ∧ CkOk c w := by
  obtain ⟨v0, v1, v2, v3, v4, v5, v6, v7, v8, v9, v10, v11, y0, y1, y2, y3, y4, y5, y6, y7, y8, y9, y10, y11, n, rfl, h0, h1, h2, h3, h4, h5, h6, h7, h8, h9, h10, h11⟩ := open_agg12 Tryz.underlying35 (by kernel_rfl) (by kernel_rfl) hv h
  obtain ⟨s0, e0, -, m0⟩ := DataW.trod_string Tryz.underlying9 h0
  obtain ⟨s1, e1, -, m1⟩ := DataW.trod_string Tryz.underlying9 h1
  obtain ⟨q2, e2, -⟩ := DataW.trod_bool Tryz.underlying4 h2
  obtain ⟨s3, e3, -, m3⟩ := DataW.trod_string Tryz.underlying9 h3
  obtain ⟨s4, e4, -, m4⟩ := DataW.trod_string Tryz.underlying9 h4
  obtain ⟨i5, e5, -, m5⟩ := DataW.trod_int Tryz.underlying3 h5
  obtain ⟨q6, e6, -⟩ := DataW.trod_bool Tryz.underlying4 h6
  obtain ⟨q7, e7, -⟩ := DataW.trod_bool Tryz.underlying4 h7
  obtain ⟨i8, e8, -, m8⟩ := DataW.trod_int Tryz.underlying3 h8
  obtain ⟨q9, e9, -⟩ := DataW.trod_bool Tryz.underlying4 h9
  obtain ⟨s10, e10, -, m10⟩ := DataW.trod_string Tryz.underlying9 h10
  obtain ⟨xs, hxs⟩ := open_strs1 h11
  have hsl : ∃ uo un uc, v11 = .slice uo un uc := by
    rcases hxs with ⟨rfl, _⟩ | ⟨a, cap, rfl, _⟩
    · exact ⟨_, _, _, rfl⟩
    · exact ⟨_, _, _, rfl⟩
  obtain ⟨uo, un, uc, rfl⟩ := hsl
  simp only [List.cons.injEq, and_true] at e0 e1 e2 e3 e4 e5 e6 e7 e8 e9 e10
  subst e0 e1 e2 e3 e4 e5 e6 e7 e8 e9 e10
  exact ⟨⟨s0, s1, q2, s3, s4, i5, q6, q7, i8, q9, s10, uo, un, uc⟩, rfl, ⟨m0, m1, m3, m4, m10, (wf64 m5).1, (wf64 m5).2, (wf64 m8).1, (wf64 m8).2, xs, hxs⟩⟩
end Go.Proofs.YtfijncfoefbohaaGreatDoor
