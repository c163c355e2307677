/- The tied card of FnParseSet, for every input: the row's frame, and the walk out of the texts before it. -/
import Derived.Test.YtfijncfoefbohaaGreatDoorErrsZ
import Derived.Test.YtfijncfoefbohaaGreatDoorLawPset
import Derived.ShutString
import Derived.Test.YtfijncfoefbohaaGreatDoorOpen
import Derived.Test.YtfijncfoefbohaaGreatDoorOpenB
namespace Go.Proofs.YtfijncfoefbohaaGreatDoor.fnParseSet
open Go.Proofs.YtfijncfoefbohaaGreatDoor Go.ChangeShapes Go.WideShapes Go.ChangeAt Go.RowKit
open Go.ChangeMaps (open_string shut_string)
set_option linter.unusedVariables false

theorem reads (os : Os) {H : Type} (enc : TypeId × Value → H) : ∃ places, DataW.whole enc Tryz.prog ((start12 os).forCall (fun _ _ => 0) ⟨#[], #[(.string ByteArray.empty : Value), (.string ByteArray.empty : Value), (.bool false : Value), (.slice none 0 0 : Value), (.slice none 0 0 : Value), (.slice none 0 0 : Value), (.slice none 0 0 : Value)], []⟩).memory Tryz.f3.params.toList Rows.fnParseSetSpec.vars false (#[(.string ByteArray.empty : Value), (.string ByteArray.empty : Value), (.bool false : Value), (.slice none 0 0 : Value), (.slice none 0 0 : Value), (.slice none 0 0 : Value), (.slice none 0 0 : Value)] : Array Value).toList 8 = some ([.lit (.string []), .lit (.string []), .lit (.bool false), .nil, .nil, .nil, .nil], [], places) :=
  ⟨[], by kernel_rfl⟩

set_option maxRecDepth 100000 in
theorem lifted (os : Os) (started : os.Started) (H : Type) (enc : TypeId × Value → H) (F : Stop.Interp) :
    ReturnsInHanded {} Tryz.checked os 3 .any ((OpenSpec.ofChange Rows.fnParseSetSpec).preRow enc Tryz.prog Tryz.f3 Rows.fnParseSetRow.domain false Rows.fnParseSetRow.laid) (((OpenSpec.ofChange Rows.fnParseSetSpec).at F).post enc Tryz.prog Tryz.f3 false true false false) := by
  obtain ⟨places, hx⟩ := reads os enc
  refine returnsInHanded_of_row (C := Tryz.checked) (s := OpenSpec.ofChange Rows.fnParseSetSpec) own started (by kernel_rfl) Tryz.func3
    (witness_row_atRef (enc := enc) (C := Tryz.checked) false (start12 os) #[(.string ByteArray.empty : Value), (.string ByteArray.empty : Value), (.bool false : Value), (.slice none 0 0 : Value), (.slice none 0 0 : Value), (.slice none 0 0 : Value), (.slice none 0 0 : Value)] (start12_os os) (shaped12 os _) (settled12 os _) (by kernel_rfl)
      (OpenSpec.preRow_of_cond 8 hx (by kernel_rfl) (fun k hk => by cases hk) (by kernel_rfl) (door_met12 os _))) ?_
  intro W base args ds gs before hval0 hW _ _ _ hL _ _
  have hval : ∀ (j : Nat) t v, Tryz.f3.params[j]? = some t → args[j]? = some v → Value.okWide Tryz.prog W .any base t v := hval0
  have hW' := hW
  obtain ⟨p, q, hA0, hV, rfl, hfz, hnd⟩ := hW
  have hA : DataW.TrodAll enc Tryz.prog W 0 (fun _ => true) true Tryz.f3.params.toList args.toList ds p := hA0
  rw [Tryz.params3] at hA hval
  obtain ⟨v0, vs0, d0, ds0, p0, q0, hargs0, rfl, rfl, h0, r0⟩ := trodAll_cons hA
  obtain ⟨v1, vs1, d1, ds1, p1, q1, hargs1, rfl, rfl, h1, r1⟩ := trodAll_cons r0
  subst hargs1
  obtain ⟨v2, vs2, d2, ds2, p2, q2, hargs2, rfl, rfl, h2, r2⟩ := trodAll_cons r1
  subst hargs2
  obtain ⟨v3, vs3, d3, ds3, p3, q3, hargs3, rfl, rfl, h3, r3⟩ := trodAll_cons r2
  subst hargs3
  obtain ⟨v4, vs4, d4, ds4, p4, q4, hargs4, rfl, rfl, h4, r4⟩ := trodAll_cons r3
  subst hargs4
  obtain ⟨v5, vs5, d5, ds5, p5, q5, hargs5, rfl, rfl, h5, r5⟩ := trodAll_cons r4
  subst hargs5
  obtain ⟨v6, vs6, d6, ds6, p6, q6, hargs6, rfl, rfl, h6, r6⟩ := trodAll_cons r5
  subst hargs6
  obtain ⟨rfl, rfl, rfl⟩ := trodAll_nil r6
  obtain rfl : args = #[v0, v1, v2, v3, v4, v5, v6] := by cases args; simp_all
  obtain ⟨rfl, rfl⟩ := trodVars_none hV
  obtain ⟨a0, rfl, rfl, rfl, w0⟩ := open_string Tryz.underlying9 (hval 0 9 v0 rfl rfl) h0
  obtain ⟨a1, rfl, rfl, rfl, w1⟩ := open_string Tryz.underlying9 (hval 1 9 v1 rfl rfl) h1
  obtain ⟨a2, rfl, rfl, rfl⟩ := open_bool Tryz.underlying4 (hval 2 4 v2 rfl rfl) h2
  obtain ⟨a3, w3⟩ := open_its (hval 3 22 v3 rfl rfl) h3
  obtain ⟨a4, w4⟩ := open_strs (hval 4 23 v4 rfl rfl) h4
  obtain ⟨a5, w5⟩ := open_strs (hval 5 23 v5 rfl rfl) h5
  obtain ⟨a6, w6⟩ := open_its (hval 6 22 v6 rfl rfl) h6
  clear hA0 hval0
  simp only [List.append_nil] at hW'
  refine (fnParseSet_walk a0 a1 a2 _ a3 _ a4 _ a5 _ a6 W w0 w1 w3 w4 w5 w6 (errs12 hL) (nums12 hL)).mono fun e W' ⟨he, hb⟩ => ?_
  subst he
  exact ⟨_, rfl, law_post rfl rfl Tryz.underlying4 (hts_of (by kernel_rfl)) hW' hb rfl⟩

theorem said : Rows.FnParseSetSaid :=
  OpenClaim.holds_of_cond 3 Tryz.f3 rfl rfl rfl rfl rfl rfl rfl ⟨rfl, rfl, rfl, rfl, rfl⟩ rfl rfl rfl rfl rfl (by kernel_rfl) Tryz.func3 (by kernel_rfl)
    (of_decide_eq_true (by kernel_rfl)) (by unfold Func.isWrapper; first | (rw [if_pos (by decide +kernel)]; kernel_rfl) | (rw [if_neg (by decide +kernel)]; exact ⟨rfl, rfl⟩))
    (fun os started H enc _ F => by rw [OpenClaim.pre_eq_preRow]; exact lifted os started H enc F)

theorem plain (f : FuncId) (fn : Func) (hf : Tryz.pinned.checked.prog.funcNamed "httpcookies/laws.FnParseSet" = some f) (hfn : Tryz.pinned.checked.prog.funcs[f]? = some fn) :
    true = Tryz.pinned.checked.prog.looks [] ∧ ∀ (j : Nat) t, fn.params[j]? = some t → Tryz.pinned.checked.prog.wantsStandIn t = false := by
  obtain rfl : f = 3 := Option.some.inj ((show Tryz.prog.funcNamed "httpcookies/laws.FnParseSet" = some 3 by kernel_rfl).symm.trans hf) |>.symm
  obtain rfl : fn = Tryz.f3 := (Option.some.inj (Tryz.func3.symm.trans hfn)).symm
  refine ⟨by kernel_rfl, fun j t ht => ?_⟩
  rw [Tryz.params3] at ht
  have hm : t ∈ [9, 9, 4, 22, 23, 23, 22] := by simpa using Array.mem_of_getElem? ht
  have hall : ([9, 9, 4, 22, 23, 23, 22].all fun u => !Tryz.prog.wantsStandIn u) = true := by kernel_rfl
  exact (show Tryz.prog.wantsStandIn t = false by simpa using List.all_eq_true.1 hall t hm)

/-- ████ THE CARD ████ -/
theorem proved : Rows.FnParseSetCardSaid :=
  Claim7.holds_tied_plain_at .later [] _ _ _ _ said (fun _ h => by cases h) (by kernel_rfl) (fun _ h => by cases h) fnParseSet_row_tie rfl ⟨rfl, rfl⟩ (by kernel_rfl) rfl plain (by kernel_rfl)
#print axioms proved
end Go.Proofs.YtfijncfoefbohaaGreatDoor.fnParseSet
