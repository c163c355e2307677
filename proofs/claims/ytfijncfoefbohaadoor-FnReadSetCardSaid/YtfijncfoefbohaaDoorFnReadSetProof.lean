/- The tied card of FnReadSet, for every input: the row's frame, and the walk out of the texts before it. -/
import Derived.Test.YtfijncfoefbohaaDoorErrsS
import Derived.Test.YtfijncfoefbohaaDoorLawReadSet
import Derived.ShutString
import Derived.Test.YtfijncfoefbohaaDoorOpen
namespace Go.Proofs.YtfijncfoefbohaaDoor.fnReadSet
open Go.Proofs.YtfijncfoefbohaaDoor Go.ChangeShapes Go.WideShapes Go.ChangeAt Go.RowKit
open Go.ChangeMaps (open_string shut_string)
set_option linter.unusedVariables false

theorem reads (os : Os) {H : Type} (enc : TypeId × Value → H) : ∃ places, DataW.whole enc Tryd.prog ((start12 os).forCall (fun _ _ => 0) ⟨#[], #[(.slice none 0 0 : Value)], []⟩).memory Tryd.f14.params.toList Rows.fnReadSetSpec.vars false (#[(.slice none 0 0 : Value)] : Array Value).toList 8 = some ([.nil], [], places) :=
  ⟨[], by kernel_rfl⟩

set_option maxRecDepth 100000 in
theorem lifted (os : Os) (started : os.Started) (H : Type) (enc : TypeId × Value → H) (F : Stop.Interp) :
    ReturnsInHanded {} Tryd.checked os 14 .any ((OpenSpec.ofChange Rows.fnReadSetSpec).preRow enc Tryd.prog Tryd.f14 Rows.fnReadSetRow.domain false Rows.fnReadSetRow.laid) (((OpenSpec.ofChange Rows.fnReadSetSpec).at F).post enc Tryd.prog Tryd.f14 false true false false) := by
  obtain ⟨places, hx⟩ := reads os enc
  refine returnsInHanded_of_row (C := Tryd.checked) (s := OpenSpec.ofChange Rows.fnReadSetSpec) own started (by kernel_rfl) Tryd.func14
    (witness_row_atRef (enc := enc) (C := Tryd.checked) false (start12 os) #[(.slice none 0 0 : Value)] (start12_os os) (shaped12 os _) (settled12 os _) (by kernel_rfl)
      (OpenSpec.preRow_of_cond 8 hx (by kernel_rfl) (fun k hk => by cases hk) (by kernel_rfl) (door_met12 os _))) ?_
  intro W base args ds gs before hval0 hW _ _ _ hL _ _
  have hval : ∀ (j : Nat) t v, Tryd.f14.params[j]? = some t → args[j]? = some v → Value.okWide Tryd.prog W .any base t v := hval0
  have hW' := hW
  obtain ⟨p, q, hA0, hV, rfl, hfz, hnd⟩ := hW
  have hA : DataW.TrodAll enc Tryd.prog W 0 (fun _ => true) true Tryd.f14.params.toList args.toList ds p := hA0
  rw [Tryd.params14] at hA hval
  obtain ⟨v0, vs0, d0, ds0, p0, q0, hargs0, rfl, rfl, h0, r0⟩ := trodAll_cons hA
  obtain ⟨rfl, rfl, rfl⟩ := trodAll_nil r0
  obtain rfl : args = #[v0] := by cases args; simp_all
  obtain ⟨rfl, rfl⟩ := trodVars_none hV
  obtain ⟨a0, w0⟩ := open_strs (hval 0 24 v0 rfl rfl) h0
  clear hA0 hval0
  simp only [List.append_nil] at hW'
  refine (fnReadSet_walk _ a0 W w0 (errs12 hL) (nums12 hL)).mono fun e W' ⟨he, hb⟩ => ?_
  subst he
  exact ⟨_, rfl, law_post rfl rfl Tryd.underlying4 (hts_of (by kernel_rfl)) hW' hb rfl⟩

theorem said : Rows.FnReadSetSaid :=
  OpenClaim.holds_of_cond 14 Tryd.f14 rfl rfl rfl rfl rfl rfl rfl ⟨rfl, rfl, rfl, rfl, rfl⟩ rfl rfl rfl rfl rfl (by kernel_rfl) Tryd.func14 (by kernel_rfl)
    (of_decide_eq_true (by kernel_rfl)) (by unfold Func.isWrapper; first | (rw [if_pos (by decide +kernel)]; kernel_rfl) | (rw [if_neg (by decide +kernel)]; exact ⟨rfl, rfl⟩))
    (fun os started H enc _ F => by rw [OpenClaim.pre_eq_preRow]; exact lifted os started H enc F)

theorem plain (f : FuncId) (fn : Func) (hf : Tryd.pinned.checked.prog.funcNamed "httpcookies/laws.FnReadSet" = some f) (hfn : Tryd.pinned.checked.prog.funcs[f]? = some fn) :
    true = Tryd.pinned.checked.prog.looks [] ∧ ∀ (j : Nat) t, fn.params[j]? = some t → Tryd.pinned.checked.prog.wantsStandIn t = false := by
  obtain rfl : f = 14 := Option.some.inj ((show Tryd.prog.funcNamed "httpcookies/laws.FnReadSet" = some 14 by kernel_rfl).symm.trans hf) |>.symm
  obtain rfl : fn = Tryd.f14 := (Option.some.inj (Tryd.func14.symm.trans hfn)).symm
  refine ⟨by kernel_rfl, fun j t ht => ?_⟩
  rw [Tryd.params14] at ht
  have hm : t ∈ [24] := by simpa using Array.mem_of_getElem? ht
  have hall : ([24].all fun u => !Tryd.prog.wantsStandIn u) = true := by kernel_rfl
  exact (show Tryd.prog.wantsStandIn t = false by simpa using List.all_eq_true.1 hall t hm)

/-- ████ THE CARD ████ -/
theorem proved : Rows.FnReadSetCardSaid :=
  Claim7.holds_tied_plain_at .later [] _ _ _ _ said (fun _ h => by cases h) (by kernel_rfl) (fun _ h => by cases h) fnReadSet_row_tie rfl ⟨rfl, rfl⟩ (by kernel_rfl) rfl plain (by kernel_rfl)
#print axioms proved
end Go.Proofs.YtfijncfoefbohaaDoor.fnReadSet
