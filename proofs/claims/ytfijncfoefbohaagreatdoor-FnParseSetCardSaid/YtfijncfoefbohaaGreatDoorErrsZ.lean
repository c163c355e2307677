/- What the row's list gives at the seat Z: the package's errors and strconv's; a start over the row's own list. -/
import Derived.Test.YtfijncfoefbohaaGreatDoorCards
import Derived.Test.YtfijncfoefbohaaGreatDoorTie
import Derived.Test.YtfijncfoefbohaaGreatDoorPost
import Derived.WalkKit
import Derived.ProofKit
import Derived.LaidMore
import Derived.OpenShut
import Derived.Deep.DeepHandedRow
import Derived.Deep.DeepWitnessRowRef
import Derived.Stop.LaidErr
import Derived.LaidSub
import Derived.Test.YtfijncfoefbohaaGreatDoorSetS
import Derived.Lay
namespace Go.Proofs.YtfijncfoefbohaaGreatDoor
open Go Go.RowKit Go.ChangeShapes Go.WideShapes Go.ChangeAt

theorem star : ("*errors.errorString" : String) = "*" ++ "errors.errorString" := by decide
theorem rowErr (u : TypeId) (h : Tryz.prog.typeName? 3 u = some "*errors.errorString") : u = 125 :=
  typeName_ptr_named (nm := "errors.errorString") (by rw [← star]; kernel_rfl) (by kernel_rfl) (by decide) u (by rw [← star]; exact h)
theorem cellsErr : Tryz.prog.cellsOf 127 = 1 := by kernel_rfl
theorem cellsStr : Tryz.prog.cellsOf 9 = 1 := by kernel_rfl

theorem err_laid {l : List (String × DataW Unit)} {W : World} {n : String} {g : Nat} {text : List UInt8} (hg : Tryz.prog.globalNamed n = some g) (ht : (Tryz.prog.globals[g]?).map (·.type) = some 49)
    (hl : l.filter (fun x => x.1 == n) = [(n, .iface "*errors.errorString" (.ptr (.agg [.lit (.string text)])))]) (h : laidMetH Tryz.prog l W) : ∃ a, W.cell? ⟨g, 0, none⟩ = some (.iface 125 (.pointer (some a))) := by
  have h2 := h.filter (fun x => x.1 == n)
  rw [hl] at h2
  have h3 : laidMet Tryz.prog [(n, .iface "*errors.errorString" (.ptr (.agg [.lit (.string text)])))] W := (laidMetH_iff.1 h2).1
  obtain ⟨a, s, hv, -⟩ := laid_sentinel h3 hg ht Tryz.underlying49 rowErr Tryz.underlying125 Tryz.underlying127 rfl rfl Tryz.underlying9 cellsErr cellsStr
  exact ⟨a, by simpa using World.var?_cell hg hv 0⟩

theorem var_laid {l : List (String × DataW Unit)} {W : World} {n : String} {g : Nat} {text : List UInt8} (hg : Tryz.prog.globalNamed n = some g) (ht : (Tryz.prog.globals[g]?).map (·.type) = some 49)
    (hl : l.filter (fun x => x.1 == n) = [(n, .iface "*errors.errorString" (.ptr (.agg [.lit (.string text)])))]) (h : laidMetH Tryz.prog l W) : ∃ tp p, W.var? Tryz.prog n = some #[.iface tp p] := by
  have h2 := h.filter (fun x => x.1 == n)
  rw [hl] at h2
  have h3 : laidMet Tryz.prog [(n, .iface "*errors.errorString" (.ptr (.agg [.lit (.string text)])))] W := (laidMetH_iff.1 h2).1
  obtain ⟨a, s, hv, -⟩ := laid_sentinel h3 hg ht Tryz.underlying49 rowErr Tryz.underlying125 Tryz.underlying127 rfl rfl Tryz.underlying9 cellsErr cellsStr
  exact ⟨_, _, hv⟩
theorem nums_laid {l : List (String × DataW Unit)} {W : World} (h : laidMetH Tryz.prog l W)
    (h0 : l.filter (fun x => x.1 == "strconv.ErrSyntax") = [("strconv.ErrSyntax", Rows.laid_strconv_ErrSyntax)])
    (h1 : l.filter (fun x => x.1 == "strconv.ErrRange") = [("strconv.ErrRange", Rows.laid_strconv_ErrRange)]) : NumVars W :=
  ⟨var_laid (g := 4) (by kernel_rfl) (by kernel_rfl) h0 h, var_laid (g := 5) (by kernel_rfl) (by kernel_rfl) h1 h⟩
theorem errsS_laid {l : List (String × DataW Unit)} {W : World} (h : laidMetH Tryz.prog l W)
    (h1 : l.filter (fun x => x.1 == "httpcookies/pub/cookie.errBlankCookie") = [("httpcookies/pub/cookie.errBlankCookie", Rows.laid_httpcookies_pub_cookie_errBlankCookie)])
    (h2 : l.filter (fun x => x.1 == "httpcookies/pub/cookie.errEqualNotFoundInCookie") = [("httpcookies/pub/cookie.errEqualNotFoundInCookie", Rows.laid_httpcookies_pub_cookie_errEqualNotFoundInCookie)])
    (h3 : l.filter (fun x => x.1 == "httpcookies/pub/cookie.errInvalidCookieName") = [("httpcookies/pub/cookie.errInvalidCookieName", Rows.laid_httpcookies_pub_cookie_errInvalidCookieName)])
    (h4 : l.filter (fun x => x.1 == "httpcookies/pub/cookie.errInvalidCookieValue") = [("httpcookies/pub/cookie.errInvalidCookieValue", Rows.laid_httpcookies_pub_cookie_errInvalidCookieValue)]) : ErrsS W :=
  ⟨⟨_, err_laid (by kernel_rfl) (by kernel_rfl) h1 h⟩, ⟨_, err_laid (by kernel_rfl) (by kernel_rfl) h2 h⟩, ⟨_, err_laid (by kernel_rfl) (by kernel_rfl) h3 h⟩, ⟨_, err_laid (by kernel_rfl) (by kernel_rfl) h4 h⟩⟩
/-- A start for the rows that list pinned tables. -/
noncomputable def start12 (os : Os) : World := World.laidAll Tryz.prog os Rows.fnParseSetRow.laid
theorem start12_os (os : Os) : (start12 os).os = os := World.laidAll_os _ _ _
theorem shaped12 (os : Os) (args : Array Value) : ((start12 os).forCall (fun _ _ => 0) ⟨#[], args, []⟩).variablesRefB Tryz.prog = true := by kernel_rfl
theorem settled12 (os : Os) (args : Array Value) : (((start12 os).forCall (fun _ _ => 0) ⟨#[], args, []⟩).heap.toList.drop Tryz.prog.globals.size).take ((begin Tryz.prog (fun _ _ => 0) default).world.heap.size - Tryz.prog.globals.size) =
      (begin Tryz.prog (fun _ _ => 0) default).world.heap.toList.drop Tryz.prog.globals.size := by kernel_rfl
theorem door_met12 (os : Os) (args : Array Value) : laidMet Tryz.prog Rows.fnParseSetRow.laid ((start12 os).forCall (fun _ _ => 0) ⟨#[], args, []⟩).memory :=
  laidMet_laidAll _ (by kernel_rfl) (by kernel_rfl)
theorem errs12 {W : World} (h : laidMetH Tryz.prog Rows.fnParseSetRow.laid W) : ErrsS W := errsS_laid h rfl rfl rfl rfl
theorem nums12 {W : World} (h : laidMetH Tryz.prog Rows.fnParseSetRow.laid W) : NumVars W := nums_laid h rfl rfl
end Go.Proofs.YtfijncfoefbohaaGreatDoor
