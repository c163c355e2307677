/- What the rows' lists give of the errors of ParseSetCookie and of strconv. -/
import Derived.Test.YtfijncfoefbohaaDoorErrs
import Derived.Test.YtfijncfoefbohaaDoorSetS
import Derived.Lay
namespace Go.Proofs.YtfijncfoefbohaaDoor
open Go Go.RowKit Go.ChangeShapes Go.WideShapes Go.ChangeAt

theorem var_laid {l : List (String × DataW Unit)} {W : World} {n : String} {g : Nat} {text : List UInt8} (hg : Tryd.prog.globalNamed n = some g) (ht : (Tryd.prog.globals[g]?).map (·.type) = some 66)
    (hl : l.filter (fun x => x.1 == n) = [(n, .iface "*errors.errorString" (.ptr (.agg [.lit (.string text)])))]) (h : laidMetH Tryd.prog l W) : ∃ tp p, W.var? Tryd.prog n = some #[.iface tp p] := by
  have h2 := h.filter (fun x => x.1 == n)
  rw [hl] at h2
  have h3 : laidMet Tryd.prog [(n, .iface "*errors.errorString" (.ptr (.agg [.lit (.string text)])))] W := (laidMetH_iff.1 h2).1
  obtain ⟨a, s, hv, -⟩ := laid_sentinel h3 hg ht Tryd.underlying66 rowErr Tryd.underlying109 Tryd.underlying111 rfl rfl Tryd.underlying9 cellsErr cellsStr
  exact ⟨_, _, hv⟩
theorem nums_laid {l : List (String × DataW Unit)} {W : World} (h : laidMetH Tryd.prog l W)
    (h0 : l.filter (fun x => x.1 == "strconv.ErrSyntax") = [("strconv.ErrSyntax", Rows.laid_strconv_ErrSyntax)])
    (h1 : l.filter (fun x => x.1 == "strconv.ErrRange") = [("strconv.ErrRange", Rows.laid_strconv_ErrRange)]) : NumVars W :=
  ⟨var_laid (g := 6) (by kernel_rfl) (by kernel_rfl) h0 h, var_laid (g := 7) (by kernel_rfl) (by kernel_rfl) h1 h⟩
theorem errsS_laid {l : List (String × DataW Unit)} {W : World} (h : laidMetH Tryd.prog l W)
    (h1 : l.filter (fun x => x.1 == "httpcookies/pub/cookie.errBlankCookie") = [("httpcookies/pub/cookie.errBlankCookie", Rows.laid_httpcookies_pub_cookie_errBlankCookie)])
    (h2 : l.filter (fun x => x.1 == "httpcookies/pub/cookie.errEqualNotFoundInCookie") = [("httpcookies/pub/cookie.errEqualNotFoundInCookie", Rows.laid_httpcookies_pub_cookie_errEqualNotFoundInCookie)])
    (h3 : l.filter (fun x => x.1 == "httpcookies/pub/cookie.errInvalidCookieName") = [("httpcookies/pub/cookie.errInvalidCookieName", Rows.laid_httpcookies_pub_cookie_errInvalidCookieName)])
    (h4 : l.filter (fun x => x.1 == "httpcookies/pub/cookie.errInvalidCookieValue") = [("httpcookies/pub/cookie.errInvalidCookieValue", Rows.laid_httpcookies_pub_cookie_errInvalidCookieValue)]) : ErrsS W :=
  ⟨⟨_, err_laid (by kernel_rfl) (by kernel_rfl) h1 h⟩, ⟨_, err_laid (by kernel_rfl) (by kernel_rfl) h2 h⟩, ⟨_, err_laid (by kernel_rfl) (by kernel_rfl) h3 h⟩, ⟨_, err_laid (by kernel_rfl) (by kernel_rfl) h4 h⟩⟩
/-- A start for the rows that list pinned tables. -/
noncomputable def start12 (os : Os) : World := World.laidAll Tryd.prog os Rows.fnAnyLineRow.laid
theorem start12_os (os : Os) : (start12 os).os = os := World.laidAll_os _ _ _
theorem shaped12 (os : Os) (args : Array Value) : ((start12 os).forCall (fun _ _ => 0) ⟨#[], args, []⟩).variablesRefB Tryd.prog = true := by kernel_rfl
theorem settled12 (os : Os) (args : Array Value) : (((start12 os).forCall (fun _ _ => 0) ⟨#[], args, []⟩).heap.toList.drop Tryd.prog.globals.size).take ((begin Tryd.prog (fun _ _ => 0) default).world.heap.size - Tryd.prog.globals.size) =
      (begin Tryd.prog (fun _ _ => 0) default).world.heap.toList.drop Tryd.prog.globals.size := by kernel_rfl
theorem door_met12 (os : Os) (args : Array Value) : laidMet Tryd.prog Rows.fnAnyLineRow.laid ((start12 os).forCall (fun _ _ => 0) ⟨#[], args, []⟩).memory :=
  laidMet_laidAll _ (by kernel_rfl) (by kernel_rfl)
theorem errs12 {W : World} (h : laidMetH Tryd.prog Rows.fnAnyLineRow.laid W) : ErrsS W := errsS_laid h rfl rfl rfl rfl
theorem nums12 {W : World} (h : laidMetH Tryd.prog Rows.fnAnyLineRow.laid W) : NumVars W := nums_laid h rfl rfl
end Go.Proofs.YtfijncfoefbohaaDoor
