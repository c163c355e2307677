/- What the rows' lists give of the package's errors. -/
import Derived.Test.YtfijncfoefbohaaDoorDoor
import Derived.Test.YtfijncfoefbohaaDoorPtrs
import Derived.Stop.LaidErr
import Derived.LaidSub
namespace Go.Proofs.YtfijncfoefbohaaDoor
open Go Go.RowKit Go.ChangeShapes Go.WideShapes Go.ChangeAt

theorem star : ("*errors.errorString" : String) = "*" ++ "errors.errorString" := by decide
theorem rowErr (u : TypeId) (h : Tryd.prog.typeName? 3 u = some "*errors.errorString") : u = 109 :=
  typeName_ptr_named (nm := "errors.errorString") (by rw [← star]; kernel_rfl) (by kernel_rfl) (by decide) u (by rw [← star]; exact h)
theorem cellsErr : Tryd.prog.cellsOf 111 = 1 := by kernel_rfl
theorem cellsStr : Tryd.prog.cellsOf 9 = 1 := by kernel_rfl

theorem err_laid {l : List (String × DataW Unit)} {W : World} {n : String} {g : Nat} {text : List UInt8} (hg : Tryd.prog.globalNamed n = some g) (ht : (Tryd.prog.globals[g]?).map (·.type) = some 66)
    (hl : l.filter (fun x => x.1 == n) = [(n, .iface "*errors.errorString" (.ptr (.agg [.lit (.string text)])))]) (h : laidMetH Tryd.prog l W) : ∃ a, W.cell? ⟨g, 0, none⟩ = some (.iface 109 (.pointer (some a))) := by
  have h2 := h.filter (fun x => x.1 == n)
  rw [hl] at h2
  have h3 : laidMet Tryd.prog [(n, .iface "*errors.errorString" (.ptr (.agg [.lit (.string text)])))] W := (laidMetH_iff.1 h2).1
  obtain ⟨a, s, hv, -⟩ := laid_sentinel h3 hg ht Tryd.underlying66 rowErr Tryd.underlying109 Tryd.underlying111 rfl rfl Tryd.underlying9 cellsErr cellsStr
  exact ⟨a, by simpa using World.var?_cell hg hv 0⟩

/-- The rows whose lists hold the five errors. -/
theorem errs_laid {l : List (String × DataW Unit)} {W : World} (h : laidMetH Tryd.prog l W)
    (h0 : l.filter (fun x => x.1 == "httpcookies/pub/cookie.errCookieNumLimitExceeded") = [("httpcookies/pub/cookie.errCookieNumLimitExceeded", Rows.laid_httpcookies_pub_cookie_errCookieNumLimitExceeded)])
    (h1 : l.filter (fun x => x.1 == "httpcookies/pub/cookie.errBlankCookie") = [("httpcookies/pub/cookie.errBlankCookie", Rows.laid_httpcookies_pub_cookie_errBlankCookie)])
    (h2 : l.filter (fun x => x.1 == "httpcookies/pub/cookie.errEqualNotFoundInCookie") = [("httpcookies/pub/cookie.errEqualNotFoundInCookie", Rows.laid_httpcookies_pub_cookie_errEqualNotFoundInCookie)])
    (h3 : l.filter (fun x => x.1 == "httpcookies/pub/cookie.errInvalidCookieName") = [("httpcookies/pub/cookie.errInvalidCookieName", Rows.laid_httpcookies_pub_cookie_errInvalidCookieName)])
    (h4 : l.filter (fun x => x.1 == "httpcookies/pub/cookie.errInvalidCookieValue") = [("httpcookies/pub/cookie.errInvalidCookieValue", Rows.laid_httpcookies_pub_cookie_errInvalidCookieValue)]) : ErrsAt W :=
  ⟨⟨_, err_laid (by kernel_rfl) (by kernel_rfl) h0 h⟩, ⟨_, err_laid (by kernel_rfl) (by kernel_rfl) h1 h⟩, ⟨_, err_laid (by kernel_rfl) (by kernel_rfl) h2 h⟩, ⟨_, err_laid (by kernel_rfl) (by kernel_rfl) h3 h⟩, ⟨_, err_laid (by kernel_rfl) (by kernel_rfl) h4 h⟩⟩

theorem door_met8 (os : Os) (args : Array Value) : laidMet Tryd.prog Rows.fnBadPairRow.laid ((World.doorLaid Tryd.prog 400 os).forCall (fun _ _ => 0) ⟨#[], args, []⟩).memory :=
  laidMet_of_run' 8 (by kernel_rfl) (by kernel_rfl)
theorem errs8 {W : World} (h : laidMetH Tryd.prog Rows.fnBadPairRow.laid W) : ErrsAt W := errs_laid h rfl rfl rfl rfl rfl
end Go.Proofs.YtfijncfoefbohaaDoor
