/-
  The library's four tables, out of a row's list of variables. No condition.
-/
import Derived.Test.YtmogecodjiofeaaDoorRows
import Derived.Test.YtmogecodjiofeaaDoorTxB
import Derived.Lib.LaidU8
namespace Go.Proofs.YtmogecodjiofeaaDoor.Tx
open Go

theorem tabIs_of_reads {P : Program} {W : World} {name : String} {k : IntKind} {zs : List Int} {g : Nat} {t e : TypeId} {n : Nat}
    (hg : P.globalNamed name = some g) (hty : (P.globals[g]?).map (·.type) = some t) (ht : P.underlying t = some (.array n e)) (he : P.underlying e = some (.int k)) (hce : P.cellsOf e = 1) (hct : P.cellsOf t = n)
    (h : Lib.VarReads P W name (Lib.tabData k zs)) : Lib.TabIs P W name k zs := by
  obtain ⟨g', t', cs, fuel, p, hg', ht', hvar, hd⟩ := h
  obtain rfl := Option.some.inj (hg.symm.trans hg')
  obtain rfl := Option.some.inj (hty.symm.trans ht')
  unfold Lib.TabIs
  rw [hvar, ← Lib.cells_of_tab ht he hce hct hd]
theorem eAscii : (Rows.laid_strings_asciiSpace : DataW Unit) = Lib.tabData .u8 Lib.asciiSpaceTab := by kernel_rfl
theorem eFirst : Rows.laid_unicode_utf8_first = Lib.firstData := by kernel_rfl
theorem eAccept : (Rows.laid_unicode_utf8_acceptRanges : DataW Unit) = Lib.acceptData := by kernel_rfl
theorem eWhite : (Rows.laid_unicode_White_Space : DataW Unit) = Lib.whiteData := by kernel_rfl
theorem tabs_of {w : World} (h1 : Lib.VarReads Tryd.prog w "strings.asciiSpace" Rows.laid_strings_asciiSpace) (h2 : Lib.VarReads Tryd.prog w "unicode/utf8.first" Rows.laid_unicode_utf8_first)
    (h3 : Lib.VarReads Tryd.prog w "unicode/utf8.acceptRanges" Rows.laid_unicode_utf8_acceptRanges) (h4 : Lib.VarReads Tryd.prog w "unicode.White_Space" Rows.laid_unicode_White_Space) : Tabs w := by
  rw [eAscii] at h1
  rw [eFirst] at h2
  rw [eAccept] at h3
  rw [eWhite] at h4
  exact ⟨tabIs_of_reads gAscii (show (Tryd.prog.globals[0]?).map (·.type) = some 60 by kernel_rfl) Tryd.underlying60 Tryd.underlying5 (by kernel_rfl) (by kernel_rfl) h1,
    utf8Tabs_of_reads { Tryd.lays163 with } ⟨by kernel_rfl, by kernel_rfl, by kernel_rfl, by kernel_rfl, by kernel_rfl, by kernel_rfl, by kernel_rfl⟩ h2 h3,
    whiteTab_of_reads { Tryd.lays163 with } ⟨by kernel_rfl, by kernel_rfl, by kernel_rfl, by kernel_rfl, by kernel_rfl, by kernel_rfl, by kernel_rfl, by kernel_rfl⟩ h4⟩
theorem tabs4 {w : World} (h : laidMet Tryd.prog [("unicode/utf8.acceptRanges", Rows.laid_unicode_utf8_acceptRanges), ("unicode.White_Space", Rows.laid_unicode_White_Space), ("strings.asciiSpace", Rows.laid_strings_asciiSpace), ("unicode/utf8.first", Rows.laid_unicode_utf8_first)] w) : Tabs w :=
  tabs_of (Lib.laidMet.reads h (.tail _ (.tail _ (.head _)))) (Lib.laidMet.reads h (.tail _ (.tail _ (.tail _ (.head _))))) (Lib.laidMet.reads h (.head _)) (Lib.laidMet.reads h (.tail _ (.head _)))
end Go.Proofs.YtmogecodjiofeaaDoor.Tx
