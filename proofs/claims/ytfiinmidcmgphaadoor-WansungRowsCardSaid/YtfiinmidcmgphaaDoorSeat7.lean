/- what every law of layer 7's seat needs: the tables of unicode/utf8 and of math/bits as the rows list them; the witness's world. -/
import Derived.Test.YtfiinmidcmgphaaDoorWrap
import Derived.Test.YtfiinmidcmgphaaDoorCards
import Derived.Test.YtfiinmidcmgphaaDoorTie
import Derived.Test.YtfiinmidcmgphaaDoorShelf
import Derived.Test.YtfiinmidcmgphaaDoorW2
import Derived.Deep.DeepHandedRow
import Derived.Lib.LaidTab
import Derived.LaidMore
import Derived.Lay
import Derived.MakeChecks
import Derived.Test.YtfiinmidcmgphaaDoorC3
namespace Go.Proofs.YtfiinmidcmgphaaDoor
open Go.ChangeShapes Go.WideShapes Go.ChangeAt Go.RowKit

theorem own : ownKnob Tryd.prog.godebug = none := by kernel_rfl
theorem u8extra : U8Extra Tryd.prog Tryd.lays260_ren where
  n3 := by kernel_rfl
  n4 := by kernel_rfl
  y3 := by kernel_rfl
  y4 := by kernel_rfl
  c5 := by kernel_rfl
  c119 := by kernel_rfl
  c138 := by kernel_rfl
def laidL : List (String × DataW Unit) := [("math/bits.deBruijn32tab", Rows.laid_math_bits_deBruijn32tab), ("unicode/utf8.acceptRanges", Rows.laid_unicode_utf8_acceptRanges), ("unicode/utf8.first", Rows.laid_unicode_utf8_first)]
theorem laid_accept : (Rows.laid_unicode_utf8_acceptRanges : DataW Unit) = Lib.acceptData := by kernel_rfl
/-- WHAT A ROW's LIST GIVES -/
theorem tabs_of {W : World} (h : laidMetH Tryd.prog laidL W) : Tryd.Tabs W := by
  rw [MakeChecks.laidMetH_plain _ _ _ (by kernel_rfl)] at h
  have h1 := Lib.laidMet.reads h (n := "unicode/utf8.first") (d := Rows.laid_unicode_utf8_first) (by simp [laidL])
  have h2 := Lib.laidMet.reads h (n := "unicode/utf8.acceptRanges") (d := Rows.laid_unicode_utf8_acceptRanges) (by simp [laidL])
  rw [laid_accept] at h2
  have h1' : Lib.VarReads Tryd.prog W "unicode/utf8.first" Lib.firstData := by
    have e : Rows.laid_unicode_utf8_first = Lib.firstData := Pinned.utf8First_eq
    rw [e] at h1; exact h1
  exact utf8Tabs_of_reads Tryd.lays260 u8extra h1' h2
theorem laid_tab32 : (Rows.laid_math_bits_deBruijn32tab : DataW Unit) = Lib.tabData .u8 (Lib.deBruijn32tab.map fun (n : Nat) => (n : Int)) := by kernel_rfl
theorem tab32_of {W : World} (h : laidMetH Tryd.prog laidL W) : Tryd.Tab32 W := by
  rw [MakeChecks.laidMetH_plain _ _ _ (by kernel_rfl)] at h
  unfold laidL at h
  rw [laid_tab32] at h
  have ht := Lib.tabIs_of_head (g := 0) (t := 101) (e := 5) (n := 32) (by kernel_rfl) (by kernel_rfl) Tryd.underlying101 Tryd.underlying5 (by kernel_rfl) (by kernel_rfl) h
  intro j hj
  have hc := ht.cell (g := 0) (by kernel_rfl) j (by simpa using hj)
  rw [hc]
  congr 2
  simp [List.getD_eq_getElem?_getD, List.getElem?_eq_getElem hj]
theorem laid_met (os : Os) (args : Array Value) : laidMet Tryd.prog laidL ((World.laidAll Tryd.prog os laidL).forCall (fun _ _ => 0) ⟨#[], args, []⟩).memory :=
  laidMet_laidAll args (by kernel_rfl) (by kernel_rfl)
end Go.Proofs.YtfiinmidcmgphaaDoor
