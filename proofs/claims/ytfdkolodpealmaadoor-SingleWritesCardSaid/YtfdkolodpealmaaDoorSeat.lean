/- what every law of this seat needs: the two tables of unicode/utf8 as the rows list them; the witness's world. -/
import Derived.Test.YtfdkolodpealmaaDoorWrap
import Derived.Test.YtfdkolodpealmaaDoorCards
import Derived.Test.YtfdkolodpealmaaDoorTie
import Derived.Test.YtfdkolodpealmaaDoorShelf
import Derived.Test.YtfdkolodpealmaaDoorW2
import Derived.Deep.DeepHandedRow
import Derived.Lib.LaidTab
import Derived.LaidMore
import Derived.Lay
import Derived.MakeChecks
namespace Go.Proofs.YtfdkolodpealmaaDoor
open Go.ChangeShapes Go.WideShapes Go.ChangeAt Go.RowKit

theorem own : ownKnob Tryd.prog.godebug = none := by kernel_rfl
theorem u8extra : U8Extra Tryd.prog Tryd.lays260_ren where
  n3 := by kernel_rfl
  n4 := by kernel_rfl
  y3 := by kernel_rfl
  y4 := by kernel_rfl
  c5 := by kernel_rfl
  c119 := by kernel_rfl
  c138 := by kernel_rfl
def laidL : List (String × DataW Unit) := [("unicode/utf8.acceptRanges", Rows.laid_unicode_utf8_acceptRanges), ("unicode/utf8.first", Rows.laid_unicode_utf8_first)]
theorem laid_accept : (Rows.laid_unicode_utf8_acceptRanges : DataW Unit) = Lib.acceptData := by kernel_rfl
/-- WHAT A ROW's LIST GIVES -/
theorem tabs_of {W : World} (h : laidMetH Tryd.prog laidL W) : Tryd.Tabs W := by
  rw [MakeChecks.laidMetH_plain _ _ _ (by kernel_rfl)] at h
  have h1 := Lib.laidMet.reads h (n := "unicode/utf8.first") (d := Rows.laid_unicode_utf8_first) (by simp [laidL])
  have h2 := Lib.laidMet.reads h (n := "unicode/utf8.acceptRanges") (d := Rows.laid_unicode_utf8_acceptRanges) (by simp [laidL])
  rw [laid_accept] at h2
  have h1' : Lib.VarReads Tryd.prog W "unicode/utf8.first" Lib.firstData := by
    have e : Rows.laid_unicode_utf8_first = Lib.firstData := Pinned.utf8First_eq
    rw [e] at h1; exact h1
  exact utf8Tabs_of_reads Tryd.lays260 u8extra h1' h2
theorem laid_met (os : Os) (args : Array Value) : laidMet Tryd.prog laidL ((World.laidAll Tryd.prog os laidL).forCall (fun _ _ => 0) ⟨#[], args, []⟩).memory :=
  laidMet_laidAll args (by kernel_rfl) (by kernel_rfl)
end Go.Proofs.YtfdkolodpealmaaDoor
