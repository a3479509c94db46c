/- From a law's walk to its row: the frame of all four laws. -/
import Derived.Test.YthkinpadambpcaaGreatDoorCards
import Derived.Test.YthkinpadambpcaaGreatDoorTie
import Derived.Test.YthkinpadambpcaaGreatDoorSh
import Derived.Lib.LaidU8
import Derived.WalkKit
import Derived.ProofKit
import Derived.OpenShut
import Derived.Lay
import Derived.LaidLaws
import Derived.LaidOnce
import Derived.SevenTiedAt
namespace Go.Proofs.YthkinpadambpcaaGreatDoor
open Go.RowKit Go.Lib Go.Shelf Go.ChangeShapes Go.WideShapes Go.ChangeAt

theorem own : ownKnob Tryz.prog.godebug = none := by kernel_rfl
theorem firstEq : Rows.laid_unicode_utf8_first = Lib.firstData := by kernel_rfl
theorem acceptEq : (Rows.laid_unicode_utf8_acceptRanges : DataW Unit) = Lib.acceptData := by kernel_rfl
theorem u8x : U8Extra Tryz.prog Tryz.lays197_ren := ⟨by kernel_rfl, by kernel_rfl, by kernel_rfl, by kernel_rfl, by kernel_rfl, by kernel_rfl, by kernel_rfl⟩
/-- What every row of the four lists. -/
def laid : List (String × DataW Unit) := [("unicode/utf8.acceptRanges", Rows.laid_unicode_utf8_acceptRanges), ("unicode.asciiFold", Rows.laid_unicode_asciiFold), ("unicode.caseOrbit", Rows.laid_unicode_caseOrbit), ("unicode.CaseRanges", Rows.laid_unicode_CaseRanges), ("unicode/utf8.first", Rows.laid_unicode_utf8_first)]
theorem laidPlain : laidMetH Tryz.prog laid = laidMet Tryz.prog laid := by
  funext w
  exact MakeChecks.laidMetH_plain _ _ _ (by kernel_rfl)
theorem tabs_of {w : World} (h : laidMetH Tryz.prog laid w) : Lib.Utf8Tabs 1 2 w := by
  rw [laidPlain] at h
  exact utf8Tabs_of_reads { Tryz.lays197 with } u8x (firstEq ▸ Lib.laidMet.reads h (by simp [laid])) (acceptEq ▸ Lib.laidMet.reads h (.head _))
/-- The world of the witness: every listed variable laid; the empty text for an argument. -/
noncomputable def wWorld (os : Os) : World := World.laidAll Tryz.prog os laid
set_option maxRecDepth 100000 in
theorem shaped (os : Os) : ((wWorld os).forCall (fun _ _ => 0) ⟨#[], #[.string ⟨#[]⟩], []⟩).Shaped Tryz.prog := World.shaped_of_ZipB (by kernel_rfl) (by kernel_rfl)
set_option maxRecDepth 100000 in
theorem met (os : Os) : laidMetH Tryz.prog laid ((wWorld os).forCall (fun _ _ => 0) ⟨#[], #[.string ⟨#[]⟩], []⟩).memory := by
  rw [laidPlain]; exact laidMet_laidAll _ (by kernel_rfl) (by kernel_rfl)
end Go.Proofs.YthkinpadambpcaaGreatDoor
