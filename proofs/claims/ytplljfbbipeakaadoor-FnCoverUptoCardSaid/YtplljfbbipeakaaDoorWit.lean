/- The witness's world: the heap that the door's own run leaves, the two pinned tables laid into it. -/
import Derived.Test.YtplljfbbipeakaaDoorCards
import Derived.WalkKit
import Derived.ProofKit
import Derived.OpenShut
import Derived.LaidMore
import Derived.Lay
import Derived.Lib.LaidIn
import Derived.Deep.DeepHandedRow
import Derived.Deep.DeepWitnessRowRef
namespace Go.Proofs.YtplljfbbipeakaaDoor
open Go

def greats : List String := ["unicode.Digit", "unicode/utf8.first"]
def laidGreat : List (String × DataW Unit) := [("unicode.Digit", Rows.laid_unicode_Digit), ("unicode/utf8.first", Rows.laid_unicode_utf8_first)]
theorem laid_great : (Rows.fnKeywordRow.laid.filter fun x => greats.contains x.1) = laidGreat := by rfl
noncomputable def wit (os : Os) : World := (World.doorLaid Tryd.prog 103 os).layVars Tryd.prog laidGreat

set_option maxRecDepth 100000 in
theorem wit_met (os : Os) (args : Array Value) : laidMet Tryd.prog Rows.fnKeywordRow.laid ((wit os).forCall (fun _ _ => 0) ⟨#[], args, []⟩).memory := by
  have h : laidMet Tryd.prog Rows.fnKeywordRow.laid (wit os) := by
    refine laidMet_layVars (w0 := World.doorLaid Tryd.prog 103 os) greats [0, 1, 2, 4, 6, 7, 8, 9, 10, 11, 12] (by rw [laid_great]; rfl) (by rw [laid_great]; kernel_rfl) (by rw [laid_great]; kernel_rfl) ?_
    exact LaidIn.of_run _ 8 (by kernel_rfl) (by kernel_rfl) (by kernel_rfl) (by kernel_rfl)
  exact h.of_heap (by simp [World.memory, World.forCall, Input.heap])

end Go.Proofs.YtplljfbbipeakaaDoor
