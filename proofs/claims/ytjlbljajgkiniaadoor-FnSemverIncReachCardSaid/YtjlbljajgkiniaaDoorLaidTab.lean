/- From the listed variables (IncReach: five) to the errors and the table of powers of ten. -/
import Derived.Test.YtjlbljajgkiniaaDoorLaidErr
import Derived.Test.YtjlbljajgkiniaaDoorWReach
namespace Go.Proofs.YtjlbljajgkiniaaDoor
open Go.RowKit Go.Shelf

abbrev laidT : List (String × DataW Unit) := laidL
theorem both_of_laid {W : World} (h : laidMetH Tryd.prog laidT W) : Both W := by
  refine ⟨errs_of_laid h, ?_⟩
  rw [MakeChecks.laidMetH_plain _ _ _ (by kernel_rfl)] at h
  have h2 := h.tail.tail
  exact Lib.tabIs_of_head (e := 22) (n := 20) (g := 0) (by kernel_rfl) (by kernel_rfl) Tryd.underlying102 Tryd.underlying22 (by kernel_rfl) (by kernel_rfl) h2
theorem door_metT (os : Os) (args : Array Value) : laidMetH Tryd.prog laidT ((World.doorLaid Tryd.prog 400 os).forCall (fun _ _ => 0) ⟨#[], args, []⟩).memory := door_met os args
end Go.Proofs.YtjlbljajgkiniaaDoor
