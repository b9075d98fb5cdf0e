import Derived.Test.YbulkahfqDoorNew
import Derived.ProofKit
import Derived.LaidMore
import Derived.OpenShut
import Derived.Stop.Joined
import Derived.Lib.LaidTab
import Derived.WalkSmall
namespace Go.Proofs.YbulkahfqDoor
open Go.ChangeShapes Go.WideShapes Go.ChangeAt Go.RowKit

/-- The listed variable's name, off the given row. -/
abbrev vn : String := Rows.lawS1654BInitSpec.vars.headD default

theorem own : ownKnob Ybad.prog.godebug = none := by kernel_rfl
theorem gInit : Ybad.prog.globalNamed vn = some 0 := by kernel_rfl
theorem tInit : (Ybad.prog.globals[0]?).map (·.type) = some 33 := by kernel_rfl
theorem cells33 : Ybad.prog.cellsOf 33 = 8 := by kernel_rfl
theorem cells27 : Ybad.prog.cellsOf 27 = 1 := by kernel_rfl

/-- The one listed variable. -/
def laid1 : List (String × DataW Unit) := [(vn, Rows.laid_example_com_etchmark_etchmark_internal_ed25519_sha512Init)]
def zs8 : List Int := [7640891576956012808, 13503953896175478587, 4354685564936845355, 11912009170470909681, 5840696475078001361, 11170449401992604703, 2270897969802886507, 6620516959819538809]
def cells8 : Array Value := #[.int .u64 7640891576956012808, .int .u64 13503953896175478587, .int .u64 4354685564936845355, .int .u64 11912009170470909681, .int .u64 5840696475078001361, .int .u64 11170449401992604703, .int .u64 2270897969802886507, .int .u64 6620516959819538809]

/-- The door's own heap meets the condition. -/
theorem door_met (os : Os) (args : Array Value) : laidMetH Ybad.prog laid1 ((World.doorLaid Ybad.prog 400 os).forCall (fun _ _ => 0) ⟨#[], args, []⟩).memory :=
  laidMetH_of_parts3 (fuel := 8) (laidMet_of_run' 8 (by kernel_rfl) (by kernel_rfl)) (by kernel_rfl) (by kernel_rfl)

/-- What the condition gives: the variable's cells. -/
theorem var_of_laid {W : World} (h : laidMetH Ybad.prog laid1 W) : W.var? Ybad.prog vn = some cells8 := by
  rw [MakeChecks.laidMetH_plain _ _ _ (by kernel_rfl)] at h
  have h' : laidMet Ybad.prog ((vn, Lib.tabData .u64 zs8) :: []) W := h
  exact Lib.tabIs_of_head gInit tInit Ybad.underlying33 Ybad.underlying27 cells27 cells33 h'

theorem tab_of_laid {W : World} (h : laidMetH Ybad.prog laid1 W) : Tab W := by
  have hv := var_of_laid h
  exact ⟨World.var?_cell gInit hv 0, World.var?_cell gInit hv 1, World.var?_cell gInit hv 2, World.var?_cell gInit hv 3, World.var?_cell gInit hv 4, World.var?_cell gInit hv 5, World.var?_cell gInit hv 6, World.var?_cell gInit hv 7⟩

theorem reads8 {H : Type} (enc : TypeId × Value → H) (W : World) (sp : Nat → Bool) : DataW.trod enc Ybad.prog W 0 sp true 3 33 cells8.toList = some (Rows.laid_example_com_etchmark_etchmark_internal_ed25519_sha512Init, []) := by kernel_rfl

/-- Behind the call the variable reads as it did. -/
theorem vars_after {H : Type} (enc : TypeId × Value → H) {W W' : World} (hv : W.var? Ybad.prog vn = some cells8) (hb : Below W.heap.size W W') (hp : 0 < W.heap.size) (sp : Nat → Bool) :
    DataW.TrodVars enc Ybad.prog W' sp [vn] [Rows.laid_example_com_etchmark_etchmark_internal_ed25519_sha512Init] (MemPlace.row ⟨0, 0, none⟩ cells8.size ++ []) :=
  trodVars_mk1 gInit tInit (by rw [← hv]; exact (var?_below hb gInit hp hv).trans hv.symm) (reads8 enc W' sp)
end Go.Proofs.YbulkahfqDoor
