/- A part of the proof that the law FnDecodeValues returns true; its conditions are those of the last part. -/
import Derived.Test.YtkfggfjdplnkpaaGreatDoorRows
import Derived.ProofKit
import Derived.Lay
import Derived.LaidMore
import Derived.Handed
set_option maxRecDepth 100000
set_option linter.unusedVariables false
set_option linter.unusedSimpArgs false
section
namespace Go.Proofs.YtkfggfjdplnkpaaGreatDoor
open Go Go.RowKit Go.ChangeShapes Go.WideShapes Go.ChangeAt
theorem wit (os:Os) (H:Type) (enc:TypeId × Value→H) :
  ∃ (w:World) (tape:Tape) (i:Input),w.os=os∧(w.forCall tape i).Shaped Tryz.checked.prog∧i.vars=[]∧Input.okWide Tryz.checked.prog (w.forCall tape i) .any w.heap.size 4 i∧
   ((Rows.fnDecodeValuesSpec.pre enc Tryz.checked.prog Tryz.f4 [] false (w.forCall tape i).memory i.args∧laidMetH Tryz.prog Rows.fnDecodeValuesRow.laid (w.forCall tape i).memory)∧sizedMet enc Tryz.checked.prog Tryz.f4 (OpenSpec.ofChange Rows.fnDecodeValuesSpec) false (w.forCall tape i).memory i.args)∧({ modest:=false }:Assume).holds Tryz.checked.prog (lone (Frame.enter Tryz.checked.prog 4 i.args .normal) [] (w.forCall tape i)):=
 ChangeSpec.witness_shaped (enc:=enc) (C:=Tryz.checked) (os:=os) (X:=fun w _=>laidMetH Tryz.prog Rows.fnDecodeValuesRow.laid w) false (World.laidAll Tryz.prog os Rows.fnDecodeValuesRow.laid) #[.string ⟨#[]⟩,.slice none 0 0] 8 (World.laidAll_os _ _ _)
   (World.shaped_of_ZipB (by kernel_rfl) (by kernel_rfl)) (by kernel_rfl) (by kernel_rfl) (by kernel_rfl)
   (by rw [MakeChecks.laidMetH_plain _ _ _ (by kernel_rfl)];exact laidMet_laidAll _ (by kernel_rfl) (by kernel_rfl))
theorem closedFacts:joinedFacts Tryz.pinned.checked.prog 4 Tryz.f4 Rows.fnDecodeValuesSpec Rows.fnDecodeValuesRow=true:=by kernel_rfl
end Go.Proofs.YtkfggfjdplnkpaaGreatDoor
end
