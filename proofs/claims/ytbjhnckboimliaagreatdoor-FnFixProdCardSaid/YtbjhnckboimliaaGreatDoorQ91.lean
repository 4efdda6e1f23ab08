/- Part 0 of the rest of the proof. -/
import Derived.Test.YtbjhnckboimliaaGreatDoorRows
import Derived.Test.YtbjhnckboimliaaGreatDoorProg
import Derived.ProofKit
import Derived.LaidMore
import Derived.OpenShut
import Derived.Stop.Joined
import Derived.Test.YtbjhnckboimliaaGreatDoorChecked
import Derived.Test.YtbjhnckboimliaaGreatDoorQ00
import Derived.Test.YtbjhnckboimliaaGreatDoorQ04
namespace Go.Proofs.YtbjhnckboimliaaGreatDoor
open Go Go.ChangeShapes Go.WideShapes Go.ChangeAt Go.WideMaps Go.WideElems Go.RowKit
set_option maxRecDepth 100000
theorem wit_shapedo (os : Os) : (((World.doorLaid Tryz.prog 400 os).forCall (fun _ _ => 0) ⟨#[], #[.slice none 0 0], []⟩)).Shaped Tryz.prog :=
 World.shaped_of_RefB (by as_aux_lemma => kernel_rfl) (by as_aux_lemma => kernel_rfl)
theorem wit_oko (os : Os) : Input.okWideB Tryz.prog ((World.doorLaid Tryz.prog 400 os).forCall (fun _ _ => 0) ⟨#[], #[.slice none 0 0], []⟩) 6 ⟨#[], #[.slice none 0 0], []⟩ = true := by kernel_rfl
theorem wit_preo (os : Os) (H : Type) (enc : TypeId × Value → H) : Rows.fnFixProdSpec.preB enc Tryz.prog Tryz.f6 [] false (((World.doorLaid Tryz.prog 400 os).forCall (fun _ _ => 0) ⟨#[], #[.slice none 0 0], []⟩)).memory #[.slice none 0 0] 8 = true := by kernel_rfl
theorem wit_sizeo (os : Os) (H : Type) (enc : TypeId × Value → H) : Rows.fnFixProdSpec.sizedB enc Tryz.prog Tryz.f6 false (((World.doorLaid Tryz.prog 400 os).forCall (fun _ _ => 0) ⟨#[], #[.slice none 0 0], []⟩)).memory #[.slice none 0 0] 8 = true := by kernel_rfl
end Go.Proofs.YtbjhnckboimliaaGreatDoor
