/- Part 23 of the proof. -/
import Derived.Test.YtmpkgkjnoanlhaaGreatDoorChecked
import Derived.JoinedOf
import GoSem.ClaimSeven
import GoSem.ClaimGoes
import GoSem.ClaimLaidByText
import Derived.Test.YtmpkgkjnoanlhaaGreatDoorP04
namespace Go.Proofs.YtmpkgkjnoanlhaaGreatDoor
open Go Go.ChangeShapes Go.WideShapes Go.ChangeAt Go.WideMaps Go.WideElems Go.RowKit
set_option maxRecDepth 100000
theorem wit_shapedb (os : Os) : (((World.doorLaid Tryz.prog 400 os).forCall (fun _ _ => 0) ⟨#[], #[.agg #[.bool false, .int .u64 0, .int .i64 0], .agg #[.bool false, .int .u64 0, .int .i64 0], .agg #[.bool false, .int .u64 0, .int .i64 0], .int .i64 0], []⟩)).Shaped Tryz.prog :=
 World.shaped_of_RefB (by as_aux_lemma => kernel_rfl) (by as_aux_lemma => kernel_rfl)
theorem wit_okb (os : Os) : Input.okWideB Tryz.prog ((World.doorLaid Tryz.prog 400 os).forCall (fun _ _ => 0) ⟨#[], #[.agg #[.bool false, .int .u64 0, .int .i64 0], .agg #[.bool false, .int .u64 0, .int .i64 0], .agg #[.bool false, .int .u64 0, .int .i64 0], .int .i64 0], []⟩) 4 ⟨#[], #[.agg #[.bool false, .int .u64 0, .int .i64 0], .agg #[.bool false, .int .u64 0, .int .i64 0], .agg #[.bool false, .int .u64 0, .int .i64 0], .int .i64 0], []⟩ = true := by kernel_rfl
theorem wit_preb (os : Os) (H : Type) (enc : TypeId × Value → H) : Rows.fnFixAddMulBigSpec.preB enc Tryz.prog Tryz.f4 [] false (((World.doorLaid Tryz.prog 400 os).forCall (fun _ _ => 0) ⟨#[], #[.agg #[.bool false, .int .u64 0, .int .i64 0], .agg #[.bool false, .int .u64 0, .int .i64 0], .agg #[.bool false, .int .u64 0, .int .i64 0], .int .i64 0], []⟩)).memory #[.agg #[.bool false, .int .u64 0, .int .i64 0], .agg #[.bool false, .int .u64 0, .int .i64 0], .agg #[.bool false, .int .u64 0, .int .i64 0], .int .i64 0] 8 = true := by kernel_rfl
theorem wit_sizeb (os : Os) (H : Type) (enc : TypeId × Value → H) : Rows.fnFixAddMulBigSpec.sizedB enc Tryz.prog Tryz.f4 false (((World.doorLaid Tryz.prog 400 os).forCall (fun _ _ => 0) ⟨#[], #[.agg #[.bool false, .int .u64 0, .int .i64 0], .agg #[.bool false, .int .u64 0, .int .i64 0], .agg #[.bool false, .int .u64 0, .int .i64 0], .int .i64 0], []⟩)).memory #[.agg #[.bool false, .int .u64 0, .int .i64 0], .agg #[.bool false, .int .u64 0, .int .i64 0], .agg #[.bool false, .int .u64 0, .int .i64 0], .int .i64 0] 8 = true := by kernel_rfl
end Go.Proofs.YtmpkgkjnoanlhaaGreatDoor
namespace Go.Proofs.YtmpkgkjnoanlhaaGreatDoor
open Go
set_option maxRecDepth 100000
theorem and2b {a b : Bool} (ha : a = true) (hb : b = true) : (a && b) = true := by rw [ha, hb]; rfl
set_option maxHeartbeats 4000000 in
theorem row_closedb : joinedFacts Tryz.prog 4 Tryz.f4 Rows.fnFixAddMulBigSpec Rows.fnFixAddMulBigRow = true := by
 unfold joinedFacts
 repeat' (with_reducible refine and2b ?_ ?_)
 all_goals (as_aux_lemma => kernel_rfl)
theorem row_funcb : Tryz.prog.funcNamed "given.example/pub-alexandrine/laws.FnFixAddMulBig" = some 4 := by kernel_rfl
theorem row_wfb : Rows.fnFixAddMulBigRow.wfByText (OpenSpec.ofChange Rows.fnFixAddMulBigSpec) = true := by kernel_rfl
theorem row_looksb : false = Tryz.prog.looks [] := by kernel_rfl
theorem row_standb : ([24, 24, 24, 3].all fun u => !Tryz.prog.wantsStandIn u) = true := by kernel_rfl
theorem row_goesb : false = Rows.fnFixAddMulBigRow.goesBy Tryz.prog := by kernel_rfl
end Go.Proofs.YtmpkgkjnoanlhaaGreatDoor
