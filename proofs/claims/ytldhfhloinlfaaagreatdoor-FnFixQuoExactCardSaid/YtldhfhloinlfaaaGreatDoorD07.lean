/- Part 7 of the rest of the proof. -/
import Derived.Test.YtldhfhloinlfaaaGreatDoorProg
import Derived.Lib.Mul64
import Derived.WalkKit
import Derived.KernelRfl
import Derived.Deep.QuietTactic
import Derived.BigQuiet
import Derived.LaidEqlPtr
import Derived.Laws.IdiomCopy
import Derived.RegionTactic
import Derived.BigRegion
import Derived.StillTailTactics
import Derived.Deep.RegionWith
import Derived.Shelf.Small.Bits
import Derived.Shelf.Strconv.Itoa0
import Derived.Shelf.Bits.Mul64
import Derived.Deep.CutBlock
import Derived.Deep.DeepCutAuto
import Derived.Lib.AppendZeros
import Derived.Laws.AppendOwn
import Derived.OwnWalk
import Derived.Deep.CutRange
import Derived.Deep.RegionHeld3
import Derived.Test.YtldhfhloinlfaaaGreatDoorC00
import Derived.Test.YtldhfhloinlfaaaGreatDoorC09
import Derived.Test.YtldhfhloinlfaaaGreatDoorC10
import Derived.Test.YtldhfhloinlfaaaGreatDoorC11
import Derived.Test.YtldhfhloinlfaaaGreatDoorC12
import Derived.Test.YtldhfhloinlfaaaGreatDoorC13
import Derived.Test.YtldhfhloinlfaaaGreatDoorC14
import Derived.Test.YtldhfhloinlfaaaGreatDoorC15
import Derived.Test.YtldhfhloinlfaaaGreatDoorC16
import Derived.Test.YtldhfhloinlfaaaGreatDoorC17
import Derived.Test.YtldhfhloinlfaaaGreatDoorC18
import Derived.Test.YtldhfhloinlfaaaGreatDoorC20
import Derived.Test.YtldhfhloinlfaaaGreatDoorC21
import Derived.Test.YtldhfhloinlfaaaGreatDoorC22
import Derived.Test.YtldhfhloinlfaaaGreatDoorC24
import Derived.Test.YtldhfhloinlfaaaGreatDoorD00
namespace Go.Proofs.YtldhfhloinlfaaaGreatDoor
open Go.RowKit
set_option linter.unusedVariables false
set_option linter.unusedSimpArgs false
set_option maxRecDepth 20000
theorem bx3 (w : World) (dn : Bool) (ds : Nat) (dc : Int) (en : Bool) (es : Nat) (ec : Int) :
  Hid (∀ a, Chg (fun _ => False) (((w.alloc (.cells #[.bool dn, .int .i8 ds, .int .u64 dc] 53)).alloc (.cells #[.bool en, .int .i8 es, .int .u64 ec] 53)).alloc (.cells #[.bool false, .int .i8 0, .int .u64 0] 53)) a →
   a.cell? ⟨w.heap.size, 0, none⟩ = some (.bool dn) ∧ a.cell? ⟨w.heap.size, 1, none⟩ = some (.int .i8 ds) ∧ a.cell? ⟨w.heap.size, 2, none⟩ = some (.int .u64 dc) ∧
   a.cell? ⟨w.heap.size + 1, 0, none⟩ = some (.bool en) ∧ a.cell? ⟨w.heap.size + 1, 1, none⟩ = some (.int .i8 es) ∧ a.cell? ⟨w.heap.size + 1, 2, none⟩ = some (.int .u64 ec) ∧
   a.cell? ⟨w.heap.size + 1 + 1, 0, none⟩ = some (.bool false) ∧ a.cell? ⟨w.heap.size + 1 + 1, 1, none⟩ = some (.int .i8 0) ∧ a.cell? ⟨w.heap.size + 1 + 1, 2, none⟩ = some (.int .u64 0) ∧
   a.frozen? ⟨w.heap.size + 1 + 1, 0, none⟩ = false ∧ a.frozen? ⟨w.heap.size + 1 + 1, 1, none⟩ = false ∧ a.frozen? ⟨w.heap.size + 1 + 1, 2, none⟩ = false) ∧
  Hid (∀ a, Chg (fun _ => False) (((w.alloc (.cells #[.bool dn, .int .i8 ds, .int .u64 dc] 53)).alloc (.cells #[.bool en, .int .i8 es, .int .u64 ec] 53)).alloc (.cells #[.bool false, .int .i8 0, .int .u64 0] 53)) a → a.heap[w.heap.size + 1 + 1]? = some (.cells #[.bool false, .int .i8 0, .int .u64 0] 53 (0, 0))) ∧
  Hid (Chg (fun _ => False) w (((w.alloc (.cells #[.bool dn, .int .i8 ds, .int .u64 dc] 53)).alloc (.cells #[.bool en, .int .i8 es, .int .u64 ec] 53)).alloc (.cells #[.bool false, .int .i8 0, .int .u64 0] 53))) ∧ Chg (fun _ => False) (((w.alloc (.cells #[.bool dn, .int .i8 ds, .int .u64 dc] 53)).alloc (.cells #[.bool en, .int .i8 es, .int .u64 ec] 53)).alloc (.cells #[.bool false, .int .i8 0, .int .u64 0] 53)) (((w.alloc (.cells #[.bool dn, .int .i8 ds, .int .u64 dc] 53)).alloc (.cells #[.bool en, .int .i8 es, .int .u64 ec] 53)).alloc (.cells #[.bool false, .int .i8 0, .int .u64 0] 53)) :=
 ⟨fun a h => ((Bx.start w dn ds dc en es ec).kept h).facts, fun a h => ((Bx.start w dn ds dc en es ec).kept h).h2, start3 w _ _ _, Chg.refl _ _⟩
end Go.Proofs.YtldhfhloinlfaaaGreatDoor
