/- Part 12 of the proof. -/
import Derived.Test.YtlbjjhecgceiaaaGreatDoorRows
import Derived.Test.YtlbjjhecgceiaaaGreatDoorProg
import Derived.ProofKit
import Derived.LaidMore
import Derived.OpenShut
import Derived.Stop.Joined
import Derived.Handed
import Derived.SizedLaws
import Derived.Test.YtlbjjhecgceiaaaGreatDoorChecked
import Derived.Test.YtlbjjhecgceiaaaGreatDoorP00
namespace Go.Proofs.YtlbjjhecgceiaaaGreatDoor
open Go.ChangeShapes Go.WideShapes Go.ChangeAt Go.WideMaps Go.WideElems Go.RowKit
theorem own0 : ownKnob Tryz.prog.godebug = none := by kernel_rfl
theorem door_met (os : Os) (args : Array Value) : laidMetH Tryz.prog Rows.fnFixSubExactRow.laid ((World.doorLaid Tryz.prog 400 os).forCall (fun _ _ => 0) ⟨#[], args, []⟩).memory :=
 laidMetH_of_parts3 (fuel := 8) (laidMet_of_run' 8 (by kernel_rfl) (by kernel_rfl)) (by kernel_rfl) (by kernel_rfl)
end Go.Proofs.YtlbjjhecgceiaaaGreatDoor
namespace Go.Proofs.YtlbjjhecgceiaaaGreatDoor
open Go Go.ChangeShapes Go.WideShapes Go.ChangeAt Go.RowKit
theorem handed_shaped {H : Type} {enc : TypeId × Value → H} {a : Assume} {C : Checked} {os : Os} {f : FuncId} {fn : Func} {s : ChangeSpec} {conds : List PathCond} {apart fresh handsOn again : Bool} {X : World → Array Value → Prop}
  (hX : ∀ (w w' : World) (args : Array Value), w.heap = w'.heap → X w args → X w' args)
  (own : ownKnob C.prog.godebug = none) (started : os.Started) (noInit : C.prog.inits.idxOf? f = none) (hfn : C.prog.funcs[f]? = some fn)
  (witness : ∃ (w : World) (tape : Tape) (i : Input), w.os = os ∧ (w.forCall tape i).Shaped C.prog ∧ i.vars = [] ∧ Input.okWide C.prog (w.forCall tape i) .any w.heap.size f i ∧
   ((s.pre enc C.prog fn conds apart (w.forCall tape i).memory i.args ∧ X (w.forCall tape i).memory i.args) ∧ sizedMet enc C.prog fn (OpenSpec.ofChange s) apart (w.forCall tape i).memory i.args) ∧ a.holds C.prog (lone (Frame.enter C.prog f i.args .normal) [] (w.forCall tape i)))
  (contract : ∀ (W : World) (base : Nat) (args : Array Value) (ds gs : List (DataW H)) (before : List MemPlace), W.ShapedOpen C.prog →
   (∀ (j : Nat) t v, fn.params[j]? = some t → args[j]? = some v → Value.okWide C.prog W .any base t v) →
   DataW.Whole enc C.prog fn.params.toList s.vars apart W args.toList ds gs before →
   conds.all (PathCond.test C.prog ⟨fn.params.toList, ds, s.plain.varTypes C.prog, gs⟩) = true →
   X W args →
   Calls C.prog f args W fun e W' => ∃ v, e = .returned v ∧ s.post enc C.prog fn apart fresh handsOn again W args v W') :
  ReturnsInHanded a C os f .any (fun w args => (s.pre enc C.prog fn conds apart w args ∧ X w args) ∧ sizedMet enc C.prog fn (OpenSpec.ofChange s) apart w args) (s.post enc C.prog fn apart fresh handsOn again) := by
 refine returnsInHanded_of_calls own started noInit witness ?_
 intro w tape i _ hsh _ hok hpre hholds
 obtain ⟨_, _, _, fn', hfn', _, _, _, _, hval⟩ := hok
 have e : fn' = fn := Option.some.inj (hfn'.symm.trans hfn)
 subst e
 obtain ⟨⟨⟨ds, gs, before, hw, hc⟩, hx⟩, hz⟩ := hpre
 have hw' := DataW.Whole.of_heap (w' := w.forCall tape i) (by rfl) hw
 refine (contract (w.forCall tape i) w.heap.size i.args ds gs before hsh hval hw' hc (hX _ _ _ (by rfl) hx)).mono fun e W' ⟨v, he, hp⟩ => ?_
 subst he
 exact ChangeSpec.post_blind hp
theorem pow_row : (((begin Tryz.prog (fun _ _ => 0) default).world.heap[3]?).bind Obj.row?).map (fun x => x.2 == 131) = some false := by kernel_rfl
theorem pow_few : (decide (3 < Tryz.prog.globals.size)) = true := by kernel_rfl
theorem pow_typed {W : World} (h : W.ShapedOpen Tryz.prog) : ∃ (cs : Array Value) (t : TypeId), W.heap[3]? = some (.cells cs t (0, 0)) ∧ t ≠ 131 := by
 have h1 := h.1
 have hr := pow_row
 cases hc : ((begin Tryz.prog (fun _ _ => 0) default).world.heap[3]?).bind Obj.row? with
 | none => rw [hc] at hr; cases hr
 | some zt =>
  obtain ⟨zero, t⟩ := zt
  rw [hc] at hr
  obtain ⟨cs, k1, _, _⟩ := h1 3 zero t (of_decide_eq_true pow_few) hc
  refine ⟨cs, t, k1, ?_⟩
  intro e
  subst e
  simp at hr
end Go.Proofs.YtlbjjhecgceiaaaGreatDoor
namespace Go.Proofs.YtlbjjhecgceiaaaGreatDoor
open Go Go.ChangeShapes Go.WideShapes Go.ChangeAt Go.WideMaps Go.WideElems Go.RowKit
set_option maxRecDepth 100000
theorem wit_shapedq (os : Os) : (((World.doorLaid Tryz.prog 400 os).forCall (fun _ _ => 0) ⟨#[], #[.agg #[.bool false, .int .u64 0, .int .i64 0], .int .u8 0, .string ⟨#[]⟩, .int .i64 0, .int .i64 0], []⟩)).Shaped Tryz.prog :=
 World.shaped_of_RefB (by as_aux_lemma => kernel_rfl) (by as_aux_lemma => kernel_rfl)
theorem wit_okq (os : Os) : Input.okWideB Tryz.prog ((World.doorLaid Tryz.prog 400 os).forCall (fun _ _ => 0) ⟨#[], #[.agg #[.bool false, .int .u64 0, .int .i64 0], .int .u8 0, .string ⟨#[]⟩, .int .i64 0, .int .i64 0], []⟩) 5 ⟨#[], #[.agg #[.bool false, .int .u64 0, .int .i64 0], .int .u8 0, .string ⟨#[]⟩, .int .i64 0, .int .i64 0], []⟩ = true := by kernel_rfl
theorem wit_preq (os : Os) (H : Type) (enc : TypeId × Value → H) : Rows.fnFixFormatSpec.preB enc Tryz.prog Tryz.f5 [] false (((World.doorLaid Tryz.prog 400 os).forCall (fun _ _ => 0) ⟨#[], #[.agg #[.bool false, .int .u64 0, .int .i64 0], .int .u8 0, .string ⟨#[]⟩, .int .i64 0, .int .i64 0], []⟩)).memory #[.agg #[.bool false, .int .u64 0, .int .i64 0], .int .u8 0, .string ⟨#[]⟩, .int .i64 0, .int .i64 0] 8 = true := by kernel_rfl
theorem wit_sizeq (os : Os) (H : Type) (enc : TypeId × Value → H) : Rows.fnFixFormatSpec.sizedB enc Tryz.prog Tryz.f5 false (((World.doorLaid Tryz.prog 400 os).forCall (fun _ _ => 0) ⟨#[], #[.agg #[.bool false, .int .u64 0, .int .i64 0], .int .u8 0, .string ⟨#[]⟩, .int .i64 0, .int .i64 0], []⟩)).memory #[.agg #[.bool false, .int .u64 0, .int .i64 0], .int .u8 0, .string ⟨#[]⟩, .int .i64 0, .int .i64 0] 8 = true := by kernel_rfl
end Go.Proofs.YtlbjjhecgceiaaaGreatDoor
