/- Part 0 of the rest of the proof. -/
import Derived.Test.YtldhfhloinlfaaaGreatDoorRows
import Derived.Test.YtldhfhloinlfaaaGreatDoorProg
import Derived.ProofKit
import Derived.LaidMore
import Derived.OpenShut
import Derived.Stop.Joined
import Derived.Below
import Derived.Deep.Draws
import Derived.Deep.AppendLies
import Derived.Maps.AppendAt
import Derived.OwnWalk
import Derived.Laws.BytesArg
import Derived.Laws.MakeOwn
import Derived.Laws.OwnMore
import Derived.Deep.OwnRows
import Derived.Tactics
import Derived.Lib.ConvBytes
import Derived.Laws.Slices
import Derived.WalkKit
import Derived.KernelRfl
import Derived.RowKit3
import Derived.Deep.LoopGhost
import Derived.Deep.QuietTactic
import Derived.BigQuiet
import Derived.WideLaws
import Derived.Deep.DeepCutAuto
import Derived.Deep.CutBlock
import Derived.Deep.RegionHeld3
import Derived.Laws.Rows
import Derived.Lib.AppendStr
import Derived.ArgAppend
import Derived.Laws.IdiomCopy
import Derived.OrdersHeld
import Derived.Laws.BitsLemmas
import Derived.RowKit
import Derived.Laws.StructEq
import Derived.Lib.Mul64
import Derived.LaidEqlPtr
import Derived.RegionTactic
import Derived.BigRegion
import Derived.StillTailTactics
import Derived.Deep.RegionWith
import Derived.Shelf.Small.Bits
import Derived.Shelf.Strconv.Itoa0
import Derived.Shelf.Bits.Mul64
import Derived.Lib.AppendZeros
import Derived.Laws.AppendOwn
import Derived.Deep.CutRange
import Derived.Recover
import Derived.Handed
import Derived.SizedLaws
import Derived.Test.YtldhfhloinlfaaaGreatDoorC00
import Derived.Test.YtldhfhloinlfaaaGreatDoorC01
import Derived.Test.YtldhfhloinlfaaaGreatDoorC02
import Derived.Test.YtldhfhloinlfaaaGreatDoorC03
import Derived.Test.YtldhfhloinlfaaaGreatDoorC04
import Derived.Test.YtldhfhloinlfaaaGreatDoorC05
import Derived.Test.YtldhfhloinlfaaaGreatDoorC06
import Derived.Test.YtldhfhloinlfaaaGreatDoorC07
import Derived.Test.YtldhfhloinlfaaaGreatDoorC08
import Derived.Test.YtldhfhloinlfaaaGreatDoorC09
import Derived.Test.YtldhfhloinlfaaaGreatDoorC10
import Derived.Test.YtldhfhloinlfaaaGreatDoorC11
import Derived.Test.YtldhfhloinlfaaaGreatDoorC12
import Derived.Test.YtldhfhloinlfaaaGreatDoorC13
import Derived.Test.YtldhfhloinlfaaaGreatDoorC14
import Derived.Test.YtldhfhloinlfaaaGreatDoorC15
import Derived.Test.YtldhfhloinlfaaaGreatDoorC16
import Derived.Test.YtldhfhloinlfaaaGreatDoorC17
import Derived.Test.YtldhfhloinlfaaaGreatDoorC18
import Derived.Test.YtldhfhloinlfaaaGreatDoorC19
import Derived.Test.YtldhfhloinlfaaaGreatDoorC20
import Derived.Test.YtldhfhloinlfaaaGreatDoorC21
import Derived.Test.YtldhfhloinlfaaaGreatDoorC22
import Derived.Test.YtldhfhloinlfaaaGreatDoorC23
namespace Go.Proofs.YtldhfhloinlfaaaGreatDoor
open Go.ChangeShapes Go.WideShapes Go.ChangeAt Go.WideMaps Go.WideElems Go.RowKit
theorem door_met (os : Os) (args : Array Value) : laidMetH Tryz.prog Rows.fnFixSubExactRow.laid ((World.doorLaid Tryz.prog 400 os).forCall (fun _ _ => 0) ⟨#[], args, []⟩).memory :=
 laidMetH_of_parts3 (fuel := 8) (laidMet_of_run' 8 kr_ kr_) kr_ kr_
end Go.Proofs.YtldhfhloinlfaaaGreatDoor
namespace Go.Proofs.YtldhfhloinlfaaaGreatDoor
open Go.RowKit
set_option linter.unusedVariables false
set_option linter.unusedSimpArgs false
theorem box4 (w : World) (c0 : Array Value) (t0 : TypeId) (c1 : Array Value) (t1 : TypeId) (c2 : Array Value) (t2 : TypeId) (c3 : Array Value) (t3 : TypeId) : Hid (Chg (fun _ => False) w ((((w.alloc (.cells c0 t0)).alloc (.cells c1 t1)).alloc (.cells c2 t2)).alloc (.cells c3 t3))) ∧ Hid (Chg (fun _ => False) ((((w.alloc (.cells c0 t0)).alloc (.cells c1 t1)).alloc (.cells c2 t2)).alloc (.cells c3 t3)) (World.drew ((((w.alloc (.cells c0 t0)).alloc (.cells c1 t1)).alloc (.cells c2 t2)).alloc (.cells c3 t3)))) ∧ ((((w.alloc (.cells c0 t0)).alloc (.cells c1 t1)).alloc (.cells c2 t2)).alloc (.cells c3 t3)).heap[w.heap.size]? = some (.cells c0 t0 (0, 0)) ∧ ((((w.alloc (.cells c0 t0)).alloc (.cells c1 t1)).alloc (.cells c2 t2)).alloc (.cells c3 t3)).heap[w.heap.size + 1]? = some (.cells c1 t1 (0, 0)) ∧ ((((w.alloc (.cells c0 t0)).alloc (.cells c1 t1)).alloc (.cells c2 t2)).alloc (.cells c3 t3)).heap[w.heap.size + 1 + 1]? = some (.cells c2 t2 (0, 0)) ∧ ((((w.alloc (.cells c0 t0)).alloc (.cells c1 t1)).alloc (.cells c2 t2)).alloc (.cells c3 t3)).heap[w.heap.size + 1 + 1 + 1]? = some (.cells c3 t3 (0, 0)) := by
 refine ⟨(((((Chg.refl (fun _ => False) w).alloc _).alloc _).alloc _).alloc _), (Chg.refl (fun _ => False) _).drew, ?_, ?_, ?_, ?_⟩
 ·exact alloc_old (alloc_old (alloc_old (alloc_last (by first | rfl | simp))))
 ·exact alloc_old (alloc_old (alloc_last (by first | rfl | simp)))
 ·exact alloc_old (alloc_last (by first | rfl | simp))
 ·exact alloc_last (by first | rfl | simp)
end Go.Proofs.YtldhfhloinlfaaaGreatDoor
namespace Go.Proofs.YtldhfhloinlfaaaGreatDoor
open Go.RowKit
set_option linter.unusedVariables false
set_option linter.unusedSimpArgs false
set_option maxRecDepth 20000
theorem Two.swap {w0 w2 : World} {p q : Nat} {x y : Int} (h : Two w0 w2 p q x y) : Two w0 w2 q p y x := by
 obtain ⟨⟨bp, bq, h1, h2, h3, h4, h5⟩, a, b, c, d, e⟩ := h
 exact ⟨⟨bq, bp, h2, h1, fun b hb h => h3 b h hb, h5, h4⟩, b, a, c.symm, d, e⟩
theorem two_setFint {w0 w2 : World} {p q : Nat} {x y : Int} {c : Int} (h : Two w0 w2 p q x y) (hc : Wd c) :
  Calls Tryz.prog 105 #[.pointer (some ⟨p, 0, none⟩), .int .u64 c] w2 (fun e w3 => e = .returned (.tuple #[]) ∧ Two w0 w3 p q c y) := by
 obtain ⟨bp, bq, h1, h2, _⟩ := h.ex
 exact (bint_setFint p bp x c w2 h1 hc).mono (fun e w3 k => ⟨k.1, h.step h1 k⟩)
theorem two_setFint' {w0 w2 : World} {p q : Nat} {x y : Int} {c : Int} (h : Two w0 w2 q p y x) (hc : Wd c) :
  Calls Tryz.prog 105 #[.pointer (some ⟨p, 0, none⟩), .int .u64 c] w2 (fun e w3 => e = .returned (.tuple #[]) ∧ Two w0 w3 q p y c) :=
 (two_setFint h.swap hc).mono (fun _ _ k => ⟨k.1, k.2.swap⟩)
theorem cell6 {w : World} {b : Nat} {x0 x1 x2 x3 x4 x5 : Value} {T : TypeId} (h : w.heap[b]? = some (.cells #[x0, x1, x2, x3, x4, x5] T (0, 0))) :
  w.cell? ⟨b, 0, none⟩ = some x0 ∧ w.cell? ⟨b, 1, none⟩ = some x1 ∧ w.cell? ⟨b, 2, none⟩ = some x2 ∧ w.cell? ⟨b, 3, none⟩ = some x3 ∧ w.cell? ⟨b, 4, none⟩ = some x4 ∧ w.cell? ⟨b, 5, none⟩ = some x5 := by
 refine ⟨?_, ?_, ?_, ?_, ?_, ?_⟩ <;> simp [World.cell?, h]
set_option maxHeartbeats 2000000 in
theorem FixAll_two {w : World} {b : Nat} {T : TypeId} (n1 n2 : Bool) (v1 s1 v2 s2 : Int) (h : w.heap[b]? = some (.cells #[.bool n1, .int .u64 v1, .int .i64 s1, .bool n2, .int .u64 v2, .int .i64 s2] T (0, 0))) :
  Calls Tryz.prog 12 #[.slice (some ⟨b, 0, none⟩) 2 2] w (PV w (.bool (okFix v1 s1 && okFix v2 s2))) := by
 have H1 := hid (fun w => FixIs_any n1 v1 s1 w)
 have H2 := hid (fun w => FixIs_any n2 v2 s2 w)
 have HB := hid (fun w1 (k : Chg (fun _ => False) w w1) => cell6 (kept_heap k h))
 obtain ⟨o1, ho1⟩ : ∃ o, okFix v1 s1 = o := ⟨_, rfl⟩
 obtain ⟨o2, ho2⟩ : ∃ o, okFix v2 s2 = o := ⟨_, rfl⟩
 unfold okFix at ho1 ho2
 rw [ho1] at H1
 rw [ho2] at H2
 unfold okFix
 rw [ho1, ho2]
 clear ho1 ho2 h
 have hk := Chg.refl (fun _ => False) w
 obtain ⟨c0, c1, c2, c3, c4, c5⟩ := HB.out _ hk
 cases o1 with
 | false =>
  go_enter Tryz.func12, Tryz.ntmps12
  go_wp2
  refine wp_loop_rounds 1 ?_
  rw [rounds_succ]
  go_wp2_with (first | (go_at_call_of 36 (Value.agg #[Value.bool n1, Value.int .u64 v1, Value.int .i64 s1]); refine (H1.out _).mono ?_; intro e w1 k; obtain ⟨he, hc⟩ := k; subst he; replace hk := (hk.alloc _).trans hc sb_; clear hc c0 c1 c2 c3 c4 c5; obtain ⟨c0, c1, c2, c3, c4, c5⟩ := HB.out _ hk))
  go_ret
  exact ⟨rfl, hk⟩
 | true =>
  cases o2 with
  | false =>
   go_enter Tryz.func12, Tryz.ntmps12
   go_wp2
   refine wp_loop_rounds 2 ?_
   rw [rounds_succ]
   go_wp2_with (first | (go_at_call_of 36 (Value.agg #[Value.bool n1, Value.int .u64 v1, Value.int .i64 s1]); refine (H1.out _).mono ?_; intro e w1 k; obtain ⟨he, hc⟩ := k; subst he; replace hk := (hk.alloc _).trans hc sb_; clear hc c0 c1 c2 c3 c4 c5; obtain ⟨c0, c1, c2, c3, c4, c5⟩ := HB.out _ hk))
   rw [rounds_succ]
   go_wp2_with (first | (go_at_call_of 36 (Value.agg #[Value.bool n2, Value.int .u64 v2, Value.int .i64 s2]); refine (H2.out _).mono ?_; intro e w1 k; obtain ⟨he, hc⟩ := k; subst he; replace hk := (hk.alloc _).trans hc sb_; clear hc c0 c1 c2 c3 c4 c5; obtain ⟨c0, c1, c2, c3, c4, c5⟩ := HB.out _ hk))
   go_ret
   exact ⟨rfl, hk⟩
  | true =>
   go_enter Tryz.func12, Tryz.ntmps12
   go_wp2
   refine wp_loop_rounds 3 ?_
   rw [rounds_succ]
   go_wp2_with (first | (go_at_call_of 36 (Value.agg #[Value.bool n1, Value.int .u64 v1, Value.int .i64 s1]); refine (H1.out _).mono ?_; intro e w1 k; obtain ⟨he, hc⟩ := k; subst he; replace hk := (hk.alloc _).trans hc sb_; clear hc c0 c1 c2 c3 c4 c5; obtain ⟨c0, c1, c2, c3, c4, c5⟩ := HB.out _ hk))
   rw [rounds_succ]
   go_wp2_with (first | (go_at_call_of 36 (Value.agg #[Value.bool n2, Value.int .u64 v2, Value.int .i64 s2]); refine (H2.out _).mono ?_; intro e w1 k; obtain ⟨he, hc⟩ := k; subst he; replace hk := (hk.alloc _).trans hc sb_; clear hc c0 c1 c2 c3 c4 c5; obtain ⟨c0, c1, c2, c3, c4, c5⟩ := HB.out _ hk))
   rw [rounds_succ]
   go_wp2_with fail
   go_ret
   exact ⟨rfl, hk⟩
end Go.Proofs.YtldhfhloinlfaaaGreatDoor
namespace Go.Proofs.YtldhfhloinlfaaaGreatDoor
open Go.ChangeShapes Go.WideShapes Go.ChangeAt Go.WideMaps Go.WideElems Go.RowKit
theorem of_laid {W : World} (hsh : W.ShapedOpen Tryz.prog) (h : laidMetH Tryz.prog Rows.fnFixSubExactRow.laid W) : EnvD W := by
 rw [MakeChecks.laidMetH_plain _ _ _ kr_] at h
 obtain ⟨ps, ⟨_, _, _, _, _, _, _, _, _, _, ⟨_, _, _, _, _, _, _, _, _, _, ⟨_, _, _, _, _, _, _, _, _, _, ⟨g3, t3, cs3, f3, p3, q3, hg3, ht3, hv3, hd3, ⟨g4, t4, cs4, f4, p4, q4, hg4, ht4, hv4, hd4, ⟨_, _, _, _, _, _, _, _, _, _, ⟨_, _, _, _, _, _, _, _, _, _, ⟨g7, t7, cs7, f7, p7, q7, hg7, ht7, hv7, hd7, ⟨_, _, _, _, _, _, _, _, _, _, ⟨g9, t9, cs9, f9, p9, q9, hg9, ht9, hv9, hd9, hrest, _⟩, _⟩, _⟩, _⟩, _⟩, _⟩, _⟩, _⟩, _⟩, _⟩, hps, _⟩ := h
 obtain rfl := Option.some.inj (gDiv.symm.trans hg3)
 obtain rfl := Option.some.inj (gKar.symm.trans hg4)
 obtain rfl := Option.some.inj (gOvf.symm.trans hg7)
 obtain rfl := Option.some.inj (gPow.symm.trans hg9)
 obtain rfl := Option.some.inj (tDiv.symm.trans ht3)
 obtain rfl := Option.some.inj (tKar.symm.trans ht4)
 have hdiv : W.cell? ⟨7, 0, none⟩ = some (.int .i64 40) := by
  obtain ⟨k, e1, e2, _⟩ := DataW.trod_int Tryz.underlying3 hd3
  have hk : k = 40 := by
   have := congrArg Prod.fst e2
   simpa [Rows.laid_given_example_pub_alexandrine_pub_bigall_divRecursiveThreshold] using this.symm
  subst hk
  have := World.var?_cell hg3 hv3 0
  obtain ⟨l1⟩ := cs3
  simp at e1
  subst e1
  simpa using this
 have hkar : W.cell? ⟨6, 0, none⟩ = some (.int .i64 40) := by
  obtain ⟨k, e1, e2, _⟩ := DataW.trod_int Tryz.underlying3 hd4
  have hk : k = 40 := by
   have := congrArg Prod.fst e2
   simpa [Rows.laid_given_example_pub_alexandrine_pub_bigall_karatsubaThreshold] using this.symm
  subst hk
  have := World.var?_cell hg4 hv4 0
  obtain ⟨l1⟩ := cs4
  simp at e1
  subst e1
  simpa using this
 have htab : Tab W := by
  obtain rfl := Option.some.inj (tPow.symm.trans ht9)
  obtain ⟨xs, m, _, hx, hlen, hn, hel⟩ := DataW.trod_array Tryz.underlying130 hd9
  have c1 : Tryz.prog.cellsOf 51 = 1 := by kernel_rfl
  rw [c1] at hel
  have hxs := congrArg Prod.fst hx
  simp only [Rows.laid_given_example_pub_alexandrine_pub_govalues_pow10, DataW.agg.injEq] at hxs
  intro k hk
  have hk' := hel k hk
  have hxk : (xs.map (·.1))[k]? = some (.lit (.int .u64 (10 ^ k))) := by
   rw [← hxs]
   have : ∀ j : Fin 20, ([DataW.lit (.int .u64 1), .lit (.int .u64 10), .lit (.int .u64 100), .lit (.int .u64 1000), .lit (.int .u64 10000), .lit (.int .u64 100000), .lit (.int .u64 1000000), .lit (.int .u64 10000000), .lit (.int .u64 100000000), .lit (.int .u64 1000000000), .lit (.int .u64 10000000000), .lit (.int .u64 100000000000), .lit (.int .u64 1000000000000), .lit (.int .u64 10000000000000), .lit (.int .u64 100000000000000), .lit (.int .u64 1000000000000000), .lit (.int .u64 10000000000000000), .lit (.int .u64 100000000000000000), .lit (.int .u64 1000000000000000000), .lit (.int .u64 10000000000000000000)] : List (DataW Unit))[(j : Nat)]? = some (.lit (.int .u64 (10 ^ (j : Nat)))) := by
    rintro ⟨j, hj⟩
    rcases (show j = 0 ∨ j = 1 ∨ j = 2 ∨ j = 3 ∨ j = 4 ∨ j = 5 ∨ j = 6 ∨ j = 7 ∨ j = 8 ∨ j = 9 ∨ j = 10 ∨ j = 11 ∨ j = 12 ∨ j = 13 ∨ j = 14 ∨ j = 15 ∨ j = 16 ∨ j = 17 ∨ j = 18 ∨ j = 19 by omega) with rfl | rfl | rfl | rfl | rfl | rfl | rfl | rfl | rfl | rfl | rfl | rfl | rfl | rfl | rfl | rfl | rfl | rfl | rfl | rfl <;> rfl
   exact this ⟨k, hk⟩
  rw [List.getElem?_map] at hxk
  cases hy : xs[k]? with
  | none => rw [hy] at hxk; cases hxk
  | some y =>
   rw [hy] at hxk
   simp only [Option.map_some, Option.some.injEq] at hxk
   rw [hy] at hk'
   obtain ⟨z, e1, e2, _⟩ := DataW.trod_int Tryz.underlying51 hk'
   have hz : z = 10 ^ k := by
    have := congrArg Prod.fst e2
    rw [hxk] at this
    simpa using this.symm
   subst hz
   have := World.var?_cell hg9 hv9 k
   rw [this]
   rw [Nat.mul_one] at e1
   have h3 : (cs9.toList.drop k)[0]? = some (.int .u64 (10 ^ k)) := by
    have := congrArg (fun l => l[0]?) e1
    simpa using this
   simpa using h3
 have hovf : ∃ u y, W.cell? ⟨0, 0, none⟩ = some (.iface u y) := by
  obtain rfl := Option.some.inj (tOvf.symm.trans ht7)
  obtain ⟨_, u, y, e1, _, _⟩ := iface_of_trod Tryz.underlying57 hd7
  have := World.var?_cell hg7 hv7 0
  obtain ⟨l1⟩ := cs7
  simp at e1
  subst e1
  exact ⟨u, y, by simpa using this⟩
 refine ⟨⟨htab, hkar, hdiv, fun xs hr => ?_⟩, hovf⟩
 obtain ⟨cs, t, k1, k2⟩ := pow_typed hsh
 have := hr.1.symm.trans k1
 simp only [Option.some.injEq, Obj.cells.injEq] at this
 exact k2 this.2.1.symm
end Go.Proofs.YtldhfhloinlfaaaGreatDoor
