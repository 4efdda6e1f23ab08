/- Part 4 of the rest of the proof. -/
import Derived.Test.YtbjhnckboimliaaGreatDoorProg
import Derived.Lib.Mul64
import Derived.WalkKit
import Derived.KernelRfl
import Derived.Deep.QuietTactic
import Derived.BigQuiet
import Derived.LaidEqlPtr
import Derived.Laws.IdiomCopy
import Derived.RegionTactic
import Derived.BigRegion
import Derived.StillTailTactics
import Derived.Deep.RegionWith
import Derived.Shelf.Small.Bits
import Derived.Shelf.Strconv.Itoa0
import Derived.Shelf.Bits.Mul64
import Derived.Deep.CutBlock
import Derived.Deep.DeepCutAuto
import Derived.Lib.AppendZeros
import Derived.Laws.AppendOwn
import Derived.OwnWalk
import Derived.Deep.CutRange
import Derived.Deep.RegionHeld3
import Derived.Below
import Derived.Deep.Draws
import Derived.Deep.AppendLies
import Derived.Maps.AppendAt
import Derived.Laws.BytesArg
import Derived.Laws.MakeOwn
import Derived.Laws.OwnMore
import Derived.Deep.OwnRows
import Derived.Tactics
import Derived.Lib.ConvBytes
import Derived.Laws.Slices
import Derived.RowKit3
import Derived.Deep.LoopGhost
import Derived.WideLaws
import Derived.Laws.Rows
import Derived.Lib.AppendStr
import Derived.ArgAppend
import Derived.OrdersHeld
import Derived.Laws.BitsLemmas
import Derived.RowKit
import Derived.Laws.StructEq
import Derived.Test.YtbjhnckboimliaaGreatDoorQ00
import Derived.Test.YtbjhnckboimliaaGreatDoorQ01
import Derived.Test.YtbjhnckboimliaaGreatDoorQ02
import Derived.Test.YtbjhnckboimliaaGreatDoorQ03
import Derived.Test.YtbjhnckboimliaaGreatDoorQ04
import Derived.Test.YtbjhnckboimliaaGreatDoorQ05
import Derived.Test.YtbjhnckboimliaaGreatDoorQ06
import Derived.Test.YtbjhnckboimliaaGreatDoorQ07
import Derived.Test.YtbjhnckboimliaaGreatDoorQ08
import Derived.Test.YtbjhnckboimliaaGreatDoorQ09
import Derived.Test.YtbjhnckboimliaaGreatDoorQ10
import Derived.Test.YtbjhnckboimliaaGreatDoorQ11
import Derived.Test.YtbjhnckboimliaaGreatDoorQ12
import Derived.Test.YtbjhnckboimliaaGreatDoorQ13
import Derived.Test.YtbjhnckboimliaaGreatDoorQ14
import Derived.Test.YtbjhnckboimliaaGreatDoorQ15
import Derived.Test.YtbjhnckboimliaaGreatDoorQ16
import Derived.Test.YtbjhnckboimliaaGreatDoorQ17
import Derived.Test.YtbjhnckboimliaaGreatDoorQ19
import Derived.Test.YtbjhnckboimliaaGreatDoorR00
namespace Go.Proofs.YtbjhnckboimliaaGreatDoor
open Go.RowKit
set_option linter.unusedVariables false
set_option linter.unusedSimpArgs false
set_option maxRecDepth 20000
structure Thr (w0 w2 : World) (p q r : Nat) (x y z : Int) : Prop where
 ex : ∃ bp bq br, IntAt w2 p bp x ∧ IntAt w2 q bq y ∧ IntAt w2 r br z ∧ ((∀ b, bp = some b → bq ≠ some b ∧ br ≠ some b) ∧ ∀ b, bq = some b → br ≠ some b) ∧ (∀ b, bp = some b → w0.heap.size ≤ b) ∧ (∀ b, bq = some b → w0.heap.size ≤ b) ∧ (∀ b, br = some b → w0.heap.size ≤ b)
 p0 : w0.heap.size ≤ p
 q0 : w0.heap.size ≤ q
 r0 : w0.heap.size ≤ r
 ne : p ≠ q ∧ p ≠ r ∧ q ≠ r
 env : EnvD w2
 chg : Chg (fun _ => False) w0 w2
theorem Thr.rot {w0 w2 : World} {p q r : Nat} {x y z : Int} (h : Thr w0 w2 p q r x y z) : Thr w0 w2 q r p y z x := by
 obtain ⟨⟨bp, bq, br, h1, h2, h3, ⟨h4, h5⟩, h6, h7, h8⟩, a, b, c, ⟨n1, n2, n3⟩, d, e⟩ := h
 exact ⟨⟨bq, br, bp, h2, h3, h1, ⟨fun b hb => ⟨h5 b hb, fun h => (h4 b h).1 hb⟩, fun b hb h => (h4 b h).2 hb⟩, h7, h8, h6⟩, b, c, a, ⟨n3, n1.symm, n2.symm⟩, d, e⟩
theorem Thr.same {w0 w2 w3 : World} {p q r : Nat} {x y z : Int} (h : Thr w0 w2 p q r x y z) (hc : Chg (fun _ => False) w2 w3) : Thr w0 w3 p q r x y z := by
 obtain ⟨⟨bp, bq, br, h1, h2, h3, hh⟩, a, b, c, n, d, e⟩ := h
 exact ⟨⟨bp, bq, br, h1.new hc, h2.new hc, h3.new hc, hh⟩, a, b, c, n, d.kept hc, e.trans hc sb_⟩
theorem Thr.start {w0 w1 w2 : World} {p q r : Nat} {x y : Int} (h : Two w0 w1 p q x y) (h3 : IntAt w2 r none 0) (hr : w1.heap.size ≤ r) (hc : Chg (fun _ => False) w1 w2) : Thr w0 w2 p q r x y 0 := by
 obtain ⟨⟨bp, bq, h1, h2, h4, h5, h6⟩, a, b, c, d, e⟩ := h
 have hs := e.size
 have hp := h1.lt
 have hq := h2.lt
 exact ⟨⟨bp, bq, none, h1.new hc, h2.new hc, h3, ⟨fun b hb => ⟨h4 b hb, by intro h; cases h⟩, fun b hb h => by cases h⟩, h5, h6, by intro b h; cases h⟩, a, b, by omega, ⟨c, by omega, by omega⟩, d.kept hc, e.trans hc sb_⟩
theorem Thr.step {w0 w2 w3 : World} {p q r : Nat} {bp : Option Nat} {x y z x' : Int} {v : Value} {e : Ending} (h : Thr w0 w2 p q r x y z) (hp : IntAt w2 p bp x) (k : PInt w2 p bp x' v e w3) : Thr w0 w3 p q r x' y z := by
 obtain ⟨⟨bp', bq, br, h1, h2, h3, ⟨h4, h5⟩, h6, h7, h8⟩, a, b, c, ⟨n1, n2, n3⟩, d, e⟩ := h
 obtain rfl := hp.uniq h1
 obtain ⟨_, bn, k1, k2, k3⟩ := k
 have hs := e.size
 have far : ∀ {s : Nat} {bs : Option Nat} {u : Int}, IntAt w2 s bs u → p ≠ s → (∀ b, bp = some b → bs ≠ some b) → IntAt w3 s bs u ∧ ∀ b, bn = some b → bs ≠ some b := by
  intro s bs u hu hne hap
  refine ⟨hu.kept k3 ?_ ?_, ?_⟩
  ·rintro (hh | hh)
   ·exact hne hh.symm
   ·exact hu.ne hp hh rfl
  ·rintro b' hb (hh | hh)
   ·exact hp.ne hu hb hh
   ·exact hap b' hh hb
  ·intro b' hb hq
   rcases k2 with k | ⟨c', k, hk⟩
   ·exact hap b' (k ▸ hb) hq
   ·rw [hb] at k
    simp only [Option.some.injEq] at k
    have := hu.blk hq
    omega
 obtain ⟨g1, g2⟩ := far h2 n1 (fun b hb => (h4 b hb).1)
 obtain ⟨g3, g4⟩ := far h3 n2 (fun b hb => (h4 b hb).2)
 refine ⟨⟨bn, bq, br, k1, g1, g3, ⟨fun b hb => ⟨g2 b hb, g4 b hb⟩, h5⟩, ?_, h7, h8⟩, a, b, c, ⟨n1, n2, n3⟩, d.int hp k3, e.trans k3 (fun i hi hh => ?_)⟩
 ·intro b' hb
  rcases k2 with k | ⟨c', k, hk⟩
  ·exact h6 b' (k ▸ hb)
  ·rw [hb] at k
   simp only [Option.some.injEq] at k
   omega
 ·rcases hh with hh | hh
  ·omega
  ·have := h6 i hh; omega
theorem thr_setFint {w0 w2 : World} {p q r : Nat} {x y z : Int} {c : Int} (h : Thr w0 w2 p q r x y z) (hc : Wd c) :
  Calls Tryz.prog 100 #[.pointer (some ⟨p, 0, none⟩), .int .u64 c] w2 (fun e w3 => e = .returned (.tuple #[]) ∧ Thr w0 w3 p q r c y z) := by
 obtain ⟨bp, bq, br, h1, h2, _⟩ := h.ex
 exact (bint_setFint p bp x c w2 h1 hc).mono (fun e w3 k => ⟨k.1, h.step h1 k⟩)
theorem quo_int {w w1 w3 : World} {p t : Nat} {bo : Option Nat} {x Y : Int} {v : Value} (htn : w.heap.size ≤ t) (hc1 : Chg (fun _ => False) w w1) (h : PQuo w1 p t bo none x Y (.returned v) w3) : PInt w p bo (x / Y) (.tuple #[]) (.returned (.tuple #[])) w3 := by
 obtain ⟨_, bp, bt, q1, q2, q3, q4, q5, q6⟩ := h
 have hs := hc1.size
 refine ⟨rfl, bp, q1, ?_, (hc1.mono (fun _ h => h.elim)).trans q6 (fun i hi h => ?_)⟩
 ·rcases q3 with k | ⟨c, k, hk⟩
  ·exact .inl k
  ·exact .inr ⟨c, k, by omega⟩
 ·rcases h with h | (h | h)
  ·exact h
  ·omega
  ·cases h
set_option maxHeartbeats 1000000 in
theorem bint_quo (p r : Nat) (bo br : Option Nat) (x y : Int) (w : World) (hp : IntAt w p bo x) (hr : IntAt w r br y) (he : Env w) (hx : x < BP 30) (hy : 0 < y) (hy2 : y < BP 3) :
  Calls Tryz.prog 116 #[.pointer (some ⟨p, 0, none⟩), .pointer (some ⟨p, 0, none⟩), .pointer (some ⟨r, 0, none⟩)] w (PInt w p bo (x / y) (.tuple #[])) := by
 have hpl := hp.lt
 have hrl := hr.lt
 have HQ := hid (fun w1 t (ht : IntAt w1 t none 0) (htn : w.heap.size ≤ t) (hc : Chg (fun _ => False) w w1) =>
  (bint_quoRem p p r t bo bo br none x x y 0 w1 (hp.new hc) (hp.new hc) (hr.new hc) ht (by omega) (by omega) (by omega) (fun _ _ h => by cases h) (fun _ _ h => by cases h) (fun _ _ h => by cases h) hx hy hy2 (cell_kept he.div hc (fun h => h))).mono
   (fun e w3 (h : _ ∧ _) => (show e = .returned (.tuple #[]) ∧ PInt w p bo (x / y) (.tuple #[]) (.returned (.tuple #[])) w3 from ⟨h.1, quo_int htn hc h.2⟩)))
 generalize x / y = q at *
 clear hp hr he hx hy hy2 hpl hrl
 go_enter_defers Tryz.func116, Tryz.ntmps116
 go_wp2_with (first | (go_at_call 98; refine (getBint_any _).mono ?_; intro e w1 h; obtain ⟨t, he1, ht, htn, hc1⟩ := h; subst he1; have HT := hid (HQ.out _ t ht htn hc1); clear ht htn hc1) | (go_at_call 136; refine HT.out.mono ?_; intro e w3 h; obtain ⟨he3, h3⟩ := h; subst he3; have HH := hid h3; clear h3))
 refine leaves_cons (f := 99) (args := #[.pointer (some ⟨t, 0, none⟩)]) (by simp) (by simp [go_sem]) ?_
 refine (putBint_d _ .returning _).mono ?_
 intro e u' w'' h
 obtain ⟨hu1, hu2, hu3⟩ := h
 subst hu1; subst hu2; subst hu3
 exact ⟨_, results_none rfl _ _ _, HH.out⟩
theorem nat_bp3 {b : Nat} (h : digs b ≤ 19) : (b : Int) < BP 3 := by
 have h1 := digs_le.1 h
 have h2 := pow_cast 19
 have h3 := p10_bd3 (k := 19) (by omega)
 omega
end Go.Proofs.YtbjhnckboimliaaGreatDoor
