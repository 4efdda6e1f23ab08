/- Part 0 of the rest of the proof. -/
import Derived.Test.YtbjhnckboimliaaGreatDoorProg
import Derived.Lib.Mul64
import Derived.WalkKit
import Derived.KernelRfl
import Derived.Deep.QuietTactic
import Derived.BigQuiet
import Derived.LaidEqlPtr
import Derived.Laws.IdiomCopy
import Derived.RegionTactic
import Derived.BigRegion
import Derived.StillTailTactics
import Derived.Deep.RegionWith
import Derived.Shelf.Small.Bits
import Derived.Shelf.Strconv.Itoa0
import Derived.Shelf.Bits.Mul64
import Derived.Deep.CutBlock
import Derived.Deep.DeepCutAuto
import Derived.Lib.AppendZeros
import Derived.Laws.AppendOwn
import Derived.OwnWalk
import Derived.Deep.CutRange
import Derived.Deep.RegionHeld3
import Derived.Below
import Derived.Deep.Draws
import Derived.Deep.AppendLies
import Derived.Maps.AppendAt
import Derived.Laws.BytesArg
import Derived.Laws.MakeOwn
import Derived.Laws.OwnMore
import Derived.Deep.OwnRows
import Derived.Tactics
import Derived.Lib.ConvBytes
import Derived.Laws.Slices
import Derived.RowKit3
import Derived.Deep.LoopGhost
import Derived.WideLaws
import Derived.Laws.Rows
import Derived.Lib.AppendStr
import Derived.ArgAppend
import Derived.OrdersHeld
import Derived.Laws.BitsLemmas
import Derived.RowKit
import Derived.Laws.StructEq
import Derived.Recover
import Derived.Test.YtbjhnckboimliaaGreatDoorQ00
import Derived.Test.YtbjhnckboimliaaGreatDoorQ01
import Derived.Test.YtbjhnckboimliaaGreatDoorQ02
import Derived.Test.YtbjhnckboimliaaGreatDoorQ03
import Derived.Test.YtbjhnckboimliaaGreatDoorQ04
import Derived.Test.YtbjhnckboimliaaGreatDoorQ05
import Derived.Test.YtbjhnckboimliaaGreatDoorQ06
import Derived.Test.YtbjhnckboimliaaGreatDoorQ07
import Derived.Test.YtbjhnckboimliaaGreatDoorQ08
import Derived.Test.YtbjhnckboimliaaGreatDoorQ09
import Derived.Test.YtbjhnckboimliaaGreatDoorQ10
import Derived.Test.YtbjhnckboimliaaGreatDoorQ11
import Derived.Test.YtbjhnckboimliaaGreatDoorQ12
import Derived.Test.YtbjhnckboimliaaGreatDoorQ13
import Derived.Test.YtbjhnckboimliaaGreatDoorQ14
import Derived.Test.YtbjhnckboimliaaGreatDoorQ15
import Derived.Test.YtbjhnckboimliaaGreatDoorQ16
import Derived.Test.YtbjhnckboimliaaGreatDoorQ17
import Derived.Test.YtbjhnckboimliaaGreatDoorQ18
import Derived.Test.YtbjhnckboimliaaGreatDoorQ19
import Derived.Test.YtbjhnckboimliaaGreatDoorQ20
import Derived.Test.YtbjhnckboimliaaGreatDoorQ21
import Derived.Test.YtbjhnckboimliaaGreatDoorQ22
namespace Go.Proofs.YtbjhnckboimliaaGreatDoor
open Go.RowKit
set_option linter.unusedVariables false
set_option linter.unusedSimpArgs false
set_option maxRecDepth 20000
theorem quo_int {w w1 w3 : World} {p t : Nat} {bo : Option Nat} {x Y : Int} {v : Value} (htn : w.heap.size ≤ t) (hc1 : Chg (fun _ => False) w w1) (h : PQuo w1 p t bo none x Y (.returned v) w3) : PInt w p bo (x / Y) (.tuple #[]) (.returned (.tuple #[])) w3 := by
 obtain ⟨_, bp, bt, q1, q2, q3, q4, q5, q6⟩ := h
 have hs := hc1.size
 refine ⟨rfl, bp, q1, ?_, (hc1.mono (fun _ h => h.elim)).trans q6 (fun i hi h => ?_)⟩
 ·rcases q3 with k | ⟨c, k, hk⟩
  ·exact .inl k
  ·exact .inr ⟨c, k, by omega⟩
 ·rcases h with h | (h | h)
  ·exact h
  ·omega
  ·cases h
set_option maxHeartbeats 1000000 in
theorem bint_quo (p r : Nat) (bo br : Option Nat) (x y : Int) (w : World) (hp : IntAt w p bo x) (hr : IntAt w r br y) (he : Env w) (hx : x < BP 30) (hy : 0 < y) (hy2 : y < BP 3) :
  Calls Tryz.prog 116 #[.pointer (some ⟨p, 0, none⟩), .pointer (some ⟨p, 0, none⟩), .pointer (some ⟨r, 0, none⟩)] w (PInt w p bo (x / y) (.tuple #[])) := by
 have hpl := hp.lt
 have hrl := hr.lt
 have HQ := hid (fun w1 t (ht : IntAt w1 t none 0) (htn : w.heap.size ≤ t) (hc : Chg (fun _ => False) w w1) =>
  (bint_quoRem p p r t bo bo br none x x y 0 w1 (hp.new hc) (hp.new hc) (hr.new hc) ht (by omega) (by omega) (by omega) (fun _ _ h => by cases h) (fun _ _ h => by cases h) (fun _ _ h => by cases h) hx hy hy2 (cell_kept he.div hc (fun h => h))).mono
   (fun e w3 (h : _ ∧ _) => (show e = .returned (.tuple #[]) ∧ PInt w p bo (x / y) (.tuple #[]) (.returned (.tuple #[])) w3 from ⟨h.1, quo_int htn hc h.2⟩)))
 generalize x / y = q at *
 clear hp hr he hx hy hy2 hpl hrl
 go_enter_defers Tryz.func116, Tryz.ntmps116
 go_wp2_with (first | (go_at_call 98; refine (getBint_any _).mono ?_; intro e w1 h; obtain ⟨t, he1, ht, htn, hc1⟩ := h; subst he1; have HT := hid (HQ.out _ t ht htn hc1); clear ht htn hc1) | (go_at_call 136; refine HT.out.mono ?_; intro e w3 h; obtain ⟨he3, h3⟩ := h; subst he3; have HH := hid h3; clear h3))
 refine leaves_cons (f := 99) (args := #[.pointer (some ⟨t, 0, none⟩)]) (by simp) (by simp [go_sem]) ?_
 refine (putBint_d _ .returning _).mono ?_
 intro e u' w'' h
 obtain ⟨hu1, hu2, hu3⟩ := h
 subst hu1; subst hu2; subst hu3
 exact ⟨_, results_none rfl _ _ _, HH.out⟩
theorem One_any (w : World) : Calls Tryz.prog 107 #[] w (fun e w' => e = .returned (.agg #[.bool false, .int .i8 0, .int .u64 1]) ∧ Chg (fun _ => False) w w') := by
 have HN := hid (fun w => MustNew_nat 1 (by omega) (by omega) w)
 have HZ := hid (heap_alloc_new w (.cells #[.bool false, .int .i8 0, .int .u64 0] 55))
 have HC0 := hid ((Chg.refl (fun _ => False) w).alloc (.cells #[.bool false, .int .i8 0, .int .u64 0] 55))
 go_enter Tryz.func107, Tryz.ntmps107
 go_wp2_with (go_at_call 119; refine (HN.out _).mono ?_; intro e w1 h; obtain ⟨he, hc⟩ := h; subst he; have hk := hc; clear hc; obtain ⟨k0, k1, k2, f0, f1, f2⟩ := cell3 (kept_heap hk HZ.out))
 refine bodyPost_ret (v := .agg #[.bool false, .int .i8 0, .int .u64 1]) (by rw [results_cell_row rfl _ _ w.heap.size _ _ _ _ rfl (store3 (kept_heap hk HZ.out) _ _ _) Tryz.underlying55 rfl dec_size]) rfl ⟨rfl, chg3 (HC0.out.trans hk sb_) (Nat.le_refl _) _ _ _⟩
theorem fint_rsh_far (x : Int) (n : Nat) (hn1 : 20 ≤ n) (w : World) :
  Calls Tryz.prog 120 #[.int .u64 x, .int .i64 n] w (fun e w' => e = .returned (.int .u64 0) ∧ w = w') := by
 by_cases h : x = 0
 ·subst h
  have hb0 : ((0 : Int) == 0) = true := rfl
  go_enter Tryz.func120, Tryz.ntmps120
  go_wp2_with fail
  go_ret
  exact ⟨rfl, rfl⟩
 ·have hb0 : (x == 0) = false := beq_eq_false_iff_ne.2 h
  have h1 : ¬ (n : Int) ≤ 0 := by omega
  have h2 : (20 : Int) ≤ (n : Int) := by omega
  go_enter Tryz.func120, Tryz.ntmps120
  go_wp2_with fail
  first | (go_quiet (fail); go_wp2_with fail) | skip
  go_ret
  exact ⟨rfl, rfl⟩
theorem rhe_small {a b : Nat} (h : 2 * a < b) : rhe a b = 0 := by
 rw [rhe_iff (by omega)]
 rw [Nat.mul_zero]
 exact ⟨by omega, by omega, fun h => by omega, fun h => by omega⟩
end Go.Proofs.YtbjhnckboimliaaGreatDoor
namespace Go.Proofs.YtbjhnckboimliaaGreatDoor
open Go.RowKit
set_option linter.unusedVariables false
set_option linter.unusedSimpArgs false
def stepP (a f : DT) : DT := (a.1 != f.1, a.2.1 * f.2.1, a.2.2 + f.2.2)
def prodL (l : List DT) : DT := l.foldl stepP (false, 1, 0)
def stepPQ (a f : DT) : DT := ((a.1 != f.1) && a.2.1 * f.2.1 != 0, a.2.1 * f.2.1, a.2.2 * 10 ^ f.2.2)
def prodQ (l : List DT) : DT := l.foldl stepPQ (false, 1, 1)
def RP (c q : DT) : Prop := q.2.2 = 10 ^ c.2.2 ∧ q.2.1 = c.2.1 ∧ q.1 = (c.1 && c.2.1 != 0)
theorem rp_step {c q f : DT} (h : RP c q) : RP (stepP c f) (stepPQ q f) := by
 obtain ⟨n, C, S⟩ := c
 obtain ⟨nq, a, x⟩ := q
 obtain ⟨m, d, s⟩ := f
 obtain ⟨h1, h2, h3⟩ := h
 simp only at h1 h2 h3
 subst h1 h2 h3
 refine ⟨by simp only [stepP, stepPQ]; rw [Nat.pow_add], rfl, ?_⟩
 simp only [stepP, stepPQ]
 by_cases hz : a = 0
 ·subst hz; simp
 ·rw [bne_iff_ne.2 hz, Bool.and_true]
theorem rp_prod (l : List DT) : RP (prodL l) (prodQ l) := by
 unfold prodL prodQ
 have : ∀ (l : List DT) (c q : DT), RP c q → RP (l.foldl stepP c) (l.foldl stepPQ q) := by
  intro l
  induction l with
  | nil => exact fun c q h => h
  | cons f l ih => exact fun c q h => ih _ _ (rp_step h)
 exact this l _ _ ⟨rfl, rfl, rfl⟩
theorem prodL_one {f : DT} (h : DTok f) : prodL [f] = f := by
 obtain ⟨n, c, s⟩ := f
 show stepP (false, 1, 0) (n, c, s) = (n, c, s)
 simp [stepP]
theorem prodL_bd : ∀ (l : List DT) (a : DT) (k : Nat), (∀ f ∈ l, DTok f) → a.2.2 ≤ 19 * k → a.2.1 ≤ 10 ^ (19 * k) →
  (l.foldl stepP a).2.2 ≤ 19 * (k + l.length) ∧ (l.foldl stepP a).2.1 ≤ 10 ^ (19 * (k + l.length)) := by
 intro l
 induction l with
 | nil => exact fun a k h h1 h2 => ⟨h1, h2⟩
 | cons f l ih =>
  intro a k h h1 h2
  obtain ⟨f1, f2, _⟩ := h f (by simp)
  have := ih (stepP a f) (k + 1) (fun g hg => h g (by simp [hg])) (by simp only [stepP]; omega) (by
   simp only [stepP]
   rw [show 19 * (k + 1) = 19 * k + 19 by omega, Nat.pow_add]
   exact Nat.mul_le_mul h2 (Nat.le_of_lt f1))
  rw [List.length_cons, show k + (l.length + 1) = k + 1 + l.length by omega]
  exact this
theorem prodL_ok {l : List DT} (h : ∀ f ∈ l, DTok f) (hl : l.length ≤ 40) : (prodL l).2.2 ≤ 760 ∧ (prodL l).2.1 < tn 820 ∧ (prodQ l).2.2 < tn 820 := by
 obtain ⟨h1, h2⟩ := prodL_bd l (false, 1, 0) 0 h (by simp) (by simp)
 obtain ⟨k1, k2, k3⟩ := rp_prod l
 have h3 : (prodL l).2.2 ≤ 760 := by unfold prodL; omega
 refine ⟨h3, ?_, by rw [k1]; exact pow_tn (by omega)⟩
 exact Nat.lt_of_le_of_lt h2 (pow_tn (by omega))
end Go.Proofs.YtbjhnckboimliaaGreatDoor
