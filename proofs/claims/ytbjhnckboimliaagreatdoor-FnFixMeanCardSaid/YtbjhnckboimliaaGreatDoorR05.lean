/- Part 5 of the rest of the proof. -/
import Derived.Test.YtbjhnckboimliaaGreatDoorProg
import Derived.Lib.Mul64
import Derived.WalkKit
import Derived.KernelRfl
import Derived.Deep.QuietTactic
import Derived.BigQuiet
import Derived.LaidEqlPtr
import Derived.Laws.IdiomCopy
import Derived.RegionTactic
import Derived.BigRegion
import Derived.StillTailTactics
import Derived.Deep.RegionWith
import Derived.Shelf.Small.Bits
import Derived.Shelf.Strconv.Itoa0
import Derived.Shelf.Bits.Mul64
import Derived.Deep.CutBlock
import Derived.Deep.DeepCutAuto
import Derived.Lib.AppendZeros
import Derived.Laws.AppendOwn
import Derived.OwnWalk
import Derived.Deep.CutRange
import Derived.Below
import Derived.Deep.Draws
import Derived.Deep.AppendLies
import Derived.Maps.AppendAt
import Derived.Laws.BytesArg
import Derived.Laws.MakeOwn
import Derived.Laws.OwnMore
import Derived.Deep.OwnRows
import Derived.Tactics
import Derived.Lib.ConvBytes
import Derived.Laws.Slices
import Derived.RowKit3
import Derived.Deep.LoopGhost
import Derived.WideLaws
import Derived.Deep.RegionHeld3
import Derived.Laws.Rows
import Derived.Lib.AppendStr
import Derived.ArgAppend
import Derived.OrdersHeld
import Derived.Laws.BitsLemmas
import Derived.RowKit
import Derived.Laws.StructEq
import Derived.Test.YtbjhnckboimliaaGreatDoorQ00
import Derived.Test.YtbjhnckboimliaaGreatDoorQ01
import Derived.Test.YtbjhnckboimliaaGreatDoorQ02
import Derived.Test.YtbjhnckboimliaaGreatDoorQ03
import Derived.Test.YtbjhnckboimliaaGreatDoorQ04
import Derived.Test.YtbjhnckboimliaaGreatDoorQ05
import Derived.Test.YtbjhnckboimliaaGreatDoorQ06
import Derived.Test.YtbjhnckboimliaaGreatDoorQ07
import Derived.Test.YtbjhnckboimliaaGreatDoorQ08
import Derived.Test.YtbjhnckboimliaaGreatDoorQ09
import Derived.Test.YtbjhnckboimliaaGreatDoorQ10
import Derived.Test.YtbjhnckboimliaaGreatDoorQ11
import Derived.Test.YtbjhnckboimliaaGreatDoorQ12
import Derived.Test.YtbjhnckboimliaaGreatDoorQ13
import Derived.Test.YtbjhnckboimliaaGreatDoorQ14
import Derived.Test.YtbjhnckboimliaaGreatDoorQ15
import Derived.Test.YtbjhnckboimliaaGreatDoorQ16
import Derived.Test.YtbjhnckboimliaaGreatDoorQ17
import Derived.Test.YtbjhnckboimliaaGreatDoorQ19
import Derived.Test.YtbjhnckboimliaaGreatDoorQ21
import Derived.Test.YtbjhnckboimliaaGreatDoorQ22
import Derived.Test.YtbjhnckboimliaaGreatDoorQ23
import Derived.Test.YtbjhnckboimliaaGreatDoorR00
import Derived.Test.YtbjhnckboimliaaGreatDoorR04
namespace Go.Proofs.YtbjhnckboimliaaGreatDoor
open Go.RowKit
set_option linter.unusedVariables false
set_option linter.unusedSimpArgs false
set_option maxRecDepth 20000
theorem two_quo' {w0 w2 : World} {p q : Nat} {a b : Nat} (h : Two w0 w2 p q (a : Int) (b : Int)) (ha : digs a ≤ 80) (hb0 : 0 < b) (hb : digs b ≤ 19) :
  Calls Tryz.prog 116 #[.pointer (some ⟨p, 0, none⟩), .pointer (some ⟨p, 0, none⟩), .pointer (some ⟨q, 0, none⟩)] w2 (fun e w3 => e = .returned (.tuple #[]) ∧ Two w0 w3 p q ((a / b : Nat) : Int) (b : Int)) := by
 obtain ⟨bp, bq, h1, h2, _⟩ := h.ex
 have e : ((a / b : Nat) : Int) = (a : Int) / (b : Int) := by omega
 rw [e]
 exact (bint_quo p q bp bq (a : Int) (b : Int) w2 h1 h2 h.env.env (digs_bp ha) (by omega) (nat_bp3 hb)).mono (fun e w3 k => ⟨k.1, h.step h1 k⟩)
theorem Int_SetInt64 (p : Nat) (bo : Option Nat) (x0 x : Int) (w : World) (hp : IntAt w p bo x0) (hx0 : 0 ≤ x) (hx1 : x ≤ 40) :
  Calls Tryz.prog 135 #[.pointer (some ⟨p, 0, none⟩), .int .i64 x] w (PInt w p bo x (.pointer (some ⟨p, 0, none⟩))) := by
 obtain ⟨v, ds, c0, c1, cf, hn, nn, hv⟩ := hp.fld
 have HF := hid (fun v' w1 (h : PNat w bo x (.returned v') w1) => int_fin (ret := .pointer (some ⟨p, 0, none⟩)) hp h)
 have HA := hid (fun w1 (h : Chg (fun k => bo = some k) w w1) => int_after hp hp h)
 have HN := hid hn
 have hx : Wd x := ⟨hx0, by omega⟩
 have hng : ¬ x < 0 := by omega
 have hwr : IntKind.u64.wrap x = x := u64_in hx0 (by omega)
 clear cf hn nn hv hx1 hx0
 go_enter Tryz.func135, Tryz.ntmps135
 go_wp2_with (go_at_call 142; refine (setUint64_any v bo ds x _ HN.out hx).mono ?_; rintro e w1 h; obtain ⟨a, n, c, rfl, h', hn0⟩ := h.sl; have ha := HA.out w1 h'.chg; have d0 := ha.neg; obtain ⟨v1, d1⟩ := ha.words; have d2 := ha.neg' (.slice a n c); have df0 := ha.free 0; have df1 := ha.free 1; have df2 := ha.free' (.slice a n c) 0; have HR := hid (HF.out _ w1 h'); clear ha h' h hn0)
 go_ret
 exact HR.out
theorem bint_setInt64 (p : Nat) (bo : Option Nat) (x0 x : Int) (w : World) (hp : IntAt w p bo x0) (hx0 : 0 ≤ x) (hx1 : x ≤ 40) :
  Calls Tryz.prog 115 #[.pointer (some ⟨p, 0, none⟩), .int .i64 x] w (PInt w p bo x (.tuple #[])) := by
 have H := hid (Int_SetInt64 p bo x0 x w hp hx0 hx1)
 go_enter Tryz.func115, Tryz.ntmps115
 go_wp2_with (go_at_call 135; refine H.out.mono ?_; rintro e w1 ⟨rfl, h⟩; have HH := hid h; clear h)
 go_end0
 exact ⟨rfl, HH.out⟩
theorem thr_setInt {w0 w2 : World} {p q r : Nat} {x y z : Int} {n : Nat} (h : Thr w0 w2 p q r x y z) (hn : n ≤ 40) :
  Calls Tryz.prog 115 #[.pointer (some ⟨r, 0, none⟩), .int .i64 (n : Int)] w2 (fun e w3 => e = .returned (.tuple #[]) ∧ Thr w0 w3 p q r x y (n : Int)) := by
 obtain ⟨bp, bq, br, h1, h2, h3, _⟩ := h.ex
 exact (bint_setInt64 r br z (n : Int) w2 h3 (by omega) (by omega)).mono (fun e w3 k => ⟨k.1, (h.rot.rot.step h3 k).rot⟩)
theorem IntAt.moved {w w' : World} {p : Nat} {bo : Option Nat} {x : Int} (h : IntAt w p bo x) (hp : w'.heap[p]? = w.heap[p]?) (hb : ∀ b, bo = some b → w'.heap[b]? = w.heap[b]?) : IntAt w' p bo x := by
 obtain ⟨T, v, ds, h1, h2, h3, h4, h5⟩ := h
 refine ⟨T, v, ds, hp.trans h1, h2, ?_, h4, h5⟩
 cases bo with
 | none => exact h3
 | some b => obtain ⟨sp, hv, hr, k1, k2⟩ := h3; exact ⟨sp, hv, ⟨(hb b rfl).trans hr.1, hr.2⟩, k1, k2⟩
theorem thr_keep {w0 w2 : World} {p q r : Nat} {x y z : Int} (h : Thr w0 w2 p q r x y z) :
  ∃ (wk : World) (K : Nat → Prop), Hid (TwK w0 w2 p q x y wk K) ∧ Hid (∀ w3 x' y', TwK w0 w3 p q x' y' wk K → Two w0 w3 p r x' z) := by
 obtain ⟨⟨bp, bq, br, h1, h2, h3, ⟨h4, h5⟩, h6, h7, h8⟩, a, b, c, ⟨n1, n2, n3⟩, d, e⟩ := h
 refine ⟨w2, fun b => b = r ∨ br = some b, hid ⟨⟨bp, bq, h1, h2, fun b hb => (h4 b hb).1, fun i hi => ⟨h6 i hi, ?_⟩, fun i hi => ⟨h7 i hi, ?_⟩⟩, ⟨a, ?_⟩, ⟨b, ?_⟩, n1, d, e, fun i hi => ⟨?_, rfl⟩⟩, hid (fun w3 x' y' k => ?_)⟩
 ·rintro (hh | hh)
  ·exact h3.ne h1 hi hh
  ·exact (h4 i hi).2 hh
 ·rintro (hh | hh)
  ·exact h3.ne h2 hi hh
  ·exact h5 i hi hh
 ·rintro (hh | hh)
  ·exact n2 hh
  ·exact h1.ne h3 hh rfl
 ·rintro (hh | hh)
  ·exact n3 hh
  ·exact h2.ne h3 hh rfl
 ·rcases hi with hh | hh
  ·subst hh; exact h3.lt
  ·exact h3.blk hh
 ·obtain ⟨⟨bp', bq', g1, g2, g3, g4, g5⟩, a', b', c', d', e', f'⟩ := k
  refine ⟨⟨bp', br, g1, h3.moved (f' r (.inl rfl)).2 (fun i hi => (f' i (.inr hi)).2), fun i hi hh => (g4 i hi).2 (.inr hh), fun i hi => (g4 i hi).1, h8⟩, a'.1, c, n2, d', e'⟩
theorem sumL_fine {l : List DT} (h : ∀ f ∈ l, DTok f) (hl : l.length ≤ 40) : digs ((sumL l).2.1 * 10 ^ (41 - (sumL l).2.2)) ≤ 80 := by
 obtain ⟨h1, h2⟩ := sumL_bd l (false, 0, 0) 0 h (by simp) (by simp)
 have h4 : (0 + l.length) * (10 ^ 19 * 10 ^ 19) ≤ 40 * (10 ^ 19 * 10 ^ 19) := Nat.mul_le_mul_right _ (by omega)
 have h5 : (40 : Nat) * (10 ^ 19 * 10 ^ 19) < 10 ^ 40 := by decide
 have h1' : (sumL l).2.2 ≤ 19 := h1
 have h2' : (sumL l).2.1 * 10 ^ (19 - (sumL l).2.2) ≤ (0 + l.length) * (10 ^ 19 * 10 ^ 19) := h2
 have e : (sumL l).2.1 * 10 ^ (41 - (sumL l).2.2) = (sumL l).2.1 * 10 ^ (19 - (sumL l).2.2) * 10 ^ 22 := by rw [Nat.mul_assoc, ← Nat.pow_add]; congr 2; omega
 rw [e]
 refine digs_le.2 (Nat.lt_of_lt_of_le (Nat.mul_lt_mul_of_pos_right (Nat.lt_of_le_of_lt (Nat.le_trans h2' h4) h5) (pow10_pos 22)) ?_)
 rw [← Nat.pow_add]
 exact Nat.pow_le_pow_right (by omega) (by omega)
set_option maxHeartbeats 12000000 in
theorem meanBint_any {A : Option Addr} {l : List DT} {c : Nat} (w : World) (he : EnvD w) (hx : DX w A l) (hok : ∀ f ∈ l, DTok f) (hl : l.length ≤ 40) (hl0 : 0 < l.length) :
  Calls Tryz.prog 83 #[.slice A l.length c] w (PDecN w (sumL l).1 (from19 (10 ^ 19) 2 ((sumL l).2.1 * 10 ^ (41 - (sumL l).2.2) / l.length) 41 0)) := by
 have HZ := hid (fun w => Zero_any w)
 have HS0 := hid (fun w => scale_z w)
 have HN0 := hid (fun w => neg_z w)
 have HW0 := hid (show Wd 0 from ⟨by omega, by omega⟩)
 have hz0 := heap_alloc_new w (.cells #[.bool false, .int .i8 0, .int .u64 0] 55)
 have HC0 := hid ((Chg.refl (fun _ => False) w).alloc (.cells #[.bool false, .int .i8 0, .int .u64 0] 55))
 have HE0 := hid (he.kept HC0.out)
 have HX := hid (fun w1 (k : Chg (fun _ => False) w w1) => hx.kept k)
 have HBX := hid (fun w1 (h : Chg (fun _ => False) (w.alloc (.cells #[.bool false, .int .i8 0, .int .u64 0] 55)) w1) => kept_heap h hz0)
 have HOK := hid hok
 obtain ⟨L, hL⟩ : ∃ L, l.length = L := ⟨_, rfl⟩
 rw [hL] at hl hl0
 have HL4 := hid hl
 rw [hL]
 clear he hx hok hz0
 have hfc := field_coef
 go_enter_defers Tryz.func83, Tryz.ntmps83
 go_wp2_with (first | (go_at_call 98; refine (getBint_any _).mono ?_; intro e w1 h; obtain ⟨r, he1, hi3, hs3, hc3⟩ := h; subst he1; have HT := hid (Thr.start HT.out hi3 hs3 hc3); clear hi3 hs3 hc3) | (go_at_call 115; refine (thr_setInt HT.out HL4.out).mono ?_; intro e w1 h; obtain ⟨he1, h⟩ := h; subst he1; have HT := hid h; clear h) | (go_at_call 98; refine (getBint_any _).mono ?_; intro e w1 h; obtain ⟨q, he1, hi2, hs2, hc2⟩ := h; subst he1; have HT := hid (Two.start HIP.out hsp hcp hi2 hs2 hc2 HE0.out); clear hi2 hs2 hc2) | (go_at_call 98; refine (getBint_any _).mono ?_; intro e w1 h; obtain ⟨p, he1, hip, hsp, hcp⟩ := h; subst he1; have HIP := hid hip; clear hip) | (go_at_call 93; refine (HZ.out _).mono ?_; intro e w1 h; obtain ⟨he1, hc1⟩ := h; subst he1; have HT := hid (HT.out.same hc1); clear hc1) | (go_at_call 100; refine (thr_setFint HT.out HW0.out).mono ?_; intro e w1 h; obtain ⟨he1, h⟩ := h; subst he1; have HT := hid h; clear h) | (go_at_call 66; refine (HS0.out _).mono ?_; intro e w1 h; obtain ⟨he1, hc1⟩ := h; subst he1; have HT := hid (HT.out.same hc1); clear hc1) | (go_at_call 64; refine (HN0.out _).mono ?_; intro e w1 h; obtain ⟨he1, hc1⟩ := h; subst he1; have HT := hid (HT.out.same hc1); clear hc1))
 obtain ⟨wz, K0, HTK, HTB⟩ := thr_keep HT.out
 clear HT
 go_loopw [7, 8, 31] (fun s n i wr => ∃ (k : Nat) (y : Int), k ≤ L ∧ i = .int .i64 k ∧ s = .int .i64 (((sumL (l.take k)).2.2 : Nat) : Int) ∧ n = .bool (sumL (l.take k)).1 ∧ Hid (TwK (w.alloc (.cells #[.bool false, .int .i8 0, .int .u64 0] 55)) wr p q (((sumL (l.take k)).2.1 : Nat) : Int) y wz K0)) (fun _ _ i _ => L - (intOf i).toNat)
 case atStart => exact ⟨0, 0, Nat.zero_le _, rfl, rfl, rfl, HTK⟩
 case round =>
  obtain ⟨k, y, hk, he1, he2, he3, HT0⟩ := hrel
  subst he1 he2 he3
  by_cases hlt : k < L
  ·obtain ⟨⟨m, d, t⟩, hf⟩ : ∃ f, l[k]? = some f := ⟨_, List.getElem?_eq_getElem (by omega)⟩
   obtain ⟨a, hA, g0, g1, g2⟩ := (HX.out _ (HC0.out.trans HT0.out.chg sb_)) k m d t hf
   subst hA
   obtain ⟨f1, f2, _⟩ := HOK.out _ (List.mem_of_getElem? hf)
   simp only at f1 f2
   obtain ⟨b1, b2⟩ := sumL_ok (l := l.take k) (fun f hf => HOK.out f (List.mem_of_mem_take hf)) (by rw [List.length_take]; omega)
   have hsn : sumL (l.take (k + 1)) = stepS (sumL (l.take k)) (m, d, t) := by rw [List.take_add_one, hf]; exact sumL_snoc _ _
   have hlt' : (k : Int) < (L : Int) := by omega
   have hinc : IntKind.i64.wrap ((k : Int) + 1) = ((k + 1 : Nat) : Int) := by rw [IntWalk.i64_in _ (by omega)]; omega
   have HWD := hid (fiN f1).wd
   have hd := digs_le.2 f1
   have HSF := hid (fun w => Scale_any m (d : Int) t f2 w)
   have HNF := hid (fun w => IsNeg_any m (d : Int) t w)
   generalize sumL (l.take k) = st at *
   obtain ⟨n, C, S⟩ := st
   simp only [stepS] at hsn b1 b2
   have hcd : digs C ≤ 40 := digs_le.2 b2
   obtain ⟨wk, hwk⟩ : ∃ wk, wr.alloc (.cells #[.bool m, .int .i8 t, .int .u64 (d : Int)] 55) = wk := ⟨_, rfl⟩
   have HF3 := hid (fun w2 x y (h : TwK (w.alloc (.cells #[.bool false, .int .i8 0, .int .u64 0] 55)) w2 p q x y wk (fun b => K0 b ∨ b = wr.heap.size)) => (show w2.cell? ⟨wr.heap.size, 0, none⟩ = some (.bool m) ∧ w2.cell? ⟨wr.heap.size, 1, none⟩ = some (.int .i8 t) ∧ w2.cell? ⟨wr.heap.size, 2, none⟩ = some (.int .u64 (d : Int)) from by rw [← hwk] at h; exact h.f3))
   have HUB := hid HT0.out.keep
   have HUN := hid (fun w2 x y (h : TwK (w.alloc (.cells #[.bool false, .int .i8 0, .int .u64 0] 55)) w2 p q x y wk (fun b => K0 b ∨ b = wr.heap.size)) => (show TwK (w.alloc (.cells #[.bool false, .int .i8 0, .int .u64 0] 55)) w2 p q x y wz K0 from by rw [← hwk] at h; exact h.unbox HUB.out))
   have HT := hid (show TwK (w.alloc (.cells #[.bool false, .int .i8 0, .int .u64 0] 55)) (wr.alloc (.cells #[.bool m, .int .i8 t, .int .u64 (d : Int)] 55)) p q (C : Int) y wk (fun b => K0 b ∨ b = wr.heap.size) from by rw [← hwk]; exact HT0.out.box (.cells #[.bool m, .int .i8 t, .int .u64 (d : Int)] 55))
   obtain ⟨d0, d1, d2⟩ := HF3.out _ _ _ HT.out
   clear hwk HT0
   clear f1 b2
   rcases Nat.lt_trichotomy t S with hts | hts | hts
   case' inl =>
    obtain ⟨A, B, S', hA, hB, hS⟩ : ∃ A B S', A = C ∧ B = d * 10 ^ (S - t) ∧ S' = S := ⟨_, _, _, rfl, rfl, rfl⟩
    have hst : sumD n C S m d t = sumS n A m B ∧ mxp S t = S' := by rw [hA, hB, hS]; unfold sumD mxp; rw [if_neg (by omega), Nat.sub_self, Nat.pow_zero, Nat.mul_one]; exact ⟨rfl, rfl⟩
    have hbA : digs A ≤ 59 := by rw [hA]; omega
    have hbB : digs B ≤ 59 := by rw [hB]; exact Nat.le_trans (digs_mul hd) (by omega)
    have c1 : (t : Int) < (S : Int) := by omega
    have hw1 : IntKind.i64.wrap ((S : Int) - (t : Int)) = ((S - t : Nat) : Int) := by rw [show (S : Int) - (t : Int) = ((S - t : Nat) : Int) by omega]; exact IntWalk.i64_in _ (by omega)
    have HL := hid (fun w2 x (h : TwK (w.alloc (.cells #[.bool false, .int .i8 0, .int .u64 0] 55)) w2 p q x (d : Int) wk (fun b => K0 b ∨ b = wr.heap.size)) => tk_lsh' (k := S - t) h (Nat.le_trans hd (by omega)) (by omega))
    rw [← hB] at HL
    subst hA hS
   case' inr.inl =>
    obtain ⟨A, B, S', hA, hB, hS⟩ : ∃ A B S', A = C ∧ B = d ∧ S' = S := ⟨_, _, _, rfl, rfl, rfl⟩
    have hst : sumD n C S m d t = sumS n A m B ∧ mxp S t = S' := by rw [hA, hB, hS, hts]; unfold sumD mxp; rw [if_neg (by omega), Nat.sub_self, Nat.pow_zero, Nat.mul_one, Nat.mul_one]; exact ⟨rfl, rfl⟩
    have hbA : digs A ≤ 59 := by rw [hA]; omega
    have hbB : digs B ≤ 59 := by rw [hB]; omega
    have c1 : ¬ (S : Int) < (S : Int) := by omega
    subst hts hA hB hS
   case' inr.inr =>
    obtain ⟨A, B, S', hA, hB, hS⟩ : ∃ A B S', A = C * 10 ^ (t - S) ∧ B = d ∧ S' = t := ⟨_, _, _, rfl, rfl, rfl⟩
    have hst : sumD n C S m d t = sumS n A m B ∧ mxp S t = S' := by rw [hA, hB, hS]; unfold sumD mxp; rw [if_pos hts, Nat.sub_self, Nat.pow_zero, Nat.mul_one]; exact ⟨rfl, rfl⟩
    have hbA : digs A ≤ 59 := by rw [hA]; exact Nat.le_trans (digs_mul hcd) (by omega)
    have hbB : digs B ≤ 59 := by rw [hB]; omega
    have c1 : (S : Int) < (t : Int) := by omega
    have c2 : ¬ (t : Int) < (S : Int) := by omega
    have hw1 : IntKind.i64.wrap ((t : Int) - (S : Int)) = ((t - S : Nat) : Int) := by rw [show (t : Int) - (S : Int) = ((t - S : Nat) : Int) by omega]; exact IntWalk.i64_in _ (by omega)
    have HL := hid (fun w2 y (h : TwK (w.alloc (.cells #[.bool false, .int .i8 0, .int .u64 0] 55)) w2 p q (C : Int) y wk (fun b => K0 b ∨ b = wr.heap.size)) => tk_lsh (k := t - S) h (Nat.le_trans hcd (by omega)) (by omega))
    rw [← hA] at HL
    subst hB hS
   all_goals (
    rw [hst.1, hst.2] at hsn
    clear hst
    obtain ⟨R, hR⟩ : ∃ R, sumS n A m B = R := ⟨_, rfl⟩
    rw [hR] at hsn
    have hsg : ((n == m) = true ∧ A + B = R.2 ∧ n = R.1) ∨ ((n == m) = false ∧ A < B ∧ B - A = R.2 ∧ m = R.1) ∨ ((n == m) = false ∧ ¬ A < B ∧ A - B = R.2 ∧ n = R.1) := by
     rw [← hR]; unfold sumS
     by_cases h1 : n = m
     ·rw [if_pos h1]; exact .inl ⟨by simpa using h1, rfl, rfl⟩
     ·rw [if_neg h1]
      by_cases h2 : A < B
      ·rw [if_pos h2]; exact .inr (.inl ⟨by simpa using h1, h2, rfl, rfl⟩)
      ·rw [if_neg h2]; exact .inr (.inr ⟨by simpa using h1, h2, rfl, rfl⟩)
    clear hR
    obtain ⟨n', R⟩ := R
    simp only at hsg hsn
    rcases hsg with ⟨hs, hC, hn⟩ | ⟨hs, hg, hC, hn⟩ | ⟨hs, hg, hC, hn⟩
    have HAD := hid (fun w2 (h : TwK (w.alloc (.cells #[.bool false, .int .i8 0, .int .u64 0] 55)) w2 p q (A : Int) (B : Int) wk (fun b => K0 b ∨ b = wr.heap.size)) => tk_add h (Nat.le_trans hbA (by omega)) (Nat.le_trans hbB (by omega)))
    rw [hC] at HAD
    rotate_left
    have hcc : (if A < B then B - A else A - B) = R := by rw [if_pos hg]; exact hC
    have HSB := hid (fun w2 (h : TwK (w.alloc (.cells #[.bool false, .int .i8 0, .int .u64 0] 55)) w2 p q (A : Int) (B : Int) wk (fun b => K0 b ∨ b = wr.heap.size)) => tk_subAbs h (Nat.le_trans hbA (by omega)) (Nat.le_trans hbB (by omega)) hcc)
    obtain ⟨kk, hkk⟩ : ∃ kk : Int, kk = 1 := ⟨_, rfl⟩
    have hcm : cmpI (B : Int) (A : Int) = kk := by rw [hkk]; unfold cmpI; rw [if_neg (by omega), if_pos (by omega)]
    have hkp : (0 : Int) < kk := by omega
    have HCM := hid (fun w2 (h : TwK (w.alloc (.cells #[.bool false, .int .i8 0, .int .u64 0] 55)) w2 p q (A : Int) (B : Int) wk (fun b => K0 b ∨ b = wr.heap.size)) => tk_cmp h hcm)
    clear hcc hcm hg hkk
    rotate_left
    have hcc : (if A < B then B - A else A - B) = R := by rw [if_neg hg]; exact hC
    have HSB := hid (fun w2 (h : TwK (w.alloc (.cells #[.bool false, .int .i8 0, .int .u64 0] 55)) w2 p q (A : Int) (B : Int) wk (fun b => K0 b ∨ b = wr.heap.size)) => tk_subAbs h (Nat.le_trans hbA (by omega)) (Nat.le_trans hbB (by omega)) hcc)
    obtain ⟨kk, hcm⟩ : ∃ kk : Int, cmpI (B : Int) (A : Int) = kk := ⟨_, rfl⟩
    have hkp : ¬ (0 : Int) < kk := by rw [← hcm]; unfold cmpI; split <;> (try split) <;> omega
    have HCM := hid (fun w2 (h : TwK (w.alloc (.cells #[.bool false, .int .i8 0, .int .u64 0] 55)) w2 p q (A : Int) (B : Int) wk (fun b => K0 b ∨ b = wr.heap.size)) => tk_cmp h hcm)
    clear hcc hcm hg
    rotate_left
    all_goals (
     subst hn
     clear hC hbA hbB hd hcd
     go_wp2_with (first | (go_at_call 100; refine (tk_setFint' HT.out HWD.out).mono ?_; intro e w1 h; obtain ⟨he1, h⟩ := h; subst he1; have HT := hid h; clear h; clear d0 d1 d2; obtain ⟨d0, d1, d2⟩ := HF3.out _ _ _ HT.out) | (go_at_call 66; refine (HSF.out _).mono ?_; intro e w1 h; obtain ⟨he1, hc1⟩ := h; subst he1; have HT := hid (HT.out.same hc1); clear hc1; clear d0 d1 d2; obtain ⟨d0, d1, d2⟩ := HF3.out _ _ _ HT.out) | (go_at_call 64; refine (HNF.out _).mono ?_; intro e w1 h; obtain ⟨he1, hc1⟩ := h; subst he1; have HT := hid (HT.out.same hc1); clear hc1; clear d0 d1 d2; obtain ⟨d0, d1, d2⟩ := HF3.out _ _ _ HT.out) | (go_at_call 101; refine (HL.out _ _ HT.out).mono ?_; intro e w1 h; obtain ⟨he1, h⟩ := h; subst he1; have HT := hid h; clear h; clear d0 d1 d2; obtain ⟨d0, d1, d2⟩ := HF3.out _ _ _ HT.out) | (go_at_call 102; refine (HAD.out _ HT.out).mono ?_; intro e w1 h; obtain ⟨he1, h⟩ := h; subst he1; have HT := hid h; clear h; clear d0 d1 d2; obtain ⟨d0, d1, d2⟩ := HF3.out _ _ _ HT.out) | (go_at_call 103; refine (HCM.out _ HT.out).mono ?_; intro e w1 h; obtain ⟨he1, h⟩ := h; subst he1; have HT := hid h; clear h; clear d0 d1 d2; obtain ⟨d0, d1, d2⟩ := HF3.out _ _ _ HT.out) | (go_at_call 104; refine (HSB.out _ HT.out).mono ?_; intro e w1 h; obtain ⟨he1, h⟩ := h; subst he1; have HT := hid h; clear h; clear d0 d1 d2; obtain ⟨d0, d1, d2⟩ := HF3.out _ _ _ HT.out))
     go_roundw
     case rel => exact ⟨k + 1, _, by omega, rfl, by rw [hsn], by rw [hsn], by rw [hsn]; exact hid (HUN.out _ _ _ HT.out)⟩
     case measure => simp [intOf]; omega))
  ·obtain rfl : k = L := by omega
   have hst : sumL (l.take k) = sumL l := by rw [List.take_of_length_le (by omega)]
   obtain ⟨b1, b2⟩ := sumL_ok (fun f hf => HOK.out f hf) (by omega)
   have b3 := sumL_fine (l := l) (fun f hf => HOK.out f hf) (by omega)
   rw [← hst] at b1 b2 b3
   rw [← hst]
   generalize sumL (l.take k) = st at *
   obtain ⟨n, C, S⟩ := st
   simp only at *
   have hcd : digs C ≤ 40 := digs_le.2 b2
   have hw41 : IntKind.i64.wrap ((41 : Int) - (S : Int)) = ((41 - S : Nat) : Int) := by rw [show (41 : Int) - (S : Int) = ((41 - S : Nat) : Int) by omega]; exact IntWalk.i64_in _ (by omega)
   have HL := hid (fun w2 y (h : TwK (w.alloc (.cells #[.bool false, .int .i8 0, .int .u64 0] 55)) w2 p q (C : Int) y wz K0) => tk_lsh (k := 41 - S) h (Nat.le_trans hcd (by omega)) (by omega))
   obtain ⟨Y, hY⟩ : ∃ Y, C * 10 ^ (41 - S) = Y := ⟨_, rfl⟩
   have HEND0 := hid (fun e w' (h : PDecN w n (from19 (10 ^ 19) 2 (Y / k) 41 0) e w') => (show PDecN w (sumL l).1 (from19 (10 ^ 19) 2 ((sumL l).2.1 * 10 ^ (41 - (sumL l).2.2) / k) 41 0) e w' from by rw [← hst]; show PDecN w n (from19 (10 ^ 19) 2 (C * 10 ^ (41 - S) / k) 41 0) e w'; rw [hY]; exact h))
   rw [hY] at HL b3
   have HQ := hid (fun w2 (h : Two (w.alloc (.cells #[.bool false, .int .i8 0, .int .u64 0] 55)) w2 p r (Y : Int) (k : Int)) => two_quo' h b3 hl0 (digs_le.2 (Nat.lt_of_le_of_lt hl (by decide))))
   have hZd : digs (Y / k) ≤ 80 := digs_le.2 (Nat.lt_of_le_of_lt (Nat.div_le_self _ _) (digs_le.1 b3))
   obtain ⟨Q, hQ⟩ : ∃ Q, Y / k = Q := ⟨_, rfl⟩
   rw [hQ] at HQ hZd HEND0
   have HF := hid (fun w2 y (h : Two (w.alloc (.cells #[.bool false, .int .i8 0, .int .u64 0] 55)) w2 p r (Q : Int) y) => two_nfb0 (s := 41) n h hZd (by omega))
   obtain ⟨o, ho⟩ : ∃ o, from19 (10 ^ 19) 2 Q 41 0 = o := ⟨_, rfl⟩
   have HEND := hid (fun e w' (h : PDecN w n o e w') => HEND0.out e w' (by rw [ho]; exact h))
   rw [ho] at HF
   have hk := HT0.out.chg
   obtain ⟨k0, k1, k2, r0, r1, r2⟩ := cell3 (HBX.out _ hk)
   have hge : ¬ (k : Int) < (k : Int) := by omega
   clear hst b2 b3 hcd b1 ho HEND0 hQ hZd hY
   go_wp2_with (first | (go_at_call 101; refine (HL.out _ _ HT0.out).mono ?_; intro e w1 h; obtain ⟨he1, h⟩ := h; subst he1; have HT1 := hid (HTB.out _ _ _ h); clear h) | (go_at_call 116; refine (HQ.out _ HT1.out).mono ?_; intro e w1 h; obtain ⟨he1, h⟩ := h; subst he1; have HT2 := hid h; clear h) | (go_at_call 105; refine (HF.out _ _ HT2.out).mono ?_; intro e w1 h; obtain ⟨na, nb, nc, nv, he1, hc1, hp⟩ := h.op; subst he1; replace hk := hc1; clear h hc1; clear k0 k1 k2 r0 r1 r2; obtain ⟨k0, k1, k2, r0, r1, r2⟩ := cell3 (HBX.out _ hk); have HP := hid hp; clear hp))
   refine leaves_cons (f := 99) (args := #[.pointer (some ⟨r, 0, none⟩)]) (by simp) (by simp [go_sem]) ?_
   refine (putBint_d _ .returning _).mono ?_
   rintro e u' w'' ⟨rfl, rfl, rfl⟩
   refine leaves_cons (f := 99) (args := #[.pointer (some ⟨q, 0, none⟩)]) (by simp [settle]) (by simp [go_sem]) ?_
   refine (putBint_d _ .returning _).mono ?_
   rintro e u' w'' ⟨rfl, rfl, rfl⟩
   refine leaves_cons (f := 99) (args := #[.pointer (some ⟨p, 0, none⟩)]) (by simp [settle]) (by simp [go_sem]) ?_
   refine (putBint_d _ .returning _).mono ?_
   rintro e u' w'' ⟨rfl, rfl, rfl⟩
   exact ⟨.tuple #[.agg #[.bool na, .int .i8 nb, .int .u64 nc], nv], dec_result rfl _ _ w.heap.size _ _ _ _ 55 rfl rfl (store3 (HBX.out _ hk) _ _ _), HEND.out _ _ (HP.out.move (chg3 (HC0.out.trans hk sb_) (Nat.le_refl _) _ _ _))⟩
end Go.Proofs.YtbjhnckboimliaaGreatDoor
