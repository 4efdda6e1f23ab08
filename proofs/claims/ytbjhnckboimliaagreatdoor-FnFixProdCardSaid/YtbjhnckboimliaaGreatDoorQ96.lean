/- Part 3 of the rest of the proof. -/
import Derived.Test.YtbjhnckboimliaaGreatDoorProg
import Derived.Lib.Mul64
import Derived.WalkKit
import Derived.KernelRfl
import Derived.Deep.QuietTactic
import Derived.BigQuiet
import Derived.LaidEqlPtr
import Derived.Laws.IdiomCopy
import Derived.RegionTactic
import Derived.BigRegion
import Derived.StillTailTactics
import Derived.Deep.RegionWith
import Derived.Shelf.Small.Bits
import Derived.Shelf.Strconv.Itoa0
import Derived.Shelf.Bits.Mul64
import Derived.Deep.CutBlock
import Derived.Deep.DeepCutAuto
import Derived.Lib.AppendZeros
import Derived.Laws.AppendOwn
import Derived.OwnWalk
import Derived.Deep.CutRange
import Derived.Below
import Derived.Deep.Draws
import Derived.Deep.AppendLies
import Derived.Maps.AppendAt
import Derived.Laws.BytesArg
import Derived.Laws.MakeOwn
import Derived.Laws.OwnMore
import Derived.Deep.OwnRows
import Derived.Tactics
import Derived.Lib.ConvBytes
import Derived.Laws.Slices
import Derived.RowKit3
import Derived.Deep.LoopGhost
import Derived.WideLaws
import Derived.Deep.RegionHeld3
import Derived.Laws.Rows
import Derived.Lib.AppendStr
import Derived.ArgAppend
import Derived.OrdersHeld
import Derived.Laws.BitsLemmas
import Derived.RowKit
import Derived.Laws.StructEq
import Derived.Recover
import Derived.Test.YtbjhnckboimliaaGreatDoorQ00
import Derived.Test.YtbjhnckboimliaaGreatDoorQ01
import Derived.Test.YtbjhnckboimliaaGreatDoorQ02
import Derived.Test.YtbjhnckboimliaaGreatDoorQ03
import Derived.Test.YtbjhnckboimliaaGreatDoorQ04
import Derived.Test.YtbjhnckboimliaaGreatDoorQ05
import Derived.Test.YtbjhnckboimliaaGreatDoorQ06
import Derived.Test.YtbjhnckboimliaaGreatDoorQ07
import Derived.Test.YtbjhnckboimliaaGreatDoorQ08
import Derived.Test.YtbjhnckboimliaaGreatDoorQ09
import Derived.Test.YtbjhnckboimliaaGreatDoorQ10
import Derived.Test.YtbjhnckboimliaaGreatDoorQ11
import Derived.Test.YtbjhnckboimliaaGreatDoorQ12
import Derived.Test.YtbjhnckboimliaaGreatDoorQ13
import Derived.Test.YtbjhnckboimliaaGreatDoorQ14
import Derived.Test.YtbjhnckboimliaaGreatDoorQ15
import Derived.Test.YtbjhnckboimliaaGreatDoorQ16
import Derived.Test.YtbjhnckboimliaaGreatDoorQ17
import Derived.Test.YtbjhnckboimliaaGreatDoorQ18
import Derived.Test.YtbjhnckboimliaaGreatDoorQ19
import Derived.Test.YtbjhnckboimliaaGreatDoorQ20
import Derived.Test.YtbjhnckboimliaaGreatDoorQ21
import Derived.Test.YtbjhnckboimliaaGreatDoorQ22
import Derived.Test.YtbjhnckboimliaaGreatDoorQ23
import Derived.Test.YtbjhnckboimliaaGreatDoorQ93
import Derived.Test.YtbjhnckboimliaaGreatDoorQ95
namespace Go.Proofs.YtbjhnckboimliaaGreatDoor
open Go.RowKit
set_option linter.unusedVariables false
set_option linter.unusedSimpArgs false
set_option maxRecDepth 20000
def SmallP (l : List DT) : Prop := ∀ k, (prodL (l.take k)).2.1 ≤ 10 ^ 38 ∧ (prodL (l.take k)).2.2 ≤ 38
def PBig (l : List DT) (sg : Bool) (o : Option (Nat × Nat)) : Prop := (SmallP l → sg = (prodL l).1 ∧ o = from19 (10 ^ 19) 2 (prodL l).2.1 (prodL l).2.2 0) ∧ ∀ k t, o = some (k, t) → t ≤ 19
set_option maxHeartbeats 16000000 in
theorem prodBint_any {A : Option Addr} {l : List DT} {c : Nat} (w : World) (he : EnvD w) (hx : DX w A l) (hok : ∀ f ∈ l, DTok f) (hl : l.length ≤ 40) :
  Calls Tryz.prog 81 #[.slice A l.length c] w (PX (PBig l) w) := by
 have HZ := hid (fun w => One_any w)
 have HS0 := hid (fun w => scale_1 w)
 have HN0 := hid (fun w => neg_1 w)
 have HW1 := hid (show Wd 1 from ⟨by omega, by omega⟩)
 have hz0 := heap_alloc_new w (.cells #[.bool false, .int .i8 0, .int .u64 0] 55)
 have HC0 := hid ((Chg.refl (fun _ => False) w).alloc (.cells #[.bool false, .int .i8 0, .int .u64 0] 55))
 have HE0 := hid (he.kept HC0.out)
 have HX := hid (fun w1 (k : Chg (fun _ => False) w w1) => hx.kept k)
 have HBX := hid (fun w1 (h : Chg (fun _ => False) (w.alloc (.cells #[.bool false, .int .i8 0, .int .u64 0] 55)) w1) => kept_heap h hz0)
 have HOK := hid hok
 obtain ⟨L, hL⟩ : ∃ L, l.length = L := ⟨_, rfl⟩
 rw [hL] at hl
 rw [hL]
 clear he hx hok hz0
 have hfc := field_coef
 go_enter_defers Tryz.func81, Tryz.ntmps81
 go_wp2_with (first | (go_at_call 98; refine (getBint_any _).mono ?_; intro e w1 h; obtain ⟨q, he1, hi2, hs2, hc2⟩ := h; subst he1; have HT := hid (Two.start HIP.out hsp hcp hi2 hs2 hc2 HE0.out); clear hi2 hs2 hc2) | (go_at_call 98; refine (getBint_any _).mono ?_; intro e w1 h; obtain ⟨p, he1, hip, hsp, hcp⟩ := h; subst he1; have HIP := hid hip; clear hip) | (go_at_call 107; refine (HZ.out _).mono ?_; intro e w1 h; obtain ⟨he1, hc1⟩ := h; subst he1; have HT := hid (HT.out.same hc1); clear hc1) | (go_at_call 100; refine (two_setFint HT.out HW1.out).mono ?_; intro e w1 h; obtain ⟨he1, h⟩ := h; subst he1; have HT := hid h; clear h) | (go_at_call 66; refine (HS0.out _).mono ?_; intro e w1 h; obtain ⟨he1, hc1⟩ := h; subst he1; have HT := hid (HT.out.same hc1); clear hc1) | (go_at_call 64; refine (HN0.out _).mono ?_; intro e w1 h; obtain ⟨he1, hc1⟩ := h; subst he1; have HT := hid (HT.out.same hc1); clear hc1))
 go_loopw [6, 7, 24] (fun s n i wr => ∃ (k C S : Nat) (y : Int), k ≤ L ∧ S ≤ 41 ∧ i = .int .i64 k ∧ s = .int .i64 (S : Int) ∧ n = .bool (prodL (l.take k)).1 ∧ Hid (TwK (w.alloc (.cells #[.bool false, .int .i8 0, .int .u64 0] 55)) wr p q (C : Int) y w (fun _ => False)) ∧ Hid (C < 10 ^ 99) ∧ Hid (SmallP l → C = (prodL (l.take k)).2.1 ∧ S = (prodL (l.take k)).2.2)) (fun _ _ i _ => L - (intOf i).toNat)
 case atStart => exact ⟨0, 1, 0, 0, Nat.zero_le _, Nat.zero_le _, rfl, rfl, rfl, hid (HT.out.twk w), hid (show (1 : Nat) < 10 ^ 99 by decide), hid (fun _ => ⟨rfl, rfl⟩)⟩
 case round =>
  obtain ⟨k, C, S, y, hk, hS41, he1, he2, he3, HT0, HC9, HSM⟩ := hrel
  subst he1 he2 he3
  by_cases hlt : k < L
  ·obtain ⟨⟨m, d, t⟩, hf⟩ : ∃ f, l[k]? = some f := ⟨_, List.getElem?_eq_getElem (by omega)⟩
   obtain ⟨a, hA, g0, g1, g2⟩ := (HX.out _ (HC0.out.trans HT0.out.chg sb_)) k m d t hf
   subst hA
   obtain ⟨f1, f2, _⟩ := HOK.out _ (List.mem_of_getElem? hf)
   simp only at f1 f2
   have hsn : prodL (l.take (k + 1)) = stepP (prodL (l.take k)) (m, d, t) := by rw [List.take_add_one, hf]; exact prodL_snoc _ _
   have hlt' : (k : Int) < (L : Int) := by omega
   have hinc : IntKind.i64.wrap ((k : Int) + 1) = ((k + 1 : Nat) : Int) := by rw [IntWalk.i64_in _ (by omega)]; omega
   have HWD := hid (fiN f1).wd
   have HSF := hid (fun w => Scale_any m (d : Int) t f2 w)
   have HNF := hid (fun w => IsNeg_any m (d : Int) t w)
   generalize prodL (l.take k) = st at *
   obtain ⟨n, C0, S0⟩ := st
   simp only [stepP] at hsn HSM
   obtain ⟨wk, hwk⟩ : ∃ wk, wr.alloc (.cells #[.bool m, .int .i8 t, .int .u64 (d : Int)] 55) = wk := ⟨_, rfl⟩
   have HF3 := hid (fun w2 x y (h : TwK (w.alloc (.cells #[.bool false, .int .i8 0, .int .u64 0] 55)) w2 p q x y wk (fun b => (fun _ => False) b ∨ b = wr.heap.size)) => (show w2.cell? ⟨wr.heap.size, 0, none⟩ = some (.bool m) ∧ w2.cell? ⟨wr.heap.size, 1, none⟩ = some (.int .i8 t) ∧ w2.cell? ⟨wr.heap.size, 2, none⟩ = some (.int .u64 (d : Int)) from by rw [← hwk] at h; exact h.f3))
   have HUN := hid (fun w2 x y (h : TwK (w.alloc (.cells #[.bool false, .int .i8 0, .int .u64 0] 55)) w2 p q x y wk (fun b => (fun _ => False) b ∨ b = wr.heap.size)) => (show TwK (w.alloc (.cells #[.bool false, .int .i8 0, .int .u64 0] 55)) w2 p q x y w (fun _ => False) from by rw [← hwk] at h; exact h.unbox (fun _ h => h.elim)))
   have HT := hid (show TwK (w.alloc (.cells #[.bool false, .int .i8 0, .int .u64 0] 55)) (wr.alloc (.cells #[.bool m, .int .i8 t, .int .u64 (d : Int)] 55)) p q (C : Int) y wk (fun b => (fun _ => False) b ∨ b = wr.heap.size) from by rw [← hwk]; exact HT0.out.box (.cells #[.bool m, .int .i8 t, .int .u64 (d : Int)] 55))
   obtain ⟨d0, d1, d2⟩ := HF3.out _ _ _ HT.out
   have hbp := bp_mul HC9.out f1
   have HMU := hid (fun w2 (h : TwK (w.alloc (.cells #[.bool false, .int .i8 0, .int .u64 0] 55)) w2 p q (C : Int) (d : Int) wk (fun b => (fun _ => False) b ∨ b = wr.heap.size)) => tk_mul h HC9.out f1)
   obtain ⟨X, hX⟩ : ∃ X, C * d = X := ⟨_, rfl⟩
   rw [hX] at HMU hbp
   have hw1 : IntKind.i64.wrap ((S : Int) + (t : Int)) = ((S + t : Nat) : Int) := by rw [show (S : Int) + (t : Int) = ((S + t : Nat) : Int) by omega]; exact IntWalk.i64_in _ (by omega)
   have hXS : SmallP l → X = C0 * d ∧ S + t = S0 + t ∧ S + t ≤ 38 := fun hs => by
    obtain ⟨e1, e2⟩ := HSM.out hs
    have := (hs (k + 1)).2
    rw [hsn] at this
    simp only at this
    exact ⟨by rw [← hX, e1], by rw [e2], by omega⟩
   clear hwk HT0 f1 hX
   obtain ⟨S2, hS2⟩ : ∃ S2, S + t = S2 := ⟨_, rfl⟩
   rw [hS2] at hw1 hXS
   have hs60 : S2 ≤ 60 := by omega
   by_cases hgt : 41 < S2
   ·have hg1 : (41 : Int) < (S2 : Int) := by omega
    obtain ⟨r, hr⟩ : ∃ r, S2 - 41 = r := ⟨_, rfl⟩
    have hw2 : IntKind.i64.wrap ((S2 : Int) - 41) = (r : Int) := by rw [show (S2 : Int) - 41 = (r : Int) by omega]; exact IntWalk.i64_in _ (by omega)
    have HRS := hid (fun w2 (h : TwK (w.alloc (.cells #[.bool false, .int .i8 0, .int .u64 0] 55)) w2 p q (X : Int) (d : Int) wk (fun b => (fun _ => False) b ∨ b = wr.heap.size)) => tk_rshDown (k := r) h hbp (by omega) (by omega))
    obtain ⟨Y, hY⟩ : ∃ Y, X / 10 ^ r = Y := ⟨_, rfl⟩
    rw [hY] at HRS
    have HY := hid (show SmallP l → Y = C0 * d ∧ 41 = S0 + t from fun hs => by have := hXS hs; omega)
    have hS3 : 41 ≤ 41 := Nat.le_refl 41
    clear hXS hY hbp hr hs60 hgt
    by_cases hbig : 10 ^ 99 ≤ Y
    ·have HHP := hid (fun w2 (h : TwK (w.alloc (.cells #[.bool false, .int .i8 0, .int .u64 0] 55)) w2 p q (Y : Int) (d : Int) wk (fun b => (fun _ => False) b ∨ b = wr.heap.size)) => tk_hasPrec h (decide_eq_true hbig))
     have HNO := hid (show PBig l false none from ⟨fun hs => by have := HY.out hs; have h38 := (hs (k + 1)).1; rw [hsn] at h38; have e38 : (10 : Nat) ^ 38 < 10 ^ 99 := Nat.pow_lt_pow_right (by omega) (by omega); simp only at h38; omega, fun k t h => by cases h⟩)
     clear hbig hsn
     go_wp2_with (first | (go_at_call 100; refine (tk_setFint' HT.out HWD.out).mono ?_; intro e w1 h; obtain ⟨he1, h⟩ := h; subst he1; have HT := hid h; clear h; clear d0 d1 d2; obtain ⟨d0, d1, d2⟩ := HF3.out _ _ _ HT.out) | (go_at_call 66; refine (HSF.out _).mono ?_; intro e w1 h; obtain ⟨he1, hc1⟩ := h; subst he1; have HT := hid (HT.out.same hc1); clear hc1; clear d0 d1 d2; obtain ⟨d0, d1, d2⟩ := HF3.out _ _ _ HT.out) | (go_at_call 64; refine (HNF.out _).mono ?_; intro e w1 h; obtain ⟨he1, hc1⟩ := h; subst he1; have HT := hid (HT.out.same hc1); clear hc1; clear d0 d1 d2; obtain ⟨d0, d1, d2⟩ := HF3.out _ _ _ HT.out) | (go_at_call 109; refine (HMU.out _ HT.out).mono ?_; intro e w1 h; obtain ⟨he1, h⟩ := h; subst he1; have HT := hid h; clear h; clear d0 d1 d2; obtain ⟨d0, d1, d2⟩ := HF3.out _ _ _ HT.out) | (go_at_call 110; refine (HRS.out _ HT.out).mono ?_; intro e w1 h; obtain ⟨he1, h⟩ := h; subst he1; have HT := hid h; clear h; clear d0 d1 d2; obtain ⟨d0, d1, d2⟩ := HF3.out _ _ _ HT.out) | (go_at_call 111; refine (HHP.out _ HT.out).mono ?_; intro e w1 h; obtain ⟨he1, h⟩ := h; subst he1; have HT := hid h; clear h; clear d0 d1 d2; obtain ⟨d0, d1, d2⟩ := HF3.out _ _ _ HT.out) | (go_at_call 112; refine (unknownOverflow_any _).mono ?_; intro e w1 h; obtain ⟨⟨tv, vv, he1⟩, hc1⟩ := h; subst he1; have HT := hid (HT.out.same hc1); clear hc1; clear d0 d1 d2; obtain ⟨z0, z1, z2, y0, y1, y2⟩ := cell3 (HBX.out _ HT.out.chg)))
     refine leaves_cons (f := 99) (args := #[.pointer (some ⟨q, 0, none⟩)]) (by simp) (by simp [go_sem]) ?_
     refine (putBint_d _ .returning _).mono ?_
     rintro e u' w'' ⟨rfl, rfl, rfl⟩
     refine leaves_cons (f := 99) (args := #[.pointer (some ⟨p, 0, none⟩)]) (by simp [settle]) (by simp [go_sem]) ?_
     refine (putBint_d _ .returning _).mono ?_
     rintro e u' w'' ⟨rfl, rfl, rfl⟩
     exact ⟨.tuple #[.agg #[.bool false, .int .i8 0, .int .u64 0], .iface tv vv], dec_result rfl _ _ w.heap.size _ _ _ _ 55 rfl rfl (store3 (HBX.out _ HT.out.chg) _ _ _), ⟨false, none, HNO.out, chg3 (HC0.out.trans HT.out.chg sb_) (Nat.le_refl _) _ _ _, tv, vv, rfl⟩⟩
    ·have HHP := hid (fun w2 (h : TwK (w.alloc (.cells #[.bool false, .int .i8 0, .int .u64 0] 55)) w2 p q (Y : Int) (d : Int) wk (fun b => (fun _ => False) b ∨ b = wr.heap.size)) => tk_hasPrec h (decide_eq_false hbig))
     have HY9 := hid (show Y < 10 ^ 99 by omega)
     clear hbig
     go_wp2_with (first | (go_at_call 100; refine (tk_setFint' HT.out HWD.out).mono ?_; intro e w1 h; obtain ⟨he1, h⟩ := h; subst he1; have HT := hid h; clear h; clear d0 d1 d2; obtain ⟨d0, d1, d2⟩ := HF3.out _ _ _ HT.out) | (go_at_call 66; refine (HSF.out _).mono ?_; intro e w1 h; obtain ⟨he1, hc1⟩ := h; subst he1; have HT := hid (HT.out.same hc1); clear hc1; clear d0 d1 d2; obtain ⟨d0, d1, d2⟩ := HF3.out _ _ _ HT.out) | (go_at_call 64; refine (HNF.out _).mono ?_; intro e w1 h; obtain ⟨he1, hc1⟩ := h; subst he1; have HT := hid (HT.out.same hc1); clear hc1; clear d0 d1 d2; obtain ⟨d0, d1, d2⟩ := HF3.out _ _ _ HT.out) | (go_at_call 109; refine (HMU.out _ HT.out).mono ?_; intro e w1 h; obtain ⟨he1, h⟩ := h; subst he1; have HT := hid h; clear h; clear d0 d1 d2; obtain ⟨d0, d1, d2⟩ := HF3.out _ _ _ HT.out) | (go_at_call 110; refine (HRS.out _ HT.out).mono ?_; intro e w1 h; obtain ⟨he1, h⟩ := h; subst he1; have HT := hid h; clear h; clear d0 d1 d2; obtain ⟨d0, d1, d2⟩ := HF3.out _ _ _ HT.out) | (go_at_call 111; refine (HHP.out _ HT.out).mono ?_; intro e w1 h; obtain ⟨he1, h⟩ := h; subst he1; have HT := hid h; clear h; clear d0 d1 d2; obtain ⟨d0, d1, d2⟩ := HF3.out _ _ _ HT.out))
     go_roundw
     case rel => exact ⟨k + 1, Y, _, _, by omega, hS3, rfl, rfl, by rw [hsn] <;> (cases n <;> cases m <;> rfl), hid (HUN.out _ _ _ HT.out), HY9, by rw [hsn]; exact HY⟩
     case measure => simp [intOf]; omega
   ·have hg1 : ¬ (41 : Int) < (S2 : Int) := by omega
    obtain ⟨Y, hY⟩ : ∃ Y, X = Y := ⟨_, rfl⟩
    subst hY
    have HY := hid (show SmallP l → X = C0 * d ∧ S2 = S0 + t from fun hs => by have := hXS hs; omega)
    have hS3 : S2 ≤ 41 := by omega
    clear hXS hbp hs60 hgt
    by_cases hbig : 10 ^ 99 ≤ X
    ·have HHP := hid (fun w2 (h : TwK (w.alloc (.cells #[.bool false, .int .i8 0, .int .u64 0] 55)) w2 p q (X : Int) (d : Int) wk (fun b => (fun _ => False) b ∨ b = wr.heap.size)) => tk_hasPrec h (decide_eq_true hbig))
     have HNO := hid (show PBig l false none from ⟨fun hs => by have := HY.out hs; have h38 := (hs (k + 1)).1; rw [hsn] at h38; have e38 : (10 : Nat) ^ 38 < 10 ^ 99 := Nat.pow_lt_pow_right (by omega) (by omega); simp only at h38; omega, fun k t h => by cases h⟩)
     clear hbig hsn
     go_wp2_with (first | (go_at_call 100; refine (tk_setFint' HT.out HWD.out).mono ?_; intro e w1 h; obtain ⟨he1, h⟩ := h; subst he1; have HT := hid h; clear h; clear d0 d1 d2; obtain ⟨d0, d1, d2⟩ := HF3.out _ _ _ HT.out) | (go_at_call 66; refine (HSF.out _).mono ?_; intro e w1 h; obtain ⟨he1, hc1⟩ := h; subst he1; have HT := hid (HT.out.same hc1); clear hc1; clear d0 d1 d2; obtain ⟨d0, d1, d2⟩ := HF3.out _ _ _ HT.out) | (go_at_call 64; refine (HNF.out _).mono ?_; intro e w1 h; obtain ⟨he1, hc1⟩ := h; subst he1; have HT := hid (HT.out.same hc1); clear hc1; clear d0 d1 d2; obtain ⟨d0, d1, d2⟩ := HF3.out _ _ _ HT.out) | (go_at_call 109; refine (HMU.out _ HT.out).mono ?_; intro e w1 h; obtain ⟨he1, h⟩ := h; subst he1; have HT := hid h; clear h; clear d0 d1 d2; obtain ⟨d0, d1, d2⟩ := HF3.out _ _ _ HT.out) | (go_at_call 110; refine (HRS.out _ HT.out).mono ?_; intro e w1 h; obtain ⟨he1, h⟩ := h; subst he1; have HT := hid h; clear h; clear d0 d1 d2; obtain ⟨d0, d1, d2⟩ := HF3.out _ _ _ HT.out) | (go_at_call 111; refine (HHP.out _ HT.out).mono ?_; intro e w1 h; obtain ⟨he1, h⟩ := h; subst he1; have HT := hid h; clear h; clear d0 d1 d2; obtain ⟨d0, d1, d2⟩ := HF3.out _ _ _ HT.out) | (go_at_call 112; refine (unknownOverflow_any _).mono ?_; intro e w1 h; obtain ⟨⟨tv, vv, he1⟩, hc1⟩ := h; subst he1; have HT := hid (HT.out.same hc1); clear hc1; clear d0 d1 d2; obtain ⟨z0, z1, z2, y0, y1, y2⟩ := cell3 (HBX.out _ HT.out.chg)))
     refine leaves_cons (f := 99) (args := #[.pointer (some ⟨q, 0, none⟩)]) (by simp) (by simp [go_sem]) ?_
     refine (putBint_d _ .returning _).mono ?_
     rintro e u' w'' ⟨rfl, rfl, rfl⟩
     refine leaves_cons (f := 99) (args := #[.pointer (some ⟨p, 0, none⟩)]) (by simp [settle]) (by simp [go_sem]) ?_
     refine (putBint_d _ .returning _).mono ?_
     rintro e u' w'' ⟨rfl, rfl, rfl⟩
     exact ⟨.tuple #[.agg #[.bool false, .int .i8 0, .int .u64 0], .iface tv vv], dec_result rfl _ _ w.heap.size _ _ _ _ 55 rfl rfl (store3 (HBX.out _ HT.out.chg) _ _ _), ⟨false, none, HNO.out, chg3 (HC0.out.trans HT.out.chg sb_) (Nat.le_refl _) _ _ _, tv, vv, rfl⟩⟩
    ·have HHP := hid (fun w2 (h : TwK (w.alloc (.cells #[.bool false, .int .i8 0, .int .u64 0] 55)) w2 p q (X : Int) (d : Int) wk (fun b => (fun _ => False) b ∨ b = wr.heap.size)) => tk_hasPrec h (decide_eq_false hbig))
     have HY9 := hid (show X < 10 ^ 99 by omega)
     clear hbig
     go_wp2_with (first | (go_at_call 100; refine (tk_setFint' HT.out HWD.out).mono ?_; intro e w1 h; obtain ⟨he1, h⟩ := h; subst he1; have HT := hid h; clear h; clear d0 d1 d2; obtain ⟨d0, d1, d2⟩ := HF3.out _ _ _ HT.out) | (go_at_call 66; refine (HSF.out _).mono ?_; intro e w1 h; obtain ⟨he1, hc1⟩ := h; subst he1; have HT := hid (HT.out.same hc1); clear hc1; clear d0 d1 d2; obtain ⟨d0, d1, d2⟩ := HF3.out _ _ _ HT.out) | (go_at_call 64; refine (HNF.out _).mono ?_; intro e w1 h; obtain ⟨he1, hc1⟩ := h; subst he1; have HT := hid (HT.out.same hc1); clear hc1; clear d0 d1 d2; obtain ⟨d0, d1, d2⟩ := HF3.out _ _ _ HT.out) | (go_at_call 109; refine (HMU.out _ HT.out).mono ?_; intro e w1 h; obtain ⟨he1, h⟩ := h; subst he1; have HT := hid h; clear h; clear d0 d1 d2; obtain ⟨d0, d1, d2⟩ := HF3.out _ _ _ HT.out) | (go_at_call 110; refine (HRS.out _ HT.out).mono ?_; intro e w1 h; obtain ⟨he1, h⟩ := h; subst he1; have HT := hid h; clear h; clear d0 d1 d2; obtain ⟨d0, d1, d2⟩ := HF3.out _ _ _ HT.out) | (go_at_call 111; refine (HHP.out _ HT.out).mono ?_; intro e w1 h; obtain ⟨he1, h⟩ := h; subst he1; have HT := hid h; clear h; clear d0 d1 d2; obtain ⟨d0, d1, d2⟩ := HF3.out _ _ _ HT.out))
     go_roundw
     case rel => exact ⟨k + 1, X, _, _, by omega, hS3, rfl, rfl, by rw [hsn] <;> (cases n <;> cases m <;> rfl), hid (HUN.out _ _ _ HT.out), HY9, by rw [hsn]; exact HY⟩
     case measure => simp [intOf]; omega
  ·obtain rfl : k = L := by omega
   have hst : prodL (l.take k) = prodL l := by rw [List.take_of_length_le (by omega)]
   have HPB := hid (show PBig l (prodL (l.take k)).1 (from19 (10 ^ 19) 2 C S 0) from ⟨fun hs => by obtain ⟨e1, e2⟩ := HSM.out hs; rw [e1, e2, hst]; exact ⟨rfl, rfl⟩, fun k t h => (from19_bd (by omega) h).1⟩)
   generalize (prodL (l.take k)).1 = n at *
   have HF := hid (fun w2 y (h : Two (w.alloc (.cells #[.bool false, .int .i8 0, .int .u64 0] 55)) w2 p q (C : Int) y) => two_nfb9 (s := S) n h HC9.out hS41)
   obtain ⟨o, ho⟩ : ∃ o, from19 (10 ^ 19) 2 C S 0 = o := ⟨_, rfl⟩
   rw [ho] at HF HPB
   have hk := HT0.out.chg
   obtain ⟨k0, k1, k2, r0, r1, r2⟩ := cell3 (HBX.out _ hk)
   have hge : ¬ (k : Int) < (k : Int) := by omega
   clear hst ho HSM
   go_wp2_with (go_at_call 105; refine (HF.out _ _ HT0.out.two).mono ?_; intro e w1 h; obtain ⟨na, nb, nc, nv, he1, hc1, hp⟩ := h.op; subst he1; replace hk := hc1; clear h hc1; clear k0 k1 k2 r0 r1 r2; obtain ⟨k0, k1, k2, r0, r1, r2⟩ := cell3 (HBX.out _ hk); have HP := hid hp; clear hp)
   refine leaves_cons (f := 99) (args := #[.pointer (some ⟨q, 0, none⟩)]) (by simp) (by simp [go_sem]) ?_
   refine (putBint_d _ .returning _).mono ?_
   rintro e u' w'' ⟨rfl, rfl, rfl⟩
   refine leaves_cons (f := 99) (args := #[.pointer (some ⟨p, 0, none⟩)]) (by simp [settle]) (by simp [go_sem]) ?_
   refine (putBint_d _ .returning _).mono ?_
   rintro e u' w'' ⟨rfl, rfl, rfl⟩
   exact ⟨.tuple #[.agg #[.bool na, .int .i8 nb, .int .u64 nc], nv], dec_result rfl _ _ w.heap.size _ _ _ _ 55 rfl rfl (store3 (HBX.out _ hk) _ _ _), ⟨n, o, HPB.out, HP.out.move (chg3 (HC0.out.trans hk sb_) (Nat.le_refl _) _ _ _)⟩⟩
end Go.Proofs.YtbjhnckboimliaaGreatDoor
