/- Part 7 of the rest of the proof. -/
import Derived.Test.YtbjhnckboimliaaGreatDoorProg
import Derived.Below
import Derived.Deep.Draws
import Derived.Deep.AppendLies
import Derived.Maps.AppendAt
import Derived.OwnWalk
import Derived.Laws.BytesArg
import Derived.Laws.MakeOwn
import Derived.Laws.OwnMore
import Derived.Deep.OwnRows
import Derived.Tactics
import Derived.Lib.ConvBytes
import Derived.Laws.Slices
import Derived.WalkKit
import Derived.KernelRfl
import Derived.RowKit3
import Derived.Deep.LoopGhost
import Derived.Deep.QuietTactic
import Derived.BigQuiet
import Derived.WideLaws
import Derived.Deep.DeepCutAuto
import Derived.Deep.CutBlock
import Derived.Deep.RegionHeld3
import Derived.Laws.Rows
import Derived.Lib.AppendStr
import Derived.ArgAppend
import Derived.Laws.IdiomCopy
import Derived.OrdersHeld
import Derived.Laws.BitsLemmas
import Derived.RowKit
import Derived.Laws.StructEq
import Derived.Lib.Mul64
import Derived.LaidEqlPtr
import Derived.RegionTactic
import Derived.BigRegion
import Derived.StillTailTactics
import Derived.Deep.RegionWith
import Derived.Shelf.Small.Bits
import Derived.Shelf.Strconv.Itoa0
import Derived.Shelf.Bits.Mul64
import Derived.Lib.AppendZeros
import Derived.Laws.AppendOwn
import Derived.Deep.CutRange
import Derived.Test.YtbjhnckboimliaaGreatDoorQ00
import Derived.Test.YtbjhnckboimliaaGreatDoorQ01
import Derived.Test.YtbjhnckboimliaaGreatDoorQ02
import Derived.Test.YtbjhnckboimliaaGreatDoorQ03
import Derived.Test.YtbjhnckboimliaaGreatDoorQ04
import Derived.Test.YtbjhnckboimliaaGreatDoorQ05
import Derived.Test.YtbjhnckboimliaaGreatDoorQ06
import Derived.Test.YtbjhnckboimliaaGreatDoorQ07
import Derived.Test.YtbjhnckboimliaaGreatDoorQ08
import Derived.Test.YtbjhnckboimliaaGreatDoorQ09
import Derived.Test.YtbjhnckboimliaaGreatDoorQ10
import Derived.Test.YtbjhnckboimliaaGreatDoorQ11
import Derived.Test.YtbjhnckboimliaaGreatDoorQ12
import Derived.Test.YtbjhnckboimliaaGreatDoorQ13
import Derived.Test.YtbjhnckboimliaaGreatDoorQ14
import Derived.Test.YtbjhnckboimliaaGreatDoorQ15
import Derived.Test.YtbjhnckboimliaaGreatDoorQ16
import Derived.Test.YtbjhnckboimliaaGreatDoorQ17
import Derived.Test.YtbjhnckboimliaaGreatDoorQ19
import Derived.Test.YtbjhnckboimliaaGreatDoorQ21
import Derived.Test.YtbjhnckboimliaaGreatDoorQ22
import Derived.Test.YtbjhnckboimliaaGreatDoorQ23
import Derived.Test.YtbjhnckboimliaaGreatDoorR00
import Derived.Test.YtbjhnckboimliaaGreatDoorR06
namespace Go.Proofs.YtbjhnckboimliaaGreatDoor
open Go.RowKit
set_option linter.unusedVariables false
set_option linter.unusedSimpArgs false
set_option maxRecDepth 20000
def MeanF (s : DT) (N : Nat) (sg : Bool) (o : Option (Nat × Nat)) : Prop := o = none ∨ ∃ Q sh, Q * N = s.2.1 * 10 ^ sh ∧ sg = s.1 ∧ o = from19 (10 ^ 19) 2 Q (s.2.2 + sh) 0
set_option maxHeartbeats 12000000 in
theorem meanFint_any {A : Option Addr} {l : List DT} {c : Nat} (w : World) (he : EnvI w) (hx : DX w A l) (hok : ∀ f ∈ l, DTok f) (hl : l.length ≤ 40) (hl0 : 0 < l.length) :
  Calls Tryz.prog 82 #[.slice A l.length c] w (PX (MeanF (sumL l) l.length) w) := by
 have HZ := hid (fun w => Zero_any w)
 have HS0 := hid (fun w => scale_z w)
 have HN0 := hid (fun w => neg_z w)
 have hz0 := heap_alloc_new w (.cells #[.bool false, .int .i8 0, .int .u64 0] 55)
 have HC0 := hid ((Chg.refl (fun _ => False) w).alloc (.cells #[.bool false, .int .i8 0, .int .u64 0] 55))
 have HTE := hid (fun w1 (h : Chg (fun _ => False) (w.alloc (.cells #[.bool false, .int .i8 0, .int .u64 0] 55)) w1) => (he.kept HC0.out).kept h)
 have HX := hid (fun w1 (k : Chg (fun _ => False) w w1) => hx.kept k)
 have HBX := hid (fun w1 (h : Chg (fun _ => False) (w.alloc (.cells #[.bool false, .int .i8 0, .int .u64 0] 55)) w1) => kept_heap h hz0)
 obtain ⟨tv, vv, HOV⟩ : ∃ t v, Hid (∀ w1, Chg (fun _ => False) (w.alloc (.cells #[.bool false, .int .i8 0, .int .u64 0] 55)) w1 → w1.cell? ⟨0, 0, none⟩ = some (.iface t v)) := by
  obtain ⟨t, v, h⟩ := (he.kept HC0.out).1.ovf
  exact ⟨t, v, hid (fun w1 hc => cell_kept h hc (fun h => h))⟩
 have hgl : 0 < w.heap.size := by
  obtain ⟨t, v, h⟩ := he.1.ovf
  exact World.block_lt_of_cell? w _ h
 have hne1 : ¬ w.heap.size = 0 := by omega
 have hne2 : ¬ 0 = w.heap.size := by omega
 clear hgl
 obtain ⟨ti, vi, HIX⟩ : ∃ t v, Hid (∀ w1, Chg (fun _ => False) (w.alloc (.cells #[.bool false, .int .i8 0, .int .u64 0] 55)) w1 → w1.cell? ⟨1, 0, none⟩ = some (.iface t v)) := by
  obtain ⟨t, v, h⟩ := (he.kept HC0.out).2
  exact ⟨t, v, hid (fun w1 hc => cell_kept h hc (fun h => h))⟩
 have hgl : 1 < w.heap.size := by
  obtain ⟨t, v, h⟩ := he.2
  exact World.block_lt_of_cell? w _ h
 have hne3 : ¬ w.heap.size = 1 := by omega
 have hne4 : ¬ 1 = w.heap.size := by omega
 clear hgl
 have HOK := hid hok
 obtain ⟨L, hL⟩ : ∃ L, l.length = L := ⟨_, rfl⟩
 rw [hL] at hl hl0
 have hwL : IntKind.u64.wrap (L : Int) = (L : Int) := u64_in (by omega) (by omega)
 rw [hL]
 have hk := Chg.refl (fun _ => False) (w.alloc (.cells #[.bool false, .int .i8 0, .int .u64 0] 55))
 clear he hx hok hz0
 have hfc := field_coef
 go_enter Tryz.func82, Tryz.ntmps82
 go_wp2_with (first | (go_at_call 93; refine (HZ.out _).mono ?_; intro e w1 h; obtain ⟨he1, hc1⟩ := h; subst he1; replace hk := hk.trans hc1 sb_; clear hc1) | (go_at_call 66; refine (HS0.out _).mono ?_; intro e w1 h; obtain ⟨he1, hc1⟩ := h; subst he1; replace hk := hk.trans hc1 sb_; clear hc1) | (go_at_call 64; refine (HN0.out _).mono ?_; intro e w1 h; obtain ⟨he1, hc1⟩ := h; subst he1; replace hk := hk.trans hc1 sb_; clear hc1))
 go_loopw [4, 5, 6, 25] (fun c s n i wr => ∃ k : Nat, k ≤ L ∧ i = .int .i64 k ∧ c = .int .u64 (((sumL (l.take k)).2.1 : Nat) : Int) ∧ s = .int .i64 (((sumL (l.take k)).2.2 : Nat) : Int) ∧ n = .bool (sumL (l.take k)).1 ∧ Hid ((sumL (l.take k)).2.1 < 10 ^ 19) ∧ Hid (Chg (fun _ => False) (w.alloc (.cells #[.bool false, .int .i8 0, .int .u64 0] 55)) wr)) (fun _ _ _ i _ => L - (intOf i).toNat)
 case atStart => exact ⟨0, Nat.zero_le _, rfl, rfl, rfl, rfl, hid (show (0 : Nat) < 10 ^ 19 by decide), hid hk⟩
 case round =>
  obtain ⟨k, hkl, he1, he2, he3, he4, HA, HK⟩ := hrel
  subst he1 he2 he3 he4
  clear hk
  by_cases hlt : k < L
  ·obtain ⟨⟨m, d, t⟩, hf⟩ : ∃ f, l[k]? = some f := ⟨_, List.getElem?_eq_getElem (by omega)⟩
   obtain ⟨a, hA, g0, g1, g2⟩ := (HX.out _ (HC0.out.trans HK.out sb_)) k m d t hf
   subst hA
   obtain ⟨f1, f2, _⟩ := HOK.out _ (List.mem_of_getElem? hf)
   simp only at f1 f2
   obtain ⟨b1, _⟩ := sumL_ok (l := l.take k) (fun f hf => HOK.out f (List.mem_of_mem_take hf)) (by rw [List.length_take]; omega)
   have hsn : sumL (l.take (k + 1)) = stepS (sumL (l.take k)) (m, d, t) := by rw [List.take_add_one, hf]; exact sumL_snoc _ _
   have hlt' : (k : Int) < (L : Int) := by omega
   have hinc : IntKind.i64.wrap ((k : Int) + 1) = ((k + 1 : Nat) : Int) := by rw [IntWalk.i64_in _ (by omega)]; omega
   have HSF := hid (fun w => Scale_any m (d : Int) t f2 w)
   have HNF := hid (fun w => IsNeg_any m (d : Int) t w)
   have hc9 := HA.out
   generalize sumL (l.take k) = st at *
   obtain ⟨n, C, S⟩ := st
   simp only [stepS] at hsn b1 hc9
   have HB := hid (fun w1 (h : Chg (fun _ => False) (wr.alloc (.cells #[.bool m, .int .i8 t, .int .u64 (d : Int)] 55)) w1) => cell3 (kept_heap h (heap_alloc_new wr (.cells #[.bool m, .int .i8 t, .int .u64 (d : Int)] 55))))
   have HC1 := hid (HK.out.alloc (.cells #[.bool m, .int .i8 t, .int .u64 (d : Int)] 55))
   have HTB := hid (fun w1 h => (HTE.out w1 h).1.env.tab)
   have hk2 := Chg.refl (fun _ => False) (wr.alloc (.cells #[.bool m, .int .i8 t, .int .u64 (d : Int)] 55))
   obtain ⟨d0, d1, d2, _, _, _⟩ := HB.out _ hk2
   rcases Nat.lt_trichotomy t S with hts | hts | hts
   ·have c1 : (t : Int) < (S : Int) := by omega
    have hw1 : IntKind.i64.wrap ((S : Int) - (t : Int)) = ((S - t : Nat) : Int) := by rw [show (S : Int) - (t : Int) = ((S - t : Nat) : Int) by omega]; exact IntWalk.i64_in _ (by omega)
    by_cases hX : d * 10 ^ (S - t) < 10 ^ 19
    ·obtain ⟨A, B, hA, hB⟩ : ∃ A B, A = C ∧ B = d * 10 ^ (S - t) := ⟨_, _, rfl, rfl⟩
     have hst : sumD n C S m d t = sumS n A m B ∧ mxp S t = S := by rw [hA, hB]; unfold sumD mxp; rw [if_neg (by omega), Nat.sub_self, Nat.pow_zero, Nat.mul_one]; exact ⟨rfl, rfl⟩
     have HL := hid (fun w ht => lshN_ok f1 (show S - t ≤ 19 by omega) hX w ht)
     rw [← hB] at HL hX
     have hA1 : A < 10 ^ 19 := by rw [hA]; exact hc9
     have hB1 := hX
     subst hA
     rw [hst.1, hst.2] at hsn
     obtain ⟨R, hR⟩ : ∃ R, sumS n A m B = R := ⟨_, rfl⟩
     rw [hR] at hsn
     clear hB hX f1 hc9
     have hsg : ((n == m) = true ∧ A + B = R.2 ∧ n = R.1) ∨ ((n == m) = false ∧ A < B ∧ B - A = R.2 ∧ m = R.1) ∨ ((n == m) = false ∧ ¬ A < B ∧ A - B = R.2 ∧ n = R.1) := by
      rw [← hR]; unfold sumS
      by_cases h1 : n = m
      ·rw [if_pos h1]; exact .inl ⟨by simpa using h1, rfl, rfl⟩
      ·rw [if_neg h1]
       by_cases h2 : A < B
       ·rw [if_pos h2]; exact .inr (.inl ⟨by simpa using h1, h2, rfl, rfl⟩)
       ·rw [if_neg h2]; exact .inr (.inr ⟨by simpa using h1, h2, rfl, rfl⟩)
     clear hR hst
     obtain ⟨n', R⟩ := R
     simp only at hsg hsn
     rcases hsg with ⟨hs, hC, hn⟩ | ⟨hs, hg, hC, hn⟩ | ⟨hs, hg, hC, hn⟩
     ·subst hn
      by_cases hov : A + B < 10 ^ 19
      ·have HAD := hid (fun w => addN_ok hA1 hB1 hov w)
       rw [hC] at HAD hov
       clear hC
       go_wp2_with (first | (go_at_call 66; refine (HSF.out _).mono ?_; intro e w1 h; obtain ⟨he1, hc1⟩ := h; subst he1; replace hk2 := hk2.trans hc1 sb_; clear hc1 d0 d1 d2; obtain ⟨d0, d1, d2, _, _, _⟩ := HB.out _ hk2) | (go_at_call 64; refine (HNF.out _).mono ?_; intro e w1 h; obtain ⟨he1, hc1⟩ := h; subst he1; replace hk2 := hk2.trans hc1 sb_; clear hc1 d0 d1 d2; obtain ⟨d0, d1, d2, _, _, _⟩ := HB.out _ hk2) | (go_at_call 94; refine (HL.out _ (HTB.out _ (HC1.out.trans hk2 sb_))).mono ?_; intro e w2 h; obtain ⟨he1, he2⟩ := h; subst he1; subst he2) | (go_at_call 95; refine (HAD.out _).mono ?_; intro e w2 h; obtain ⟨he1, he2⟩ := h; subst he1; subst he2) | (go_at_call 96; refine (HSB.out _).mono ?_; intro e w2 h; obtain ⟨he1, he2⟩ := h; subst he1; subst he2))
       go_roundw
       case rel => exact ⟨k + 1, by omega, rfl, by rw [hsn], by rw [hsn], by rw [hsn], by rw [hsn]; exact hid hov, hid (HC1.out.trans hk2 sb_)⟩
       case measure => simp [intOf]; omega
      ·have HAD := hid (fun w => addN_no hA1 hB1 hov w)
       clear hC hov
       go_wp2_with (first | (go_at_call 66; refine (HSF.out _).mono ?_; intro e w1 h; obtain ⟨he1, hc1⟩ := h; subst he1; replace hk2 := hk2.trans hc1 sb_; clear hc1 d0 d1 d2; obtain ⟨d0, d1, d2, _, _, _⟩ := HB.out _ hk2) | (go_at_call 64; refine (HNF.out _).mono ?_; intro e w1 h; obtain ⟨he1, hc1⟩ := h; subst he1; replace hk2 := hk2.trans hc1 sb_; clear hc1 d0 d1 d2; obtain ⟨d0, d1, d2, _, _, _⟩ := HB.out _ hk2) | (go_at_call 94; refine (HL.out _ (HTB.out _ (HC1.out.trans hk2 sb_))).mono ?_; intro e w2 h; obtain ⟨he1, he2⟩ := h; subst he1; subst he2) | (go_at_call 95; refine (HAD.out _).mono ?_; intro e w2 h; obtain ⟨he1, he2⟩ := h; subst he1; subst he2) | (go_at_call 96; refine (HSB.out _).mono ?_; intro e w2 h; obtain ⟨he1, he2⟩ := h; subst he1; subst he2))
       have hk3 := HC1.out.trans hk2 sb_
       have ov := HOV.out _ hk3
       obtain ⟨z0, z1, z2, y0, y1, y2⟩ := cell3 (HBX.out _ hk3)
       go_region
       all_goals (go_wp2_with fail; refine bodyPost_ret (v := .tuple #[.agg #[.bool false, .int .i8 0, .int .u64 0], .iface tv vv]) (dec_result rfl _ _ w.heap.size _ _ _ _ 55 rfl rfl (store3 (HBX.out _ hk3) _ _ _)) rfl ⟨false, none, .inl rfl, (chg3 (HC0.out.trans hk3 sb_) (by omega) _ _ _).drew, tv, vv, rfl⟩)
     ·subst hn
      have hov : R < 10 ^ 19 := by omega
      have HSB := hid (fun w => subN_lt hA1 hB1 hg w)
      rw [hC] at HSB
      have hg' : (A : Int) < (B : Int) := by omega
      clear hC hg
      go_wp2_with (first | (go_at_call 66; refine (HSF.out _).mono ?_; intro e w1 h; obtain ⟨he1, hc1⟩ := h; subst he1; replace hk2 := hk2.trans hc1 sb_; clear hc1 d0 d1 d2; obtain ⟨d0, d1, d2, _, _, _⟩ := HB.out _ hk2) | (go_at_call 64; refine (HNF.out _).mono ?_; intro e w1 h; obtain ⟨he1, hc1⟩ := h; subst he1; replace hk2 := hk2.trans hc1 sb_; clear hc1 d0 d1 d2; obtain ⟨d0, d1, d2, _, _, _⟩ := HB.out _ hk2) | (go_at_call 94; refine (HL.out _ (HTB.out _ (HC1.out.trans hk2 sb_))).mono ?_; intro e w2 h; obtain ⟨he1, he2⟩ := h; subst he1; subst he2) | (go_at_call 95; refine (HAD.out _).mono ?_; intro e w2 h; obtain ⟨he1, he2⟩ := h; subst he1; subst he2) | (go_at_call 96; refine (HSB.out _).mono ?_; intro e w2 h; obtain ⟨he1, he2⟩ := h; subst he1; subst he2))
      go_roundw
      case rel => exact ⟨k + 1, by omega, rfl, by rw [hsn], by rw [hsn], by rw [hsn], by rw [hsn]; exact hid hov, hid (HC1.out.trans hk2 sb_)⟩
      case measure => simp [intOf]; omega
     ·subst hn
      have hov : R < 10 ^ 19 := by omega
      have HSB := hid (fun w => subN_ge hA1 hB1 hg w)
      rw [hC] at HSB
      have hg' : ¬ (A : Int) < (B : Int) := by omega
      clear hC hg
      go_wp2_with (first | (go_at_call 66; refine (HSF.out _).mono ?_; intro e w1 h; obtain ⟨he1, hc1⟩ := h; subst he1; replace hk2 := hk2.trans hc1 sb_; clear hc1 d0 d1 d2; obtain ⟨d0, d1, d2, _, _, _⟩ := HB.out _ hk2) | (go_at_call 64; refine (HNF.out _).mono ?_; intro e w1 h; obtain ⟨he1, hc1⟩ := h; subst he1; replace hk2 := hk2.trans hc1 sb_; clear hc1 d0 d1 d2; obtain ⟨d0, d1, d2, _, _, _⟩ := HB.out _ hk2) | (go_at_call 94; refine (HL.out _ (HTB.out _ (HC1.out.trans hk2 sb_))).mono ?_; intro e w2 h; obtain ⟨he1, he2⟩ := h; subst he1; subst he2) | (go_at_call 95; refine (HAD.out _).mono ?_; intro e w2 h; obtain ⟨he1, he2⟩ := h; subst he1; subst he2) | (go_at_call 96; refine (HSB.out _).mono ?_; intro e w2 h; obtain ⟨he1, he2⟩ := h; subst he1; subst he2))
      go_roundw
      case rel => exact ⟨k + 1, by omega, rfl, by rw [hsn], by rw [hsn], by rw [hsn], by rw [hsn]; exact hid hov, hid (HC1.out.trans hk2 sb_)⟩
      case measure => simp [intOf]; omega
    ·have HL := hid (fun w ht => lshN_no f1 (show S - t ≤ 19 by omega) hX w ht)
     clear hX f1 hc9
     go_wp2_with (first | (go_at_call 66; refine (HSF.out _).mono ?_; intro e w1 h; obtain ⟨he1, hc1⟩ := h; subst he1; replace hk2 := hk2.trans hc1 sb_; clear hc1 d0 d1 d2; obtain ⟨d0, d1, d2, _, _, _⟩ := HB.out _ hk2) | (go_at_call 64; refine (HNF.out _).mono ?_; intro e w1 h; obtain ⟨he1, hc1⟩ := h; subst he1; replace hk2 := hk2.trans hc1 sb_; clear hc1 d0 d1 d2; obtain ⟨d0, d1, d2, _, _, _⟩ := HB.out _ hk2) | (go_at_call 94; refine (HL.out _ (HTB.out _ (HC1.out.trans hk2 sb_))).mono ?_; intro e w2 h; obtain ⟨he1, he2⟩ := h; subst he1; subst he2) | (go_at_call 95; refine (HAD.out _).mono ?_; intro e w2 h; obtain ⟨he1, he2⟩ := h; subst he1; subst he2) | (go_at_call 96; refine (HSB.out _).mono ?_; intro e w2 h; obtain ⟨he1, he2⟩ := h; subst he1; subst he2))
     have hk3 := HC1.out.trans hk2 sb_
     have ov := HOV.out _ hk3
     obtain ⟨z0, z1, z2, y0, y1, y2⟩ := cell3 (HBX.out _ hk3)
     go_region
     all_goals (go_wp2_with fail; refine bodyPost_ret (v := .tuple #[.agg #[.bool false, .int .i8 0, .int .u64 0], .iface tv vv]) (dec_result rfl _ _ w.heap.size _ _ _ _ 55 rfl rfl (store3 (HBX.out _ hk3) _ _ _)) rfl ⟨false, none, .inl rfl, (chg3 (HC0.out.trans hk3 sb_) (by omega) _ _ _).drew, tv, vv, rfl⟩)
   ·obtain ⟨A, B, hA, hB⟩ : ∃ A B, A = C ∧ B = d := ⟨_, _, rfl, rfl⟩
    have hst : sumD n C S m d t = sumS n A m B ∧ mxp S t = S := by rw [hA, hB, hts]; unfold sumD mxp; rw [if_neg (by omega), Nat.sub_self, Nat.pow_zero, Nat.mul_one, Nat.mul_one]; exact ⟨rfl, rfl⟩
    have c1 : ¬ (S : Int) < (S : Int) := by omega
    have hA1 : A < 10 ^ 19 := by rw [hA]; exact hc9
    have hB1 : B < 10 ^ 19 := by rw [hB]; exact f1
    subst hts hA hB
    rw [hst.1, hst.2] at hsn
    obtain ⟨R, hR⟩ : ∃ R, sumS n A m B = R := ⟨_, rfl⟩
    rw [hR] at hsn
    clear f1 hc9
    have hsg : ((n == m) = true ∧ A + B = R.2 ∧ n = R.1) ∨ ((n == m) = false ∧ A < B ∧ B - A = R.2 ∧ m = R.1) ∨ ((n == m) = false ∧ ¬ A < B ∧ A - B = R.2 ∧ n = R.1) := by
     rw [← hR]; unfold sumS
     by_cases h1 : n = m
     ·rw [if_pos h1]; exact .inl ⟨by simpa using h1, rfl, rfl⟩
     ·rw [if_neg h1]
      by_cases h2 : A < B
      ·rw [if_pos h2]; exact .inr (.inl ⟨by simpa using h1, h2, rfl, rfl⟩)
      ·rw [if_neg h2]; exact .inr (.inr ⟨by simpa using h1, h2, rfl, rfl⟩)
    clear hR hst
    obtain ⟨n', R⟩ := R
    simp only at hsg hsn
    rcases hsg with ⟨hs, hC, hn⟩ | ⟨hs, hg, hC, hn⟩ | ⟨hs, hg, hC, hn⟩
    ·subst hn
     by_cases hov : A + B < 10 ^ 19
     ·have HAD := hid (fun w => addN_ok hA1 hB1 hov w)
      rw [hC] at HAD hov
      clear hC
      go_wp2_with (first | (go_at_call 66; refine (HSF.out _).mono ?_; intro e w1 h; obtain ⟨he1, hc1⟩ := h; subst he1; replace hk2 := hk2.trans hc1 sb_; clear hc1 d0 d1 d2; obtain ⟨d0, d1, d2, _, _, _⟩ := HB.out _ hk2) | (go_at_call 64; refine (HNF.out _).mono ?_; intro e w1 h; obtain ⟨he1, hc1⟩ := h; subst he1; replace hk2 := hk2.trans hc1 sb_; clear hc1 d0 d1 d2; obtain ⟨d0, d1, d2, _, _, _⟩ := HB.out _ hk2) | (go_at_call 94; refine (HL.out _ (HTB.out _ (HC1.out.trans hk2 sb_))).mono ?_; intro e w2 h; obtain ⟨he1, he2⟩ := h; subst he1; subst he2) | (go_at_call 95; refine (HAD.out _).mono ?_; intro e w2 h; obtain ⟨he1, he2⟩ := h; subst he1; subst he2) | (go_at_call 96; refine (HSB.out _).mono ?_; intro e w2 h; obtain ⟨he1, he2⟩ := h; subst he1; subst he2))
      go_roundw
      case rel => exact ⟨k + 1, by omega, rfl, by rw [hsn], by rw [hsn], by rw [hsn], by rw [hsn]; exact hid hov, hid (HC1.out.trans hk2 sb_)⟩
      case measure => simp [intOf]; omega
     ·have HAD := hid (fun w => addN_no hA1 hB1 hov w)
      clear hC hov
      go_wp2_with (first | (go_at_call 66; refine (HSF.out _).mono ?_; intro e w1 h; obtain ⟨he1, hc1⟩ := h; subst he1; replace hk2 := hk2.trans hc1 sb_; clear hc1 d0 d1 d2; obtain ⟨d0, d1, d2, _, _, _⟩ := HB.out _ hk2) | (go_at_call 64; refine (HNF.out _).mono ?_; intro e w1 h; obtain ⟨he1, hc1⟩ := h; subst he1; replace hk2 := hk2.trans hc1 sb_; clear hc1 d0 d1 d2; obtain ⟨d0, d1, d2, _, _, _⟩ := HB.out _ hk2) | (go_at_call 94; refine (HL.out _ (HTB.out _ (HC1.out.trans hk2 sb_))).mono ?_; intro e w2 h; obtain ⟨he1, he2⟩ := h; subst he1; subst he2) | (go_at_call 95; refine (HAD.out _).mono ?_; intro e w2 h; obtain ⟨he1, he2⟩ := h; subst he1; subst he2) | (go_at_call 96; refine (HSB.out _).mono ?_; intro e w2 h; obtain ⟨he1, he2⟩ := h; subst he1; subst he2))
      have hk3 := HC1.out.trans hk2 sb_
      have ov := HOV.out _ hk3
      obtain ⟨z0, z1, z2, y0, y1, y2⟩ := cell3 (HBX.out _ hk3)
      go_region
      all_goals (go_wp2_with fail; refine bodyPost_ret (v := .tuple #[.agg #[.bool false, .int .i8 0, .int .u64 0], .iface tv vv]) (dec_result rfl _ _ w.heap.size _ _ _ _ 55 rfl rfl (store3 (HBX.out _ hk3) _ _ _)) rfl ⟨false, none, .inl rfl, (chg3 (HC0.out.trans hk3 sb_) (by omega) _ _ _).drew, tv, vv, rfl⟩)
    ·subst hn
     have hov : R < 10 ^ 19 := by omega
     have HSB := hid (fun w => subN_lt hA1 hB1 hg w)
     rw [hC] at HSB
     have hg' : (A : Int) < (B : Int) := by omega
     clear hC hg
     go_wp2_with (first | (go_at_call 66; refine (HSF.out _).mono ?_; intro e w1 h; obtain ⟨he1, hc1⟩ := h; subst he1; replace hk2 := hk2.trans hc1 sb_; clear hc1 d0 d1 d2; obtain ⟨d0, d1, d2, _, _, _⟩ := HB.out _ hk2) | (go_at_call 64; refine (HNF.out _).mono ?_; intro e w1 h; obtain ⟨he1, hc1⟩ := h; subst he1; replace hk2 := hk2.trans hc1 sb_; clear hc1 d0 d1 d2; obtain ⟨d0, d1, d2, _, _, _⟩ := HB.out _ hk2) | (go_at_call 94; refine (HL.out _ (HTB.out _ (HC1.out.trans hk2 sb_))).mono ?_; intro e w2 h; obtain ⟨he1, he2⟩ := h; subst he1; subst he2) | (go_at_call 95; refine (HAD.out _).mono ?_; intro e w2 h; obtain ⟨he1, he2⟩ := h; subst he1; subst he2) | (go_at_call 96; refine (HSB.out _).mono ?_; intro e w2 h; obtain ⟨he1, he2⟩ := h; subst he1; subst he2))
     go_roundw
     case rel => exact ⟨k + 1, by omega, rfl, by rw [hsn], by rw [hsn], by rw [hsn], by rw [hsn]; exact hid hov, hid (HC1.out.trans hk2 sb_)⟩
     case measure => simp [intOf]; omega
    ·subst hn
     have hov : R < 10 ^ 19 := by omega
     have HSB := hid (fun w => subN_ge hA1 hB1 hg w)
     rw [hC] at HSB
     have hg' : ¬ (A : Int) < (B : Int) := by omega
     clear hC hg
     go_wp2_with (first | (go_at_call 66; refine (HSF.out _).mono ?_; intro e w1 h; obtain ⟨he1, hc1⟩ := h; subst he1; replace hk2 := hk2.trans hc1 sb_; clear hc1 d0 d1 d2; obtain ⟨d0, d1, d2, _, _, _⟩ := HB.out _ hk2) | (go_at_call 64; refine (HNF.out _).mono ?_; intro e w1 h; obtain ⟨he1, hc1⟩ := h; subst he1; replace hk2 := hk2.trans hc1 sb_; clear hc1 d0 d1 d2; obtain ⟨d0, d1, d2, _, _, _⟩ := HB.out _ hk2) | (go_at_call 94; refine (HL.out _ (HTB.out _ (HC1.out.trans hk2 sb_))).mono ?_; intro e w2 h; obtain ⟨he1, he2⟩ := h; subst he1; subst he2) | (go_at_call 95; refine (HAD.out _).mono ?_; intro e w2 h; obtain ⟨he1, he2⟩ := h; subst he1; subst he2) | (go_at_call 96; refine (HSB.out _).mono ?_; intro e w2 h; obtain ⟨he1, he2⟩ := h; subst he1; subst he2))
     go_roundw
     case rel => exact ⟨k + 1, by omega, rfl, by rw [hsn], by rw [hsn], by rw [hsn], by rw [hsn]; exact hid hov, hid (HC1.out.trans hk2 sb_)⟩
     case measure => simp [intOf]; omega
   ·have c1 : (S : Int) < (t : Int) := by omega
    have c2 : ¬ (t : Int) < (S : Int) := by omega
    have hw1 : IntKind.i64.wrap ((t : Int) - (S : Int)) = ((t - S : Nat) : Int) := by rw [show (t : Int) - (S : Int) = ((t - S : Nat) : Int) by omega]; exact IntWalk.i64_in _ (by omega)
    by_cases hX : C * 10 ^ (t - S) < 10 ^ 19
    ·obtain ⟨A, B, hA, hB⟩ : ∃ A B, A = C * 10 ^ (t - S) ∧ B = d := ⟨_, _, rfl, rfl⟩
     have hst : sumD n C S m d t = sumS n A m B ∧ mxp S t = t := by rw [hA, hB]; unfold sumD mxp; rw [if_pos hts, Nat.sub_self, Nat.pow_zero, Nat.mul_one]; exact ⟨rfl, rfl⟩
     have HL := hid (fun w ht => lshN_ok hc9 (show t - S ≤ 19 by omega) hX w ht)
     rw [← hA] at HL hX
     have hA1 := hX
     have hB1 : B < 10 ^ 19 := by rw [hB]; exact f1
     subst hB
     rw [hst.1, hst.2] at hsn
     obtain ⟨R, hR⟩ : ∃ R, sumS n A m B = R := ⟨_, rfl⟩
     rw [hR] at hsn
     clear hA hX f1 hc9
     have hsg : ((n == m) = true ∧ A + B = R.2 ∧ n = R.1) ∨ ((n == m) = false ∧ A < B ∧ B - A = R.2 ∧ m = R.1) ∨ ((n == m) = false ∧ ¬ A < B ∧ A - B = R.2 ∧ n = R.1) := by
      rw [← hR]; unfold sumS
      by_cases h1 : n = m
      ·rw [if_pos h1]; exact .inl ⟨by simpa using h1, rfl, rfl⟩
      ·rw [if_neg h1]
       by_cases h2 : A < B
       ·rw [if_pos h2]; exact .inr (.inl ⟨by simpa using h1, h2, rfl, rfl⟩)
       ·rw [if_neg h2]; exact .inr (.inr ⟨by simpa using h1, h2, rfl, rfl⟩)
     clear hR hst
     obtain ⟨n', R⟩ := R
     simp only at hsg hsn
     rcases hsg with ⟨hs, hC, hn⟩ | ⟨hs, hg, hC, hn⟩ | ⟨hs, hg, hC, hn⟩
     ·subst hn
      by_cases hov : A + B < 10 ^ 19
      ·have HAD := hid (fun w => addN_ok hA1 hB1 hov w)
       rw [hC] at HAD hov
       clear hC
       go_wp2_with (first | (go_at_call 66; refine (HSF.out _).mono ?_; intro e w1 h; obtain ⟨he1, hc1⟩ := h; subst he1; replace hk2 := hk2.trans hc1 sb_; clear hc1 d0 d1 d2; obtain ⟨d0, d1, d2, _, _, _⟩ := HB.out _ hk2) | (go_at_call 64; refine (HNF.out _).mono ?_; intro e w1 h; obtain ⟨he1, hc1⟩ := h; subst he1; replace hk2 := hk2.trans hc1 sb_; clear hc1 d0 d1 d2; obtain ⟨d0, d1, d2, _, _, _⟩ := HB.out _ hk2) | (go_at_call 94; refine (HL.out _ (HTB.out _ (HC1.out.trans hk2 sb_))).mono ?_; intro e w2 h; obtain ⟨he1, he2⟩ := h; subst he1; subst he2) | (go_at_call 95; refine (HAD.out _).mono ?_; intro e w2 h; obtain ⟨he1, he2⟩ := h; subst he1; subst he2) | (go_at_call 96; refine (HSB.out _).mono ?_; intro e w2 h; obtain ⟨he1, he2⟩ := h; subst he1; subst he2))
       go_roundw
       case rel => exact ⟨k + 1, by omega, rfl, by rw [hsn], by rw [hsn], by rw [hsn], by rw [hsn]; exact hid hov, hid (HC1.out.trans hk2 sb_)⟩
       case measure => simp [intOf]; omega
      ·have HAD := hid (fun w => addN_no hA1 hB1 hov w)
       clear hC hov
       go_wp2_with (first | (go_at_call 66; refine (HSF.out _).mono ?_; intro e w1 h; obtain ⟨he1, hc1⟩ := h; subst he1; replace hk2 := hk2.trans hc1 sb_; clear hc1 d0 d1 d2; obtain ⟨d0, d1, d2, _, _, _⟩ := HB.out _ hk2) | (go_at_call 64; refine (HNF.out _).mono ?_; intro e w1 h; obtain ⟨he1, hc1⟩ := h; subst he1; replace hk2 := hk2.trans hc1 sb_; clear hc1 d0 d1 d2; obtain ⟨d0, d1, d2, _, _, _⟩ := HB.out _ hk2) | (go_at_call 94; refine (HL.out _ (HTB.out _ (HC1.out.trans hk2 sb_))).mono ?_; intro e w2 h; obtain ⟨he1, he2⟩ := h; subst he1; subst he2) | (go_at_call 95; refine (HAD.out _).mono ?_; intro e w2 h; obtain ⟨he1, he2⟩ := h; subst he1; subst he2) | (go_at_call 96; refine (HSB.out _).mono ?_; intro e w2 h; obtain ⟨he1, he2⟩ := h; subst he1; subst he2))
       have hk3 := HC1.out.trans hk2 sb_
       have ov := HOV.out _ hk3
       obtain ⟨z0, z1, z2, y0, y1, y2⟩ := cell3 (HBX.out _ hk3)
       go_region
       all_goals (go_wp2_with fail; refine bodyPost_ret (v := .tuple #[.agg #[.bool false, .int .i8 0, .int .u64 0], .iface tv vv]) (dec_result rfl _ _ w.heap.size _ _ _ _ 55 rfl rfl (store3 (HBX.out _ hk3) _ _ _)) rfl ⟨false, none, .inl rfl, (chg3 (HC0.out.trans hk3 sb_) (by omega) _ _ _).drew, tv, vv, rfl⟩)
     ·subst hn
      have hov : R < 10 ^ 19 := by omega
      have HSB := hid (fun w => subN_lt hA1 hB1 hg w)
      rw [hC] at HSB
      have hg' : (A : Int) < (B : Int) := by omega
      clear hC hg
      go_wp2_with (first | (go_at_call 66; refine (HSF.out _).mono ?_; intro e w1 h; obtain ⟨he1, hc1⟩ := h; subst he1; replace hk2 := hk2.trans hc1 sb_; clear hc1 d0 d1 d2; obtain ⟨d0, d1, d2, _, _, _⟩ := HB.out _ hk2) | (go_at_call 64; refine (HNF.out _).mono ?_; intro e w1 h; obtain ⟨he1, hc1⟩ := h; subst he1; replace hk2 := hk2.trans hc1 sb_; clear hc1 d0 d1 d2; obtain ⟨d0, d1, d2, _, _, _⟩ := HB.out _ hk2) | (go_at_call 94; refine (HL.out _ (HTB.out _ (HC1.out.trans hk2 sb_))).mono ?_; intro e w2 h; obtain ⟨he1, he2⟩ := h; subst he1; subst he2) | (go_at_call 95; refine (HAD.out _).mono ?_; intro e w2 h; obtain ⟨he1, he2⟩ := h; subst he1; subst he2) | (go_at_call 96; refine (HSB.out _).mono ?_; intro e w2 h; obtain ⟨he1, he2⟩ := h; subst he1; subst he2))
      go_roundw
      case rel => exact ⟨k + 1, by omega, rfl, by rw [hsn], by rw [hsn], by rw [hsn], by rw [hsn]; exact hid hov, hid (HC1.out.trans hk2 sb_)⟩
      case measure => simp [intOf]; omega
     ·subst hn
      have hov : R < 10 ^ 19 := by omega
      have HSB := hid (fun w => subN_ge hA1 hB1 hg w)
      rw [hC] at HSB
      have hg' : ¬ (A : Int) < (B : Int) := by omega
      clear hC hg
      go_wp2_with (first | (go_at_call 66; refine (HSF.out _).mono ?_; intro e w1 h; obtain ⟨he1, hc1⟩ := h; subst he1; replace hk2 := hk2.trans hc1 sb_; clear hc1 d0 d1 d2; obtain ⟨d0, d1, d2, _, _, _⟩ := HB.out _ hk2) | (go_at_call 64; refine (HNF.out _).mono ?_; intro e w1 h; obtain ⟨he1, hc1⟩ := h; subst he1; replace hk2 := hk2.trans hc1 sb_; clear hc1 d0 d1 d2; obtain ⟨d0, d1, d2, _, _, _⟩ := HB.out _ hk2) | (go_at_call 94; refine (HL.out _ (HTB.out _ (HC1.out.trans hk2 sb_))).mono ?_; intro e w2 h; obtain ⟨he1, he2⟩ := h; subst he1; subst he2) | (go_at_call 95; refine (HAD.out _).mono ?_; intro e w2 h; obtain ⟨he1, he2⟩ := h; subst he1; subst he2) | (go_at_call 96; refine (HSB.out _).mono ?_; intro e w2 h; obtain ⟨he1, he2⟩ := h; subst he1; subst he2))
      go_roundw
      case rel => exact ⟨k + 1, by omega, rfl, by rw [hsn], by rw [hsn], by rw [hsn], by rw [hsn]; exact hid hov, hid (HC1.out.trans hk2 sb_)⟩
      case measure => simp [intOf]; omega
    ·have HL := hid (fun w ht => lshN_no hc9 (show t - S ≤ 19 by omega) hX w ht)
     clear hX f1 hc9
     go_wp2_with (first | (go_at_call 66; refine (HSF.out _).mono ?_; intro e w1 h; obtain ⟨he1, hc1⟩ := h; subst he1; replace hk2 := hk2.trans hc1 sb_; clear hc1 d0 d1 d2; obtain ⟨d0, d1, d2, _, _, _⟩ := HB.out _ hk2) | (go_at_call 64; refine (HNF.out _).mono ?_; intro e w1 h; obtain ⟨he1, hc1⟩ := h; subst he1; replace hk2 := hk2.trans hc1 sb_; clear hc1 d0 d1 d2; obtain ⟨d0, d1, d2, _, _, _⟩ := HB.out _ hk2) | (go_at_call 94; refine (HL.out _ (HTB.out _ (HC1.out.trans hk2 sb_))).mono ?_; intro e w2 h; obtain ⟨he1, he2⟩ := h; subst he1; subst he2) | (go_at_call 95; refine (HAD.out _).mono ?_; intro e w2 h; obtain ⟨he1, he2⟩ := h; subst he1; subst he2) | (go_at_call 96; refine (HSB.out _).mono ?_; intro e w2 h; obtain ⟨he1, he2⟩ := h; subst he1; subst he2))
     have hk3 := HC1.out.trans hk2 sb_
     have ov := HOV.out _ hk3
     obtain ⟨z0, z1, z2, y0, y1, y2⟩ := cell3 (HBX.out _ hk3)
     go_region
     all_goals (go_wp2_with fail; refine bodyPost_ret (v := .tuple #[.agg #[.bool false, .int .i8 0, .int .u64 0], .iface tv vv]) (dec_result rfl _ _ w.heap.size _ _ _ _ 55 rfl rfl (store3 (HBX.out _ hk3) _ _ _)) rfl ⟨false, none, .inl rfl, (chg3 (HC0.out.trans hk3 sb_) (by omega) _ _ _).drew, tv, vv, rfl⟩)
  ·obtain rfl : k = L := by omega
   have hst : sumL (l.take k) = sumL l := by rw [List.take_of_length_le (by omega)]
   obtain ⟨b1, _⟩ := sumL_ok (fun f hf => HOK.out f hf) (by omega)
   have hge : ¬ (k : Int) < (k : Int) := by omega
   have hc9 := HA.out
   rw [← hst] at b1
   have HPM := hid (fun sg o (h : MeanF (sumL (l.take k)) k sg o) => (show MeanF (sumL l) k sg o from hst ▸ h))
   have hk := HK.out
   clear hst HA
   generalize sumL (l.take k) = st at *
   obtain ⟨n, C, S⟩ := st
   simp only at hc9 b1 HPM
   obtain ⟨D, hD⟩ : ∃ D, digs C = D := ⟨_, rfl⟩
   have hD19 : D ≤ 19 := by rw [← hD]; exact digs_le.2 hc9
   obtain ⟨sh, hsh⟩ : ∃ sh, 19 - D = sh := ⟨_, rfl⟩
   obtain ⟨X, hX⟩ : ∃ X, C * 10 ^ sh = X := ⟨_, rfl⟩
   have hX9 : X < 10 ^ 19 := by
    rw [← hX]
    have h1 := Nat.mul_lt_mul_of_pos_right (digs_le.1 (Nat.le_of_eq hD)) (pow10_pos sh)
    rw [← Nat.pow_add, show D + sh = 19 by omega] at h1
    exact h1
   have hpr := fun w ht => fint_prec (C : Int) (fiN hc9) w ht
   simp only [Int.toNat_natCast, hD] at hpr
   have HPR := hid hpr
   have HL := hid (fun w ht => lshN_ok hc9 (show sh ≤ 19 by omega) (by rw [hX]; exact hX9) w ht)
   rw [hX] at HL
   obtain ⟨S2, hS2⟩ : ∃ S2, S + sh = S2 := ⟨_, rfl⟩
   have hS38 : S2 ≤ 38 := by omega
   have HPE := hid (fun Q sg o (hq : Q * k = X) (h : SomeOf n Q S2 sg o) => HPM.out sg o (h.elim .inl (fun h => .inr ⟨Q, sh, by show Q * k = C * 10 ^ sh; rw [hq, hX], h.1, by show o = from19 (10 ^ 19) 2 Q (S + sh) 0; rw [hS2]; exact h.2⟩)))
   have hw1 : IntKind.i64.wrap ((19 : Int) - (D : Int)) = (sh : Int) := by rw [show (19 : Int) - (D : Int) = (sh : Int) by omega]; exact IntWalk.i64_in _ (by omega)
   have hw2 : IntKind.i64.wrap ((S : Int) + (sh : Int)) = (S2 : Int) := by rw [show (S : Int) + (sh : Int) = (S2 : Int) by omega]; exact IntWalk.i64_in _ (by omega)
   have hqu := fun w => fint_quo (X : Int) (k : Int) (fiN hX9) (fiN (Nat.lt_of_le_of_lt hl (by decide))) (by omega) w
   rw [show (X : Int) % (k : Int) = ((X % k : Nat) : Int) from (Int.natCast_emod X k).symm, show (X : Int) / (k : Int) = ((X / k : Nat) : Int) from (Int.natCast_ediv X k).symm] at hqu
   obtain ⟨k0, k1, k2, r0, r1, r2⟩ := cell3 (HBX.out _ hk)
   have HTB := hid (fun w1 h => (HTE.out w1 h).1.env.tab)
   clear hpr HPM b1
   by_cases hs : 0 < sh
   ·have hs1 : (0 : Int) < (sh : Int) := by omega
    clear hs hsh hD hD19 hX hS2 hc9
    by_cases hx : X % k = 0
    ·have hq : X / k * k = X := Nat.div_mul_cancel (Nat.dvd_of_mod_eq_zero hx)
     simp only [hx, Int.natCast_zero, if_true, decide_true] at hqu
     obtain ⟨Q, hQ⟩ : ∃ Q, X / k = Q := ⟨_, rfl⟩
     have hQ9 : Q < 10 ^ 19 := by rw [← hQ]; exact Nat.lt_of_le_of_lt (Nat.div_le_self _ _) hX9
     rw [hQ] at hqu hq
     have HQU := hid hqu
     have HF := hid (fun w he => nff_some n hQ9 hS38 w he)
     have HPQ := hid (fun sg o h => HPE.out Q sg o hq h)
     clear hqu hq hQ hQ9 hx hX9 hS38
     go_wp2_with (first | (go_at_call 113; refine (HPR.out _ (HTB.out _ hk)).mono ?_; intro e w2 h; obtain ⟨he1, he2⟩ := h; subst he1; subst he2) | (go_at_call 94; refine (HL.out _ (HTB.out _ hk)).mono ?_; intro e w2 h; obtain ⟨he1, he2⟩ := h; subst he1; subst he2) | (go_at_call 114; refine (HQU.out _).mono ?_; intro e w2 h; obtain ⟨he1, he2⟩ := h; subst he1; subst he2) | (go_at_call 97; refine (HF.out _ (HTE.out _ hk).1).mono ?_; intro e w1 h; obtain ⟨na, nb, nc, nv, he1, hc1, hp⟩ := h.op; subst he1; replace hk := hk.trans hc1 sb_; clear h; clear k0 k1 k2 r0 r1 r2; obtain ⟨k0, k1, k2, r0, r1, r2⟩ := cell3 (HBX.out _ hk); have HP := hid hp; clear hp hc1))
     exact bodyPost_ret (v := .tuple #[.agg #[.bool na, .int .i8 nb, .int .u64 nc], nv]) (dec_result rfl _ _ w.heap.size _ _ _ _ 55 rfl rfl (store3 (HBX.out _ hk) _ _ _)) rfl (PX.imp (HP.out.move (chg3 (HC0.out.trans hk sb_) (by omega) _ _ _)) HPQ.out)
    ·have hx' : ¬ ((X % k : Nat) : Int) = 0 := by omega
     simp only [hx', if_false, decide_false] at hqu
     have HQU := hid hqu
     have ov := HIX.out _ hk
     clear hqu hx hx' hX9 hS38
     go_wp2_with (first | (go_at_call 113; refine (HPR.out _ (HTB.out _ hk)).mono ?_; intro e w2 h; obtain ⟨he1, he2⟩ := h; subst he1; subst he2) | (go_at_call 94; refine (HL.out _ (HTB.out _ hk)).mono ?_; intro e w2 h; obtain ⟨he1, he2⟩ := h; subst he1; subst he2) | (go_at_call 114; refine (HQU.out _).mono ?_; intro e w2 h; obtain ⟨he1, he2⟩ := h; subst he1; subst he2) | (go_at_call 97; refine (HF.out _ (HTE.out _ hk).1).mono ?_; intro e w1 h; obtain ⟨na, nb, nc, nv, he1, hc1, hp⟩ := h.op; subst he1; replace hk := hk.trans hc1 sb_; clear h; clear k0 k1 k2 r0 r1 r2; obtain ⟨k0, k1, k2, r0, r1, r2⟩ := cell3 (HBX.out _ hk); have HP := hid hp; clear hp hc1))
     go_region
     all_goals (go_wp2_with fail; refine bodyPost_ret (v := .tuple #[.agg #[.bool false, .int .i8 0, .int .u64 0], .iface ti vi]) (dec_result rfl _ _ w.heap.size _ _ _ _ 55 rfl rfl (store3 (HBX.out _ hk) _ _ _)) rfl ⟨false, none, .inl rfl, (chg3 (HC0.out.trans hk sb_) (by omega) _ _ _).drew, ti, vi, rfl⟩)
   ·have hs1 : ¬ (0 : Int) < (sh : Int) := by omega
    obtain rfl : C = X := by rw [← hX, show sh = 0 by omega, Nat.pow_zero, Nat.mul_one]
    obtain rfl : S = S2 := by omega
    clear hs hsh hD hD19 hX hS2 hc9
    by_cases hx : C % k = 0
    ·have hq : C / k * k = C := Nat.div_mul_cancel (Nat.dvd_of_mod_eq_zero hx)
     simp only [hx, Int.natCast_zero, if_true, decide_true] at hqu
     obtain ⟨Q, hQ⟩ : ∃ Q, C / k = Q := ⟨_, rfl⟩
     have hQ9 : Q < 10 ^ 19 := by rw [← hQ]; exact Nat.lt_of_le_of_lt (Nat.div_le_self _ _) hX9
     rw [hQ] at hqu hq
     have HQU := hid hqu
     have HF := hid (fun w he => nff_some n hQ9 hS38 w he)
     have HPQ := hid (fun sg o h => HPE.out Q sg o hq h)
     clear hqu hq hQ hQ9 hx hX9 hS38
     go_wp2_with (first | (go_at_call 113; refine (HPR.out _ (HTB.out _ hk)).mono ?_; intro e w2 h; obtain ⟨he1, he2⟩ := h; subst he1; subst he2) | (go_at_call 94; refine (HL.out _ (HTB.out _ hk)).mono ?_; intro e w2 h; obtain ⟨he1, he2⟩ := h; subst he1; subst he2) | (go_at_call 114; refine (HQU.out _).mono ?_; intro e w2 h; obtain ⟨he1, he2⟩ := h; subst he1; subst he2) | (go_at_call 97; refine (HF.out _ (HTE.out _ hk).1).mono ?_; intro e w1 h; obtain ⟨na, nb, nc, nv, he1, hc1, hp⟩ := h.op; subst he1; replace hk := hk.trans hc1 sb_; clear h; clear k0 k1 k2 r0 r1 r2; obtain ⟨k0, k1, k2, r0, r1, r2⟩ := cell3 (HBX.out _ hk); have HP := hid hp; clear hp hc1))
     exact bodyPost_ret (v := .tuple #[.agg #[.bool na, .int .i8 nb, .int .u64 nc], nv]) (dec_result rfl _ _ w.heap.size _ _ _ _ 55 rfl rfl (store3 (HBX.out _ hk) _ _ _)) rfl (PX.imp (HP.out.move (chg3 (HC0.out.trans hk sb_) (by omega) _ _ _)) HPQ.out)
    ·have hx' : ¬ ((C % k : Nat) : Int) = 0 := by omega
     simp only [hx', if_false, decide_false] at hqu
     have HQU := hid hqu
     have ov := HIX.out _ hk
     clear hqu hx hx' hX9 hS38
     go_wp2_with (first | (go_at_call 113; refine (HPR.out _ (HTB.out _ hk)).mono ?_; intro e w2 h; obtain ⟨he1, he2⟩ := h; subst he1; subst he2) | (go_at_call 94; refine (HL.out _ (HTB.out _ hk)).mono ?_; intro e w2 h; obtain ⟨he1, he2⟩ := h; subst he1; subst he2) | (go_at_call 114; refine (HQU.out _).mono ?_; intro e w2 h; obtain ⟨he1, he2⟩ := h; subst he1; subst he2) | (go_at_call 97; refine (HF.out _ (HTE.out _ hk).1).mono ?_; intro e w1 h; obtain ⟨na, nb, nc, nv, he1, hc1, hp⟩ := h.op; subst he1; replace hk := hk.trans hc1 sb_; clear h; clear k0 k1 k2 r0 r1 r2; obtain ⟨k0, k1, k2, r0, r1, r2⟩ := cell3 (HBX.out _ hk); have HP := hid hp; clear hp hc1))
     go_region
     all_goals (go_wp2_with fail; refine bodyPost_ret (v := .tuple #[.agg #[.bool false, .int .i8 0, .int .u64 0], .iface ti vi]) (dec_result rfl _ _ w.heap.size _ _ _ _ 55 rfl rfl (store3 (HBX.out _ hk) _ _ _)) rfl ⟨false, none, .inl rfl, (chg3 (HC0.out.trans hk sb_) (by omega) _ _ _).drew, ti, vi, rfl⟩)
end Go.Proofs.YtbjhnckboimliaaGreatDoor
