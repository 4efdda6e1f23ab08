/- Part 23 of the proof. -/
import Derived.Test.YtbjhnckboimliaaGreatDoorQ21
import Derived.Test.YtbjhnckboimliaaGreatDoorQ22
namespace Go.Proofs.YtbjhnckboimliaaGreatDoor
open Go.RowKit
set_option linter.unusedVariables false
set_option linter.unusedSimpArgs false
set_option maxRecDepth 20000
theorem scale_z (w : World) : Calls Tryz.prog 66 #[.agg #[.bool false, .int .i8 0, .int .u64 0]] w (fun e w' => e = .returned (.int .i64 0) ∧ Chg (fun _ => False) w w') := Scale_any false 0 0 (by omega) w
theorem neg_z (w : World) : Calls Tryz.prog 64 #[.agg #[.bool false, .int .i8 0, .int .u64 0]] w (fun e w' => e = .returned (.bool false) ∧ Chg (fun _ => False) w w') := IsNeg_any false 0 0 w
theorem lshN_ok {x s : Nat} (hx : x < 10 ^ 19) (hs : s ≤ 19) (h : x * 10 ^ s < 10 ^ 19) (w : World) (ht : Tab w) :
  Calls Tryz.prog 94 #[.int .u64 (x : Int), .int .i64 (s : Int)] w (fun e w' => e = .returned (.tuple #[.int .u64 ((x * 10 ^ s : Nat) : Int), .bool true]) ∧ w = w') := by
 have e : (x : Int) * 10 ^ s = ((x * 10 ^ s : Nat) : Int) := by rw [Int.natCast_mul, pow_cast]
 have H := fint_lsh (x : Int) s (fiN hx) hs w ht
 rw [e, if_pos (fiN_iff.2 h), decide_eq_true (fiN_iff.2 h)] at H
 exact H
theorem lshN_no {x s : Nat} (hx : x < 10 ^ 19) (hs : s ≤ 19) (h : ¬ x * 10 ^ s < 10 ^ 19) (w : World) (ht : Tab w) :
  Calls Tryz.prog 94 #[.int .u64 (x : Int), .int .i64 (s : Int)] w (fun e w' => e = .returned (.tuple #[.int .u64 0, .bool false]) ∧ w = w') := by
 have e : (x : Int) * 10 ^ s = ((x * 10 ^ s : Nat) : Int) := by rw [Int.natCast_mul, pow_cast]
 have H := fint_lsh (x : Int) s (fiN hx) hs w ht
 rw [e, if_neg (fun k => h (fiN_iff.1 k)), decide_eq_false (fun k => h (fiN_iff.1 k))] at H
 exact H
theorem addN_ok {x y : Nat} (hx : x < 10 ^ 19) (hy : y < 10 ^ 19) (h : x + y < 10 ^ 19) (w : World) :
  Calls Tryz.prog 95 #[.int .u64 (x : Int), .int .u64 (y : Int)] w (fun e w' => e = .returned (.tuple #[.int .u64 ((x + y : Nat) : Int), .bool true]) ∧ w = w') := by
 have H := fint_add (x : Int) (y : Int) (fiN hx) (fiN hy) w
 rw [← Int.natCast_add, if_pos (fiN_iff.2 h), decide_eq_true (fiN_iff.2 h)] at H
 exact H
theorem addN_no {x y : Nat} (hx : x < 10 ^ 19) (hy : y < 10 ^ 19) (h : ¬ x + y < 10 ^ 19) (w : World) :
  Calls Tryz.prog 95 #[.int .u64 (x : Int), .int .u64 (y : Int)] w (fun e w' => e = .returned (.tuple #[.int .u64 0, .bool false]) ∧ w = w') := by
 have H := fint_add (x : Int) (y : Int) (fiN hx) (fiN hy) w
 rw [← Int.natCast_add, if_neg (fun k => h (fiN_iff.1 k)), decide_eq_false (fun k => h (fiN_iff.1 k))] at H
 exact H
theorem subN_lt {x y : Nat} (hx : x < 10 ^ 19) (hy : y < 10 ^ 19) (h : x < y) (w : World) :
  Calls Tryz.prog 96 #[.int .u64 (x : Int), .int .u64 (y : Int)] w (fun e w' => e = .returned (.int .u64 ((y - x : Nat) : Int)) ∧ w = w') := by
 have H := fint_subAbs (x : Int) (y : Int) (fiN hx) (fiN hy) w
 rw [if_neg (by omega), show (y : Int) - (x : Int) = ((y - x : Nat) : Int) by omega] at H
 exact H
theorem subN_ge {x y : Nat} (hx : x < 10 ^ 19) (hy : y < 10 ^ 19) (h : ¬ x < y) (w : World) :
  Calls Tryz.prog 96 #[.int .u64 (x : Int), .int .u64 (y : Int)] w (fun e w' => e = .returned (.int .u64 ((x - y : Nat) : Int)) ∧ w = w') := by
 have H := fint_subAbs (x : Int) (y : Int) (fiN hx) (fiN hy) w
 rw [if_pos (by omega), show (x : Int) - (y : Int) = ((x - y : Nat) : Int) by omega] at H
 exact H
theorem PX.imp {P Q : Bool → Option (Nat × Nat) → Prop} {w w' : World} {e : Ending} (h : PX P w e w') (hi : ∀ sg o, P sg o → Q sg o) : PX Q w e w' := by
 obtain ⟨sg, o, h1, h2⟩ := h
 exact ⟨sg, o, hi _ _ h1, h2⟩
def SomeOf (neg : Bool) (C S : Nat) (sg : Bool) (o : Option (Nat × Nat)) : Prop := o = none ∨ (sg = neg ∧ o = from19 (10 ^ 19) 2 C S 0)
theorem nff_some (neg : Bool) {C S : Nat} (hC : C < 10 ^ 19) (hS : S ≤ 38) (w : World) (he : EnvD w) :
  Calls Tryz.prog 97 #[.bool neg, .int .u64 (C : Int), .int .i64 (S : Int), .int .i64 0] w (PX (SomeOf neg C S) w) := by
 refine (newFromFint_all neg (C : Int) S 0 (fiN hC) hS (by omega) w he).mono (fun e w' h => ?_)
 obtain ⟨hc, h | ⟨k, t, h1, h5⟩⟩ := PFE.of hC (by omega) h
 ·exact ⟨false, none, .inl rfl, hc, h⟩
 ·exact ⟨_, some (k, t), .inr ⟨rfl, h1.symm⟩, hc, h5⟩
set_option maxHeartbeats 12000000 in
theorem sumFint_any {A : Option Addr} {l : List DT} {c : Nat} (w : World) (he : EnvD w) (hx : DX w A l) (hok : ∀ f ∈ l, DTok f) (hl : l.length ≤ 40) :
  Calls Tryz.prog 77 #[.slice A l.length c] w (PX (SomeOf (sumL l).1 (sumL l).2.1 (sumL l).2.2) w) := by
 have HZ := hid (fun w => Zero_any w)
 have HS0 := hid (fun w => scale_z w)
 have HN0 := hid (fun w => neg_z w)
 have hz0 := heap_alloc_new w (.cells #[.bool false, .int .i8 0, .int .u64 0] 55)
 have HC0 := hid ((Chg.refl (fun _ => False) w).alloc (.cells #[.bool false, .int .i8 0, .int .u64 0] 55))
 have HTE := hid (fun w1 (h : Chg (fun _ => False) (w.alloc (.cells #[.bool false, .int .i8 0, .int .u64 0] 55)) w1) => (he.kept HC0.out).kept h)
 have HX := hid (fun w1 (k : Chg (fun _ => False) w w1) => hx.kept k)
 have HBX := hid (fun w1 (h : Chg (fun _ => False) (w.alloc (.cells #[.bool false, .int .i8 0, .int .u64 0] 55)) w1) => kept_heap h hz0)
 obtain ⟨tv, vv, HOV⟩ : ∃ t v, Hid (∀ w1, Chg (fun _ => False) (w.alloc (.cells #[.bool false, .int .i8 0, .int .u64 0] 55)) w1 → w1.cell? ⟨0, 0, none⟩ = some (.iface t v)) := by
  obtain ⟨t, v, h⟩ := (he.kept HC0.out).ovf
  exact ⟨t, v, hid (fun w1 hc => cell_kept h hc (fun h => h))⟩
 have hgl : 0 < w.heap.size := by
  obtain ⟨t, v, h⟩ := he.ovf
  exact World.block_lt_of_cell? w _ h
 have hne1 : ¬ w.heap.size = 0 := by omega
 have hne2 : ¬ 0 = w.heap.size := by omega
 clear hgl
 have HOK := hid hok
 obtain ⟨L, hL⟩ : ∃ L, l.length = L := ⟨_, rfl⟩
 rw [hL] at hl
 rw [hL]
 have hk := Chg.refl (fun _ => False) (w.alloc (.cells #[.bool false, .int .i8 0, .int .u64 0] 55))
 clear he hx hok hz0
 have hfc := field_coef
 go_enter Tryz.func77, Tryz.ntmps77
 go_wp2_with (first | (go_at_call 93; refine (HZ.out _).mono ?_; intro e w1 h; obtain ⟨he1, hc1⟩ := h; subst he1; replace hk := hk.trans hc1 sb_; clear hc1) | (go_at_call 66; refine (HS0.out _).mono ?_; intro e w1 h; obtain ⟨he1, hc1⟩ := h; subst he1; replace hk := hk.trans hc1 sb_; clear hc1) | (go_at_call 64; refine (HN0.out _).mono ?_; intro e w1 h; obtain ⟨he1, hc1⟩ := h; subst he1; replace hk := hk.trans hc1 sb_; clear hc1))
 go_loopw [4, 5, 6, 19] (fun c s n i wr => ∃ k : Nat, k ≤ L ∧ i = .int .i64 k ∧ c = .int .u64 (((sumL (l.take k)).2.1 : Nat) : Int) ∧ s = .int .i64 (((sumL (l.take k)).2.2 : Nat) : Int) ∧ n = .bool (sumL (l.take k)).1 ∧ Hid ((sumL (l.take k)).2.1 < 10 ^ 19) ∧ Hid (Chg (fun _ => False) (w.alloc (.cells #[.bool false, .int .i8 0, .int .u64 0] 55)) wr)) (fun _ _ _ i _ => L - (intOf i).toNat)
 case atStart => exact ⟨0, Nat.zero_le _, rfl, rfl, rfl, rfl, hid (show (0 : Nat) < 10 ^ 19 by decide), hid hk⟩
 case round =>
  obtain ⟨k, hkl, he1, he2, he3, he4, HA, HK⟩ := hrel
  subst he1 he2 he3 he4
  clear hk
  by_cases hlt : k < L
  ·obtain ⟨⟨m, d, t⟩, hf⟩ : ∃ f, l[k]? = some f := ⟨_, List.getElem?_eq_getElem (by omega)⟩
   obtain ⟨a, hA, g0, g1, g2⟩ := (HX.out _ (HC0.out.trans HK.out sb_)) k m d t hf
   subst hA
   obtain ⟨f1, f2, _⟩ := HOK.out _ (List.mem_of_getElem? hf)
   simp only at f1 f2
   obtain ⟨b1, _⟩ := sumL_ok (l := l.take k) (fun f hf => HOK.out f (List.mem_of_mem_take hf)) (by rw [List.length_take]; omega)
   have hsn : sumL (l.take (k + 1)) = stepS (sumL (l.take k)) (m, d, t) := by rw [List.take_add_one, hf]; exact sumL_snoc _ _
   have hlt' : (k : Int) < (L : Int) := by omega
   have hinc : IntKind.i64.wrap ((k : Int) + 1) = ((k + 1 : Nat) : Int) := by rw [IntWalk.i64_in _ (by omega)]; omega
   have HSF := hid (fun w => Scale_any m (d : Int) t f2 w)
   have HNF := hid (fun w => IsNeg_any m (d : Int) t w)
   have hc9 := HA.out
   generalize sumL (l.take k) = st at *
   obtain ⟨n, C, S⟩ := st
   simp only [stepS] at hsn b1 hc9
   have HB := hid (fun w1 (h : Chg (fun _ => False) (wr.alloc (.cells #[.bool m, .int .i8 t, .int .u64 (d : Int)] 55)) w1) => cell3 (kept_heap h (heap_alloc_new wr (.cells #[.bool m, .int .i8 t, .int .u64 (d : Int)] 55))))
   have HC1 := hid (HK.out.alloc (.cells #[.bool m, .int .i8 t, .int .u64 (d : Int)] 55))
   have HTB := hid (fun w1 h => (HTE.out w1 h).env.tab)
   have hk2 := Chg.refl (fun _ => False) (wr.alloc (.cells #[.bool m, .int .i8 t, .int .u64 (d : Int)] 55))
   obtain ⟨d0, d1, d2, _, _, _⟩ := HB.out _ hk2
   rcases Nat.lt_trichotomy t S with hts | hts | hts
   ·have c1 : (t : Int) < (S : Int) := by omega
    have hw1 : IntKind.i64.wrap ((S : Int) - (t : Int)) = ((S - t : Nat) : Int) := by rw [show (S : Int) - (t : Int) = ((S - t : Nat) : Int) by omega]; exact IntWalk.i64_in _ (by omega)
    by_cases hX : d * 10 ^ (S - t) < 10 ^ 19
    ·obtain ⟨A, B, hA, hB⟩ : ∃ A B, A = C ∧ B = d * 10 ^ (S - t) := ⟨_, _, rfl, rfl⟩
     have hst : sumD n C S m d t = sumS n A m B ∧ mxp S t = S := by rw [hA, hB]; unfold sumD mxp; rw [if_neg (by omega), Nat.sub_self, Nat.pow_zero, Nat.mul_one]; exact ⟨rfl, rfl⟩
     have HL := hid (fun w ht => lshN_ok f1 (show S - t ≤ 19 by omega) hX w ht)
     rw [← hB] at HL hX
     have hA1 : A < 10 ^ 19 := by rw [hA]; exact hc9
     have hB1 := hX
     subst hA
     rw [hst.1, hst.2] at hsn
     obtain ⟨R, hR⟩ : ∃ R, sumS n A m B = R := ⟨_, rfl⟩
     rw [hR] at hsn
     clear hB hX f1 hc9
     have hsg : ((n == m) = true ∧ A + B = R.2 ∧ n = R.1) ∨ ((n == m) = false ∧ A < B ∧ B - A = R.2 ∧ m = R.1) ∨ ((n == m) = false ∧ ¬ A < B ∧ A - B = R.2 ∧ n = R.1) := by
      rw [← hR]; unfold sumS
      by_cases h1 : n = m
      ·rw [if_pos h1]; exact .inl ⟨by simpa using h1, rfl, rfl⟩
      ·rw [if_neg h1]
       by_cases h2 : A < B
       ·rw [if_pos h2]; exact .inr (.inl ⟨by simpa using h1, h2, rfl, rfl⟩)
       ·rw [if_neg h2]; exact .inr (.inr ⟨by simpa using h1, h2, rfl, rfl⟩)
     clear hR hst
     obtain ⟨n', R⟩ := R
     simp only at hsg hsn
     rcases hsg with ⟨hs, hC, hn⟩ | ⟨hs, hg, hC, hn⟩ | ⟨hs, hg, hC, hn⟩
     ·subst hn
      by_cases hov : A + B < 10 ^ 19
      ·have HAD := hid (fun w => addN_ok hA1 hB1 hov w)
       rw [hC] at HAD hov
       clear hC
       go_wp2_with (first | (go_at_call 66; refine (HSF.out _).mono ?_; intro e w1 h; obtain ⟨he1, hc1⟩ := h; subst he1; replace hk2 := hk2.trans hc1 sb_; clear hc1 d0 d1 d2; obtain ⟨d0, d1, d2, _, _, _⟩ := HB.out _ hk2) | (go_at_call 64; refine (HNF.out _).mono ?_; intro e w1 h; obtain ⟨he1, hc1⟩ := h; subst he1; replace hk2 := hk2.trans hc1 sb_; clear hc1 d0 d1 d2; obtain ⟨d0, d1, d2, _, _, _⟩ := HB.out _ hk2) | (go_at_call 94; refine (HL.out _ (HTB.out _ (HC1.out.trans hk2 sb_))).mono ?_; intro e w2 h; obtain ⟨he1, he2⟩ := h; subst he1; subst he2) | (go_at_call 95; refine (HAD.out _).mono ?_; intro e w2 h; obtain ⟨he1, he2⟩ := h; subst he1; subst he2) | (go_at_call 96; refine (HSB.out _).mono ?_; intro e w2 h; obtain ⟨he1, he2⟩ := h; subst he1; subst he2))
       go_roundw
       case rel => exact ⟨k + 1, by omega, rfl, by rw [hsn], by rw [hsn], by rw [hsn], by rw [hsn]; exact hid hov, hid (HC1.out.trans hk2 sb_)⟩
       case measure => simp [intOf]; omega
      ·have HAD := hid (fun w => addN_no hA1 hB1 hov w)
       clear hC hov
       go_wp2_with (first | (go_at_call 66; refine (HSF.out _).mono ?_; intro e w1 h; obtain ⟨he1, hc1⟩ := h; subst he1; replace hk2 := hk2.trans hc1 sb_; clear hc1 d0 d1 d2; obtain ⟨d0, d1, d2, _, _, _⟩ := HB.out _ hk2) | (go_at_call 64; refine (HNF.out _).mono ?_; intro e w1 h; obtain ⟨he1, hc1⟩ := h; subst he1; replace hk2 := hk2.trans hc1 sb_; clear hc1 d0 d1 d2; obtain ⟨d0, d1, d2, _, _, _⟩ := HB.out _ hk2) | (go_at_call 94; refine (HL.out _ (HTB.out _ (HC1.out.trans hk2 sb_))).mono ?_; intro e w2 h; obtain ⟨he1, he2⟩ := h; subst he1; subst he2) | (go_at_call 95; refine (HAD.out _).mono ?_; intro e w2 h; obtain ⟨he1, he2⟩ := h; subst he1; subst he2) | (go_at_call 96; refine (HSB.out _).mono ?_; intro e w2 h; obtain ⟨he1, he2⟩ := h; subst he1; subst he2))
       have hk3 := HC1.out.trans hk2 sb_
       have ov := HOV.out _ hk3
       obtain ⟨z0, z1, z2, y0, y1, y2⟩ := cell3 (HBX.out _ hk3)
       go_region
       all_goals (go_wp2_with fail; refine bodyPost_ret (v := .tuple #[.agg #[.bool false, .int .i8 0, .int .u64 0], .iface tv vv]) (dec_result rfl _ _ w.heap.size _ _ _ _ 55 rfl rfl (store3 (HBX.out _ hk3) _ _ _)) rfl ⟨false, none, .inl rfl, (chg3 (HC0.out.trans hk3 sb_) (by omega) _ _ _).drew, tv, vv, rfl⟩)
     ·subst hn
      have hov : R < 10 ^ 19 := by omega
      have HSB := hid (fun w => subN_lt hA1 hB1 hg w)
      rw [hC] at HSB
      have hg' : (A : Int) < (B : Int) := by omega
      clear hC hg
      go_wp2_with (first | (go_at_call 66; refine (HSF.out _).mono ?_; intro e w1 h; obtain ⟨he1, hc1⟩ := h; subst he1; replace hk2 := hk2.trans hc1 sb_; clear hc1 d0 d1 d2; obtain ⟨d0, d1, d2, _, _, _⟩ := HB.out _ hk2) | (go_at_call 64; refine (HNF.out _).mono ?_; intro e w1 h; obtain ⟨he1, hc1⟩ := h; subst he1; replace hk2 := hk2.trans hc1 sb_; clear hc1 d0 d1 d2; obtain ⟨d0, d1, d2, _, _, _⟩ := HB.out _ hk2) | (go_at_call 94; refine (HL.out _ (HTB.out _ (HC1.out.trans hk2 sb_))).mono ?_; intro e w2 h; obtain ⟨he1, he2⟩ := h; subst he1; subst he2) | (go_at_call 95; refine (HAD.out _).mono ?_; intro e w2 h; obtain ⟨he1, he2⟩ := h; subst he1; subst he2) | (go_at_call 96; refine (HSB.out _).mono ?_; intro e w2 h; obtain ⟨he1, he2⟩ := h; subst he1; subst he2))
      go_roundw
      case rel => exact ⟨k + 1, by omega, rfl, by rw [hsn], by rw [hsn], by rw [hsn], by rw [hsn]; exact hid hov, hid (HC1.out.trans hk2 sb_)⟩
      case measure => simp [intOf]; omega
     ·subst hn
      have hov : R < 10 ^ 19 := by omega
      have HSB := hid (fun w => subN_ge hA1 hB1 hg w)
      rw [hC] at HSB
      have hg' : ¬ (A : Int) < (B : Int) := by omega
      clear hC hg
      go_wp2_with (first | (go_at_call 66; refine (HSF.out _).mono ?_; intro e w1 h; obtain ⟨he1, hc1⟩ := h; subst he1; replace hk2 := hk2.trans hc1 sb_; clear hc1 d0 d1 d2; obtain ⟨d0, d1, d2, _, _, _⟩ := HB.out _ hk2) | (go_at_call 64; refine (HNF.out _).mono ?_; intro e w1 h; obtain ⟨he1, hc1⟩ := h; subst he1; replace hk2 := hk2.trans hc1 sb_; clear hc1 d0 d1 d2; obtain ⟨d0, d1, d2, _, _, _⟩ := HB.out _ hk2) | (go_at_call 94; refine (HL.out _ (HTB.out _ (HC1.out.trans hk2 sb_))).mono ?_; intro e w2 h; obtain ⟨he1, he2⟩ := h; subst he1; subst he2) | (go_at_call 95; refine (HAD.out _).mono ?_; intro e w2 h; obtain ⟨he1, he2⟩ := h; subst he1; subst he2) | (go_at_call 96; refine (HSB.out _).mono ?_; intro e w2 h; obtain ⟨he1, he2⟩ := h; subst he1; subst he2))
      go_roundw
      case rel => exact ⟨k + 1, by omega, rfl, by rw [hsn], by rw [hsn], by rw [hsn], by rw [hsn]; exact hid hov, hid (HC1.out.trans hk2 sb_)⟩
      case measure => simp [intOf]; omega
    ·have HL := hid (fun w ht => lshN_no f1 (show S - t ≤ 19 by omega) hX w ht)
     clear hX f1 hc9
     go_wp2_with (first | (go_at_call 66; refine (HSF.out _).mono ?_; intro e w1 h; obtain ⟨he1, hc1⟩ := h; subst he1; replace hk2 := hk2.trans hc1 sb_; clear hc1 d0 d1 d2; obtain ⟨d0, d1, d2, _, _, _⟩ := HB.out _ hk2) | (go_at_call 64; refine (HNF.out _).mono ?_; intro e w1 h; obtain ⟨he1, hc1⟩ := h; subst he1; replace hk2 := hk2.trans hc1 sb_; clear hc1 d0 d1 d2; obtain ⟨d0, d1, d2, _, _, _⟩ := HB.out _ hk2) | (go_at_call 94; refine (HL.out _ (HTB.out _ (HC1.out.trans hk2 sb_))).mono ?_; intro e w2 h; obtain ⟨he1, he2⟩ := h; subst he1; subst he2) | (go_at_call 95; refine (HAD.out _).mono ?_; intro e w2 h; obtain ⟨he1, he2⟩ := h; subst he1; subst he2) | (go_at_call 96; refine (HSB.out _).mono ?_; intro e w2 h; obtain ⟨he1, he2⟩ := h; subst he1; subst he2))
     have hk3 := HC1.out.trans hk2 sb_
     have ov := HOV.out _ hk3
     obtain ⟨z0, z1, z2, y0, y1, y2⟩ := cell3 (HBX.out _ hk3)
     go_region
     all_goals (go_wp2_with fail; refine bodyPost_ret (v := .tuple #[.agg #[.bool false, .int .i8 0, .int .u64 0], .iface tv vv]) (dec_result rfl _ _ w.heap.size _ _ _ _ 55 rfl rfl (store3 (HBX.out _ hk3) _ _ _)) rfl ⟨false, none, .inl rfl, (chg3 (HC0.out.trans hk3 sb_) (by omega) _ _ _).drew, tv, vv, rfl⟩)
   ·obtain ⟨A, B, hA, hB⟩ : ∃ A B, A = C ∧ B = d := ⟨_, _, rfl, rfl⟩
    have hst : sumD n C S m d t = sumS n A m B ∧ mxp S t = S := by rw [hA, hB, hts]; unfold sumD mxp; rw [if_neg (by omega), Nat.sub_self, Nat.pow_zero, Nat.mul_one, Nat.mul_one]; exact ⟨rfl, rfl⟩
    have c1 : ¬ (S : Int) < (S : Int) := by omega
    have hA1 : A < 10 ^ 19 := by rw [hA]; exact hc9
    have hB1 : B < 10 ^ 19 := by rw [hB]; exact f1
    subst hts hA hB
    rw [hst.1, hst.2] at hsn
    obtain ⟨R, hR⟩ : ∃ R, sumS n A m B = R := ⟨_, rfl⟩
    rw [hR] at hsn
    clear f1 hc9
    have hsg : ((n == m) = true ∧ A + B = R.2 ∧ n = R.1) ∨ ((n == m) = false ∧ A < B ∧ B - A = R.2 ∧ m = R.1) ∨ ((n == m) = false ∧ ¬ A < B ∧ A - B = R.2 ∧ n = R.1) := by
     rw [← hR]; unfold sumS
     by_cases h1 : n = m
     ·rw [if_pos h1]; exact .inl ⟨by simpa using h1, rfl, rfl⟩
     ·rw [if_neg h1]
      by_cases h2 : A < B
      ·rw [if_pos h2]; exact .inr (.inl ⟨by simpa using h1, h2, rfl, rfl⟩)
      ·rw [if_neg h2]; exact .inr (.inr ⟨by simpa using h1, h2, rfl, rfl⟩)
    clear hR hst
    obtain ⟨n', R⟩ := R
    simp only at hsg hsn
    rcases hsg with ⟨hs, hC, hn⟩ | ⟨hs, hg, hC, hn⟩ | ⟨hs, hg, hC, hn⟩
    ·subst hn
     by_cases hov : A + B < 10 ^ 19
     ·have HAD := hid (fun w => addN_ok hA1 hB1 hov w)
      rw [hC] at HAD hov
      clear hC
      go_wp2_with (first | (go_at_call 66; refine (HSF.out _).mono ?_; intro e w1 h; obtain ⟨he1, hc1⟩ := h; subst he1; replace hk2 := hk2.trans hc1 sb_; clear hc1 d0 d1 d2; obtain ⟨d0, d1, d2, _, _, _⟩ := HB.out _ hk2) | (go_at_call 64; refine (HNF.out _).mono ?_; intro e w1 h; obtain ⟨he1, hc1⟩ := h; subst he1; replace hk2 := hk2.trans hc1 sb_; clear hc1 d0 d1 d2; obtain ⟨d0, d1, d2, _, _, _⟩ := HB.out _ hk2) | (go_at_call 94; refine (HL.out _ (HTB.out _ (HC1.out.trans hk2 sb_))).mono ?_; intro e w2 h; obtain ⟨he1, he2⟩ := h; subst he1; subst he2) | (go_at_call 95; refine (HAD.out _).mono ?_; intro e w2 h; obtain ⟨he1, he2⟩ := h; subst he1; subst he2) | (go_at_call 96; refine (HSB.out _).mono ?_; intro e w2 h; obtain ⟨he1, he2⟩ := h; subst he1; subst he2))
      go_roundw
      case rel => exact ⟨k + 1, by omega, rfl, by rw [hsn], by rw [hsn], by rw [hsn], by rw [hsn]; exact hid hov, hid (HC1.out.trans hk2 sb_)⟩
      case measure => simp [intOf]; omega
     ·have HAD := hid (fun w => addN_no hA1 hB1 hov w)
      clear hC hov
      go_wp2_with (first | (go_at_call 66; refine (HSF.out _).mono ?_; intro e w1 h; obtain ⟨he1, hc1⟩ := h; subst he1; replace hk2 := hk2.trans hc1 sb_; clear hc1 d0 d1 d2; obtain ⟨d0, d1, d2, _, _, _⟩ := HB.out _ hk2) | (go_at_call 64; refine (HNF.out _).mono ?_; intro e w1 h; obtain ⟨he1, hc1⟩ := h; subst he1; replace hk2 := hk2.trans hc1 sb_; clear hc1 d0 d1 d2; obtain ⟨d0, d1, d2, _, _, _⟩ := HB.out _ hk2) | (go_at_call 94; refine (HL.out _ (HTB.out _ (HC1.out.trans hk2 sb_))).mono ?_; intro e w2 h; obtain ⟨he1, he2⟩ := h; subst he1; subst he2) | (go_at_call 95; refine (HAD.out _).mono ?_; intro e w2 h; obtain ⟨he1, he2⟩ := h; subst he1; subst he2) | (go_at_call 96; refine (HSB.out _).mono ?_; intro e w2 h; obtain ⟨he1, he2⟩ := h; subst he1; subst he2))
      have hk3 := HC1.out.trans hk2 sb_
      have ov := HOV.out _ hk3
      obtain ⟨z0, z1, z2, y0, y1, y2⟩ := cell3 (HBX.out _ hk3)
      go_region
      all_goals (go_wp2_with fail; refine bodyPost_ret (v := .tuple #[.agg #[.bool false, .int .i8 0, .int .u64 0], .iface tv vv]) (dec_result rfl _ _ w.heap.size _ _ _ _ 55 rfl rfl (store3 (HBX.out _ hk3) _ _ _)) rfl ⟨false, none, .inl rfl, (chg3 (HC0.out.trans hk3 sb_) (by omega) _ _ _).drew, tv, vv, rfl⟩)
    ·subst hn
     have hov : R < 10 ^ 19 := by omega
     have HSB := hid (fun w => subN_lt hA1 hB1 hg w)
     rw [hC] at HSB
     have hg' : (A : Int) < (B : Int) := by omega
     clear hC hg
     go_wp2_with (first | (go_at_call 66; refine (HSF.out _).mono ?_; intro e w1 h; obtain ⟨he1, hc1⟩ := h; subst he1; replace hk2 := hk2.trans hc1 sb_; clear hc1 d0 d1 d2; obtain ⟨d0, d1, d2, _, _, _⟩ := HB.out _ hk2) | (go_at_call 64; refine (HNF.out _).mono ?_; intro e w1 h; obtain ⟨he1, hc1⟩ := h; subst he1; replace hk2 := hk2.trans hc1 sb_; clear hc1 d0 d1 d2; obtain ⟨d0, d1, d2, _, _, _⟩ := HB.out _ hk2) | (go_at_call 94; refine (HL.out _ (HTB.out _ (HC1.out.trans hk2 sb_))).mono ?_; intro e w2 h; obtain ⟨he1, he2⟩ := h; subst he1; subst he2) | (go_at_call 95; refine (HAD.out _).mono ?_; intro e w2 h; obtain ⟨he1, he2⟩ := h; subst he1; subst he2) | (go_at_call 96; refine (HSB.out _).mono ?_; intro e w2 h; obtain ⟨he1, he2⟩ := h; subst he1; subst he2))
     go_roundw
     case rel => exact ⟨k + 1, by omega, rfl, by rw [hsn], by rw [hsn], by rw [hsn], by rw [hsn]; exact hid hov, hid (HC1.out.trans hk2 sb_)⟩
     case measure => simp [intOf]; omega
    ·subst hn
     have hov : R < 10 ^ 19 := by omega
     have HSB := hid (fun w => subN_ge hA1 hB1 hg w)
     rw [hC] at HSB
     have hg' : ¬ (A : Int) < (B : Int) := by omega
     clear hC hg
     go_wp2_with (first | (go_at_call 66; refine (HSF.out _).mono ?_; intro e w1 h; obtain ⟨he1, hc1⟩ := h; subst he1; replace hk2 := hk2.trans hc1 sb_; clear hc1 d0 d1 d2; obtain ⟨d0, d1, d2, _, _, _⟩ := HB.out _ hk2) | (go_at_call 64; refine (HNF.out _).mono ?_; intro e w1 h; obtain ⟨he1, hc1⟩ := h; subst he1; replace hk2 := hk2.trans hc1 sb_; clear hc1 d0 d1 d2; obtain ⟨d0, d1, d2, _, _, _⟩ := HB.out _ hk2) | (go_at_call 94; refine (HL.out _ (HTB.out _ (HC1.out.trans hk2 sb_))).mono ?_; intro e w2 h; obtain ⟨he1, he2⟩ := h; subst he1; subst he2) | (go_at_call 95; refine (HAD.out _).mono ?_; intro e w2 h; obtain ⟨he1, he2⟩ := h; subst he1; subst he2) | (go_at_call 96; refine (HSB.out _).mono ?_; intro e w2 h; obtain ⟨he1, he2⟩ := h; subst he1; subst he2))
     go_roundw
     case rel => exact ⟨k + 1, by omega, rfl, by rw [hsn], by rw [hsn], by rw [hsn], by rw [hsn]; exact hid hov, hid (HC1.out.trans hk2 sb_)⟩
     case measure => simp [intOf]; omega
   ·have c1 : (S : Int) < (t : Int) := by omega
    have c2 : ¬ (t : Int) < (S : Int) := by omega
    have hw1 : IntKind.i64.wrap ((t : Int) - (S : Int)) = ((t - S : Nat) : Int) := by rw [show (t : Int) - (S : Int) = ((t - S : Nat) : Int) by omega]; exact IntWalk.i64_in _ (by omega)
    by_cases hX : C * 10 ^ (t - S) < 10 ^ 19
    ·obtain ⟨A, B, hA, hB⟩ : ∃ A B, A = C * 10 ^ (t - S) ∧ B = d := ⟨_, _, rfl, rfl⟩
     have hst : sumD n C S m d t = sumS n A m B ∧ mxp S t = t := by rw [hA, hB]; unfold sumD mxp; rw [if_pos hts, Nat.sub_self, Nat.pow_zero, Nat.mul_one]; exact ⟨rfl, rfl⟩
     have HL := hid (fun w ht => lshN_ok hc9 (show t - S ≤ 19 by omega) hX w ht)
     rw [← hA] at HL hX
     have hA1 := hX
     have hB1 : B < 10 ^ 19 := by rw [hB]; exact f1
     subst hB
     rw [hst.1, hst.2] at hsn
     obtain ⟨R, hR⟩ : ∃ R, sumS n A m B = R := ⟨_, rfl⟩
     rw [hR] at hsn
     clear hA hX f1 hc9
     have hsg : ((n == m) = true ∧ A + B = R.2 ∧ n = R.1) ∨ ((n == m) = false ∧ A < B ∧ B - A = R.2 ∧ m = R.1) ∨ ((n == m) = false ∧ ¬ A < B ∧ A - B = R.2 ∧ n = R.1) := by
      rw [← hR]; unfold sumS
      by_cases h1 : n = m
      ·rw [if_pos h1]; exact .inl ⟨by simpa using h1, rfl, rfl⟩
      ·rw [if_neg h1]
       by_cases h2 : A < B
       ·rw [if_pos h2]; exact .inr (.inl ⟨by simpa using h1, h2, rfl, rfl⟩)
       ·rw [if_neg h2]; exact .inr (.inr ⟨by simpa using h1, h2, rfl, rfl⟩)
     clear hR hst
     obtain ⟨n', R⟩ := R
     simp only at hsg hsn
     rcases hsg with ⟨hs, hC, hn⟩ | ⟨hs, hg, hC, hn⟩ | ⟨hs, hg, hC, hn⟩
     ·subst hn
      by_cases hov : A + B < 10 ^ 19
      ·have HAD := hid (fun w => addN_ok hA1 hB1 hov w)
       rw [hC] at HAD hov
       clear hC
       go_wp2_with (first | (go_at_call 66; refine (HSF.out _).mono ?_; intro e w1 h; obtain ⟨he1, hc1⟩ := h; subst he1; replace hk2 := hk2.trans hc1 sb_; clear hc1 d0 d1 d2; obtain ⟨d0, d1, d2, _, _, _⟩ := HB.out _ hk2) | (go_at_call 64; refine (HNF.out _).mono ?_; intro e w1 h; obtain ⟨he1, hc1⟩ := h; subst he1; replace hk2 := hk2.trans hc1 sb_; clear hc1 d0 d1 d2; obtain ⟨d0, d1, d2, _, _, _⟩ := HB.out _ hk2) | (go_at_call 94; refine (HL.out _ (HTB.out _ (HC1.out.trans hk2 sb_))).mono ?_; intro e w2 h; obtain ⟨he1, he2⟩ := h; subst he1; subst he2) | (go_at_call 95; refine (HAD.out _).mono ?_; intro e w2 h; obtain ⟨he1, he2⟩ := h; subst he1; subst he2) | (go_at_call 96; refine (HSB.out _).mono ?_; intro e w2 h; obtain ⟨he1, he2⟩ := h; subst he1; subst he2))
       go_roundw
       case rel => exact ⟨k + 1, by omega, rfl, by rw [hsn], by rw [hsn], by rw [hsn], by rw [hsn]; exact hid hov, hid (HC1.out.trans hk2 sb_)⟩
       case measure => simp [intOf]; omega
      ·have HAD := hid (fun w => addN_no hA1 hB1 hov w)
       clear hC hov
       go_wp2_with (first | (go_at_call 66; refine (HSF.out _).mono ?_; intro e w1 h; obtain ⟨he1, hc1⟩ := h; subst he1; replace hk2 := hk2.trans hc1 sb_; clear hc1 d0 d1 d2; obtain ⟨d0, d1, d2, _, _, _⟩ := HB.out _ hk2) | (go_at_call 64; refine (HNF.out _).mono ?_; intro e w1 h; obtain ⟨he1, hc1⟩ := h; subst he1; replace hk2 := hk2.trans hc1 sb_; clear hc1 d0 d1 d2; obtain ⟨d0, d1, d2, _, _, _⟩ := HB.out _ hk2) | (go_at_call 94; refine (HL.out _ (HTB.out _ (HC1.out.trans hk2 sb_))).mono ?_; intro e w2 h; obtain ⟨he1, he2⟩ := h; subst he1; subst he2) | (go_at_call 95; refine (HAD.out _).mono ?_; intro e w2 h; obtain ⟨he1, he2⟩ := h; subst he1; subst he2) | (go_at_call 96; refine (HSB.out _).mono ?_; intro e w2 h; obtain ⟨he1, he2⟩ := h; subst he1; subst he2))
       have hk3 := HC1.out.trans hk2 sb_
       have ov := HOV.out _ hk3
       obtain ⟨z0, z1, z2, y0, y1, y2⟩ := cell3 (HBX.out _ hk3)
       go_region
       all_goals (go_wp2_with fail; refine bodyPost_ret (v := .tuple #[.agg #[.bool false, .int .i8 0, .int .u64 0], .iface tv vv]) (dec_result rfl _ _ w.heap.size _ _ _ _ 55 rfl rfl (store3 (HBX.out _ hk3) _ _ _)) rfl ⟨false, none, .inl rfl, (chg3 (HC0.out.trans hk3 sb_) (by omega) _ _ _).drew, tv, vv, rfl⟩)
     ·subst hn
      have hov : R < 10 ^ 19 := by omega
      have HSB := hid (fun w => subN_lt hA1 hB1 hg w)
      rw [hC] at HSB
      have hg' : (A : Int) < (B : Int) := by omega
      clear hC hg
      go_wp2_with (first | (go_at_call 66; refine (HSF.out _).mono ?_; intro e w1 h; obtain ⟨he1, hc1⟩ := h; subst he1; replace hk2 := hk2.trans hc1 sb_; clear hc1 d0 d1 d2; obtain ⟨d0, d1, d2, _, _, _⟩ := HB.out _ hk2) | (go_at_call 64; refine (HNF.out _).mono ?_; intro e w1 h; obtain ⟨he1, hc1⟩ := h; subst he1; replace hk2 := hk2.trans hc1 sb_; clear hc1 d0 d1 d2; obtain ⟨d0, d1, d2, _, _, _⟩ := HB.out _ hk2) | (go_at_call 94; refine (HL.out _ (HTB.out _ (HC1.out.trans hk2 sb_))).mono ?_; intro e w2 h; obtain ⟨he1, he2⟩ := h; subst he1; subst he2) | (go_at_call 95; refine (HAD.out _).mono ?_; intro e w2 h; obtain ⟨he1, he2⟩ := h; subst he1; subst he2) | (go_at_call 96; refine (HSB.out _).mono ?_; intro e w2 h; obtain ⟨he1, he2⟩ := h; subst he1; subst he2))
      go_roundw
      case rel => exact ⟨k + 1, by omega, rfl, by rw [hsn], by rw [hsn], by rw [hsn], by rw [hsn]; exact hid hov, hid (HC1.out.trans hk2 sb_)⟩
      case measure => simp [intOf]; omega
     ·subst hn
      have hov : R < 10 ^ 19 := by omega
      have HSB := hid (fun w => subN_ge hA1 hB1 hg w)
      rw [hC] at HSB
      have hg' : ¬ (A : Int) < (B : Int) := by omega
      clear hC hg
      go_wp2_with (first | (go_at_call 66; refine (HSF.out _).mono ?_; intro e w1 h; obtain ⟨he1, hc1⟩ := h; subst he1; replace hk2 := hk2.trans hc1 sb_; clear hc1 d0 d1 d2; obtain ⟨d0, d1, d2, _, _, _⟩ := HB.out _ hk2) | (go_at_call 64; refine (HNF.out _).mono ?_; intro e w1 h; obtain ⟨he1, hc1⟩ := h; subst he1; replace hk2 := hk2.trans hc1 sb_; clear hc1 d0 d1 d2; obtain ⟨d0, d1, d2, _, _, _⟩ := HB.out _ hk2) | (go_at_call 94; refine (HL.out _ (HTB.out _ (HC1.out.trans hk2 sb_))).mono ?_; intro e w2 h; obtain ⟨he1, he2⟩ := h; subst he1; subst he2) | (go_at_call 95; refine (HAD.out _).mono ?_; intro e w2 h; obtain ⟨he1, he2⟩ := h; subst he1; subst he2) | (go_at_call 96; refine (HSB.out _).mono ?_; intro e w2 h; obtain ⟨he1, he2⟩ := h; subst he1; subst he2))
      go_roundw
      case rel => exact ⟨k + 1, by omega, rfl, by rw [hsn], by rw [hsn], by rw [hsn], by rw [hsn]; exact hid hov, hid (HC1.out.trans hk2 sb_)⟩
      case measure => simp [intOf]; omega
    ·have HL := hid (fun w ht => lshN_no hc9 (show t - S ≤ 19 by omega) hX w ht)
     clear hX f1 hc9
     go_wp2_with (first | (go_at_call 66; refine (HSF.out _).mono ?_; intro e w1 h; obtain ⟨he1, hc1⟩ := h; subst he1; replace hk2 := hk2.trans hc1 sb_; clear hc1 d0 d1 d2; obtain ⟨d0, d1, d2, _, _, _⟩ := HB.out _ hk2) | (go_at_call 64; refine (HNF.out _).mono ?_; intro e w1 h; obtain ⟨he1, hc1⟩ := h; subst he1; replace hk2 := hk2.trans hc1 sb_; clear hc1 d0 d1 d2; obtain ⟨d0, d1, d2, _, _, _⟩ := HB.out _ hk2) | (go_at_call 94; refine (HL.out _ (HTB.out _ (HC1.out.trans hk2 sb_))).mono ?_; intro e w2 h; obtain ⟨he1, he2⟩ := h; subst he1; subst he2) | (go_at_call 95; refine (HAD.out _).mono ?_; intro e w2 h; obtain ⟨he1, he2⟩ := h; subst he1; subst he2) | (go_at_call 96; refine (HSB.out _).mono ?_; intro e w2 h; obtain ⟨he1, he2⟩ := h; subst he1; subst he2))
     have hk3 := HC1.out.trans hk2 sb_
     have ov := HOV.out _ hk3
     obtain ⟨z0, z1, z2, y0, y1, y2⟩ := cell3 (HBX.out _ hk3)
     go_region
     all_goals (go_wp2_with fail; refine bodyPost_ret (v := .tuple #[.agg #[.bool false, .int .i8 0, .int .u64 0], .iface tv vv]) (dec_result rfl _ _ w.heap.size _ _ _ _ 55 rfl rfl (store3 (HBX.out _ hk3) _ _ _)) rfl ⟨false, none, .inl rfl, (chg3 (HC0.out.trans hk3 sb_) (by omega) _ _ _).drew, tv, vv, rfl⟩)
  ·obtain rfl : k = L := by omega
   have hst : sumL (l.take k) = sumL l := by rw [List.take_of_length_le (by omega)]
   obtain ⟨b1, _⟩ := sumL_ok (fun f hf => HOK.out f hf) (by omega)
   have hge : ¬ (k : Int) < (k : Int) := by omega
   have hc9 := HA.out
   rw [hst] at hc9
   have HF := hid (fun w he => nff_some (sumL l).1 hc9 (Nat.le_trans b1 (by omega)) w he)
   rw [← hst] at HF
   have HPE := hid (fun sg o (h : SomeOf (sumL (l.take k)).1 (sumL (l.take k)).2.1 (sumL (l.take k)).2.2 sg o) => hst ▸ h)
   generalize sumL (l.take k) = st at *
   obtain ⟨n, C, S⟩ := st
   simp only at HF HPE
   have hk := HK.out
   obtain ⟨k0, k1, k2, r0, r1, r2⟩ := cell3 (HBX.out _ hk)
   clear hc9 b1
   go_wp2_with (go_at_call 97; refine (HF.out _ (HTE.out _ hk)).mono ?_; intro e w1 h; obtain ⟨na, nb, nc, nv, he1, hc1, hp⟩ := h.op; subst he1; replace hk := hk.trans hc1 sb_; clear h; clear k0 k1 k2 r0 r1 r2; obtain ⟨k0, k1, k2, r0, r1, r2⟩ := cell3 (HBX.out _ hk); have HP := hid hp; clear hp hc1)
   exact bodyPost_ret (v := .tuple #[.agg #[.bool na, .int .i8 nb, .int .u64 nc], nv]) (dec_result rfl _ _ w.heap.size _ _ _ _ 55 rfl rfl (store3 (HBX.out _ hk) _ _ _)) rfl (PX.imp (HP.out.move (chg3 (HC0.out.trans hk sb_) (by omega) _ _ _)) HPE.out)
set_option maxHeartbeats 12000000 in
theorem sumBint_any {A : Option Addr} {l : List DT} {c : Nat} (w : World) (he : EnvD w) (hx : DX w A l) (hok : ∀ f ∈ l, DTok f) (hl : l.length ≤ 40) :
  Calls Tryz.prog 78 #[.slice A l.length c] w (PDecN w (sumL l).1 (from19 (10 ^ 19) 2 (sumL l).2.1 (sumL l).2.2 0)) := by
 have HZ := hid (fun w => Zero_any w)
 have HS0 := hid (fun w => scale_z w)
 have HN0 := hid (fun w => neg_z w)
 have HW0 := hid (show Wd 0 from ⟨by omega, by omega⟩)
 have hz0 := heap_alloc_new w (.cells #[.bool false, .int .i8 0, .int .u64 0] 55)
 have HC0 := hid ((Chg.refl (fun _ => False) w).alloc (.cells #[.bool false, .int .i8 0, .int .u64 0] 55))
 have HE0 := hid (he.kept HC0.out)
 have HX := hid (fun w1 (k : Chg (fun _ => False) w w1) => hx.kept k)
 have HBX := hid (fun w1 (h : Chg (fun _ => False) (w.alloc (.cells #[.bool false, .int .i8 0, .int .u64 0] 55)) w1) => kept_heap h hz0)
 have HOK := hid hok
 obtain ⟨L, hL⟩ : ∃ L, l.length = L := ⟨_, rfl⟩
 rw [hL] at hl
 rw [hL]
 clear he hx hok hz0
 have hfc := field_coef
 go_enter_defers Tryz.func78, Tryz.ntmps78
 go_wp2_with (first | (go_at_call 98; refine (getBint_any _).mono ?_; intro e w1 h; obtain ⟨q, he1, hi2, hs2, hc2⟩ := h; subst he1; have HT := hid (Two.start HIP.out hsp hcp hi2 hs2 hc2 HE0.out); clear hi2 hs2 hc2) | (go_at_call 98; refine (getBint_any _).mono ?_; intro e w1 h; obtain ⟨p, he1, hip, hsp, hcp⟩ := h; subst he1; have HIP := hid hip; clear hip) | (go_at_call 93; refine (HZ.out _).mono ?_; intro e w1 h; obtain ⟨he1, hc1⟩ := h; subst he1; have HT := hid (HT.out.same hc1); clear hc1) | (go_at_call 100; refine (two_setFint HT.out HW0.out).mono ?_; intro e w1 h; obtain ⟨he1, h⟩ := h; subst he1; have HT := hid h; clear h) | (go_at_call 66; refine (HS0.out _).mono ?_; intro e w1 h; obtain ⟨he1, hc1⟩ := h; subst he1; have HT := hid (HT.out.same hc1); clear hc1) | (go_at_call 64; refine (HN0.out _).mono ?_; intro e w1 h; obtain ⟨he1, hc1⟩ := h; subst he1; have HT := hid (HT.out.same hc1); clear hc1))
 go_loopw [6, 7, 24] (fun s n i wr => ∃ (k : Nat) (y : Int), k ≤ L ∧ i = .int .i64 k ∧ s = .int .i64 (((sumL (l.take k)).2.2 : Nat) : Int) ∧ n = .bool (sumL (l.take k)).1 ∧ Hid (TwK (w.alloc (.cells #[.bool false, .int .i8 0, .int .u64 0] 55)) wr p q (((sumL (l.take k)).2.1 : Nat) : Int) y w (fun _ => False))) (fun _ _ i _ => L - (intOf i).toNat)
 case atStart => exact ⟨0, 0, Nat.zero_le _, rfl, rfl, rfl, hid (HT.out.twk w)⟩
 case round =>
  obtain ⟨k, y, hk, he1, he2, he3, HT0⟩ := hrel
  subst he1 he2 he3
  by_cases hlt : k < L
  ·obtain ⟨⟨m, d, t⟩, hf⟩ : ∃ f, l[k]? = some f := ⟨_, List.getElem?_eq_getElem (by omega)⟩
   obtain ⟨a, hA, g0, g1, g2⟩ := (HX.out _ (HC0.out.trans HT0.out.chg sb_)) k m d t hf
   subst hA
   obtain ⟨f1, f2, _⟩ := HOK.out _ (List.mem_of_getElem? hf)
   simp only at f1 f2
   obtain ⟨b1, b2⟩ := sumL_ok (l := l.take k) (fun f hf => HOK.out f (List.mem_of_mem_take hf)) (by rw [List.length_take]; omega)
   have hsn : sumL (l.take (k + 1)) = stepS (sumL (l.take k)) (m, d, t) := by rw [List.take_add_one, hf]; exact sumL_snoc _ _
   have hlt' : (k : Int) < (L : Int) := by omega
   have hinc : IntKind.i64.wrap ((k : Int) + 1) = ((k + 1 : Nat) : Int) := by rw [IntWalk.i64_in _ (by omega)]; omega
   have HWD := hid (fiN f1).wd
   have hd := digs_le.2 f1
   have HSF := hid (fun w => Scale_any m (d : Int) t f2 w)
   have HNF := hid (fun w => IsNeg_any m (d : Int) t w)
   generalize sumL (l.take k) = st at *
   obtain ⟨n, C, S⟩ := st
   simp only [stepS] at hsn b1 b2
   have hcd : digs C ≤ 40 := digs_le.2 b2
   obtain ⟨wk, hwk⟩ : ∃ wk, wr.alloc (.cells #[.bool m, .int .i8 t, .int .u64 (d : Int)] 55) = wk := ⟨_, rfl⟩
   have HF3 := hid (fun w2 x y (h : TwK (w.alloc (.cells #[.bool false, .int .i8 0, .int .u64 0] 55)) w2 p q x y wk (fun b => (fun _ => False) b ∨ b = wr.heap.size)) => (show w2.cell? ⟨wr.heap.size, 0, none⟩ = some (.bool m) ∧ w2.cell? ⟨wr.heap.size, 1, none⟩ = some (.int .i8 t) ∧ w2.cell? ⟨wr.heap.size, 2, none⟩ = some (.int .u64 (d : Int)) from by rw [← hwk] at h; exact h.f3))
   have HUN := hid (fun w2 x y (h : TwK (w.alloc (.cells #[.bool false, .int .i8 0, .int .u64 0] 55)) w2 p q x y wk (fun b => (fun _ => False) b ∨ b = wr.heap.size)) => (show TwK (w.alloc (.cells #[.bool false, .int .i8 0, .int .u64 0] 55)) w2 p q x y w (fun _ => False) from by rw [← hwk] at h; exact h.unbox (fun _ h => h.elim)))
   have HT := hid (show TwK (w.alloc (.cells #[.bool false, .int .i8 0, .int .u64 0] 55)) (wr.alloc (.cells #[.bool m, .int .i8 t, .int .u64 (d : Int)] 55)) p q (C : Int) y wk (fun b => (fun _ => False) b ∨ b = wr.heap.size) from by rw [← hwk]; exact HT0.out.box (.cells #[.bool m, .int .i8 t, .int .u64 (d : Int)] 55))
   obtain ⟨d0, d1, d2⟩ := HF3.out _ _ _ HT.out
   clear hwk HT0
   clear f1 b2
   rcases Nat.lt_trichotomy t S with hts | hts | hts
   case' inl =>
    obtain ⟨A, B, S', hA, hB, hS⟩ : ∃ A B S', A = C ∧ B = d * 10 ^ (S - t) ∧ S' = S := ⟨_, _, _, rfl, rfl, rfl⟩
    have hst : sumD n C S m d t = sumS n A m B ∧ mxp S t = S' := by rw [hA, hB, hS]; unfold sumD mxp; rw [if_neg (by omega), Nat.sub_self, Nat.pow_zero, Nat.mul_one]; exact ⟨rfl, rfl⟩
    have hbA : digs A ≤ 59 := by rw [hA]; omega
    have hbB : digs B ≤ 59 := by rw [hB]; exact Nat.le_trans (digs_mul hd) (by omega)
    have c1 : (t : Int) < (S : Int) := by omega
    have hw1 : IntKind.i64.wrap ((S : Int) - (t : Int)) = ((S - t : Nat) : Int) := by rw [show (S : Int) - (t : Int) = ((S - t : Nat) : Int) by omega]; exact IntWalk.i64_in _ (by omega)
    have HL := hid (fun w2 x (h : TwK (w.alloc (.cells #[.bool false, .int .i8 0, .int .u64 0] 55)) w2 p q x (d : Int) wk (fun b => (fun _ => False) b ∨ b = wr.heap.size)) => tk_lsh' (k := S - t) h (Nat.le_trans hd (by omega)) (by omega))
    rw [← hB] at HL
    subst hA hS
   case' inr.inl =>
    obtain ⟨A, B, S', hA, hB, hS⟩ : ∃ A B S', A = C ∧ B = d ∧ S' = S := ⟨_, _, _, rfl, rfl, rfl⟩
    have hst : sumD n C S m d t = sumS n A m B ∧ mxp S t = S' := by rw [hA, hB, hS, hts]; unfold sumD mxp; rw [if_neg (by omega), Nat.sub_self, Nat.pow_zero, Nat.mul_one, Nat.mul_one]; exact ⟨rfl, rfl⟩
    have hbA : digs A ≤ 59 := by rw [hA]; omega
    have hbB : digs B ≤ 59 := by rw [hB]; omega
    have c1 : ¬ (S : Int) < (S : Int) := by omega
    subst hts hA hB hS
   case' inr.inr =>
    obtain ⟨A, B, S', hA, hB, hS⟩ : ∃ A B S', A = C * 10 ^ (t - S) ∧ B = d ∧ S' = t := ⟨_, _, _, rfl, rfl, rfl⟩
    have hst : sumD n C S m d t = sumS n A m B ∧ mxp S t = S' := by rw [hA, hB, hS]; unfold sumD mxp; rw [if_pos hts, Nat.sub_self, Nat.pow_zero, Nat.mul_one]; exact ⟨rfl, rfl⟩
    have hbA : digs A ≤ 59 := by rw [hA]; exact Nat.le_trans (digs_mul hcd) (by omega)
    have hbB : digs B ≤ 59 := by rw [hB]; omega
    have c1 : (S : Int) < (t : Int) := by omega
    have c2 : ¬ (t : Int) < (S : Int) := by omega
    have hw1 : IntKind.i64.wrap ((t : Int) - (S : Int)) = ((t - S : Nat) : Int) := by rw [show (t : Int) - (S : Int) = ((t - S : Nat) : Int) by omega]; exact IntWalk.i64_in _ (by omega)
    have HL := hid (fun w2 y (h : TwK (w.alloc (.cells #[.bool false, .int .i8 0, .int .u64 0] 55)) w2 p q (C : Int) y wk (fun b => (fun _ => False) b ∨ b = wr.heap.size)) => tk_lsh (k := t - S) h (Nat.le_trans hcd (by omega)) (by omega))
    rw [← hA] at HL
    subst hB hS
   all_goals (
    rw [hst.1, hst.2] at hsn
    clear hst
    obtain ⟨R, hR⟩ : ∃ R, sumS n A m B = R := ⟨_, rfl⟩
    rw [hR] at hsn
    have hsg : ((n == m) = true ∧ A + B = R.2 ∧ n = R.1) ∨ ((n == m) = false ∧ A < B ∧ B - A = R.2 ∧ m = R.1) ∨ ((n == m) = false ∧ ¬ A < B ∧ A - B = R.2 ∧ n = R.1) := by
     rw [← hR]; unfold sumS
     by_cases h1 : n = m
     ·rw [if_pos h1]; exact .inl ⟨by simpa using h1, rfl, rfl⟩
     ·rw [if_neg h1]
      by_cases h2 : A < B
      ·rw [if_pos h2]; exact .inr (.inl ⟨by simpa using h1, h2, rfl, rfl⟩)
      ·rw [if_neg h2]; exact .inr (.inr ⟨by simpa using h1, h2, rfl, rfl⟩)
    clear hR
    obtain ⟨n', R⟩ := R
    simp only at hsg hsn
    rcases hsg with ⟨hs, hC, hn⟩ | ⟨hs, hg, hC, hn⟩ | ⟨hs, hg, hC, hn⟩
    have HAD := hid (fun w2 (h : TwK (w.alloc (.cells #[.bool false, .int .i8 0, .int .u64 0] 55)) w2 p q (A : Int) (B : Int) wk (fun b => (fun _ => False) b ∨ b = wr.heap.size)) => tk_add h (Nat.le_trans hbA (by omega)) (Nat.le_trans hbB (by omega)))
    rw [hC] at HAD
    rotate_left
    have hcc : (if A < B then B - A else A - B) = R := by rw [if_pos hg]; exact hC
    have HSB := hid (fun w2 (h : TwK (w.alloc (.cells #[.bool false, .int .i8 0, .int .u64 0] 55)) w2 p q (A : Int) (B : Int) wk (fun b => (fun _ => False) b ∨ b = wr.heap.size)) => tk_subAbs h (Nat.le_trans hbA (by omega)) (Nat.le_trans hbB (by omega)) hcc)
    obtain ⟨kk, hkk⟩ : ∃ kk : Int, kk = 1 := ⟨_, rfl⟩
    have hcm : cmpI (B : Int) (A : Int) = kk := by rw [hkk]; unfold cmpI; rw [if_neg (by omega), if_pos (by omega)]
    have hkp : (0 : Int) < kk := by omega
    have HCM := hid (fun w2 (h : TwK (w.alloc (.cells #[.bool false, .int .i8 0, .int .u64 0] 55)) w2 p q (A : Int) (B : Int) wk (fun b => (fun _ => False) b ∨ b = wr.heap.size)) => tk_cmp h hcm)
    clear hcc hcm hg hkk
    rotate_left
    have hcc : (if A < B then B - A else A - B) = R := by rw [if_neg hg]; exact hC
    have HSB := hid (fun w2 (h : TwK (w.alloc (.cells #[.bool false, .int .i8 0, .int .u64 0] 55)) w2 p q (A : Int) (B : Int) wk (fun b => (fun _ => False) b ∨ b = wr.heap.size)) => tk_subAbs h (Nat.le_trans hbA (by omega)) (Nat.le_trans hbB (by omega)) hcc)
    obtain ⟨kk, hcm⟩ : ∃ kk : Int, cmpI (B : Int) (A : Int) = kk := ⟨_, rfl⟩
    have hkp : ¬ (0 : Int) < kk := by rw [← hcm]; unfold cmpI; split <;> (try split) <;> omega
    have HCM := hid (fun w2 (h : TwK (w.alloc (.cells #[.bool false, .int .i8 0, .int .u64 0] 55)) w2 p q (A : Int) (B : Int) wk (fun b => (fun _ => False) b ∨ b = wr.heap.size)) => tk_cmp h hcm)
    clear hcc hcm hg
    rotate_left
    all_goals (
     subst hn
     clear hC hbA hbB hd hcd
     go_wp2_with (first | (go_at_call 100; refine (tk_setFint' HT.out HWD.out).mono ?_; intro e w1 h; obtain ⟨he1, h⟩ := h; subst he1; have HT := hid h; clear h; clear d0 d1 d2; obtain ⟨d0, d1, d2⟩ := HF3.out _ _ _ HT.out) | (go_at_call 66; refine (HSF.out _).mono ?_; intro e w1 h; obtain ⟨he1, hc1⟩ := h; subst he1; have HT := hid (HT.out.same hc1); clear hc1; clear d0 d1 d2; obtain ⟨d0, d1, d2⟩ := HF3.out _ _ _ HT.out) | (go_at_call 64; refine (HNF.out _).mono ?_; intro e w1 h; obtain ⟨he1, hc1⟩ := h; subst he1; have HT := hid (HT.out.same hc1); clear hc1; clear d0 d1 d2; obtain ⟨d0, d1, d2⟩ := HF3.out _ _ _ HT.out) | (go_at_call 101; refine (HL.out _ _ HT.out).mono ?_; intro e w1 h; obtain ⟨he1, h⟩ := h; subst he1; have HT := hid h; clear h; clear d0 d1 d2; obtain ⟨d0, d1, d2⟩ := HF3.out _ _ _ HT.out) | (go_at_call 102; refine (HAD.out _ HT.out).mono ?_; intro e w1 h; obtain ⟨he1, h⟩ := h; subst he1; have HT := hid h; clear h; clear d0 d1 d2; obtain ⟨d0, d1, d2⟩ := HF3.out _ _ _ HT.out) | (go_at_call 103; refine (HCM.out _ HT.out).mono ?_; intro e w1 h; obtain ⟨he1, h⟩ := h; subst he1; have HT := hid h; clear h; clear d0 d1 d2; obtain ⟨d0, d1, d2⟩ := HF3.out _ _ _ HT.out) | (go_at_call 104; refine (HSB.out _ HT.out).mono ?_; intro e w1 h; obtain ⟨he1, h⟩ := h; subst he1; have HT := hid h; clear h; clear d0 d1 d2; obtain ⟨d0, d1, d2⟩ := HF3.out _ _ _ HT.out))
     go_roundw
     case rel => exact ⟨k + 1, _, by omega, rfl, by rw [hsn], by rw [hsn], by rw [hsn]; exact hid (HUN.out _ _ _ HT.out)⟩
     case measure => simp [intOf]; omega))
  ·obtain rfl : k = L := by omega
   have hst : sumL (l.take k) = sumL l := by rw [List.take_of_length_le (by omega)]
   obtain ⟨b1, b2⟩ := sumL_ok (fun f hf => HOK.out f hf) (by omega)
   rw [← hst] at b1 b2
   rw [← hst]
   generalize sumL (l.take k) = st at *
   obtain ⟨n, C, S⟩ := st
   simp only at *
   have hcd : digs C ≤ 40 := digs_le.2 b2
   have HF := hid (fun w2 y (h : Two (w.alloc (.cells #[.bool false, .int .i8 0, .int .u64 0] 55)) w2 p q (C : Int) y) => two_nfb0 (s := S) n h (Nat.le_trans hcd (by omega)) (by omega))
   obtain ⟨o, ho⟩ : ∃ o, from19 (10 ^ 19) 2 C S 0 = o := ⟨_, rfl⟩
   have HEND := hid (fun e w' (h : PDecN w n o e w') => (show PDecN w (sumL l).1 (from19 (10 ^ 19) 2 (sumL l).2.1 (sumL l).2.2 0) e w' from by rw [← hst, ho]; exact h))
   rw [ho] at HF
   have hk := HT0.out.chg
   obtain ⟨k0, k1, k2, r0, r1, r2⟩ := cell3 (HBX.out _ hk)
   have hge : ¬ (k : Int) < (k : Int) := by omega
   clear hst b2 hcd b1 ho
   go_wp2_with (go_at_call 105; refine (HF.out _ _ HT0.out.two).mono ?_; intro e w1 h; obtain ⟨na, nb, nc, nv, he1, hc1, hp⟩ := h.op; subst he1; replace hk := hc1; clear h hc1; clear k0 k1 k2 r0 r1 r2; obtain ⟨k0, k1, k2, r0, r1, r2⟩ := cell3 (HBX.out _ hk); have HP := hid hp; clear hp)
   refine leaves_cons (f := 99) (args := #[.pointer (some ⟨q, 0, none⟩)]) (by simp) (by simp [go_sem]) ?_
   refine (putBint_d _ .returning _).mono ?_
   rintro e u' w'' ⟨rfl, rfl, rfl⟩
   refine leaves_cons (f := 99) (args := #[.pointer (some ⟨p, 0, none⟩)]) (by simp [settle]) (by simp [go_sem]) ?_
   refine (putBint_d _ .returning _).mono ?_
   rintro e u' w'' ⟨rfl, rfl, rfl⟩
   exact ⟨.tuple #[.agg #[.bool na, .int .i8 nb, .int .u64 nc], nv], dec_result rfl _ _ w.heap.size _ _ _ _ 55 rfl rfl (store3 (HBX.out _ hk) _ _ _), HEND.out _ _ (HP.out.move (chg3 (HC0.out.trans hk sb_) (Nat.le_refl _) _ _ _))⟩
end Go.Proofs.YtbjhnckboimliaaGreatDoor
namespace Go.Proofs.YtbjhnckboimliaaGreatDoor
open Go.RowKit
set_option linter.unusedVariables false
set_option linter.unusedSimpArgs false
theorem rq_sign {c q : DT} (h : RQ c q) : q.1 = c.1 ∨ c.2.1 = 0 := by
 obtain ⟨t, _, _, h3⟩ := h
 by_cases hz : c.2.1 = 0
 ·exact .inr hz
 ·rw [h3, bne_iff_ne.2 hz, Bool.and_true]; exact .inl rfl
theorem good_sum (l : List DT) : Good (sumQ l).1 (sumQ l).2.1 (sumQ l).2.2 0 (sumL l).1 (from19 (10 ^ 19) 2 (sumL l).2.1 (sumL l).2.2 0) := by
 have h := rq_sum l
 have hs := rq_sign h
 obtain ⟨t, h1, h2, h3⟩ := h
 refine ⟨(sumL l).2.1, (sumL l).2.2, fun n _ => ?_, hs, TrimOf.same (by omega)⟩
 rw [h1, h2]
 exact atP_rnd _ _ _ _
theorem sumL_one {f : DT} (h : DTok f) : sumL [f] = f := by
 obtain ⟨n, c, s⟩ := f
 obtain ⟨h1, h2, h3⟩ := h
 simp only at h1 h2 h3
 have e : mxp 0 s = s := by unfold mxp; split <;> omega
 show stepS (false, 0, 0) (n, c, s) = (n, c, s)
 simp only [stepS, sumD, e, Nat.zero_mul, Nat.sub_self, Nat.pow_zero, Nat.mul_one]
 unfold sumS
 cases n with
 | false => simp
 | true =>
  have hc : c ≠ 0 := by simpa using h3
  have h0 : 0 < c := by omega
  simp [h0]
theorem sumQ_den : ∀ (l : List DT) (q : DT) (T : Nat), (∀ f ∈ l, DTok f) → q.2.2 = 10 ^ T → ∃ T', T' ≤ T + 19 * l.length ∧ (l.foldl stepQ q).2.2 = 10 ^ T' := by
 intro l
 induction l with
 | nil => exact fun q T _ h => ⟨T, by simp, h⟩
 | cons f l ih =>
  intro q T h hq
  obtain ⟨f1, f2, _⟩ := h f (by simp)
  obtain ⟨T', k1, k2⟩ := ih (stepQ q f) (T + f.2.2) (fun g hg => h g (by simp [hg])) (by show q.2.2 * 10 ^ f.2.2 = _; rw [hq, Nat.pow_add])
  exact ⟨T', by rw [List.length_cons]; omega, k2⟩
theorem sumQ_bd {l : List DT} (h : ∀ f ∈ l, DTok f) (hl : l.length ≤ 40) : (sumQ l).2.1 < tn 820 ∧ (sumQ l).2.2 < tn 820 ∧ 0 < (sumQ l).2.2 := by
 obtain ⟨T, k1, k2⟩ := sumQ_den l (false, 0, 1) 0 h rfl
 obtain ⟨t, h1, h2, h3⟩ := rq_sum l
 obtain ⟨b1, b2⟩ := sumL_ok h hl
 have hT : (sumQ l).2.2 = 10 ^ T := k2
 have ht : t ≤ T := by
  rw [hT, ← Nat.pow_add] at h1
  have := (Nat.pow_right_inj (show 1 < 10 by omega)).1 h1
  omega
 refine ⟨?_, by rw [hT]; exact pow_tn (by omega), by rw [hT]; exact pow10_pos _⟩
 rw [h2]
 refine lt_tn (j := 40 + (T + 1)) (mul100 b2 (Nat.pow_lt_pow_right (by omega) (by omega))) (by omega)
end Go.Proofs.YtbjhnckboimliaaGreatDoor
namespace Go.Proofs.YtbjhnckboimliaaGreatDoor
open Go.RowKit
set_option linter.unusedVariables false
set_option linter.unusedSimpArgs false
set_option maxRecDepth 20000
def PSum (l : List DT) (sg : Bool) (o : Option (Nat × Nat)) : Prop := if l = [] then o = none else (sg = (sumL l).1 ∧ o = from19 (10 ^ 19) 2 (sumL l).2.1 (sumL l).2.2 0)
set_option maxHeartbeats 8000000 in
theorem Sum_any {A : Option Addr} {l : List DT} {c : Nat} (w : World) (he : EnvD w) (hx : DX w A l) (hok : ∀ f ∈ l, DTok f) (hl : l.length ≤ 40) :
  Calls Tryz.prog 50 #[.slice A l.length c] w (PX (PSum l) w) := by
 have HFF := hid (fun w1 (h : Chg (fun _ => False) w w1) => sumFint_any (c := c) w1 (he.kept h) (hx.kept h) hok hl)
 have HFB := hid (fun w1 (h : Chg (fun _ => False) w w1) => sumBint_any (c := c) w1 (he.kept h) (hx.kept h) hok hl)
 have hz0 := heap_alloc_new w (.cells #[.bool false, .int .i8 0, .int .u64 0] 55)
 have HC0 := hid ((Chg.refl (fun _ => False) w).alloc (.cells #[.bool false, .int .i8 0, .int .u64 0] 55))
 have HBX := hid (fun w1 (h : Chg (fun _ => False) (w.alloc (.cells #[.bool false, .int .i8 0, .int .u64 0] 55)) w1) => kept_heap h hz0)
 have hk := Chg.refl (fun _ => False) (w.alloc (.cells #[.bool false, .int .i8 0, .int .u64 0] 55))
 obtain ⟨r0, r1, r2, q0, q1, q2⟩ := cell3 (HBX.out _ hk)
 by_cases h0 : l = []
 ·have HP0 := hid (show PSum l false none by unfold PSum; rw [if_pos h0])
  subst h0
  have hz : (([] : List DT).length : Int) = 0 := rfl
  clear hx hok hl HFF HFB
  go_enter Tryz.func50, Tryz.ntmps50
  go_wp2_with (go_at_call 76; refine (errorsNew_any _ _).mono ?_; intro e w1 h; obtain ⟨⟨tv, vv, he1⟩, hc⟩ := h; subst he1; replace hk := hk.trans hc sb_; clear hc; clear r0 r1 r2 q0 q1 q2; obtain ⟨r0, r1, r2, q0, q1, q2⟩ := cell3 (HBX.out _ hk))
  exact bodyPost_ret (v := .tuple #[.agg #[.bool false, .int .i8 0, .int .u64 0], .iface tv vv]) (dec_result rfl _ _ w.heap.size _ _ _ _ 55 rfl rfl (store3 (HBX.out _ hk) _ _ _)) rfl ⟨false, none, HP0.out, chg3 (HC0.out.trans hk sb_) (Nat.le_refl _) _ _ _, tv, vv, rfl⟩
 by_cases h1 : l.length = 1
 ·obtain ⟨f, rfl⟩ : ∃ f, l = [f] := List.length_eq_one_iff.1 h1
  have hf := hok f (by simp)
  obtain ⟨n, v, s⟩ := f
  obtain ⟨a, hA, g0, g1, g2⟩ := (hx.kept HC0.out) 0 n v s rfl
  subst hA
  have HP0 := hid (show PSum [(n, v, s)] n (some (v, s)) by unfold PSum; rw [if_neg (by simp), sumL_one hf]; exact ⟨rfl, (from19_keep hf.1 (Nat.zero_le _) hf.2.1).symm⟩)
  have hn : (n && (v : Int) != 0) = n := by rw [nat_bne]; exact hf.2.2
  have e0 : a.add (0 * 3) = a := by simp [Addr.add]
  rw [e0] at g0 g1 g2
  obtain ⟨L, hL⟩ : ∃ L : Nat, ([(n, v, s)] : List DT).length = L := ⟨_, rfl⟩
  have hL1 : (L : Int) = 1 := by rw [← hL]; rfl
  rw [hL]
  have hz : ¬ (L : Int) = 0 := by omega
  have hz2 : (0 : Int) < (L : Int) := by omega
  clear hx hok hl HFF HFB hf h1 h0 hL
  go_enter Tryz.func50, Tryz.ntmps50
  go_wp2_with fail
  exact bodyPost_ret (v := .tuple #[.agg #[.bool n, .int .i8 s, .int .u64 (v : Int)], .nilIface]) (dec_result rfl _ _ w.heap.size _ _ _ _ 55 rfl rfl (heap_alloc_new w _)) rfl ⟨n, some (v, s), HP0.out, (Chg.refl _ _).alloc _, by show _ = Ending.returned (.tuple #[decV (n && (v : Int) != 0) v s, .nilIface]); rw [hn]; rfl⟩
 ·have HP0 := hid (fun sg o (h : sg = (sumL l).1 ∧ o = from19 (10 ^ 19) 2 (sumL l).2.1 (sumL l).2.2 0) => (show PSum l sg o by unfold PSum; rw [if_neg h0]; exact h))
  have hz : ¬ (l.length : Int) = 0 := fun h => h0 (List.length_eq_zero_iff.1 (by omega))
  have hz1 : ¬ (l.length : Int) = 1 := by omega
  generalize l.length = L at *
  clear hx hok hl h0 h1
  go_enter Tryz.func50, Tryz.ntmps50
  go_wp2_with fail
  go_at_call 77
  refine (HFF.out _ HC0.out).mono ?_
  intro e w1 h
  obtain ⟨sg, o, hp, hc, ho⟩ := h
  cases o with
  | some kt =>
   obtain ⟨k, t⟩ := kt
   have HPP := hid (HP0.out _ _ (hp.resolve_left (by simp)))
   have he2 : e = .returned (.tuple #[.agg #[.bool (sg && (k : Int) != 0), .int .i8 t, .int .u64 (k : Int)], .nilIface]) := ho
   clear ho hp
   obtain ⟨nb, hnb⟩ : ∃ b, (sg && (k : Int) != 0) = b := ⟨_, rfl⟩
   have HNB := hid hnb
   rw [hnb] at he2
   subst he2
   clear hnb
   replace hk := (hk.trans hc sb_).alloc (.cells #[.bool nb, .int .i8 t, .int .u64 (k : Int)] 55)
   have HG := hid (heap_alloc_new w1 (.cells #[.bool nb, .int .i8 t, .int .u64 (k : Int)] 55))
   clear hc r0 r1 r2 q0 q1 q2
   obtain ⟨r0, r1, r2, q0, q1, q2⟩ := cell3 (HBX.out _ hk)
   obtain ⟨j0, j1, j2, _, _, _⟩ := cell3 HG.out
   go_wp2_with fail
   exact bodyPost_ret (v := .tuple #[.agg #[.bool nb, .int .i8 t, .int .u64 (k : Int)], .nilIface]) (dec_result rfl _ _ w.heap.size _ _ _ _ 55 rfl rfl (store3 (HBX.out _ hk) _ _ _)) rfl ⟨sg, some (k, t), HPP.out, chg3 (HC0.out.trans hk sb_) (Nat.le_refl _) _ _ _, by rw [← HNB.out]; rfl⟩
  | none =>
   obtain ⟨t3, v3, he3⟩ := ho
   have he2 : e = .returned (.tuple #[.agg #[.bool false, .int .i8 0, .int .u64 0], .iface t3 v3]) := he3
   clear he3 hp
   subst he2
   have HG := hid (heap_alloc_new w1 (.cells #[.bool false, .int .i8 0, .int .u64 0] 55))
   have HC2 := hid ((HC0.out.trans (hk.trans hc sb_) (fun _ _ h => h)).alloc (.cells #[.bool false, .int .i8 0, .int .u64 0] 55))
   have hs1 : w.heap.size + 1 ≤ w1.heap.size := by have := (hk.trans hc sb_).size; simpa using this
   replace hk := (hk.trans hc sb_).alloc (.cells #[.bool false, .int .i8 0, .int .u64 0] 55)
   clear hc r0 r1 r2 q0 q1 q2
   obtain ⟨r0, r1, r2, q0, q1, q2⟩ := cell3 (HBX.out _ hk)
   obtain ⟨j0, j1, j2, i0, i1, i2⟩ := cell3 HG.out
   obtain ⟨g, hg⟩ : ∃ g, w1.heap.size = g := ⟨_, rfl⟩
   have HGN := hid (show w.heap.size + 1 ≤ g by rw [← hg]; exact hs1)
   clear hs1
   rw [hg] at j0 j1 j2 i0 i1 i2 HG
   go_wp2_with fail
   go_at_call 78
   refine (HFB.out _ HC2.out).mono ?_
   intro e w5 h
   obtain ⟨sg, o, hp, hc, ho⟩ : PX (fun sg o => sg = (sumL l).1 ∧ o = from19 (10 ^ 19) 2 (sumL l).2.1 (sumL l).2.2 0) _ e w5 := ⟨_, _, ⟨rfl, rfl⟩, h⟩
   cases o with
   | some kt =>
    obtain ⟨k, t⟩ := kt
    have HPP := hid (HP0.out _ _ hp)
    have he2 : e = .returned (.tuple #[.agg #[.bool (sg && (k : Int) != 0), .int .i8 t, .int .u64 (k : Int)], .nilIface]) := ho
    clear ho hp
    obtain ⟨nb, hnb⟩ : ∃ b, (sg && (k : Int) != 0) = b := ⟨_, rfl⟩
    have HNB := hid hnb
    rw [hnb] at he2
    subst he2
    clear hnb r0 r1 r2 q0 q1 q2 j0 j1 j2 i0 i1 i2
    have hgv := kept_heap hc HG.out
    have hk4 := hk.trans hc sb_
    have hk5 := chg3 hk4 (z := g) (by have := HGN.out; simp only [World.alloc, Array.size_push]; omega) (.bool nb) (.int .i8 t) (.int .u64 (k : Int))
    obtain ⟨r0, r1, r2, q0, q1, q2⟩ := cell3 (HBX.out _ hk5)
    obtain ⟨j0, j1, j2, i0, i1, i2⟩ := cell3 hgv
    obtain ⟨x0, x1, x2, _, _, _⟩ := cell3 (store3 hgv (.bool nb) (.int .i8 t) (.int .u64 (k : Int)))
    go_wp2_with fail
    exact bodyPost_ret (v := .tuple #[.agg #[.bool nb, .int .i8 t, .int .u64 (k : Int)], .nilIface]) (dec_result rfl _ _ w.heap.size _ _ _ _ 55 rfl rfl (store3 (HBX.out _ hk5) _ _ _)) rfl ⟨sg, some (k, t), HPP.out, chg3 (HC0.out.trans hk5 sb_) (Nat.le_refl _) _ _ _, by rw [← HNB.out]; rfl⟩
   | none =>
    obtain ⟨t4, v4, he4⟩ := ho
    have HPP := hid (HP0.out _ _ hp)
    have he2 : e = .returned (.tuple #[.agg #[.bool false, .int .i8 0, .int .u64 0], .iface t4 v4]) := he4
    clear he4 hp
    subst he2
    clear r0 r1 r2 q0 q1 q2 j0 j1 j2 i0 i1 i2
    have hgv := kept_heap hc HG.out
    have hk4 := hk.trans hc sb_
    replace hk := chg3 hk4 (z := g) (by have := HGN.out; simp only [World.alloc, Array.size_push]; omega) (.bool false) (.int .i8 0) (.int .u64 0)
    obtain ⟨r0, r1, r2, q0, q1, q2⟩ := cell3 (HBX.out _ hk)
    obtain ⟨j0, j1, j2, i0, i1, i2⟩ := cell3 hgv
    go_wp2_with (go_at_call 76; refine (errorsNew_any _ _).mono ?_; intro e w1 h; obtain ⟨⟨tv, vv, he1⟩, hc2⟩ := h; subst he1; replace hk := hk.trans hc2 sb_; clear hc2; clear r0 r1 r2 q0 q1 q2; obtain ⟨r0, r1, r2, q0, q1, q2⟩ := cell3 (HBX.out _ hk))
    exact bodyPost_ret (v := .tuple #[.agg #[.bool false, .int .i8 0, .int .u64 0], .iface tv vv]) (dec_result rfl _ _ w.heap.size _ _ _ _ 55 rfl rfl (store3 (HBX.out _ hk) _ _ _)) rfl ⟨sg, none, HPP.out, chg3 (HC0.out.trans hk sb_) (Nat.le_refl _) _ _ _, tv, vv, rfl⟩
theorem fixIs_ok (n : Bool) (v s : Int) (w : World) : Calls Tryz.prog 30 #[.agg #[.bool n, .int .u64 v, .int .i64 s]] w (PV w (.bool (okFix v s))) := by
 unfold okFix
 exact FixIs_any n v s w
set_option maxHeartbeats 2000000 in
theorem FixAll_list {w : World} {A : Option Addr} {l : List (Bool × Int × Int)} {c : Nat} (h : FX w A l) (hl : l.length ≤ 1000000000000) :
  Calls Tryz.prog 8 #[.slice A l.length c] w (PV w (.bool (l.all fun f => okFix f.2.1 f.2.2))) := by
 have HX := hid (fun w1 (k : Chg (fun _ => False) w w1) => h.kept k)
 have HFI := hid (fun (n : Bool) (v s : Int) w => fixIs_ok n v s w)
 obtain ⟨L, hL⟩ : ∃ L, l.length = L := ⟨_, rfl⟩
 rw [hL] at hl
 rw [hL]
 clear h
 go_enter Tryz.func8, Tryz.ntmps8
 go_wp2
 go_loopw [7] (fun i wr => ∃ k : Nat, k ≤ L ∧ i = .int .i64 k ∧ Hid ((l.take k).all (fun f => okFix f.2.1 f.2.2) = true) ∧ Hid (Chg (fun _ => False) w wr)) (fun i _ => L - (intOf i).toNat)
 case atStart => exact ⟨0, Nat.zero_le _, rfl, hid (by simp), hid (Chg.refl _ _)⟩
 case round =>
  obtain ⟨k, hk, he, HA, HK⟩ := hrel
  subst he
  by_cases hlt : k < L
  ·obtain ⟨⟨m, v, s⟩, hf⟩ : ∃ f, l[k]? = some f := ⟨_, List.getElem?_eq_getElem (by omega)⟩
   obtain ⟨a, hA, g0, g1, g2⟩ := HX.out _ HK.out k m v s hf
   subst hA
   have hlt' : (k : Int) < (L : Int) := by omega
   have hinc : IntKind.i64.wrap ((k : Int) + 1) = ((k + 1 : Nat) : Int) := by rw [IntWalk.i64_in _ (by omega)]; omega
   have HF1 := hid (fun w => HFI.out m v s w)
   obtain ⟨o, ho⟩ : ∃ o, okFix v s = o := ⟨_, rfl⟩
   rw [ho] at HF1
   have hk2 := HK.out
   have hall : ∀ b, o = b → (l.take (k + 1)).all (fun f => okFix f.2.1 f.2.2) = b := by
    intro b hb
    rw [List.take_add_one, hf, Option.toList_some, List.all_append, HA.out, Bool.true_and]
    simp [ho, hb]
   cases o with
   | false =>
    have hno : l.all (fun f => okFix f.2.1 f.2.2) = false := by
     rw [← List.take_append_drop (k + 1) l, List.all_append, hall false rfl, Bool.false_and]
    have HNO := hid hno
    clear hall ho hno
    go_wp2_with (first | (go_at_call 30; refine (HF1.out _).mono ?_; intro e w1 h; obtain ⟨he, hc⟩ := h; subst he; replace hk2 := (hk2.alloc _).trans hc sb_; clear hc))
    go_ret
    exact ⟨by rw [HNO.out]; rfl, hk2⟩
   | true =>
    have HALL := hid (hall true rfl)
    clear hall ho
    go_wp2_with (first | (go_at_call 30; refine (HF1.out _).mono ?_; intro e w1 h; obtain ⟨he, hc⟩ := h; subst he; replace hk2 := (hk2.alloc _).trans hc sb_; clear hc))
    go_roundw
    case rel => exact ⟨k + 1, by omega, rfl, HALL, hid hk2⟩
    case measure => simp [intOf]; omega
  ·obtain rfl : k = L := by omega
   have hge : ¬ (k : Int) < (k : Int) := by omega
   have ht : l.take k = l := List.take_of_length_le (by omega)
   have hall := HA.out
   rw [ht] at hall
   have HALL := hid hall
   clear hall ht
   go_wp2_with fail
   go_ret
   exact ⟨by rw [HALL.out]; rfl, HK.out⟩
def rawI (f : DT) : Bool × Int × Int := (f.1, (f.2.1 : Int), (f.2.2 : Int))
def nrm (f : DT) : DT := (f.1 && f.2.1 != 0, f.2.1, f.2.2)
def dcells (l : List DT) : List Value := l.flatMap fun f => [.bool f.1, .int .i8 (f.2.2 : Int), .int .u64 (f.2.1 : Int)]
theorem dcells_len (l : List DT) : (dcells l).length = l.length * 3 := by
 induction l with
 | nil => rfl
 | cons f l ih => unfold dcells at *; rw [List.flatMap_cons, List.length_append, ih, List.length_cons]; simp; omega
theorem dcells_snoc (l : List DT) (f : DT) : dcells (l ++ [f]) = dcells l ++ [.bool f.1, .int .i8 (f.2.2 : Int), .int .u64 (f.2.1 : Int)] := by
 unfold dcells; rw [List.flatMap_append]; simp
theorem dcells_at : ∀ (l : List DT) (i : Nat) (n : Bool) (v s : Nat), l[i]? = some (n, v, s) → (dcells l)[i * 3]? = some (.bool n) ∧ (dcells l)[i * 3 + 1]? = some (.int .i8 (s : Int)) ∧ (dcells l)[i * 3 + 2]? = some (.int .u64 (v : Int)) := by
 intro l
 induction l with
 | nil => intro i n v s h; simp at h
 | cons f l ih =>
  intro i n v s h
  have e : dcells (f :: l) = [.bool f.1, .int .i8 (f.2.2 : Int), .int .u64 (f.2.1 : Int)] ++ dcells l := by unfold dcells; rw [List.flatMap_cons]
  rw [e]
  cases i with
  | zero =>
   simp at h
   subst h
   exact ⟨rfl, rfl, rfl⟩
  | succ i =>
   have := ih i n v s (by simpa using h)
   rw [show (i + 1) * 3 = i * 3 + 3 by omega, show i * 3 + 3 + 1 = i * 3 + 1 + 3 by omega, show i * 3 + 3 + 2 = i * 3 + 2 + 3 by omega]
   exact this
theorem add_flat (g j : Nat) : (⟨g, 0, none⟩ : Addr).add j = ⟨g, j, none⟩ := by unfold Addr.add; split <;> simp_all
theorem owns_dx {w : World} {base : Nat} {e : TypeId} {A : Option Addr} {l : List DT} {n c : Nat} (h : w.ownsRow base e 3 (.slice A n c) n (dcells l)) : DX w A l := by
 intro i n1 v s hi
 obtain ⟨k0, k1, k2⟩ := dcells_at l i n1 v s hi
 cases A with
 | none =>
  obtain ⟨h1, h2⟩ := h
  rcases h2 with ⟨hv, h0⟩ | ⟨g, cap, cur, hv, _⟩
  ·rw [h0, dcells_len] at h1
   have : l = [] := List.length_eq_zero_iff.1 (by omega)
   subst this
   simp at hi
  ·cases hv
 | some a =>
  obtain ⟨g, hg⟩ : ∃ g, a = ⟨g, 0, none⟩ := by
   obtain ⟨h1, h2⟩ := h
   rcases h2 with ⟨hv, h0⟩ | ⟨g, cap, cur, hv, _⟩
   ·cases hv
   ·cases hv; exact ⟨g, rfl⟩
  subst hg
  have hc := h.cells (g := g) rfl
  refine ⟨_, rfl, hc _ _ k0, ?_, ?_⟩
  ·have := hc _ _ k1; rw [add_flat] at this ⊢; exact this
  ·have := hc _ _ k2; rw [add_flat] at this ⊢; exact this
theorem dec_info3 : (Tryz.prog.info? 55).map (fun i => (i.zero, i.size, i.bytes)) = some (some (.agg #[.bool false, .int .i8 0, .int .u64 0]), 3, 16) := by kernel_rfl
theorem chg_grown {w w1 w2 : World} {row : Option Nat} (h : Chg (fun _ => False) w w1) (hg : w1.grownBy w2 row) (hr : ∀ k, row = some k → w.heap.size ≤ k) : Chg (fun _ => False) w w2 :=
 h.trans (T := fun k => row = some k) ⟨hg.os, hg.tape, hg.output, hg.size, fun k hk hn => hg.block k hk (fun e => hn e.symm)⟩ (fun i hi e => by have := hr i e; omega)
theorem new_cells3 (w : World) (a b d : Value) (T : TypeId) : ∀ (j : Nat) (u : Value), [a, b, d][j]? = some u → (w.alloc (.cells #[a, b, d] T)).cell? ((⟨w.heap.size, 0, none⟩ : Addr).add j) = some u := by
 intro j u hj
 rw [add_flat]
 match j, hj with
 | 0, hj => simp at hj; subst hj; exact (cell3 (heap_alloc_new w _)).1
 | 1, hj => simp at hj; subst hj; exact (cell3 (heap_alloc_new w _)).2.1
 | 2, hj => simp at hj; subst hj; exact (cell3 (heap_alloc_new w _)).2.2.1
theorem grow_far {w1 w2 w3 : World} {base : Nat} {e : TypeId} {size n : Nat} {v : Value} {xs : List Value} (h : w1.ownsRow base e size v n xs) (hc : Chg (fun _ => False) w1 w2) : w2.ownsRow base e size v n xs :=
 h.kept (row := none) ⟨hc.os, hc.tape, hc.output, hc.size, fun k hk _ => hc.keep k hk (fun h => h)⟩ (by cases hv : v.ownBlock <;> simp)
set_option maxHeartbeats 4000000 in
theorem fixeds_any {w : World} {A : Option Addr} {l : List DT} {c : Nat} (h : FX w A (l.map rawI)) (hr : ∀ f ∈ l, f.2.1 < 10 ^ 19 ∧ f.2.2 ≤ 19) (hl : l.length ≤ 40) :
  Calls Tryz.prog 49 #[.slice A l.length c] w (fun e w' => ∃ B cp, e = .returned (.tuple #[.slice B l.length cp, .bool true]) ∧ DX w' B (l.map nrm) ∧ Chg (fun _ => False) w w') := by
 have HX := hid (fun w1 (k : Chg (fun _ => False) w w1) => h.kept k)
 have HFI := hid (fun (n : Bool) (v s : Nat) (w : World) (h1 : v < 10 ^ 19) (h2 : s ≤ 19) => fixed_any n (n && v != 0) (v : Int) s (fiN h1) h2 (by rw [nat_bne]) w)
 have HR := hid hr
 obtain ⟨i0, hi0, hz0, hz1, hz2⟩ := info_parts dec_info3
 obtain ⟨L, hL⟩ : ∃ L, l.length = L := ⟨_, rfl⟩
 rw [hL] at hl
 rw [hL]
 have hgt : ¬ (40 : Int) < (L : Int) := by omega
 clear h hr
 go_enter Tryz.func49, Tryz.ntmps49
 go_wp2
 go_loopw [4, 14] (fun o i wr => ∃ k : Nat, k ≤ L ∧ i = .int .i64 k ∧ Hid (wr.ownsRow w.heap.size 55 3 o k (dcells ((l.take k).map nrm))) ∧ Hid (Chg (fun _ => False) w wr)) (fun _ i _ => L - (intOf i).toNat)
 case atStart => exact ⟨0, Nat.zero_le _, rfl, hid (World.ownsRow_nil _ _ _ _), hid (Chg.refl _ _)⟩
 case round =>
  obtain ⟨k, hk, he, HO, HK⟩ := hrel
  subst he
  by_cases hlt : k < L
  ·obtain ⟨⟨m, v, s⟩, hf⟩ : ∃ f, l[k]? = some f := ⟨_, List.getElem?_eq_getElem (by omega)⟩
   have hf2 : (l.map rawI)[k]? = some (m, (v : Int), (s : Int)) := by rw [List.getElem?_map, hf]; rfl
   obtain ⟨a, hA, g0, g1, g2⟩ := HX.out _ HK.out k m v s hf2
   subst hA
   obtain ⟨f1, f2⟩ := HR.out _ (List.mem_of_getElem? hf)
   simp only at f1 f2
   have hlt' : (k : Int) < (L : Int) := by omega
   have hinc : IntKind.i64.wrap ((k : Int) + 1) = ((k + 1 : Nat) : Int) := by rw [IntWalk.i64_in _ (by omega)]; omega
   have HF1 := hid (fun w => HFI.out m v s w f1 f2)
   have hsn : dcells ((l.take (k + 1)).map nrm) = dcells ((l.take k).map nrm) ++ [.bool (m && v != 0), .int .i8 (s : Int), .int .u64 (v : Int)] := by
    rw [List.take_add_one, hf, Option.toList_some, List.map_append]; exact dcells_snoc _ _
   have HSN := hid hsn
   obtain ⟨nb, hnb⟩ : ∃ nb, (m && v != 0) = nb := ⟨_, rfl⟩
   rw [hnb] at HF1 HSN
   obtain ⟨V, hV⟩ : ∃ V : Int, (v : Int) = V := ⟨_, rfl⟩
   rw [hV] at HF1 HSN g1
   have hk2 := HK.out
   have HO2 := HO.out
   clear hsn f1 f2 hnb hV
   go_wp2_with (first | (go_at_call 32; refine (HF1.out _).mono ?_; intro e w1 h; obtain ⟨he, hc⟩ := h; subst he; replace hc := (((Chg.refl (fun _ => False) _).alloc _).trans hc sb_).alloc (.cells #[.bool nb, .int .i8 s, .int .u64 V] 55); replace hk2 := hk2.trans hc sb_; replace HO2 := grow_far (w3 := wr) HO2 hc; clear hc; have HG := hid (heap_alloc_new w1 (.cells #[.bool nb, .int .i8 s, .int .u64 V] 55)); obtain ⟨j0, j1, j2, _, _, _⟩ := cell3 HG.out) | (at_builtin; refine wpList_append_own _ rfl _ _ 70 rfl w.heap.size 55 i0 (.agg #[.bool false, .int .i8 0, .int .u64 0]) 3 16 Tryz.underlying70 hi0 hz0 hz1 hz2 rfl (by decide) _ _ _ rfl (grow_far (w3 := wr) HO2 ((Chg.refl (fun _ => False) _).alloc _)) ⟨w1.heap.size + 1, 0, none⟩ 1 1 [.bool nb, .int .i8 s, .int .u64 V] rfl rfl (by have := new_cells3 (w1.alloc (.cells #[.bool nb, .int .i8 s, .int .u64 V] 55)) (.bool nb) (.int .i8 s) (.int .u64 V) 55; simpa using this) (fun x hx => by simp at hx; rcases hx with rfl | rfl | rfl <;> rfl) (by unfold maxLen; omega) (by omega) (by have := hk2.size; simp; simp at this; omega) ?_; intro v' w3 hown' hgrow3 hnil3; have hk3 := chg_grown (hk2.alloc _) hgrow3 (fun j hj => (HO2.lt _ hj).1); rw [← HSN.out] at hown'; have X := hid (And.intro hown' hk3); clear hown' hgrow3 hnil3 hk3))
   go_roundw
   case rel => exact ⟨k + 1, by omega, rfl, hid X.out.1, hid X.out.2⟩
   case measure => simp [intOf]; omega
  ·obtain rfl : k = L := by omega
   have hge : ¬ (k : Int) < (k : Int) := by omega
   have ht : l.take k = l := List.take_of_length_le (by omega)
   have ho := HO.out
   rw [ht] at ho
   obtain ⟨B, cp, hv⟩ : ∃ B cp, u4 = Value.slice B k cp := by
    rcases ho.2 with ⟨rfl, h0⟩ | ⟨g, cap, cur, rfl, _⟩
    ·exact ⟨none, 0, by rw [h0]⟩
    ·exact ⟨_, _, rfl⟩
   subst hv
   have HD := hid (owns_dx ho)
   clear ho ht
   go_wp2_with fail
   go_ret2
   exact ⟨B, ⟨cp, rfl⟩, HD.out, HK.out⟩
def PO (P : Bool → Option (Nat × Nat) → Prop) (w : World) (e : Ending) (w' : World) : Prop := ∃ sg o, P sg o ∧ e = .returned (fixOut sg o) ∧ Chg (fun _ => False) w w'
theorem fxSum_idle (p q : Addr) (w : World) : CallsD Tryz.prog 48 #[.pointer (some p), .pointer (some q)] .returning w fun e u' w' => e = .returned (.tuple #[]) ∧ u' = .returning ∧ w' = w := by
 refine callsD_of_wpS Tryz.func48 rfl fun c₀ cs hu => ?_
 apply wpS_seq
 apply wpS_region
 simp [wpOpsS, go_sem, recoverD, hu, Tryz.ntmps48, Exit.thenS]
 refine wpS_cond (t := false) (by simp [Act.eval, Array.replicate]) ?_
 simp only [Bool.false_eq_true, if_false]
 refine wpS_of_wp (wp_skip ?_)
 cases c₀
 simp_all [bodyPostS, results, Tryz.results48]
set_option maxHeartbeats 8000000 in
theorem fxSum_gen {A : Option Addr} {l : List DT} {c : Nat} (P : Bool → Option (Nat × Nat) → Prop) (hP : ∀ sg k t, P sg (some (k, t)) → t ≤ 19) (w : World) (he : EnvD w) (hx : FX w A (l.map rawI)) (hr : ∀ f ∈ l, f.2.1 < 10 ^ 19 ∧ f.2.2 ≤ 19) (hl : l.length ≤ 40)
  (HS : ∀ w1 B cp, EnvD w1 → DX w1 B (l.map nrm) → Calls Tryz.prog 50 #[.slice B l.length cp] w1 (PX P w1)) :
  Calls Tryz.prog 21 #[.slice A l.length c] w (PO P w) := by
 have HFX0 := hid (fun w1 (h : Chg (fun _ => False) w w1) => fixeds_any (c := c) (hx.kept h) hr hl)
 have HE := hid he
 have HSX := hid HS
 have HPB := hid hP
 generalize l.length = L at *
 clear HS hP hr hl hx he
 obtain ⟨HC0, HD, hB0, hB1⟩ := box2 w #[.bool false, .int .u64 0, .int .i64 0] 24 #[.int .i64 0] 3
 have HB2 := hid hB0
 have HB3 := hid hB1
 have hk := Chg.refl (fun _ => False) ((w.alloc (.cells #[.bool false, .int .u64 0, .int .i64 0] 24)).alloc (.cells #[.int .i64 0] 3))
 clear hB0 hB1 HD
 have hmf : ∀ (fn : Fn) (first cap : Array Value) (w : World), (Instr.makeFunc fn first cap).run Tryz.prog w = .ok (.func fn first cap) w := fun _ _ _ _ => rfl
 go_enter_defers Tryz.func21, Tryz.ntmps21
 go_wp2_with (go_at_call 49; refine (HFX0.out _ HC0.out).mono ?_; intro e w1 h; obtain ⟨B, cp, he, hdx, hc⟩ := h; subst he; replace hk := hk.trans hc sb_; have HDX := hid hdx; clear hc hdx)
 go_at_call 50
 refine (HSX.out _ _ _ (HE.out.kept (HC0.out.trans hk sb_)) HDX.out).mono ?_
 intro e w4 h
 obtain ⟨sg, o, hp, hc, ho⟩ := h
 have HPP := hid hp
 clear hp
 cases o with
 | none =>
  obtain ⟨t3, v3, he⟩ := ho
  have he2 : e = .returned (.tuple #[.agg #[.bool false, .int .i8 0, .int .u64 0], .iface t3 v3]) := he
  clear he
  subst he2
  replace hk := (hk.trans hc sb_).alloc (.cells #[.bool false, .int .i8 0, .int .u64 0] 55)
  clear hc
  obtain ⟨r0, r1, r2, q0, q1, q2⟩ := cell3 (kept_heap hk HB2.out)
  obtain ⟨i0, i1⟩ := cell1 (kept_heap hk HB3.out)
  go_wp2_with fail
  refine leaves_cons (f := 48) (args := #[.pointer (some ⟨w.heap.size, 0, none⟩), .pointer (some ⟨w.heap.size + 1, 0, none⟩)]) (by simp) (by simp [go_sem]) ?_
  refine (fxSum_idle _ _ _).mono ?_
  rintro e u' w'' ⟨rfl, rfl, rfl⟩
  exact ⟨.tuple #[.agg #[.bool false, .int .u64 0, .int .i64 0], .int .i64 1], fix_result rfl _ _ w.heap.size (w.heap.size + 1) _ _ _ _ _ _ rfl rfl (fix_far (store3 (kept_heap hk HB2.out) _ _ _) (by omega)) (int_set (fix_near (kept_heap hk HB3.out) (by omega))), ⟨sg, none, HPP.out, rfl, fix_chg (HC0.out.trans hk sb_) (by omega) (by omega)⟩⟩
 | some kt =>
  obtain ⟨k, t⟩ := kt
  have ht := HPB.out _ _ _ HPP.out
  have HFX := hid (fun w => fix_any (sg && (k : Int) != 0) (k : Int) t ht w)
  have he2 : e = .returned (.tuple #[.agg #[.bool (sg && (k : Int) != 0), .int .i8 t, .int .u64 (k : Int)], .nilIface]) := ho
  clear ho ht
  obtain ⟨nb, hnb⟩ : ∃ b, (sg && (k : Int) != 0) = b := ⟨_, rfl⟩
  have HNB := hid hnb
  obtain ⟨K, hK⟩ : ∃ v : Int, (k : Int) = v := ⟨_, rfl⟩
  have HK := hid hK
  rw [hnb, hK] at he2 HFX
  subst he2
  clear hnb hK
  replace hk := (hk.trans hc sb_).alloc (.cells #[.bool nb, .int .i8 t, .int .u64 K] 55)
  clear hc
  go_wp2_with (go_at_call 34; refine (HFX.out _).mono ?_; intro e w5 h; obtain ⟨he, hc⟩ := h; subst he; replace hk := hk.trans hc sb_; clear hc; obtain ⟨r0, r1, r2, q0, q1, q2⟩ := cell3 (kept_heap hk HB2.out); obtain ⟨i0, i1⟩ := cell1 (kept_heap hk HB3.out))
  refine leaves_cons (f := 48) (args := #[.pointer (some ⟨w.heap.size, 0, none⟩), .pointer (some ⟨w.heap.size + 1, 0, none⟩)]) (by simp) (by simp [go_sem]) ?_
  refine (fxSum_idle _ _ _).mono ?_
  rintro e u' w'' ⟨rfl, rfl, rfl⟩
  exact ⟨.tuple #[.agg #[.bool nb, .int .u64 K, .int .i64 t], .int .i64 0], fix_result rfl _ _ w.heap.size (w.heap.size + 1) _ _ _ _ _ _ rfl rfl (fix_far (store3 (kept_heap hk HB2.out) _ _ _) (by omega)) (int_set (fix_near (kept_heap hk HB3.out) (by omega))), ⟨sg, some (k, t), HPP.out, by rw [← HNB.out, ← HK.out]; rfl, fix_chg (HC0.out.trans hk sb_) (by omega) (by omega)⟩⟩
end Go.Proofs.YtbjhnckboimliaaGreatDoor
