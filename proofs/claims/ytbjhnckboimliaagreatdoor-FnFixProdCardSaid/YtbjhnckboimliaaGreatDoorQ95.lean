/- Part 2 of the rest of the proof. -/
import Derived.Test.YtbjhnckboimliaaGreatDoorQ00
import Derived.Test.YtbjhnckboimliaaGreatDoorQ94
namespace Go.Proofs.YtbjhnckboimliaaGreatDoor
open Go.RowKit
set_option linter.unusedVariables false
set_option linter.unusedSimpArgs false
set_option maxRecDepth 20000
theorem scale_1 (w : World) : Calls Tryz.prog 66 #[.agg #[.bool false, .int .i8 0, .int .u64 1]] w (fun e w' => e = .returned (.int .i64 0) ∧ Chg (fun _ => False) w w') := Scale_any false 1 0 (by omega) w
theorem neg_1 (w : World) : Calls Tryz.prog 64 #[.agg #[.bool false, .int .i8 0, .int .u64 1]] w (fun e w' => e = .returned (.bool false) ∧ Chg (fun _ => False) w w') := IsNeg_any false 1 0 w
theorem prodL_snoc (l : List DT) (f : DT) : prodL (l ++ [f]) = stepP (prodL l) f := by unfold prodL; rw [List.foldl_append]; rfl
theorem mulN_ok {x y : Nat} (hx : x < 10 ^ 19) (hy : y < 10 ^ 19) (h : x * y < 10 ^ 19) (w : World) :
  Calls Tryz.prog 108 #[.int .u64 (x : Int), .int .u64 (y : Int)] w (fun e w' => e = .returned (.tuple #[.int .u64 ((x * y : Nat) : Int), .bool true]) ∧ w = w') := by
 have H := fint_mul (x : Int) (y : Int) (fiN hx) (fiN hy).wd w
 rw [← Int.natCast_mul, if_pos (fiN_iff.2 h), decide_eq_true (fiN_iff.2 h)] at H
 exact H
theorem mulN_no {x y : Nat} (hx : x < 10 ^ 19) (hy : y < 10 ^ 19) (h : ¬ x * y < 10 ^ 19) (w : World) :
  Calls Tryz.prog 108 #[.int .u64 (x : Int), .int .u64 (y : Int)] w (fun e w' => e = .returned (.tuple #[.int .u64 0, .bool false]) ∧ w = w') := by
 have H := fint_mul (x : Int) (y : Int) (fiN hx) (fiN hy).wd w
 rw [← Int.natCast_mul, if_neg (fun k => h (fiN_iff.1 k)), decide_eq_false (fun k => h (fiN_iff.1 k))] at H
 exact H
set_option maxHeartbeats 12000000 in
theorem prodFint_any {A : Option Addr} {l : List DT} {c : Nat} (w : World) (he : EnvD w) (hx : DX w A l) (hok : ∀ f ∈ l, DTok f) (hl : l.length ≤ 40) :
  Calls Tryz.prog 80 #[.slice A l.length c] w (PX (SomeOf (prodL l).1 (prodL l).2.1 (prodL l).2.2) w) := by
 have HZ := hid (fun w => One_any w)
 have HS0 := hid (fun w => scale_1 w)
 have HN0 := hid (fun w => neg_1 w)
 have hz0 := heap_alloc_new w (.cells #[.bool false, .int .i8 0, .int .u64 0] 55)
 have HC0 := hid ((Chg.refl (fun _ => False) w).alloc (.cells #[.bool false, .int .i8 0, .int .u64 0] 55))
 have HTE := hid (fun w1 (h : Chg (fun _ => False) (w.alloc (.cells #[.bool false, .int .i8 0, .int .u64 0] 55)) w1) => (he.kept HC0.out).kept h)
 have HX := hid (fun w1 (k : Chg (fun _ => False) w w1) => hx.kept k)
 have HBX := hid (fun w1 (h : Chg (fun _ => False) (w.alloc (.cells #[.bool false, .int .i8 0, .int .u64 0] 55)) w1) => kept_heap h hz0)
 obtain ⟨tv, vv, HOV⟩ : ∃ t v, Hid (∀ w1, Chg (fun _ => False) (w.alloc (.cells #[.bool false, .int .i8 0, .int .u64 0] 55)) w1 → w1.cell? ⟨0, 0, none⟩ = some (.iface t v)) := by
  obtain ⟨t, v, h⟩ := (he.kept HC0.out).ovf
  exact ⟨t, v, hid (fun w1 hc => cell_kept h hc (fun h => h))⟩
 have hgl : 0 < w.heap.size := by
  obtain ⟨t, v, h⟩ := he.ovf
  exact World.block_lt_of_cell? w _ h
 have hne1 : ¬ w.heap.size = 0 := by omega
 have hne2 : ¬ 0 = w.heap.size := by omega
 clear hgl
 have HOK := hid hok
 obtain ⟨L, hL⟩ : ∃ L, l.length = L := ⟨_, rfl⟩
 rw [hL] at hl
 rw [hL]
 have hk := Chg.refl (fun _ => False) (w.alloc (.cells #[.bool false, .int .i8 0, .int .u64 0] 55))
 clear he hx hok hz0
 have hfc := field_coef
 go_enter Tryz.func80, Tryz.ntmps80
 go_wp2_with (first | (go_at_call 107; refine (HZ.out _).mono ?_; intro e w1 h; obtain ⟨he1, hc1⟩ := h; subst he1; replace hk := hk.trans hc1 sb_; clear hc1) | (go_at_call 66; refine (HS0.out _).mono ?_; intro e w1 h; obtain ⟨he1, hc1⟩ := h; subst he1; replace hk := hk.trans hc1 sb_; clear hc1) | (go_at_call 64; refine (HN0.out _).mono ?_; intro e w1 h; obtain ⟨he1, hc1⟩ := h; subst he1; replace hk := hk.trans hc1 sb_; clear hc1))
 go_loopw [4, 5, 6, 19] (fun c s n i wr => ∃ k : Nat, k ≤ L ∧ i = .int .i64 k ∧ c = .int .u64 (((prodL (l.take k)).2.1 : Nat) : Int) ∧ s = .int .i64 (((prodL (l.take k)).2.2 : Nat) : Int) ∧ n = .bool (prodL (l.take k)).1 ∧ Hid ((prodL (l.take k)).2.1 < 10 ^ 19) ∧ Hid (Chg (fun _ => False) (w.alloc (.cells #[.bool false, .int .i8 0, .int .u64 0] 55)) wr)) (fun _ _ _ i _ => L - (intOf i).toNat)
 case atStart => exact ⟨0, Nat.zero_le _, rfl, rfl, rfl, rfl, hid (show (1 : Nat) < 10 ^ 19 by decide), hid hk⟩
 case round =>
  obtain ⟨k, hkl, he1, he2, he3, he4, HA, HK⟩ := hrel
  subst he1 he2 he3 he4
  clear hk
  by_cases hlt : k < L
  ·obtain ⟨⟨m, d, t⟩, hf⟩ : ∃ f, l[k]? = some f := ⟨_, List.getElem?_eq_getElem (by omega)⟩
   obtain ⟨a, hA, g0, g1, g2⟩ := (HX.out _ (HC0.out.trans HK.out sb_)) k m d t hf
   subst hA
   obtain ⟨f1, f2, _⟩ := HOK.out _ (List.mem_of_getElem? hf)
   simp only at f1 f2
   obtain ⟨b1, _, _⟩ := prodL_ok (l := l.take k) (fun f hf => HOK.out f (List.mem_of_mem_take hf)) (by rw [List.length_take]; omega)
   have hsn : prodL (l.take (k + 1)) = stepP (prodL (l.take k)) (m, d, t) := by rw [List.take_add_one, hf]; exact prodL_snoc _ _
   have hlt' : (k : Int) < (L : Int) := by omega
   have hinc : IntKind.i64.wrap ((k : Int) + 1) = ((k + 1 : Nat) : Int) := by rw [IntWalk.i64_in _ (by omega)]; omega
   have HSF := hid (fun w => Scale_any m (d : Int) t f2 w)
   have HNF := hid (fun w => IsNeg_any m (d : Int) t w)
   have hc9 := HA.out
   generalize prodL (l.take k) = st at *
   obtain ⟨n, C, S⟩ := st
   simp only [stepP] at hsn b1 hc9
   have HB := hid (fun w1 (h : Chg (fun _ => False) (wr.alloc (.cells #[.bool m, .int .i8 t, .int .u64 (d : Int)] 55)) w1) => cell3 (kept_heap h (heap_alloc_new wr (.cells #[.bool m, .int .i8 t, .int .u64 (d : Int)] 55))))
   have HC1 := hid (HK.out.alloc (.cells #[.bool m, .int .i8 t, .int .u64 (d : Int)] 55))
   have hk2 := Chg.refl (fun _ => False) (wr.alloc (.cells #[.bool m, .int .i8 t, .int .u64 (d : Int)] 55))
   obtain ⟨d0, d1, d2, _, _, _⟩ := HB.out _ hk2
   have hw1 : IntKind.i64.wrap ((S : Int) + (t : Int)) = ((S + t : Nat) : Int) := by rw [show (S : Int) + (t : Int) = ((S + t : Nat) : Int) by omega]; exact IntWalk.i64_in _ (by omega)
   by_cases hov : C * d < 10 ^ 19
   ·have HMU := hid (fun w => mulN_ok hc9 f1 hov w)
    obtain ⟨X, hX⟩ : ∃ X, C * d = X := ⟨_, rfl⟩
    rw [hX] at HMU hov hsn
    clear hX f1 hc9
    go_wp2_with (first | (go_at_call 66; refine (HSF.out _).mono ?_; intro e w1 h; obtain ⟨he1, hc1⟩ := h; subst he1; replace hk2 := hk2.trans hc1 sb_; clear hc1 d0 d1 d2; obtain ⟨d0, d1, d2, _, _, _⟩ := HB.out _ hk2) | (go_at_call 64; refine (HNF.out _).mono ?_; intro e w1 h; obtain ⟨he1, hc1⟩ := h; subst he1; replace hk2 := hk2.trans hc1 sb_; clear hc1 d0 d1 d2; obtain ⟨d0, d1, d2, _, _, _⟩ := HB.out _ hk2) | (go_at_call 108; refine (HMU.out _).mono ?_; intro e w2 h; obtain ⟨he1, he2⟩ := h; subst he1; subst he2))
    go_roundw
    case rel => exact ⟨k + 1, by omega, rfl, by rw [hsn], by rw [hsn, show (((n != m, X, S + t) : DT).2.2 : Int) = (S : Int) + (t : Int) from Int.natCast_add S t], by rw [hsn] <;> (cases n <;> cases m <;> rfl), by rw [hsn]; exact hid hov, hid (HC1.out.trans hk2 sb_)⟩
    case measure => simp [intOf]; omega
   ·have HMU := hid (fun w => mulN_no hc9 f1 hov w)
    clear hov f1 hc9
    go_wp2_with (first | (go_at_call 66; refine (HSF.out _).mono ?_; intro e w1 h; obtain ⟨he1, hc1⟩ := h; subst he1; replace hk2 := hk2.trans hc1 sb_; clear hc1 d0 d1 d2; obtain ⟨d0, d1, d2, _, _, _⟩ := HB.out _ hk2) | (go_at_call 64; refine (HNF.out _).mono ?_; intro e w1 h; obtain ⟨he1, hc1⟩ := h; subst he1; replace hk2 := hk2.trans hc1 sb_; clear hc1 d0 d1 d2; obtain ⟨d0, d1, d2, _, _, _⟩ := HB.out _ hk2) | (go_at_call 108; refine (HMU.out _).mono ?_; intro e w2 h; obtain ⟨he1, he2⟩ := h; subst he1; subst he2))
    have hk3 := HC1.out.trans hk2 sb_
    have ov := HOV.out _ hk3
    obtain ⟨z0, z1, z2, y0, y1, y2⟩ := cell3 (HBX.out _ hk3)
    go_region
    all_goals (go_wp2_with fail; refine bodyPost_ret (v := .tuple #[.agg #[.bool false, .int .i8 0, .int .u64 0], .iface tv vv]) (dec_result rfl _ _ w.heap.size _ _ _ _ 55 rfl rfl (store3 (HBX.out _ hk3) _ _ _)) rfl ⟨false, none, .inl rfl, (chg3 (HC0.out.trans hk3 sb_) (by omega) _ _ _).drew, tv, vv, rfl⟩)
  ·obtain rfl : k = L := by omega
   have hst : prodL (l.take k) = prodL l := by rw [List.take_of_length_le (by omega)]
   obtain ⟨b1, _, _⟩ := prodL_ok (fun f hf => HOK.out f hf) (by omega)
   have hge : ¬ (k : Int) < (k : Int) := by omega
   have hc9 := HA.out
   rw [hst] at hc9
   have HF := hid (fun w he => nff_some' (prodL l).1 hc9 (Nat.le_trans b1 (by omega)) w he)
   rw [← hst] at HF
   have HPE := hid (fun sg o (h : SomeOf (prodL (l.take k)).1 (prodL (l.take k)).2.1 (prodL (l.take k)).2.2 sg o) => hst ▸ h)
   generalize prodL (l.take k) = st at *
   obtain ⟨n, C, S⟩ := st
   simp only at HF HPE
   have hk := HK.out
   obtain ⟨k0, k1, k2, r0, r1, r2⟩ := cell3 (HBX.out _ hk)
   clear hc9 b1
   go_wp2_with (go_at_call 97; refine (HF.out _ (HTE.out _ hk)).mono ?_; intro e w1 h; obtain ⟨na, nb, nc, nv, he1, hc1, hp⟩ := h.op; subst he1; replace hk := hk.trans hc1 sb_; clear h; clear k0 k1 k2 r0 r1 r2; obtain ⟨k0, k1, k2, r0, r1, r2⟩ := cell3 (HBX.out _ hk); have HP := hid hp; clear hp hc1)
   exact bodyPost_ret (v := .tuple #[.agg #[.bool na, .int .i8 nb, .int .u64 nc], nv]) (dec_result rfl _ _ w.heap.size _ _ _ _ 55 rfl rfl (store3 (HBX.out _ hk) _ _ _)) rfl (PX.imp (HP.out.move (chg3 (HC0.out.trans hk sb_) (by omega) _ _ _)) HPE.out)
end Go.Proofs.YtbjhnckboimliaaGreatDoor
