/- Part 18 of the proof. -/
import Derived.Test.YtlbjjhecgceiaaaGreatDoorP17
namespace Go.Proofs.YtlbjjhecgceiaaaGreatDoor
open Go.RowKit Go.Proofs.YtlbjjhecgceiaaaGreatDoorW.PrintWords Go.Proofs.YtlbjjhecgceiaaaGreatDoorW.PrintLast Go.Proofs.YtlbjjhecgceiaaaGreatDoorW.PrintMore PFnFixSubExact
set_option linter.unusedVariables false
set_option linter.unusedSimpArgs false
set_option maxRecDepth 20000
theorem rhe_up {N x : Nat} (h : x < 2 * (N % x) ∨ (x = 2 * (N % x) ∧ (N / x) % 2 = 1)) : rhe N x = N / x + 1 := by unfold rhe; rw [if_pos h]
theorem rhe_no {N x : Nat} (h : ¬ (x < 2 * (N % x) ∨ (x = 2 * (N % x) ∧ (N / x) % 2 = 1))) : rhe N x = N / x := by unfold rhe; rw [if_neg h]
theorem SN.head {w : World} {A : Option Addr} {n c a : Nat} (h : SN w A n c a) (h0 : 0 < n) : ∃ (ad : Addr) (y : Int), A = some ad ∧ 0 ≤ y ∧ y < 1000000000 ∧ y % 2 = (a : Int) % 2 ∧ w.cell? ad = some (.int .u32 y) := by
 obtain ⟨xs, rfl, h2, h3, h4⟩ := h
 obtain ⟨ad, e, hc⟩ := Kd.at_int h3 0 (by omega) (by omega)
 have hr : rd xs 0 = xs.getD 0 0 := rd_nat xs 0
 obtain ⟨b0, b1⟩ := h4.lms.getD 0
 refine ⟨ad, xs.getD 0 0, e, b0, b1, ?_, ?_⟩
 ·rw [← h4.val, ← List.drop_zero (l := xs), drop_get]
  simp only [List.drop_zero]
  omega
 ·rw [← hr]
  simpa [Addr.add] using hc
set_option maxHeartbeats 4000000 in
theorem Round_exact {w : World} {A D1 : Option Addr} {n c p1 q1 a x : Nat} (n1 sb : Bool) (p : Nat) (ha : SN w A n c a) (hx : SN w D1 p1 q1 x) (ha1 : a < tn 850) (hx1 : x < tn 850) (hx0 : 0 < x) (hp : p ≤ 60) (hr : (a * 10 ^ p) % x = 0) (hsb : (n1 && (a * 10 ^ p) / x != 0) = sb) :
  Calls Tryz.prog 17 #[.agg #[.bool n1, .slice A n c, .slice D1 p1 q1], .int .i64 (p : Int), .int .i64 5] w (PDN w sb ((a * 10 ^ p) / x) (-(p : Int))) := by
 have h19 : (10 : Nat) ^ p < 10 ^ 61 := Nat.pow_lt_pow_right (by omega) (by omega)
 have hN : a * 10 ^ p < tn (850 + 61) := mul_tn ha1 h19
 have hNd : a * 10 ^ p < tn 1764 := up_tn hN (by omega)
 have hR : (a * 10 ^ p) % x < tn 850 := Nat.lt_trans (Nat.mod_lt _ hx0) hx1
 have hRR : (a * 10 ^ p) % x + (a * 10 ^ p) % x < tn 1800 := by
  exact two_tn hR hR (by omega)
 have hQ : (a * 10 ^ p) / x < tn 1800 := Nat.lt_of_le_of_lt (Nat.div_le_self _ _) (up243 hN (by omega))
 have HP := hid (fun w1 => Pow10_any (w := w1) p (by omega))
 have HM := hid (fun w1 (E : Option Addr) (k l : Nat) (h : Chg (fun _ => False) w w1) (h1 : SN w1 E k l (10 ^ p)) => NatMul_any (ha.kept h) h1 (up243 ha1 (by omega)) (lt_tn h19 (by omega)))
 have HDv := hid (fun w1 (E : Option Addr) (k l : Nat) (h : Chg (fun _ => False) w w1) (h1 : SN w1 E k l (a * 10 ^ p)) => NatDiv_any h1 (hx.kept h) hNd (up_tn hx1 (by omega)) hx0)
 have HA2 := hid (fun w1 (E : Option Addr) (k l : Nat) (h1 : SN w1 E k l ((a * 10 ^ p) % x)) => NatAdd_any h1 h1 (up243 hR (by omega)) (up243 hR (by omega)))
 have HCM := hid (fun w1 (E : Option Addr) (k l : Nat) (h : Chg (fun _ => False) w w1) (h1 : SN w1 E k l ((a * 10 ^ p) % x + (a * 10 ^ p) % x)) => NatCmp_any h1 (hx.kept h) hRR (up243 hx1 (by omega)))
 have HO := hid (fun w1 => one_any (w := w1))
 have HA1 := hid (fun w1 (E : Option Addr) (k l : Nat) (G : Option Addr) (i j : Nat) (h1 : SN w1 E k l ((a * 10 ^ p) / x)) (h2 : SN w1 G i j 1) => NatAdd_any h1 h2 hQ (pow_tn (j := 0) (by omega)))
 have HH := hid hsb
 obtain ⟨e0, he0⟩ : ∃ e0 : Int, -(p : Int) = e0 := ⟨_, rfl⟩
 have hw : IntKind.i64.wrap (-(p : Int)) = e0 := by rw [← he0]; exact IntWalk.i64_in _ (by omega)
 have hge : (0 : Int) ≤ (p : Int) := by omega
 rw [he0]
 have HR0 := hid hr
 clear he0 hsb ha hx ha1 hx1 hx0 hp h19 hN hNd hR hRR hQ hr
 generalize 10 ^ p = T at *
 generalize a * T = N at *
 obtain ⟨HC0, HD, hB0, hB1⟩ := box2 w #[.bool n1, .slice A n c, .slice D1 p1 q1] 34 #[.bool false, .slice none 0 0, .int .i64 0] 43
 have HZ := hid hB1
 have HSS := hid (fun (w1 : World) h => c3_ (cell3 (kept_heap (w' := w1) h hB0)))
 have HST := hid (fun w1 x0 x1 x2 h => And.intro (fr_ (w.heap.size + 1) x0 x1 x2 (HSS.out w1 h).1) (And.intro (fr_ (w.heap.size + 1) x0 x1 x2 (HSS.out w1 h).2.1) (fr_ (w.heap.size + 1) x0 x1 x2 (HSS.out w1 h).2.2)))
 clear hB0 hB1
 have hk := Chg.refl (fun _ => False) ((w.alloc (.cells #[.bool n1, .slice A n c, .slice D1 p1 q1] 34)).alloc (.cells #[.bool false, .slice none 0 0, .int .i64 0] 43))
 go_enter Tryz.func17, Tryz.ntmps17
 go_wp2_with fail
 have hk := hk.drew
 first | (go_region_held3 (fun w' => w'.cell? ⟨w.heap.size, 0, none⟩ = some (.bool n1) ∧ w'.cell? ⟨w.heap.size, 1, none⟩ = some (.slice A n c) ∧ w'.cell? ⟨w.heap.size, 2, none⟩ = some (.slice D1 p1 q1)) (first | with_reducible exact HSS.out _ hk | with_reducible exact HST.out _ _ _ _ hk | go_keep) (first | fail)) | fail
 go_wp2_with (first | (go_at_call 41; refine (HP.out _).mono ?_; intro e w1 h; obtain ⟨E1, k1_, l1_, he, hsn, hc⟩ := h; subst he; replace hk := hk.trans hc sb_; skip; have HN1 := hid hsn; clear hsn; clear hc; obtain ⟨k0, k1, k2, f0, f1, f2⟩ := cell3 (kept_heap hk HZ.out)) | (go_at_call 40; refine (HM.out _ _ _ _ (HC0.out.trans hk sb_) HN1.out).mono ?_; intro e w1 h; obtain ⟨E2, k2_, l2_, he, hsn, hc⟩ := h; subst he; replace hk := hk.trans hc sb_; skip; have HN2 := hid hsn; clear hsn; clear hc; obtain ⟨k0, k1, k2, f0, f1, f2⟩ := cell3 (kept_heap hk HZ.out)))
 go_at_call 43
 refine (HDv.out _ _ _ _ (HC0.out.trans hk sb_) HN2.out).mono ?_
 intro e w1 h
 obtain ⟨EQ, kq, lq, ER, kr, lr, he, hs1, hs2, hc⟩ := h
 subst he
 replace hk := hk.trans hc sb_
 clear hc
 obtain ⟨k0, k1, k2, f0, f1, f2⟩ := cell3 (kept_heap hk HZ.out)
 have hkr : kr = 0 := hs2.zero.2 HR0.out
 subst hkr
 obtain ⟨d0, d1, d2⟩ := HSS.out _ hk
 have HQ := hid hs1
 have HR := hid hs2
 clear hs1 hs2
 go_wp2_with fail
 go_quiet (fail)
 all_goals (go_wp2_with (first | (go_at_call 39; refine (wholeOf_sn n1 sb (HQ.out.kept ((Chg.refl _ _).drewN _)) HH.out).mono ?_; intro e w2 h; obtain ⟨he, hc⟩ := h; subst he; replace HQ := hid (HQ.out.kept (((Chg.refl (fun _ => False) _).drewN _).trans hc sb_)); replace hk := (hk.drewN _).trans hc sb_; clear hc; obtain ⟨k0, k1, k2, f0, f1, f2⟩ := cell3 (kept_heap hk HZ.out))); refine bodyPost_ret (v := .agg #[.bool sb, .slice EQ kq lq, .int .i64 e0]) (by rw [results_cell_row rfl _ _ (w.heap.size + 1) _ _ _ _ rfl (store3 (kept_heap hk HZ.out) _ _ _) Tryz.underlying43 rfl sdec_size]) rfl ⟨_, _, _, rfl, sn_end3 HQ.out (kept_heap hk HZ.out) (by simp) _ _ _, chg3 (HC0.out.trans hk sb_) (by omega) _ _ _⟩)
theorem odd_cast (a : Nat) : ((a : Int) % 2 == 1) = (a % 2 == 1) := by
 by_cases h : a % 2 = 1
 ·have h2 : (a : Int) % 2 = 1 := by omega
  rw [h, h2]; rfl
 ·have h2 : (a : Int) % 2 = 0 := by omega
  have h3 : a % 2 = 0 := by omega
  rw [h3, h2]; rfl
theorem cell_kept2 {w w' : World} {ad : Addr} {v : Value} (h : w.cell? ad = some v) (hc : Chg (fun _ => False) w w') : w'.cell? ad = some v := by
 have hl := World.block_lt_of_cell? w _ h
 unfold World.cell? at *
 rw [hc.keep _ hl (fun h => h)]; exact h
theorem cmpN_pos (a b : Nat) : (0 < cmpN a b) ↔ b < a := by
 unfold cmpN
 by_cases h1 : a < b
 ·rw [if_pos h1]; omega
 ·rw [if_neg h1]
  by_cases h2 : a = b
  ·rw [if_pos h2]; omega
  ·rw [if_neg h2]; omega
theorem round_yes (R x Q : Nat) (h : x < 2 * R ∨ (x = 2 * R ∧ Q % 2 = 1)) : (decide (0 < cmpN (R + R) x) || (cmpN (R + R) x == 0 && (Q % 2 == 1))) = true := by
 rcases h with h | ⟨h1, h2⟩
 ·have : 0 < cmpN (R + R) x := (cmpN_pos _ _).2 (by omega)
  simp [this]
 ·have : cmpN (R + R) x = 0 := (cmpN_zero _ _).2 (by omega)
  simp [this, h2]
theorem round_not (R x Q : Nat) (h : ¬ (x < 2 * R ∨ (x = 2 * R ∧ Q % 2 = 1))) : (decide (0 < cmpN (R + R) x) || (cmpN (R + R) x == 0 && (Q % 2 == 1))) = false := by
 have h1 : ¬ 0 < cmpN (R + R) x := fun h2 => h (.inl (by have := (cmpN_pos _ _).1 h2; omega))
 by_cases h3 : cmpN (R + R) x = 0
 ·have h4 := (cmpN_zero _ _).1 h3
  have h5 : ¬ Q % 2 = 1 := fun h6 => h (.inr ⟨by omega, h6⟩)
  simp [h3, h5]
 ·simp [h1, h3]
set_option maxHeartbeats 4000000 in
theorem Round_qup {w : World} {A D1 : Option Addr} {n c p1 q1 a x : Nat} (n1 sb : Bool) (p : Nat) (ha : SN w A n c a) (hx : SN w D1 p1 q1 x) (ha1 : a < tn 850) (hx1 : x < tn 850) (hx0 : 0 < x) (hp : p ≤ 60) (hr : (a * 10 ^ p) % x ≠ 0) (hq : (a * 10 ^ p) / x ≠ 0) (hup : (x < 2 * ((a * 10 ^ p) % x) ∨ (x = 2 * ((a * 10 ^ p) % x) ∧ ((a * 10 ^ p) / x) % 2 = 1))) (hsb : (n1 && ((a * 10 ^ p) / x + 1) != 0) = sb) :
  Calls Tryz.prog 17 #[.agg #[.bool n1, .slice A n c, .slice D1 p1 q1], .int .i64 (p : Int), .int .i64 5] w (PDN w sb (((a * 10 ^ p) / x + 1)) (-(p : Int))) := by
 have h19 : (10 : Nat) ^ p < 10 ^ 61 := Nat.pow_lt_pow_right (by omega) (by omega)
 have hN : a * 10 ^ p < tn (850 + 61) := mul_tn ha1 h19
 have hNd : a * 10 ^ p < tn 1764 := up_tn hN (by omega)
 have hR : (a * 10 ^ p) % x < tn 850 := Nat.lt_trans (Nat.mod_lt _ hx0) hx1
 have hRR : (a * 10 ^ p) % x + (a * 10 ^ p) % x < tn 1800 := by
  exact two_tn hR hR (by omega)
 have hQ : (a * 10 ^ p) / x < tn 1800 := Nat.lt_of_le_of_lt (Nat.div_le_self _ _) (up243 hN (by omega))
 have HP := hid (fun w1 => Pow10_any (w := w1) p (by omega))
 have HM := hid (fun w1 (E : Option Addr) (k l : Nat) (h : Chg (fun _ => False) w w1) (h1 : SN w1 E k l (10 ^ p)) => NatMul_any (ha.kept h) h1 (up243 ha1 (by omega)) (lt_tn h19 (by omega)))
 have HDv := hid (fun w1 (E : Option Addr) (k l : Nat) (h : Chg (fun _ => False) w w1) (h1 : SN w1 E k l (a * 10 ^ p)) => NatDiv_any h1 (hx.kept h) hNd (up_tn hx1 (by omega)) hx0)
 have HA2 := hid (fun w1 (E : Option Addr) (k l : Nat) (h1 : SN w1 E k l ((a * 10 ^ p) % x)) => NatAdd_any h1 h1 (up243 hR (by omega)) (up243 hR (by omega)))
 have HCM := hid (fun w1 (E : Option Addr) (k l : Nat) (h : Chg (fun _ => False) w w1) (h1 : SN w1 E k l ((a * 10 ^ p) % x + (a * 10 ^ p) % x)) => NatCmp_any h1 (hx.kept h) hRR (up243 hx1 (by omega)))
 have HO := hid (fun w1 => one_any (w := w1))
 have HA1 := hid (fun w1 (E : Option Addr) (k l : Nat) (G : Option Addr) (i j : Nat) (h1 : SN w1 E k l ((a * 10 ^ p) / x)) (h2 : SN w1 G i j 1) => NatAdd_any h1 h2 hQ (pow_tn (j := 0) (by omega)))
 have HH := hid hsb
 obtain ⟨e0, he0⟩ : ∃ e0 : Int, -(p : Int) = e0 := ⟨_, rfl⟩
 have hw : IntKind.i64.wrap (-(p : Int)) = e0 := by rw [← he0]; exact IntWalk.i64_in _ (by omega)
 have hge : (0 : Int) ≤ (p : Int) := by omega
 rw [he0]
 have HR0 := hid hr
 have HQ0 := hid hq
 obtain ⟨ob, hob⟩ : ∃ ob, ((a * 10 ^ p) / x % 2 == 1) = ob := ⟨_, rfl⟩
 have hub : (decide (0 < cmpN ((a * 10 ^ p) % x + (a * 10 ^ p) % x) x) || (cmpN ((a * 10 ^ p) % x + (a * 10 ^ p) % x) x == 0 && ob)) = true := by
  rw [← hob]
  exact round_yes _ _ _ hup
 have HRD := hid (fun w => rounds_any n1 ob (cmpN ((a * 10 ^ p) % x + (a * 10 ^ p) % x) x) w)
 rw [hub] at HRD
 have HOB := hid hob
 generalize cmpN ((a * 10 ^ p) % x + (a * 10 ^ p) % x) x = cq at *
 clear he0 hsb ha hx ha1 hx1 hx0 hp h19 hN hNd hR hRR hQ hr hq hup hub hob
 generalize 10 ^ p = T at *
 generalize a * T = N at *
 obtain ⟨HC0, HD, hB0, hB1⟩ := box2 w #[.bool n1, .slice A n c, .slice D1 p1 q1] 34 #[.bool false, .slice none 0 0, .int .i64 0] 43
 have HZ := hid hB1
 have HSS := hid (fun (w1 : World) h => c3_ (cell3 (kept_heap (w' := w1) h hB0)))
 have HST := hid (fun w1 x0 x1 x2 h => And.intro (fr_ (w.heap.size + 1) x0 x1 x2 (HSS.out w1 h).1) (And.intro (fr_ (w.heap.size + 1) x0 x1 x2 (HSS.out w1 h).2.1) (fr_ (w.heap.size + 1) x0 x1 x2 (HSS.out w1 h).2.2)))
 clear hB0 hB1
 have hk := Chg.refl (fun _ => False) ((w.alloc (.cells #[.bool n1, .slice A n c, .slice D1 p1 q1] 34)).alloc (.cells #[.bool false, .slice none 0 0, .int .i64 0] 43))
 go_enter Tryz.func17, Tryz.ntmps17
 go_wp2_with fail
 have hk := hk.drew
 first | (go_region_held3 (fun w' => w'.cell? ⟨w.heap.size, 0, none⟩ = some (.bool n1) ∧ w'.cell? ⟨w.heap.size, 1, none⟩ = some (.slice A n c) ∧ w'.cell? ⟨w.heap.size, 2, none⟩ = some (.slice D1 p1 q1)) (first | with_reducible exact HSS.out _ hk | with_reducible exact HST.out _ _ _ _ hk | go_keep) (first | fail)) | fail
 go_wp2_with (first | (go_at_call 41; refine (HP.out _).mono ?_; intro e w1 h; obtain ⟨E1, k1_, l1_, he, hsn, hc⟩ := h; subst he; replace hk := hk.trans hc sb_; skip; have HN1 := hid hsn; clear hsn; clear hc; obtain ⟨k0, k1, k2, f0, f1, f2⟩ := cell3 (kept_heap hk HZ.out)) | (go_at_call 40; refine (HM.out _ _ _ _ (HC0.out.trans hk sb_) HN1.out).mono ?_; intro e w1 h; obtain ⟨E2, k2_, l2_, he, hsn, hc⟩ := h; subst he; replace hk := hk.trans hc sb_; skip; have HN2 := hid hsn; clear hsn; clear hc; obtain ⟨k0, k1, k2, f0, f1, f2⟩ := cell3 (kept_heap hk HZ.out)))
 go_at_call 43
 refine (HDv.out _ _ _ _ (HC0.out.trans hk sb_) HN2.out).mono ?_
 intro e w1 h
 obtain ⟨EQ, kq, lq, ER, kr, lr, he, hs1, hs2, hc⟩ := h
 subst he
 replace hk := hk.trans hc sb_
 clear hc
 obtain ⟨k0, k1, k2, f0, f1, f2⟩ := cell3 (kept_heap hk HZ.out)
 have hkr : 0 < kr := Nat.pos_of_ne_zero (fun h => HR0.out (hs2.zero.1 h))
 have hkq : 0 < kq := Nat.pos_of_ne_zero (fun h => HQ0.out (hs1.zero.1 h))
 obtain ⟨ad, y, hea, hy0, hy1, hy2, hyc⟩ := hs1.head hkq
 subst hea
 have hyb : (Int.tmod y 2 == 1) = ob := by (rw [← HOB.out, Int.tmod_eq_emod_of_nonneg hy0, hy2]; exact odd_cast _)
 have HYC := hid (fun w2 (h : Chg (fun _ => False) w1 w2) => cell_kept2 hyc h)
 clear hyc hy2
 have hw6 := Chg.refl (fun _ => False) w1
 obtain ⟨d0, d1, d2⟩ := HSS.out _ hk
 have HQ := hid hs1
 have HR := hid hs2
 clear hs1 hs2
 go_wp2_with fail
 have hk := hk.drew
 have hw6 := hw6.drew
 replace HQ := hid (HQ.out.kept (Chg.refl (fun _ => False) w1).drew)
 replace HR := hid (HR.out.kept (Chg.refl (fun _ => False) w1).drew)
 have HS6 := hid (fun w2 (h1 : Chg (fun _ => False) ((w.alloc (.cells #[.bool n1, .slice A n c, .slice D1 p1 q1] 34)).alloc (.cells #[.bool false, .slice none 0 0, .int .i64 0] 43)) w2) (h2 : Chg (fun _ => False) w1 w2) => (show w2.cell? ⟨w.heap.size, 0, none⟩ = some (.bool n1) ∧ w2.cell? ⟨w.heap.size, 1, none⟩ = some (.slice A n c) ∧ w2.cell? ⟨w.heap.size, 2, none⟩ = some (.slice D1 p1 q1) ∧ w2.cell? ad = some (.int .u32 y) from ⟨(HSS.out _ h1).1, (HSS.out _ h1).2.1, (HSS.out _ h1).2.2, HYC.out _ h2⟩))
 first | (go_region_held3 (fun w' => w'.cell? ⟨w.heap.size, 0, none⟩ = some (.bool n1) ∧ w'.cell? ⟨w.heap.size, 1, none⟩ = some (.slice A n c) ∧ w'.cell? ⟨w.heap.size, 2, none⟩ = some (.slice D1 p1 q1) ∧ w'.cell? ad = some (.int .u32 y)) (first | with_reducible exact HS6.out _ hk hw6) (first | (go_at_call 46; refine (HA2.out _ _ _ _ HR.out).mono ?_; intro e w1 h; obtain ⟨E5, k5_, l5_, he, hsn, hc⟩ := h; subst he; replace hk := hk.trans hc sb_; (try replace HQ := hid (HQ.out.kept hc)); (try replace HR := hid (HR.out.kept hc)); (try replace HN5 := hid (HN5.out.kept hc)); (try replace HN6 := hid (HN6.out.kept hc)); (try replace HN7 := hid (HN7.out.kept hc)); replace hw6 := hw6.trans hc sb_; have HN5 := hid hsn; clear hsn; clear hc; obtain ⟨k0, k1, k2, f0, f1, f2⟩ := cell3 (kept_heap hk HZ.out)) | (go_at_call 45; refine (HCM.out _ _ _ _ (HC0.out.trans hk sb_) HN5.out).mono ?_; intro e w1 h; obtain ⟨he, hc⟩ := h; subst he; replace hk := hk.trans hc sb_; (try replace HQ := hid (HQ.out.kept hc)); (try replace HR := hid (HR.out.kept hc)); (try replace HN5 := hid (HN5.out.kept hc)); (try replace HN6 := hid (HN6.out.kept hc)); (try replace HN7 := hid (HN7.out.kept hc)); replace hw6 := hw6.trans hc sb_; skip; clear hc; obtain ⟨k0, k1, k2, f0, f1, f2⟩ := cell3 (kept_heap hk HZ.out)) | (go_at_call 44; refine (HRD.out _).mono ?_; intro e w1 h; obtain ⟨he, hc⟩ := h; subst he; replace hk := hk.trans hc sb_; (try replace HQ := hid (HQ.out.kept hc)); (try replace HR := hid (HR.out.kept hc)); (try replace HN5 := hid (HN5.out.kept hc)); (try replace HN6 := hid (HN6.out.kept hc)); (try replace HN7 := hid (HN7.out.kept hc)); replace hw6 := hw6.trans hc sb_; skip; clear hc; obtain ⟨k0, k1, k2, f0, f1, f2⟩ := cell3 (kept_heap hk HZ.out)))) | fail
 all_goals (go_wp2_with (first | (go_at_call 42; refine (HO.out _).mono ?_; intro e w1 h; obtain ⟨E6, k6_, l6_, he, hsn, hc⟩ := h; subst he; replace hk := hk.trans hc sb_; (try replace HQ := hid (HQ.out.kept hc)); (try replace HR := hid (HR.out.kept hc)); (try replace HN5 := hid (HN5.out.kept hc)); (try replace HN6 := hid (HN6.out.kept hc)); (try replace HN7 := hid (HN7.out.kept hc)); have HN6 := hid hsn; clear hsn; clear hc; obtain ⟨k0, k1, k2, f0, f1, f2⟩ := cell3 (kept_heap hk HZ.out); obtain ⟨d0, d1, d2⟩ := HSS.out _ hk) | (go_at_call 46; refine (HA1.out _ _ _ _ _ _ _ HQ.out HN6.out).mono ?_; intro e w1 h; obtain ⟨E7, k7_, l7_, he, hsn, hc⟩ := h; subst he; replace hk := hk.trans hc sb_; (try replace HQ := hid (HQ.out.kept hc)); (try replace HR := hid (HR.out.kept hc)); (try replace HN5 := hid (HN5.out.kept hc)); (try replace HN6 := hid (HN6.out.kept hc)); (try replace HN7 := hid (HN7.out.kept hc)); have HN7 := hid hsn; clear hsn; clear hc; obtain ⟨k0, k1, k2, f0, f1, f2⟩ := cell3 (kept_heap hk HZ.out); obtain ⟨d0, d1, d2⟩ := HSS.out _ hk) | (go_at_call 39; refine (wholeOf_sn n1 sb HN7.out HH.out).mono ?_; intro e w1 h; obtain ⟨he, hc⟩ := h; subst he; replace hk := hk.trans hc sb_; (try replace HQ := hid (HQ.out.kept hc)); (try replace HR := hid (HR.out.kept hc)); (try replace HN5 := hid (HN5.out.kept hc)); (try replace HN6 := hid (HN6.out.kept hc)); (try replace HN7 := hid (HN7.out.kept hc)); skip; clear hc; obtain ⟨k0, k1, k2, f0, f1, f2⟩ := cell3 (kept_heap hk HZ.out))); refine bodyPost_ret (v := .agg #[.bool sb, .slice E7 k7_ l7_, .int .i64 e0]) (by rw [results_cell_row rfl _ _ (w.heap.size + 1) _ _ _ _ rfl (store3 (kept_heap hk HZ.out) _ _ _) Tryz.underlying43 rfl sdec_size]) rfl ⟨_, _, _, rfl, sn_end3 HN7.out (kept_heap hk HZ.out) (by simp) _ _ _, chg3 (HC0.out.trans hk sb_) (by omega) _ _ _⟩)
set_option maxHeartbeats 4000000 in
theorem Round_qno {w : World} {A D1 : Option Addr} {n c p1 q1 a x : Nat} (n1 sb : Bool) (p : Nat) (ha : SN w A n c a) (hx : SN w D1 p1 q1 x) (ha1 : a < tn 850) (hx1 : x < tn 850) (hx0 : 0 < x) (hp : p ≤ 60) (hr : (a * 10 ^ p) % x ≠ 0) (hq : (a * 10 ^ p) / x ≠ 0) (hup : ¬ (x < 2 * ((a * 10 ^ p) % x) ∨ (x = 2 * ((a * 10 ^ p) % x) ∧ ((a * 10 ^ p) / x) % 2 = 1))) (hsb : (n1 && (a * 10 ^ p) / x != 0) = sb) :
  Calls Tryz.prog 17 #[.agg #[.bool n1, .slice A n c, .slice D1 p1 q1], .int .i64 (p : Int), .int .i64 5] w (PDN w sb ((a * 10 ^ p) / x) (-(p : Int))) := by
 have h19 : (10 : Nat) ^ p < 10 ^ 61 := Nat.pow_lt_pow_right (by omega) (by omega)
 have hN : a * 10 ^ p < tn (850 + 61) := mul_tn ha1 h19
 have hNd : a * 10 ^ p < tn 1764 := up_tn hN (by omega)
 have hR : (a * 10 ^ p) % x < tn 850 := Nat.lt_trans (Nat.mod_lt _ hx0) hx1
 have hRR : (a * 10 ^ p) % x + (a * 10 ^ p) % x < tn 1800 := by
  exact two_tn hR hR (by omega)
 have hQ : (a * 10 ^ p) / x < tn 1800 := Nat.lt_of_le_of_lt (Nat.div_le_self _ _) (up243 hN (by omega))
 have HP := hid (fun w1 => Pow10_any (w := w1) p (by omega))
 have HM := hid (fun w1 (E : Option Addr) (k l : Nat) (h : Chg (fun _ => False) w w1) (h1 : SN w1 E k l (10 ^ p)) => NatMul_any (ha.kept h) h1 (up243 ha1 (by omega)) (lt_tn h19 (by omega)))
 have HDv := hid (fun w1 (E : Option Addr) (k l : Nat) (h : Chg (fun _ => False) w w1) (h1 : SN w1 E k l (a * 10 ^ p)) => NatDiv_any h1 (hx.kept h) hNd (up_tn hx1 (by omega)) hx0)
 have HA2 := hid (fun w1 (E : Option Addr) (k l : Nat) (h1 : SN w1 E k l ((a * 10 ^ p) % x)) => NatAdd_any h1 h1 (up243 hR (by omega)) (up243 hR (by omega)))
 have HCM := hid (fun w1 (E : Option Addr) (k l : Nat) (h : Chg (fun _ => False) w w1) (h1 : SN w1 E k l ((a * 10 ^ p) % x + (a * 10 ^ p) % x)) => NatCmp_any h1 (hx.kept h) hRR (up243 hx1 (by omega)))
 have HO := hid (fun w1 => one_any (w := w1))
 have HA1 := hid (fun w1 (E : Option Addr) (k l : Nat) (G : Option Addr) (i j : Nat) (h1 : SN w1 E k l ((a * 10 ^ p) / x)) (h2 : SN w1 G i j 1) => NatAdd_any h1 h2 hQ (pow_tn (j := 0) (by omega)))
 have HH := hid hsb
 obtain ⟨e0, he0⟩ : ∃ e0 : Int, -(p : Int) = e0 := ⟨_, rfl⟩
 have hw : IntKind.i64.wrap (-(p : Int)) = e0 := by rw [← he0]; exact IntWalk.i64_in _ (by omega)
 have hge : (0 : Int) ≤ (p : Int) := by omega
 rw [he0]
 have HR0 := hid hr
 have HQ0 := hid hq
 obtain ⟨ob, hob⟩ : ∃ ob, ((a * 10 ^ p) / x % 2 == 1) = ob := ⟨_, rfl⟩
 have hub : (decide (0 < cmpN ((a * 10 ^ p) % x + (a * 10 ^ p) % x) x) || (cmpN ((a * 10 ^ p) % x + (a * 10 ^ p) % x) x == 0 && ob)) = false := by
  rw [← hob]
  exact round_not _ _ _ hup
 have HRD := hid (fun w => rounds_any n1 ob (cmpN ((a * 10 ^ p) % x + (a * 10 ^ p) % x) x) w)
 rw [hub] at HRD
 have HOB := hid hob
 generalize cmpN ((a * 10 ^ p) % x + (a * 10 ^ p) % x) x = cq at *
 clear he0 hsb ha hx ha1 hx1 hx0 hp h19 hN hNd hR hRR hQ hr hq hup hub hob
 generalize 10 ^ p = T at *
 generalize a * T = N at *
 obtain ⟨HC0, HD, hB0, hB1⟩ := box2 w #[.bool n1, .slice A n c, .slice D1 p1 q1] 34 #[.bool false, .slice none 0 0, .int .i64 0] 43
 have HZ := hid hB1
 have HSS := hid (fun (w1 : World) h => c3_ (cell3 (kept_heap (w' := w1) h hB0)))
 have HST := hid (fun w1 x0 x1 x2 h => And.intro (fr_ (w.heap.size + 1) x0 x1 x2 (HSS.out w1 h).1) (And.intro (fr_ (w.heap.size + 1) x0 x1 x2 (HSS.out w1 h).2.1) (fr_ (w.heap.size + 1) x0 x1 x2 (HSS.out w1 h).2.2)))
 clear hB0 hB1
 have hk := Chg.refl (fun _ => False) ((w.alloc (.cells #[.bool n1, .slice A n c, .slice D1 p1 q1] 34)).alloc (.cells #[.bool false, .slice none 0 0, .int .i64 0] 43))
 go_enter Tryz.func17, Tryz.ntmps17
 go_wp2_with fail
 have hk := hk.drew
 first | (go_region_held3 (fun w' => w'.cell? ⟨w.heap.size, 0, none⟩ = some (.bool n1) ∧ w'.cell? ⟨w.heap.size, 1, none⟩ = some (.slice A n c) ∧ w'.cell? ⟨w.heap.size, 2, none⟩ = some (.slice D1 p1 q1)) (first | with_reducible exact HSS.out _ hk | with_reducible exact HST.out _ _ _ _ hk | go_keep) (first | fail)) | fail
 go_wp2_with (first | (go_at_call 41; refine (HP.out _).mono ?_; intro e w1 h; obtain ⟨E1, k1_, l1_, he, hsn, hc⟩ := h; subst he; replace hk := hk.trans hc sb_; skip; have HN1 := hid hsn; clear hsn; clear hc; obtain ⟨k0, k1, k2, f0, f1, f2⟩ := cell3 (kept_heap hk HZ.out)) | (go_at_call 40; refine (HM.out _ _ _ _ (HC0.out.trans hk sb_) HN1.out).mono ?_; intro e w1 h; obtain ⟨E2, k2_, l2_, he, hsn, hc⟩ := h; subst he; replace hk := hk.trans hc sb_; skip; have HN2 := hid hsn; clear hsn; clear hc; obtain ⟨k0, k1, k2, f0, f1, f2⟩ := cell3 (kept_heap hk HZ.out)))
 go_at_call 43
 refine (HDv.out _ _ _ _ (HC0.out.trans hk sb_) HN2.out).mono ?_
 intro e w1 h
 obtain ⟨EQ, kq, lq, ER, kr, lr, he, hs1, hs2, hc⟩ := h
 subst he
 replace hk := hk.trans hc sb_
 clear hc
 obtain ⟨k0, k1, k2, f0, f1, f2⟩ := cell3 (kept_heap hk HZ.out)
 have hkr : 0 < kr := Nat.pos_of_ne_zero (fun h => HR0.out (hs2.zero.1 h))
 have hkq : 0 < kq := Nat.pos_of_ne_zero (fun h => HQ0.out (hs1.zero.1 h))
 obtain ⟨ad, y, hea, hy0, hy1, hy2, hyc⟩ := hs1.head hkq
 subst hea
 have hyb : (Int.tmod y 2 == 1) = ob := by (rw [← HOB.out, Int.tmod_eq_emod_of_nonneg hy0, hy2]; exact odd_cast _)
 have HYC := hid (fun w2 (h : Chg (fun _ => False) w1 w2) => cell_kept2 hyc h)
 clear hyc hy2
 have hw6 := Chg.refl (fun _ => False) w1
 obtain ⟨d0, d1, d2⟩ := HSS.out _ hk
 have HQ := hid hs1
 have HR := hid hs2
 clear hs1 hs2
 go_wp2_with fail
 have hk := hk.drew
 have hw6 := hw6.drew
 replace HQ := hid (HQ.out.kept (Chg.refl (fun _ => False) w1).drew)
 replace HR := hid (HR.out.kept (Chg.refl (fun _ => False) w1).drew)
 have HS6 := hid (fun w2 (h1 : Chg (fun _ => False) ((w.alloc (.cells #[.bool n1, .slice A n c, .slice D1 p1 q1] 34)).alloc (.cells #[.bool false, .slice none 0 0, .int .i64 0] 43)) w2) (h2 : Chg (fun _ => False) w1 w2) => (show w2.cell? ⟨w.heap.size, 0, none⟩ = some (.bool n1) ∧ w2.cell? ⟨w.heap.size, 1, none⟩ = some (.slice A n c) ∧ w2.cell? ⟨w.heap.size, 2, none⟩ = some (.slice D1 p1 q1) ∧ w2.cell? ad = some (.int .u32 y) from ⟨(HSS.out _ h1).1, (HSS.out _ h1).2.1, (HSS.out _ h1).2.2, HYC.out _ h2⟩))
 first | (go_region_held3 (fun w' => w'.cell? ⟨w.heap.size, 0, none⟩ = some (.bool n1) ∧ w'.cell? ⟨w.heap.size, 1, none⟩ = some (.slice A n c) ∧ w'.cell? ⟨w.heap.size, 2, none⟩ = some (.slice D1 p1 q1) ∧ w'.cell? ad = some (.int .u32 y)) (first | with_reducible exact HS6.out _ hk hw6) (first | (go_at_call 46; refine (HA2.out _ _ _ _ HR.out).mono ?_; intro e w1 h; obtain ⟨E5, k5_, l5_, he, hsn, hc⟩ := h; subst he; replace hk := hk.trans hc sb_; (try replace HQ := hid (HQ.out.kept hc)); (try replace HR := hid (HR.out.kept hc)); (try replace HN5 := hid (HN5.out.kept hc)); (try replace HN6 := hid (HN6.out.kept hc)); (try replace HN7 := hid (HN7.out.kept hc)); replace hw6 := hw6.trans hc sb_; have HN5 := hid hsn; clear hsn; clear hc; obtain ⟨k0, k1, k2, f0, f1, f2⟩ := cell3 (kept_heap hk HZ.out)) | (go_at_call 45; refine (HCM.out _ _ _ _ (HC0.out.trans hk sb_) HN5.out).mono ?_; intro e w1 h; obtain ⟨he, hc⟩ := h; subst he; replace hk := hk.trans hc sb_; (try replace HQ := hid (HQ.out.kept hc)); (try replace HR := hid (HR.out.kept hc)); (try replace HN5 := hid (HN5.out.kept hc)); (try replace HN6 := hid (HN6.out.kept hc)); (try replace HN7 := hid (HN7.out.kept hc)); replace hw6 := hw6.trans hc sb_; skip; clear hc; obtain ⟨k0, k1, k2, f0, f1, f2⟩ := cell3 (kept_heap hk HZ.out)) | (go_at_call 44; refine (HRD.out _).mono ?_; intro e w1 h; obtain ⟨he, hc⟩ := h; subst he; replace hk := hk.trans hc sb_; (try replace HQ := hid (HQ.out.kept hc)); (try replace HR := hid (HR.out.kept hc)); (try replace HN5 := hid (HN5.out.kept hc)); (try replace HN6 := hid (HN6.out.kept hc)); (try replace HN7 := hid (HN7.out.kept hc)); replace hw6 := hw6.trans hc sb_; skip; clear hc; obtain ⟨k0, k1, k2, f0, f1, f2⟩ := cell3 (kept_heap hk HZ.out)))) | fail
 all_goals (go_wp2_with (first | (go_at_call 39; refine (wholeOf_sn n1 sb HQ.out HH.out).mono ?_; intro e w1 h; obtain ⟨he, hc⟩ := h; subst he; replace hk := hk.trans hc sb_; (try replace HQ := hid (HQ.out.kept hc)); (try replace HR := hid (HR.out.kept hc)); (try replace HN5 := hid (HN5.out.kept hc)); (try replace HN6 := hid (HN6.out.kept hc)); (try replace HN7 := hid (HN7.out.kept hc)); skip; clear hc; obtain ⟨k0, k1, k2, f0, f1, f2⟩ := cell3 (kept_heap hk HZ.out))); refine bodyPost_ret (v := .agg #[.bool sb, .slice (some ad) kq lq, .int .i64 e0]) (by rw [results_cell_row rfl _ _ (w.heap.size + 1) _ _ _ _ rfl (store3 (kept_heap hk HZ.out) _ _ _) Tryz.underlying43 rfl sdec_size]) rfl ⟨_, _, _, rfl, sn_end3 HQ.out (kept_heap hk HZ.out) (by simp) _ _ _, chg3 (HC0.out.trans hk sb_) (by omega) _ _ _⟩)
set_option maxHeartbeats 4000000 in
theorem Round_zup {w : World} {A D1 : Option Addr} {n c p1 q1 a x : Nat} (n1 sb : Bool) (p : Nat) (ha : SN w A n c a) (hx : SN w D1 p1 q1 x) (ha1 : a < tn 850) (hx1 : x < tn 850) (hx0 : 0 < x) (hp : p ≤ 60) (hr : (a * 10 ^ p) % x ≠ 0) (hq : (a * 10 ^ p) / x = 0) (hup : (x < 2 * ((a * 10 ^ p) % x) ∨ (x = 2 * ((a * 10 ^ p) % x) ∧ ((a * 10 ^ p) / x) % 2 = 1))) (hsb : (n1 && ((a * 10 ^ p) / x + 1) != 0) = sb) :
  Calls Tryz.prog 17 #[.agg #[.bool n1, .slice A n c, .slice D1 p1 q1], .int .i64 (p : Int), .int .i64 5] w (PDN w sb (((a * 10 ^ p) / x + 1)) (-(p : Int))) := by
 have h19 : (10 : Nat) ^ p < 10 ^ 61 := Nat.pow_lt_pow_right (by omega) (by omega)
 have hN : a * 10 ^ p < tn (850 + 61) := mul_tn ha1 h19
 have hNd : a * 10 ^ p < tn 1764 := up_tn hN (by omega)
 have hR : (a * 10 ^ p) % x < tn 850 := Nat.lt_trans (Nat.mod_lt _ hx0) hx1
 have hRR : (a * 10 ^ p) % x + (a * 10 ^ p) % x < tn 1800 := by
  exact two_tn hR hR (by omega)
 have hQ : (a * 10 ^ p) / x < tn 1800 := Nat.lt_of_le_of_lt (Nat.div_le_self _ _) (up243 hN (by omega))
 have HP := hid (fun w1 => Pow10_any (w := w1) p (by omega))
 have HM := hid (fun w1 (E : Option Addr) (k l : Nat) (h : Chg (fun _ => False) w w1) (h1 : SN w1 E k l (10 ^ p)) => NatMul_any (ha.kept h) h1 (up243 ha1 (by omega)) (lt_tn h19 (by omega)))
 have HDv := hid (fun w1 (E : Option Addr) (k l : Nat) (h : Chg (fun _ => False) w w1) (h1 : SN w1 E k l (a * 10 ^ p)) => NatDiv_any h1 (hx.kept h) hNd (up_tn hx1 (by omega)) hx0)
 have HA2 := hid (fun w1 (E : Option Addr) (k l : Nat) (h1 : SN w1 E k l ((a * 10 ^ p) % x)) => NatAdd_any h1 h1 (up243 hR (by omega)) (up243 hR (by omega)))
 have HCM := hid (fun w1 (E : Option Addr) (k l : Nat) (h : Chg (fun _ => False) w w1) (h1 : SN w1 E k l ((a * 10 ^ p) % x + (a * 10 ^ p) % x)) => NatCmp_any h1 (hx.kept h) hRR (up243 hx1 (by omega)))
 have HO := hid (fun w1 => one_any (w := w1))
 have HA1 := hid (fun w1 (E : Option Addr) (k l : Nat) (G : Option Addr) (i j : Nat) (h1 : SN w1 E k l ((a * 10 ^ p) / x)) (h2 : SN w1 G i j 1) => NatAdd_any h1 h2 hQ (pow_tn (j := 0) (by omega)))
 have HH := hid hsb
 obtain ⟨e0, he0⟩ : ∃ e0 : Int, -(p : Int) = e0 := ⟨_, rfl⟩
 have hw : IntKind.i64.wrap (-(p : Int)) = e0 := by rw [← he0]; exact IntWalk.i64_in _ (by omega)
 have hge : (0 : Int) ≤ (p : Int) := by omega
 rw [he0]
 have HR0 := hid hr
 have HQ0 := hid hq
 obtain ⟨ob, hob⟩ : ∃ ob, ((a * 10 ^ p) / x % 2 == 1) = ob := ⟨_, rfl⟩
 have hub : (decide (0 < cmpN ((a * 10 ^ p) % x + (a * 10 ^ p) % x) x) || (cmpN ((a * 10 ^ p) % x + (a * 10 ^ p) % x) x == 0 && ob)) = true := by
  rw [← hob]
  exact round_yes _ _ _ hup
 have HRD := hid (fun w => rounds_any n1 ob (cmpN ((a * 10 ^ p) % x + (a * 10 ^ p) % x) x) w)
 rw [hub] at HRD
 have HOB := hid hob
 have hobf : ob = false := by rw [← hob, hq]; rfl
 subst hobf
 generalize cmpN ((a * 10 ^ p) % x + (a * 10 ^ p) % x) x = cq at *
 clear he0 hsb ha hx ha1 hx1 hx0 hp h19 hN hNd hR hRR hQ hr hq hup hub hob
 generalize 10 ^ p = T at *
 generalize a * T = N at *
 obtain ⟨HC0, HD, hB0, hB1⟩ := box2 w #[.bool n1, .slice A n c, .slice D1 p1 q1] 34 #[.bool false, .slice none 0 0, .int .i64 0] 43
 have HZ := hid hB1
 have HSS := hid (fun (w1 : World) h => c3_ (cell3 (kept_heap (w' := w1) h hB0)))
 have HST := hid (fun w1 x0 x1 x2 h => And.intro (fr_ (w.heap.size + 1) x0 x1 x2 (HSS.out w1 h).1) (And.intro (fr_ (w.heap.size + 1) x0 x1 x2 (HSS.out w1 h).2.1) (fr_ (w.heap.size + 1) x0 x1 x2 (HSS.out w1 h).2.2)))
 clear hB0 hB1
 have hk := Chg.refl (fun _ => False) ((w.alloc (.cells #[.bool n1, .slice A n c, .slice D1 p1 q1] 34)).alloc (.cells #[.bool false, .slice none 0 0, .int .i64 0] 43))
 go_enter Tryz.func17, Tryz.ntmps17
 go_wp2_with fail
 have hk := hk.drew
 first | (go_region_held3 (fun w' => w'.cell? ⟨w.heap.size, 0, none⟩ = some (.bool n1) ∧ w'.cell? ⟨w.heap.size, 1, none⟩ = some (.slice A n c) ∧ w'.cell? ⟨w.heap.size, 2, none⟩ = some (.slice D1 p1 q1)) (first | with_reducible exact HSS.out _ hk | with_reducible exact HST.out _ _ _ _ hk | go_keep) (first | fail)) | fail
 go_wp2_with (first | (go_at_call 41; refine (HP.out _).mono ?_; intro e w1 h; obtain ⟨E1, k1_, l1_, he, hsn, hc⟩ := h; subst he; replace hk := hk.trans hc sb_; skip; have HN1 := hid hsn; clear hsn; clear hc; obtain ⟨k0, k1, k2, f0, f1, f2⟩ := cell3 (kept_heap hk HZ.out)) | (go_at_call 40; refine (HM.out _ _ _ _ (HC0.out.trans hk sb_) HN1.out).mono ?_; intro e w1 h; obtain ⟨E2, k2_, l2_, he, hsn, hc⟩ := h; subst he; replace hk := hk.trans hc sb_; skip; have HN2 := hid hsn; clear hsn; clear hc; obtain ⟨k0, k1, k2, f0, f1, f2⟩ := cell3 (kept_heap hk HZ.out)))
 go_at_call 43
 refine (HDv.out _ _ _ _ (HC0.out.trans hk sb_) HN2.out).mono ?_
 intro e w1 h
 obtain ⟨EQ, kq, lq, ER, kr, lr, he, hs1, hs2, hc⟩ := h
 subst he
 replace hk := hk.trans hc sb_
 clear hc
 obtain ⟨k0, k1, k2, f0, f1, f2⟩ := cell3 (kept_heap hk HZ.out)
 have hkr : 0 < kr := Nat.pos_of_ne_zero (fun h => HR0.out (hs2.zero.1 h))
 have hkq : kq = 0 := hs1.zero.2 HQ0.out
 subst hkq
 have hw6 := Chg.refl (fun _ => False) w1
 obtain ⟨d0, d1, d2⟩ := HSS.out _ hk
 have HQ := hid hs1
 have HR := hid hs2
 clear hs1 hs2
 go_wp2_with fail
 have hk := hk.drew
 have hw6 := hw6.drew
 replace HQ := hid (HQ.out.kept (Chg.refl (fun _ => False) w1).drew)
 replace HR := hid (HR.out.kept (Chg.refl (fun _ => False) w1).drew)
 refine wp_region_held_drew (S := fun w' => w'.cell? ⟨w.heap.size, 0, none⟩ = some (.bool n1)) kr_ ?_ (fun hHeld => ?_)
 ·exact (HSS.out _ hk).1
 refine wpAnyH_take (i := 0) (oi := ?oi0) (v := ?v0) ?hi0 kr_ kr_ kr_ ?hQ0 (Or.inl ⟨?hw0, ?hy0⟩) hHeld ?rest0
 case hi0 => exact rfl
 case hQ0 => exact fun _ _ _ h => h
 case hw0 => rfl
 case hy0 => exact hw_
 simp only [Act.put, List.setIfInBounds_toArray, List.set_cons_zero, List.set_cons_succ, List.getElem_toArray, List.getElem_cons_succ, List.getElem_cons_zero]
 refine wpAnyH_take (i := 1) (oi := ?oi1) (v := ?v1) ?hi1 kr_ kr_ kr_ ?hQ1 (Or.inl ⟨?hw1, ?hy1⟩) hHeld ?rest1
 case hi1 => exact rfl
 case hQ1 => exact fun _ _ _ h => h
 case hw1 => rfl
 case hy1 => exact hw_
 simp only [Act.put, List.setIfInBounds_toArray, List.set_cons_zero, List.set_cons_succ, List.getElem_toArray, List.getElem_cons_succ, List.getElem_cons_zero]
 refine wpAnyH_take (i := 2) (oi := ?oi2) (v := ?v2) ?hi2 kr_ kr_ kr_ ?hQ2 (Or.inl ⟨?hw2, ?hy2⟩) hHeld ?rest2
 case hi2 => exact rfl
 case hQ2 => exact fun _ _ _ h => h
 case hw2 => rfl
 case hy2 => exact hw_
 simp only [Act.put, List.setIfInBounds_toArray, List.set_cons_zero, List.set_cons_succ, List.getElem_toArray, List.getElem_cons_succ, List.getElem_cons_zero]
 refine wpAnyH_take (i := 3) (oi := ?oi3) (v := ?v3) ?hi3 kr_ kr_ kr_ ?hQ3 (Or.inl ⟨?hw3, ?hy3⟩) hHeld ?rest3
 case hi3 => exact rfl
 case hQ3 => exact fun _ _ _ h => h
 case hw3 => rfl
 case hy3 => exact hw_
 simp only [Act.put, List.setIfInBounds_toArray, List.set_cons_zero, List.set_cons_succ, List.getElem_toArray, List.getElem_cons_succ, List.getElem_cons_zero]
 refine wpAnyH_take (i := 4) (oi := ?oi4) (v := ?v4) ?hi4 kr_ kr_ kr_ ?hQ4 (Or.inl ⟨?hw4, ?hy4⟩) hHeld ?rest4
 case hi4 => exact rfl
 case hQ4 => exact fun _ _ _ h => h
 case hw4 => rfl
 case hy4 => exact hw_
 simp only [Act.put, List.setIfInBounds_toArray, List.set_cons_zero, List.set_cons_succ, List.getElem_toArray, List.getElem_cons_succ, List.getElem_cons_zero]
 refine wpAnyH_take (i := 5) (oi := ?oi5) (v := ?v5) ?hi5 kr_ kr_ kr_ ?hQ5 (Or.inl ⟨?hw5, ?hy5⟩) hHeld ?rest5
 case hi5 => exact rfl
 case hQ5 => exact fun _ _ _ h => h
 case hw5 => rfl
 case hy5 => exact hw_
 simp only [Act.put, List.setIfInBounds_toArray, List.set_cons_zero, List.set_cons_succ, List.getElem_toArray, List.getElem_cons_succ, List.getElem_cons_zero]
 refine wpAnyH_take (i := 6) (oi := ?oi6) (v := ?v6) ?hi6 kr_ kr_ kr_ ?hQ6 (Or.inl ⟨?hw6, ?hy6⟩) hHeld ?rest6
 case hi6 => exact rfl
 case hQ6 => exact fun _ _ _ h => h
 case hw6 => rfl
 case hy6 => exact hw_
 simp only [Act.put, List.setIfInBounds_toArray, List.set_cons_zero, List.set_cons_succ, List.getElem_toArray, List.getElem_cons_succ, List.getElem_cons_zero]
 refine wpAnyH_take (i := 7) (oi := ?oi7) (v := ?v7) ?hi7 kr_ kr_ kr_ ?hQ7 (Or.inl ⟨?hw7, ?hy7⟩) hHeld ?rest7
 case hi7 => exact rfl
 case hQ7 => exact fun _ _ _ h => h
 case hw7 => rfl
 case hy7 => exact hw_
 simp only [Act.put, List.setIfInBounds_toArray, List.set_cons_zero, List.set_cons_succ, List.getElem_toArray, List.getElem_cons_succ, List.getElem_cons_zero]
 refine wpAnyH_take (i := 8) (oi := ?oi8) (v := ?v8) ?hi8 kr_ kr_ kr_ ?hQ8 (Or.inl ⟨?hw8, ?hy8⟩) hHeld ?rest8
 case hi8 => exact rfl
 case hQ8 => exact fun _ _ _ h => h
 case hw8 => rfl
 case hy8 => exact hw_
 simp only [Act.put, List.setIfInBounds_toArray, List.set_cons_zero, List.set_cons_succ, List.getElem_toArray, List.getElem_cons_succ, List.getElem_cons_zero]
 refine wpAnyH_take (i := 9) (oi := ?oi9) (v := ?v9) ?hi9 kr_ kr_ kr_ ?hQ9 (Or.inl ⟨?hw9, ?hy9⟩) hHeld ?rest9
 case hi9 => exact rfl
 case hQ9 => exact fun _ _ _ h => h
 case hw9 => rfl
 case hy9 => exact hw_
 simp only [Act.put, List.setIfInBounds_toArray, List.set_cons_zero, List.set_cons_succ, List.getElem_toArray, List.getElem_cons_succ, List.getElem_cons_zero]
 refine wpAnyH_take (i := 11) (oi := ?oi11) (v := ?v11) ?hi11 kr_ kr_ kr_ ?hQ11 (Or.inl ⟨?hw11, ?hy11⟩) hHeld ?rest11
 case hi11 => exact rfl
 case hQ11 => exact fun _ _ _ h => h
 case hw11 => rfl
 case hy11 => exact hw_
 simp only [Act.put, List.setIfInBounds_toArray, List.set_cons_zero, List.set_cons_succ, List.getElem_toArray, List.getElem_cons_succ, List.getElem_cons_zero]
 refine wpAnyH_take (i := 13) (oi := ?oi13) (v := ?v13) ?hi13 kr_ kr_ kr_ ?hQ13 (Or.inl ⟨?hw13, ?hy13⟩) hHeld ?rest13
 case hi13 => exact rfl
 case hQ13 => exact fun _ _ _ h => h
 case hw13 => rfl
 case hy13 => exact hw_
 simp only [Act.put, List.setIfInBounds_toArray, List.set_cons_zero, List.set_cons_succ, List.getElem_toArray, List.getElem_cons_succ, List.getElem_cons_zero]
 refine wpAnyH_take (i := 14) (oi := ?oi14) (v := ?v14) ?hi14 kr_ kr_ kr_ ?hQ14 (Or.inl ⟨?hw14, ?hy14⟩) hHeld ?rest14
 case hi14 => exact rfl
 case hQ14 => exact fun _ _ _ h => h
 case hw14 => rfl
 case hy14 => exact hw_
 simp only [Act.put, List.setIfInBounds_toArray, List.set_cons_zero, List.set_cons_succ, List.getElem_toArray, List.getElem_cons_succ, List.getElem_cons_zero]
 refine wpAnyH_take (i := 15) (oi := ?oi15) (v := ?v15) ?hi15 kr_ kr_ kr_ ?hQ15 (Or.inl ⟨?hw15, ?hy15⟩) hHeld ?rest15
 case hi15 => exact rfl
 case hQ15 => exact fun _ _ _ h => h
 case hw15 => rfl
 case hy15 => exact hw_
 simp only [Act.put, List.setIfInBounds_toArray, List.set_cons_zero, List.set_cons_succ, List.getElem_toArray, List.getElem_cons_succ, List.getElem_cons_zero]
 refine wpAnyH_ready (rs := [10]) kr_ (by simp) ?_
 refine AllReadyH.cons (o := _) rfl (fun K hK => ?_) AllReadyH.nil
 (try simp only [List.getElem_toArray, List.getElem_cons_succ, List.getElem_cons_zero])
 go_simp
 go_at_call 46; refine (HA2.out _ _ _ _ HR.out).mono ?_; intro e w1 h; obtain ⟨E5, k5_, l5_, he, hsn, hc⟩ := h; subst he; replace hk := hk.trans hc sb_; (try replace HQ := hid (HQ.out.kept hc)); (try replace HR := hid (HR.out.kept hc)); (try replace HN5 := hid (HN5.out.kept hc)); (try replace HN6 := hid (HN6.out.kept hc)); (try replace HN7 := hid (HN7.out.kept hc)); replace hw6 := hw6.trans hc sb_; have HN5 := hid hsn; clear hsn; clear hc; obtain ⟨k0, k1, k2, f0, f1, f2⟩ := cell3 (kept_heap hk HZ.out); clear d0 d1 d2; obtain ⟨d0, d1, d2⟩ := HSS.out _ hk
 refine hK.out _ _ ?_ (fun hHeld => ?_)
 ·exact (HSS.out _ hk).1
 clear hK K
 try simp only [Act.put, List.setIfInBounds_toArray, List.set_cons_zero, List.set_cons_succ, List.getElem_toArray, List.getElem_cons_succ, List.getElem_cons_zero]
 refine wpAnyH_ready (rs := [12]) kr_ (by simp) ?_
 refine AllReadyH.cons (o := _) rfl (fun K hK => ?_) AllReadyH.nil
 (try simp only [List.getElem_toArray, List.getElem_cons_succ, List.getElem_cons_zero])
 go_simp
 go_at_call 45; refine (HCM.out _ _ _ _ (HC0.out.trans hk sb_) HN5.out).mono ?_; intro e w1 h; obtain ⟨he, hc⟩ := h; subst he; replace hk := hk.trans hc sb_; (try replace HQ := hid (HQ.out.kept hc)); (try replace HR := hid (HR.out.kept hc)); (try replace HN5 := hid (HN5.out.kept hc)); (try replace HN6 := hid (HN6.out.kept hc)); (try replace HN7 := hid (HN7.out.kept hc)); replace hw6 := hw6.trans hc sb_; skip; clear hc; obtain ⟨k0, k1, k2, f0, f1, f2⟩ := cell3 (kept_heap hk HZ.out); clear d0 d1 d2; obtain ⟨d0, d1, d2⟩ := HSS.out _ hk
 refine hK.out _ _ ?_ (fun hHeld => ?_)
 ·exact (HSS.out _ hk).1
 clear hK K
 try simp only [Act.put, List.setIfInBounds_toArray, List.set_cons_zero, List.set_cons_succ, List.getElem_toArray, List.getElem_cons_succ, List.getElem_cons_zero]
 refine wpAnyH_take (i := 16) (oi := ?oi16) (v := ?v16) ?hi16 kr_ kr_ kr_ ?hQ16 (Or.inl ⟨?hw16, ?hy16⟩) hHeld ?rest16
 case hi16 => exact rfl
 case hQ16 => exact fun _ _ _ h => h
 case hw16 => rfl
 case hy16 => exact hw_
 simp only [Act.put, List.setIfInBounds_toArray, List.set_cons_zero, List.set_cons_succ, List.getElem_toArray, List.getElem_cons_succ, List.getElem_cons_zero]
 refine wpAnyH_take (i := 17) (oi := ?oi17) (v := undef) ?hi17 kr_ kr_ kr_ ?hQ17 (Or.inr ⟨?hw17, rfl⟩) hHeld ?rest17
 case hi17 => exact rfl
 case hQ17 => exact fun _ _ _ h => h
 case hw17 => rfl
 simp only [Act.put, List.setIfInBounds_toArray, List.set_cons_zero, List.set_cons_succ, List.getElem_toArray, List.getElem_cons_succ, List.getElem_cons_zero]
 refine wpAnyH_take (i := 18) (oi := ?oi18) (v := undef) ?hi18 kr_ kr_ kr_ ?hQ18 (Or.inr ⟨?hw18, rfl⟩) hHeld ?rest18
 case hi18 => exact rfl
 case hQ18 => exact fun _ _ _ h => h
 case hw18 => rfl
 simp only [Act.put, List.setIfInBounds_toArray, List.set_cons_zero, List.set_cons_succ, List.getElem_toArray, List.getElem_cons_succ, List.getElem_cons_zero]
 refine wpAnyH_take (i := 19) (oi := ?oi19) (v := undef) ?hi19 kr_ kr_ kr_ ?hQ19 (Or.inr ⟨?hw19, rfl⟩) hHeld ?rest19
 case hi19 => exact rfl
 case hQ19 => exact fun _ _ _ h => h
 case hw19 => rfl
 simp only [Act.put, List.setIfInBounds_toArray, List.set_cons_zero, List.set_cons_succ, List.getElem_toArray, List.getElem_cons_succ, List.getElem_cons_zero]
 refine wpAnyH_take (i := 20) (oi := ?oi20) (v := undef) ?hi20 kr_ kr_ kr_ ?hQ20 (Or.inr ⟨?hw20, rfl⟩) hHeld ?rest20
 case hi20 => exact rfl
 case hQ20 => exact fun _ _ _ h => h
 case hw20 => rfl
 simp only [Act.put, List.setIfInBounds_toArray, List.set_cons_zero, List.set_cons_succ, List.getElem_toArray, List.getElem_cons_succ, List.getElem_cons_zero]
 refine wpAnyH_take (i := 21) (oi := ?oi21) (v := undef) ?hi21 kr_ kr_ kr_ ?hQ21 (Or.inr ⟨?hw21, rfl⟩) hHeld ?rest21
 case hi21 => exact rfl
 case hQ21 => exact fun _ _ _ h => h
 case hw21 => rfl
 simp only [Act.put, List.setIfInBounds_toArray, List.set_cons_zero, List.set_cons_succ, List.getElem_toArray, List.getElem_cons_succ, List.getElem_cons_zero]
 refine wpAnyH_take (i := 22) (oi := ?oi22) (v := ?v22) ?hi22 kr_ kr_ kr_ ?hQ22 (Or.inl ⟨?hw22, ?hy22⟩) hHeld ?rest22
 case hi22 => exact rfl
 case hQ22 => exact fun _ _ _ h => h
 case hw22 => rfl
 case hy22 => exact hw_
 simp only [Act.put, List.setIfInBounds_toArray, List.set_cons_zero, List.set_cons_succ, List.getElem_toArray, List.getElem_cons_succ, List.getElem_cons_zero]
 refine wpAnyH_ready (rs := [23]) kr_ (by simp) ?_
 refine AllReadyH.cons (o := _) rfl (fun K hK => ?_) AllReadyH.nil
 (try simp only [List.getElem_toArray, List.getElem_cons_succ, List.getElem_cons_zero])
 go_simp
 go_at_call 44; refine (HRD.out _).mono ?_; intro e w1 h; obtain ⟨he, hc⟩ := h; subst he; replace hk := hk.trans hc sb_; (try replace HQ := hid (HQ.out.kept hc)); (try replace HR := hid (HR.out.kept hc)); (try replace HN5 := hid (HN5.out.kept hc)); (try replace HN6 := hid (HN6.out.kept hc)); (try replace HN7 := hid (HN7.out.kept hc)); replace hw6 := hw6.trans hc sb_; skip; clear hc; obtain ⟨k0, k1, k2, f0, f1, f2⟩ := cell3 (kept_heap hk HZ.out); clear d0 d1 d2; obtain ⟨d0, d1, d2⟩ := HSS.out _ hk
 refine hK.out _ _ ?_ (fun hHeld => ?_)
 ·exact (HSS.out _ hk).1
 clear hK K
 try simp only [Act.put, List.setIfInBounds_toArray, List.set_cons_zero, List.set_cons_succ, List.getElem_toArray, List.getElem_cons_succ, List.getElem_cons_zero]
 refine wpAnyH_take (i := 24) (oi := ?oi24) (v := ?v24) ?hi24 kr_ kr_ kr_ ?hQ24 (Or.inl ⟨?hw24, ?hy24⟩) hHeld ?rest24
 case hi24 => exact rfl
 case hQ24 => exact fun _ _ _ h => h
 case hw24 => rfl
 case hy24 => exact hw_
 simp only [Act.put, List.setIfInBounds_toArray, List.set_cons_zero, List.set_cons_succ, List.getElem_toArray, List.getElem_cons_succ, List.getElem_cons_zero]
 refine wpAnyH_done kr_ ?_ _
 all_goals (go_wp2_with (first | (go_at_call 42; refine (HO.out _).mono ?_; intro e w1 h; obtain ⟨E6, k6_, l6_, he, hsn, hc⟩ := h; subst he; replace hk := hk.trans hc sb_; (try replace HQ := hid (HQ.out.kept hc)); (try replace HR := hid (HR.out.kept hc)); (try replace HN5 := hid (HN5.out.kept hc)); (try replace HN6 := hid (HN6.out.kept hc)); (try replace HN7 := hid (HN7.out.kept hc)); have HN6 := hid hsn; clear hsn; clear hc; obtain ⟨k0, k1, k2, f0, f1, f2⟩ := cell3 (kept_heap hk HZ.out); obtain ⟨d0, d1, d2⟩ := HSS.out _ hk) | (go_at_call 46; refine (HA1.out _ _ _ _ _ _ _ HQ.out HN6.out).mono ?_; intro e w1 h; obtain ⟨E7, k7_, l7_, he, hsn, hc⟩ := h; subst he; replace hk := hk.trans hc sb_; (try replace HQ := hid (HQ.out.kept hc)); (try replace HR := hid (HR.out.kept hc)); (try replace HN5 := hid (HN5.out.kept hc)); (try replace HN6 := hid (HN6.out.kept hc)); (try replace HN7 := hid (HN7.out.kept hc)); have HN7 := hid hsn; clear hsn; clear hc; obtain ⟨k0, k1, k2, f0, f1, f2⟩ := cell3 (kept_heap hk HZ.out); obtain ⟨d0, d1, d2⟩ := HSS.out _ hk) | (go_at_call 39; refine (wholeOf_sn n1 sb HN7.out HH.out).mono ?_; intro e w1 h; obtain ⟨he, hc⟩ := h; subst he; replace hk := hk.trans hc sb_; (try replace HQ := hid (HQ.out.kept hc)); (try replace HR := hid (HR.out.kept hc)); (try replace HN5 := hid (HN5.out.kept hc)); (try replace HN6 := hid (HN6.out.kept hc)); (try replace HN7 := hid (HN7.out.kept hc)); skip; clear hc; obtain ⟨k0, k1, k2, f0, f1, f2⟩ := cell3 (kept_heap hk HZ.out))); refine bodyPost_ret (v := .agg #[.bool sb, .slice E7 k7_ l7_, .int .i64 e0]) (by rw [results_cell_row rfl _ _ (w.heap.size + 1) _ _ _ _ rfl (store3 (kept_heap hk HZ.out) _ _ _) Tryz.underlying43 rfl sdec_size]) rfl ⟨_, _, _, rfl, sn_end3 HN7.out (kept_heap hk HZ.out) (by simp) _ _ _, chg3 (HC0.out.trans hk sb_) (by omega) _ _ _⟩)
set_option maxHeartbeats 4000000 in
theorem Round_zno {w : World} {A D1 : Option Addr} {n c p1 q1 a x : Nat} (n1 sb : Bool) (p : Nat) (ha : SN w A n c a) (hx : SN w D1 p1 q1 x) (ha1 : a < tn 850) (hx1 : x < tn 850) (hx0 : 0 < x) (hp : p ≤ 60) (hr : (a * 10 ^ p) % x ≠ 0) (hq : (a * 10 ^ p) / x = 0) (hup : ¬ (x < 2 * ((a * 10 ^ p) % x) ∨ (x = 2 * ((a * 10 ^ p) % x) ∧ ((a * 10 ^ p) / x) % 2 = 1))) (hsb : (n1 && (a * 10 ^ p) / x != 0) = sb) :
  Calls Tryz.prog 17 #[.agg #[.bool n1, .slice A n c, .slice D1 p1 q1], .int .i64 (p : Int), .int .i64 5] w (PDN w sb ((a * 10 ^ p) / x) (-(p : Int))) := by
 have h19 : (10 : Nat) ^ p < 10 ^ 61 := Nat.pow_lt_pow_right (by omega) (by omega)
 have hN : a * 10 ^ p < tn (850 + 61) := mul_tn ha1 h19
 have hNd : a * 10 ^ p < tn 1764 := up_tn hN (by omega)
 have hR : (a * 10 ^ p) % x < tn 850 := Nat.lt_trans (Nat.mod_lt _ hx0) hx1
 have hRR : (a * 10 ^ p) % x + (a * 10 ^ p) % x < tn 1800 := by
  exact two_tn hR hR (by omega)
 have hQ : (a * 10 ^ p) / x < tn 1800 := Nat.lt_of_le_of_lt (Nat.div_le_self _ _) (up243 hN (by omega))
 have HP := hid (fun w1 => Pow10_any (w := w1) p (by omega))
 have HM := hid (fun w1 (E : Option Addr) (k l : Nat) (h : Chg (fun _ => False) w w1) (h1 : SN w1 E k l (10 ^ p)) => NatMul_any (ha.kept h) h1 (up243 ha1 (by omega)) (lt_tn h19 (by omega)))
 have HDv := hid (fun w1 (E : Option Addr) (k l : Nat) (h : Chg (fun _ => False) w w1) (h1 : SN w1 E k l (a * 10 ^ p)) => NatDiv_any h1 (hx.kept h) hNd (up_tn hx1 (by omega)) hx0)
 have HA2 := hid (fun w1 (E : Option Addr) (k l : Nat) (h1 : SN w1 E k l ((a * 10 ^ p) % x)) => NatAdd_any h1 h1 (up243 hR (by omega)) (up243 hR (by omega)))
 have HCM := hid (fun w1 (E : Option Addr) (k l : Nat) (h : Chg (fun _ => False) w w1) (h1 : SN w1 E k l ((a * 10 ^ p) % x + (a * 10 ^ p) % x)) => NatCmp_any h1 (hx.kept h) hRR (up243 hx1 (by omega)))
 have HO := hid (fun w1 => one_any (w := w1))
 have HA1 := hid (fun w1 (E : Option Addr) (k l : Nat) (G : Option Addr) (i j : Nat) (h1 : SN w1 E k l ((a * 10 ^ p) / x)) (h2 : SN w1 G i j 1) => NatAdd_any h1 h2 hQ (pow_tn (j := 0) (by omega)))
 have HH := hid hsb
 obtain ⟨e0, he0⟩ : ∃ e0 : Int, -(p : Int) = e0 := ⟨_, rfl⟩
 have hw : IntKind.i64.wrap (-(p : Int)) = e0 := by rw [← he0]; exact IntWalk.i64_in _ (by omega)
 have hge : (0 : Int) ≤ (p : Int) := by omega
 rw [he0]
 have HR0 := hid hr
 have HQ0 := hid hq
 obtain ⟨ob, hob⟩ : ∃ ob, ((a * 10 ^ p) / x % 2 == 1) = ob := ⟨_, rfl⟩
 have hub : (decide (0 < cmpN ((a * 10 ^ p) % x + (a * 10 ^ p) % x) x) || (cmpN ((a * 10 ^ p) % x + (a * 10 ^ p) % x) x == 0 && ob)) = false := by
  rw [← hob]
  exact round_not _ _ _ hup
 have HRD := hid (fun w => rounds_any n1 ob (cmpN ((a * 10 ^ p) % x + (a * 10 ^ p) % x) x) w)
 rw [hub] at HRD
 have HOB := hid hob
 have hobf : ob = false := by rw [← hob, hq]; rfl
 subst hobf
 generalize cmpN ((a * 10 ^ p) % x + (a * 10 ^ p) % x) x = cq at *
 clear he0 hsb ha hx ha1 hx1 hx0 hp h19 hN hNd hR hRR hQ hr hq hup hub hob
 generalize 10 ^ p = T at *
 generalize a * T = N at *
 obtain ⟨HC0, HD, hB0, hB1⟩ := box2 w #[.bool n1, .slice A n c, .slice D1 p1 q1] 34 #[.bool false, .slice none 0 0, .int .i64 0] 43
 have HZ := hid hB1
 have HSS := hid (fun (w1 : World) h => c3_ (cell3 (kept_heap (w' := w1) h hB0)))
 have HST := hid (fun w1 x0 x1 x2 h => And.intro (fr_ (w.heap.size + 1) x0 x1 x2 (HSS.out w1 h).1) (And.intro (fr_ (w.heap.size + 1) x0 x1 x2 (HSS.out w1 h).2.1) (fr_ (w.heap.size + 1) x0 x1 x2 (HSS.out w1 h).2.2)))
 clear hB0 hB1
 have hk := Chg.refl (fun _ => False) ((w.alloc (.cells #[.bool n1, .slice A n c, .slice D1 p1 q1] 34)).alloc (.cells #[.bool false, .slice none 0 0, .int .i64 0] 43))
 go_enter Tryz.func17, Tryz.ntmps17
 go_wp2_with fail
 have hk := hk.drew
 first | (go_region_held3 (fun w' => w'.cell? ⟨w.heap.size, 0, none⟩ = some (.bool n1) ∧ w'.cell? ⟨w.heap.size, 1, none⟩ = some (.slice A n c) ∧ w'.cell? ⟨w.heap.size, 2, none⟩ = some (.slice D1 p1 q1)) (first | with_reducible exact HSS.out _ hk | with_reducible exact HST.out _ _ _ _ hk | go_keep) (first | fail)) | fail
 go_wp2_with (first | (go_at_call 41; refine (HP.out _).mono ?_; intro e w1 h; obtain ⟨E1, k1_, l1_, he, hsn, hc⟩ := h; subst he; replace hk := hk.trans hc sb_; skip; have HN1 := hid hsn; clear hsn; clear hc; obtain ⟨k0, k1, k2, f0, f1, f2⟩ := cell3 (kept_heap hk HZ.out)) | (go_at_call 40; refine (HM.out _ _ _ _ (HC0.out.trans hk sb_) HN1.out).mono ?_; intro e w1 h; obtain ⟨E2, k2_, l2_, he, hsn, hc⟩ := h; subst he; replace hk := hk.trans hc sb_; skip; have HN2 := hid hsn; clear hsn; clear hc; obtain ⟨k0, k1, k2, f0, f1, f2⟩ := cell3 (kept_heap hk HZ.out)))
 go_at_call 43
 refine (HDv.out _ _ _ _ (HC0.out.trans hk sb_) HN2.out).mono ?_
 intro e w1 h
 obtain ⟨EQ, kq, lq, ER, kr, lr, he, hs1, hs2, hc⟩ := h
 subst he
 replace hk := hk.trans hc sb_
 clear hc
 obtain ⟨k0, k1, k2, f0, f1, f2⟩ := cell3 (kept_heap hk HZ.out)
 have hkr : 0 < kr := Nat.pos_of_ne_zero (fun h => HR0.out (hs2.zero.1 h))
 have hkq : kq = 0 := hs1.zero.2 HQ0.out
 subst hkq
 have hw6 := Chg.refl (fun _ => False) w1
 obtain ⟨d0, d1, d2⟩ := HSS.out _ hk
 have HQ := hid hs1
 have HR := hid hs2
 clear hs1 hs2
 go_wp2_with fail
 have hk := hk.drew
 have hw6 := hw6.drew
 replace HQ := hid (HQ.out.kept (Chg.refl (fun _ => False) w1).drew)
 replace HR := hid (HR.out.kept (Chg.refl (fun _ => False) w1).drew)
 refine wp_region_held_drew (S := fun w' => w'.cell? ⟨w.heap.size, 0, none⟩ = some (.bool n1)) kr_ ?_ (fun hHeld => ?_)
 ·exact (HSS.out _ hk).1
 refine wpAnyH_take (i := 0) (oi := ?oi0) (v := ?v0) ?hi0 kr_ kr_ kr_ ?hQ0 (Or.inl ⟨?hw0, ?hy0⟩) hHeld ?rest0
 case hi0 => exact rfl
 case hQ0 => exact fun _ _ _ h => h
 case hw0 => rfl
 case hy0 => exact hw_
 simp only [Act.put, List.setIfInBounds_toArray, List.set_cons_zero, List.set_cons_succ, List.getElem_toArray, List.getElem_cons_succ, List.getElem_cons_zero]
 refine wpAnyH_take (i := 1) (oi := ?oi1) (v := ?v1) ?hi1 kr_ kr_ kr_ ?hQ1 (Or.inl ⟨?hw1, ?hy1⟩) hHeld ?rest1
 case hi1 => exact rfl
 case hQ1 => exact fun _ _ _ h => h
 case hw1 => rfl
 case hy1 => exact hw_
 simp only [Act.put, List.setIfInBounds_toArray, List.set_cons_zero, List.set_cons_succ, List.getElem_toArray, List.getElem_cons_succ, List.getElem_cons_zero]
 refine wpAnyH_take (i := 2) (oi := ?oi2) (v := ?v2) ?hi2 kr_ kr_ kr_ ?hQ2 (Or.inl ⟨?hw2, ?hy2⟩) hHeld ?rest2
 case hi2 => exact rfl
 case hQ2 => exact fun _ _ _ h => h
 case hw2 => rfl
 case hy2 => exact hw_
 simp only [Act.put, List.setIfInBounds_toArray, List.set_cons_zero, List.set_cons_succ, List.getElem_toArray, List.getElem_cons_succ, List.getElem_cons_zero]
 refine wpAnyH_take (i := 3) (oi := ?oi3) (v := ?v3) ?hi3 kr_ kr_ kr_ ?hQ3 (Or.inl ⟨?hw3, ?hy3⟩) hHeld ?rest3
 case hi3 => exact rfl
 case hQ3 => exact fun _ _ _ h => h
 case hw3 => rfl
 case hy3 => exact hw_
 simp only [Act.put, List.setIfInBounds_toArray, List.set_cons_zero, List.set_cons_succ, List.getElem_toArray, List.getElem_cons_succ, List.getElem_cons_zero]
 refine wpAnyH_take (i := 4) (oi := ?oi4) (v := ?v4) ?hi4 kr_ kr_ kr_ ?hQ4 (Or.inl ⟨?hw4, ?hy4⟩) hHeld ?rest4
 case hi4 => exact rfl
 case hQ4 => exact fun _ _ _ h => h
 case hw4 => rfl
 case hy4 => exact hw_
 simp only [Act.put, List.setIfInBounds_toArray, List.set_cons_zero, List.set_cons_succ, List.getElem_toArray, List.getElem_cons_succ, List.getElem_cons_zero]
 refine wpAnyH_take (i := 5) (oi := ?oi5) (v := ?v5) ?hi5 kr_ kr_ kr_ ?hQ5 (Or.inl ⟨?hw5, ?hy5⟩) hHeld ?rest5
 case hi5 => exact rfl
 case hQ5 => exact fun _ _ _ h => h
 case hw5 => rfl
 case hy5 => exact hw_
 simp only [Act.put, List.setIfInBounds_toArray, List.set_cons_zero, List.set_cons_succ, List.getElem_toArray, List.getElem_cons_succ, List.getElem_cons_zero]
 refine wpAnyH_take (i := 6) (oi := ?oi6) (v := ?v6) ?hi6 kr_ kr_ kr_ ?hQ6 (Or.inl ⟨?hw6, ?hy6⟩) hHeld ?rest6
 case hi6 => exact rfl
 case hQ6 => exact fun _ _ _ h => h
 case hw6 => rfl
 case hy6 => exact hw_
 simp only [Act.put, List.setIfInBounds_toArray, List.set_cons_zero, List.set_cons_succ, List.getElem_toArray, List.getElem_cons_succ, List.getElem_cons_zero]
 refine wpAnyH_take (i := 7) (oi := ?oi7) (v := ?v7) ?hi7 kr_ kr_ kr_ ?hQ7 (Or.inl ⟨?hw7, ?hy7⟩) hHeld ?rest7
 case hi7 => exact rfl
 case hQ7 => exact fun _ _ _ h => h
 case hw7 => rfl
 case hy7 => exact hw_
 simp only [Act.put, List.setIfInBounds_toArray, List.set_cons_zero, List.set_cons_succ, List.getElem_toArray, List.getElem_cons_succ, List.getElem_cons_zero]
 refine wpAnyH_take (i := 8) (oi := ?oi8) (v := ?v8) ?hi8 kr_ kr_ kr_ ?hQ8 (Or.inl ⟨?hw8, ?hy8⟩) hHeld ?rest8
 case hi8 => exact rfl
 case hQ8 => exact fun _ _ _ h => h
 case hw8 => rfl
 case hy8 => exact hw_
 simp only [Act.put, List.setIfInBounds_toArray, List.set_cons_zero, List.set_cons_succ, List.getElem_toArray, List.getElem_cons_succ, List.getElem_cons_zero]
 refine wpAnyH_take (i := 9) (oi := ?oi9) (v := ?v9) ?hi9 kr_ kr_ kr_ ?hQ9 (Or.inl ⟨?hw9, ?hy9⟩) hHeld ?rest9
 case hi9 => exact rfl
 case hQ9 => exact fun _ _ _ h => h
 case hw9 => rfl
 case hy9 => exact hw_
 simp only [Act.put, List.setIfInBounds_toArray, List.set_cons_zero, List.set_cons_succ, List.getElem_toArray, List.getElem_cons_succ, List.getElem_cons_zero]
 refine wpAnyH_take (i := 11) (oi := ?oi11) (v := ?v11) ?hi11 kr_ kr_ kr_ ?hQ11 (Or.inl ⟨?hw11, ?hy11⟩) hHeld ?rest11
 case hi11 => exact rfl
 case hQ11 => exact fun _ _ _ h => h
 case hw11 => rfl
 case hy11 => exact hw_
 simp only [Act.put, List.setIfInBounds_toArray, List.set_cons_zero, List.set_cons_succ, List.getElem_toArray, List.getElem_cons_succ, List.getElem_cons_zero]
 refine wpAnyH_take (i := 13) (oi := ?oi13) (v := ?v13) ?hi13 kr_ kr_ kr_ ?hQ13 (Or.inl ⟨?hw13, ?hy13⟩) hHeld ?rest13
 case hi13 => exact rfl
 case hQ13 => exact fun _ _ _ h => h
 case hw13 => rfl
 case hy13 => exact hw_
 simp only [Act.put, List.setIfInBounds_toArray, List.set_cons_zero, List.set_cons_succ, List.getElem_toArray, List.getElem_cons_succ, List.getElem_cons_zero]
 refine wpAnyH_take (i := 14) (oi := ?oi14) (v := ?v14) ?hi14 kr_ kr_ kr_ ?hQ14 (Or.inl ⟨?hw14, ?hy14⟩) hHeld ?rest14
 case hi14 => exact rfl
 case hQ14 => exact fun _ _ _ h => h
 case hw14 => rfl
 case hy14 => exact hw_
 simp only [Act.put, List.setIfInBounds_toArray, List.set_cons_zero, List.set_cons_succ, List.getElem_toArray, List.getElem_cons_succ, List.getElem_cons_zero]
 refine wpAnyH_take (i := 15) (oi := ?oi15) (v := ?v15) ?hi15 kr_ kr_ kr_ ?hQ15 (Or.inl ⟨?hw15, ?hy15⟩) hHeld ?rest15
 case hi15 => exact rfl
 case hQ15 => exact fun _ _ _ h => h
 case hw15 => rfl
 case hy15 => exact hw_
 simp only [Act.put, List.setIfInBounds_toArray, List.set_cons_zero, List.set_cons_succ, List.getElem_toArray, List.getElem_cons_succ, List.getElem_cons_zero]
 refine wpAnyH_ready (rs := [10]) kr_ (by simp) ?_
 refine AllReadyH.cons (o := _) rfl (fun K hK => ?_) AllReadyH.nil
 (try simp only [List.getElem_toArray, List.getElem_cons_succ, List.getElem_cons_zero])
 go_simp
 go_at_call 46; refine (HA2.out _ _ _ _ HR.out).mono ?_; intro e w1 h; obtain ⟨E5, k5_, l5_, he, hsn, hc⟩ := h; subst he; replace hk := hk.trans hc sb_; (try replace HQ := hid (HQ.out.kept hc)); (try replace HR := hid (HR.out.kept hc)); (try replace HN5 := hid (HN5.out.kept hc)); (try replace HN6 := hid (HN6.out.kept hc)); (try replace HN7 := hid (HN7.out.kept hc)); replace hw6 := hw6.trans hc sb_; have HN5 := hid hsn; clear hsn; clear hc; obtain ⟨k0, k1, k2, f0, f1, f2⟩ := cell3 (kept_heap hk HZ.out); clear d0 d1 d2; obtain ⟨d0, d1, d2⟩ := HSS.out _ hk
 refine hK.out _ _ ?_ (fun hHeld => ?_)
 ·exact (HSS.out _ hk).1
 clear hK K
 try simp only [Act.put, List.setIfInBounds_toArray, List.set_cons_zero, List.set_cons_succ, List.getElem_toArray, List.getElem_cons_succ, List.getElem_cons_zero]
 refine wpAnyH_ready (rs := [12]) kr_ (by simp) ?_
 refine AllReadyH.cons (o := _) rfl (fun K hK => ?_) AllReadyH.nil
 (try simp only [List.getElem_toArray, List.getElem_cons_succ, List.getElem_cons_zero])
 go_simp
 go_at_call 45; refine (HCM.out _ _ _ _ (HC0.out.trans hk sb_) HN5.out).mono ?_; intro e w1 h; obtain ⟨he, hc⟩ := h; subst he; replace hk := hk.trans hc sb_; (try replace HQ := hid (HQ.out.kept hc)); (try replace HR := hid (HR.out.kept hc)); (try replace HN5 := hid (HN5.out.kept hc)); (try replace HN6 := hid (HN6.out.kept hc)); (try replace HN7 := hid (HN7.out.kept hc)); replace hw6 := hw6.trans hc sb_; skip; clear hc; obtain ⟨k0, k1, k2, f0, f1, f2⟩ := cell3 (kept_heap hk HZ.out); clear d0 d1 d2; obtain ⟨d0, d1, d2⟩ := HSS.out _ hk
 refine hK.out _ _ ?_ (fun hHeld => ?_)
 ·exact (HSS.out _ hk).1
 clear hK K
 try simp only [Act.put, List.setIfInBounds_toArray, List.set_cons_zero, List.set_cons_succ, List.getElem_toArray, List.getElem_cons_succ, List.getElem_cons_zero]
 refine wpAnyH_take (i := 16) (oi := ?oi16) (v := ?v16) ?hi16 kr_ kr_ kr_ ?hQ16 (Or.inl ⟨?hw16, ?hy16⟩) hHeld ?rest16
 case hi16 => exact rfl
 case hQ16 => exact fun _ _ _ h => h
 case hw16 => rfl
 case hy16 => exact hw_
 simp only [Act.put, List.setIfInBounds_toArray, List.set_cons_zero, List.set_cons_succ, List.getElem_toArray, List.getElem_cons_succ, List.getElem_cons_zero]
 refine wpAnyH_take (i := 17) (oi := ?oi17) (v := undef) ?hi17 kr_ kr_ kr_ ?hQ17 (Or.inr ⟨?hw17, rfl⟩) hHeld ?rest17
 case hi17 => exact rfl
 case hQ17 => exact fun _ _ _ h => h
 case hw17 => rfl
 simp only [Act.put, List.setIfInBounds_toArray, List.set_cons_zero, List.set_cons_succ, List.getElem_toArray, List.getElem_cons_succ, List.getElem_cons_zero]
 refine wpAnyH_take (i := 18) (oi := ?oi18) (v := undef) ?hi18 kr_ kr_ kr_ ?hQ18 (Or.inr ⟨?hw18, rfl⟩) hHeld ?rest18
 case hi18 => exact rfl
 case hQ18 => exact fun _ _ _ h => h
 case hw18 => rfl
 simp only [Act.put, List.setIfInBounds_toArray, List.set_cons_zero, List.set_cons_succ, List.getElem_toArray, List.getElem_cons_succ, List.getElem_cons_zero]
 refine wpAnyH_take (i := 19) (oi := ?oi19) (v := undef) ?hi19 kr_ kr_ kr_ ?hQ19 (Or.inr ⟨?hw19, rfl⟩) hHeld ?rest19
 case hi19 => exact rfl
 case hQ19 => exact fun _ _ _ h => h
 case hw19 => rfl
 simp only [Act.put, List.setIfInBounds_toArray, List.set_cons_zero, List.set_cons_succ, List.getElem_toArray, List.getElem_cons_succ, List.getElem_cons_zero]
 refine wpAnyH_take (i := 20) (oi := ?oi20) (v := undef) ?hi20 kr_ kr_ kr_ ?hQ20 (Or.inr ⟨?hw20, rfl⟩) hHeld ?rest20
 case hi20 => exact rfl
 case hQ20 => exact fun _ _ _ h => h
 case hw20 => rfl
 simp only [Act.put, List.setIfInBounds_toArray, List.set_cons_zero, List.set_cons_succ, List.getElem_toArray, List.getElem_cons_succ, List.getElem_cons_zero]
 refine wpAnyH_take (i := 21) (oi := ?oi21) (v := undef) ?hi21 kr_ kr_ kr_ ?hQ21 (Or.inr ⟨?hw21, rfl⟩) hHeld ?rest21
 case hi21 => exact rfl
 case hQ21 => exact fun _ _ _ h => h
 case hw21 => rfl
 simp only [Act.put, List.setIfInBounds_toArray, List.set_cons_zero, List.set_cons_succ, List.getElem_toArray, List.getElem_cons_succ, List.getElem_cons_zero]
 refine wpAnyH_take (i := 22) (oi := ?oi22) (v := ?v22) ?hi22 kr_ kr_ kr_ ?hQ22 (Or.inl ⟨?hw22, ?hy22⟩) hHeld ?rest22
 case hi22 => exact rfl
 case hQ22 => exact fun _ _ _ h => h
 case hw22 => rfl
 case hy22 => exact hw_
 simp only [Act.put, List.setIfInBounds_toArray, List.set_cons_zero, List.set_cons_succ, List.getElem_toArray, List.getElem_cons_succ, List.getElem_cons_zero]
 refine wpAnyH_ready (rs := [23]) kr_ (by simp) ?_
 refine AllReadyH.cons (o := _) rfl (fun K hK => ?_) AllReadyH.nil
 (try simp only [List.getElem_toArray, List.getElem_cons_succ, List.getElem_cons_zero])
 go_simp
 go_at_call 44; refine (HRD.out _).mono ?_; intro e w1 h; obtain ⟨he, hc⟩ := h; subst he; replace hk := hk.trans hc sb_; (try replace HQ := hid (HQ.out.kept hc)); (try replace HR := hid (HR.out.kept hc)); (try replace HN5 := hid (HN5.out.kept hc)); (try replace HN6 := hid (HN6.out.kept hc)); (try replace HN7 := hid (HN7.out.kept hc)); replace hw6 := hw6.trans hc sb_; skip; clear hc; obtain ⟨k0, k1, k2, f0, f1, f2⟩ := cell3 (kept_heap hk HZ.out); clear d0 d1 d2; obtain ⟨d0, d1, d2⟩ := HSS.out _ hk
 refine hK.out _ _ ?_ (fun hHeld => ?_)
 ·exact (HSS.out _ hk).1
 clear hK K
 try simp only [Act.put, List.setIfInBounds_toArray, List.set_cons_zero, List.set_cons_succ, List.getElem_toArray, List.getElem_cons_succ, List.getElem_cons_zero]
 refine wpAnyH_take (i := 24) (oi := ?oi24) (v := ?v24) ?hi24 kr_ kr_ kr_ ?hQ24 (Or.inl ⟨?hw24, ?hy24⟩) hHeld ?rest24
 case hi24 => exact rfl
 case hQ24 => exact fun _ _ _ h => h
 case hw24 => rfl
 case hy24 => exact hw_
 simp only [Act.put, List.setIfInBounds_toArray, List.set_cons_zero, List.set_cons_succ, List.getElem_toArray, List.getElem_cons_succ, List.getElem_cons_zero]
 refine wpAnyH_done kr_ ?_ _
 all_goals (go_wp2_with (first | (go_at_call 39; refine (wholeOf_sn n1 sb HQ.out HH.out).mono ?_; intro e w1 h; obtain ⟨he, hc⟩ := h; subst he; replace hk := hk.trans hc sb_; (try replace HQ := hid (HQ.out.kept hc)); (try replace HR := hid (HR.out.kept hc)); (try replace HN5 := hid (HN5.out.kept hc)); (try replace HN6 := hid (HN6.out.kept hc)); (try replace HN7 := hid (HN7.out.kept hc)); skip; clear hc; obtain ⟨k0, k1, k2, f0, f1, f2⟩ := cell3 (kept_heap hk HZ.out))); refine bodyPost_ret (v := .agg #[.bool sb, .slice EQ 0 lq, .int .i64 e0]) (by rw [results_cell_row rfl _ _ (w.heap.size + 1) _ _ _ _ rfl (store3 (kept_heap hk HZ.out) _ _ _) Tryz.underlying43 rfl sdec_size]) rfl ⟨_, _, _, rfl, sn_end3 HQ.out (kept_heap hk HZ.out) (by simp) _ _ _, chg3 (HC0.out.trans hk sb_) (by omega) _ _ _⟩)
end Go.Proofs.YtlbjjhecgceiaaaGreatDoor
namespace Go.Proofs.YtlbjjhecgceiaaaGreatDoor
open Go.RowKit
set_option linter.unusedVariables false
set_option linter.unusedSimpArgs false
set_option maxRecDepth 20000
theorem rhe_le1 {N x : Nat} : rhe N x ≤ N / x + 1 := by unfold rhe; split <;> omega
theorem Round_any {w : World} {A D1 : Option Addr} {n c p1 q1 a x : Nat} (n1 sb : Bool) (p : Nat) (ha : SN w A n c a) (hx : SN w D1 p1 q1 x) (ha1 : a < tn 850) (hx1 : x < tn 850) (hx0 : 0 < x) (hp : p ≤ 60)
  (hsb : (n1 && rhe (a * 10 ^ p) x != 0) = sb) :
  Calls Tryz.prog 17 #[.agg #[.bool n1, .slice A n c, .slice D1 p1 q1], .int .i64 (p : Int), .int .i64 5] w (PDN w sb (rhe (a * 10 ^ p) x) (-(p : Int))) := by
 by_cases hr : (a * 10 ^ p) % x = 0
 ·have e : rhe (a * 10 ^ p) x = (a * 10 ^ p) / x := rhe_no (by rw [hr]; omega)
  rw [e] at hsb ⊢
  exact Round_exact n1 sb p ha hx ha1 hx1 hx0 hp hr hsb
 ·by_cases hup : x < 2 * ((a * 10 ^ p) % x) ∨ (x = 2 * ((a * 10 ^ p) % x) ∧ ((a * 10 ^ p) / x) % 2 = 1)
  ·rw [rhe_up hup] at hsb ⊢
   by_cases hq : (a * 10 ^ p) / x = 0
   ·exact Round_zup n1 sb p ha hx ha1 hx1 hx0 hp hr hq hup hsb
   ·exact Round_qup n1 sb p ha hx ha1 hx1 hx0 hp hr hq hup hsb
  ·rw [rhe_no hup] at hsb ⊢
   by_cases hq : (a * 10 ^ p) / x = 0
   ·exact Round_zno n1 sb p ha hx ha1 hx1 hx0 hp hr hq hup hsb
   ·exact Round_qno n1 sb p ha hx ha1 hx1 hx0 hp hr hq hup hsb
end Go.Proofs.YtlbjjhecgceiaaaGreatDoor
