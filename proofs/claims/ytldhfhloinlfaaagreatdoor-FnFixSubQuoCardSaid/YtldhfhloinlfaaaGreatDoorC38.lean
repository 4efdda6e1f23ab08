/- Part 38 of the proof. -/
import Derived.Test.YtldhfhloinlfaaaGreatDoorC27
import Derived.Test.YtldhfhloinlfaaaGreatDoorC37
namespace Go.Proofs.YtldhfhloinlfaaaGreatDoor
open Go.RowKit
set_option linter.unusedVariables false
set_option linter.unusedSimpArgs false
set_option maxRecDepth 20000
set_option maxHeartbeats 12000000 in
theorem aqb_all (dn en fn xn neg : Bool) (dc ec fc ds es fs m : Nat) (hdc : digs dc ≤ 19) (hec : digs ec ≤ 19) (hfc : digs fc ≤ 19) (hf0 : 0 < fc) (hwd : Wd (dc : Int)) (hwe : Wd (ec : Int)) (hwf : Wd (fc : Int)) (hds : ds ≤ 19) (hes : es ≤ 19) (hfs : fs ≤ 19) (hm : m ≤ 19) (hx : (!(en == fn)) = xn) (w : World) (he : EnvD w) (A : Nat) (hA : dc * 10 ^ (41 - ds) = A) (hAd : digs A ≤ 80) (Y : Nat) (hY : ec * 10 ^ (41 - es + fs) = Y) (hYd : digs Y ≤ 80) (Q : Nat) (hQ : Y / fc = Q) (hQd : digs Q ≤ 80) (C : Nat) (hCd : digs C ≤ 80)
  (hcase : ((dn == xn) = true ∧ A + Q = C ∧ dn = neg) ∨ ((dn == xn) = false ∧ A < Q ∧ Q - A = C ∧ xn = neg) ∨ ((dn == xn) = false ∧ ¬ A < Q ∧ A - Q = C ∧ dn = neg)) :
  Calls Tryz.prog 82 #[.agg #[.bool dn, .int .i8 ds, .int .u64 (dc : Int)], .agg #[.bool en, .int .i8 es, .int .u64 (ec : Int)], .agg #[.bool fn, .int .i8 fs, .int .u64 (fc : Int)], .int .i64 m] w (PDecN w neg (from19 (10 ^ 19) 2 C 41 m)) := by
 have hw1 : IntKind.i64.wrap (41 - (es : Int)) = ((41 - es : Nat) : Int) := by rw [show (41 : Int) - (es : Int) = ((41 - es : Nat) : Int) by omega]; exact IntWalk.i64_in _ (by omega)
 have hw3 : IntKind.i64.wrap (41 - (ds : Int)) = ((41 - ds : Nat) : Int) := by rw [show (41 : Int) - (ds : Int) = ((41 - ds : Nat) : Int) by omega]; exact IntWalk.i64_in _ (by omega)
 obtain ⟨k1, hk1⟩ : ∃ k, 41 - es + fs = k := ⟨_, rfl⟩
 obtain ⟨j1, hj1⟩ : ∃ k, 41 - es = k := ⟨_, rfl⟩
 obtain ⟨j2, hj2⟩ : ∃ k, 41 - ds = k := ⟨_, rfl⟩
 have hw2 : IntKind.i64.wrap ((j1 : Int) + (fs : Int)) = (k1 : Int) := by rw [show (j1 : Int) + (fs : Int) = (k1 : Int) by omega]; exact IntWalk.i64_in _ (by omega)
 rw [hj1] at hw1
 rw [hj2] at hw3 hA
 rw [hk1] at hY
 have HL1 := hid (fun w0 w2 p q r x z (h : Thr w0 w2 p q r x (ec : Int) z) => thr_lsh2 (k := k1) h (Nat.le_trans hec (by omega)) (by omega))
 rw [hY] at HL1
 have HQU := hid (fun w0 w2 p q r x (h : Thr w0 w2 p q r x (Y : Int) (fc : Int)) => thr_quo h hYd hf0 hfc)
 rw [hQ] at HQU
 have HL2 := hid (fun w0 w2 p q y (h : Two w0 w2 p q (dc : Int) y) => two_lsh (k := j2) h (Nat.le_trans hdc (by omega)) (by omega))
 rw [hA] at HL2
 have HF := hid (fun w0 w2 p q y (h : Two w0 w2 p q (C : Int) y) => two_nfb (s := 41) neg h hCd (by omega) hm)
 generalize from19 (10 ^ 19) 2 C 41 m = o at *
 have HWD := hid hwd
 have HWE := hid hwe
 have HWF := hid hwf
 have HSD := hid (fun w => Scale_any dn (dc : Int) ds hds w)
 have HSE := hid (fun w => Scale_any en (ec : Int) es hes w)
 have HSF := hid (fun w => Scale_any fn (fc : Int) fs hfs w)
 have HND := hid (fun w => IsNeg_any dn (dc : Int) ds w)
 have HNE := hid (fun w => IsNeg_any en (ec : Int) es w)
 have HNF := hid (fun w => IsNeg_any fn (fc : Int) fs w)
 obtain ⟨HB, HBX, HC0, hk⟩ := bx4 w dn ds (dc : Int) en es (ec : Int) fn fs (fc : Int)
 have HE0 := hid (he.kept HC0.out)
 have HSS := hid (fun w' (h : Chg (fun _ => False) ((((w.alloc (.cells #[.bool dn, .int .i8 ds, .int .u64 (dc : Int)] 53)).alloc (.cells #[.bool en, .int .i8 es, .int .u64 (ec : Int)] 53)).alloc (.cells #[.bool fn, .int .i8 fs, .int .u64 (fc : Int)] 53)).alloc (.cells #[.bool false, .int .i8 0, .int .u64 0] 53)) w') => (show w'.cell? ⟨w.heap.size + 1, 0, none⟩ = some (.bool en) ∧ w'.cell? ⟨w.heap.size + 1, 1, none⟩ = some (.int .i8 es) ∧ w'.cell? ⟨w.heap.size + 1, 2, none⟩ = some (.int .u64 (ec : Int)) ∧ w'.cell? ⟨w.heap.size + 1 + 1, 0, none⟩ = some (.bool fn) ∧ w'.cell? ⟨w.heap.size + 1 + 1, 1, none⟩ = some (.int .i8 fs) ∧ w'.cell? ⟨w.heap.size + 1 + 1, 2, none⟩ = some (.int .u64 (fc : Int)) from ⟨(HB.out _ h).2.2.2.1, (HB.out _ h).2.2.2.2.1, (HB.out _ h).2.2.2.2.2.1, (HB.out _ h).2.2.2.2.2.2.1, (HB.out _ h).2.2.2.2.2.2.2.1, (HB.out _ h).2.2.2.2.2.2.2.2.1⟩))
 obtain ⟨d0, d1, d2, e0, e1, e2, f0, f1, f2, r0, r1, r2, q0, q1, q2⟩ := HB.out _ hk
 rcases hcase with ⟨hs, hC, hn⟩ | ⟨hs, hg, hC, hn⟩ | ⟨hs, hg, hC, hn⟩
 case' inl =>
  have HAD := hid (fun w0 w2 p q (h : Two w0 w2 p q (A : Int) (Q : Int)) => two_add h hAd hQd)
  rw [hC] at HAD
 case' inr.inl =>
  have hcc : (if A < Q then Q - A else A - Q) = C := by rw [if_pos hg]; exact hC
  have HSB := hid (fun w0 w2 p q (h : Two w0 w2 p q (A : Int) (Q : Int)) => two_subAbs h hAd hQd hcc)
  obtain ⟨kk, hkk⟩ : ∃ kk : Int, kk = 1 := ⟨_, rfl⟩
  have hcm : cmpI (Q : Int) (A : Int) = kk := by rw [hkk]; unfold cmpI; rw [if_neg (by omega), if_pos (by omega)]
  have hkp : (0 : Int) < kk := by omega
  have HCM := hid (fun w0 w2 p q (h : Two w0 w2 p q (A : Int) (Q : Int)) => two_cmp h hcm)
  clear hcc hcm hg hkk
 case' inr.inr =>
  have hcc : (if A < Q then Q - A else A - Q) = C := by rw [if_neg hg]; exact hC
  have HSB := hid (fun w0 w2 p q (h : Two w0 w2 p q (A : Int) (Q : Int)) => two_subAbs h hAd hQd hcc)
  obtain ⟨kk, hcm⟩ : ∃ kk : Int, cmpI (Q : Int) (A : Int) = kk := ⟨_, rfl⟩
  have hkp : ¬ (0 : Int) < kk := by rw [← hcm]; unfold cmpI; split <;> (try split) <;> omega
  have HCM := hid (fun w0 w2 p q (h : Two w0 w2 p q (A : Int) (Q : Int)) => two_cmp h hcm)
  clear hcc hcm hg
 all_goals (
  subst hn
  clear hC hCd hAd hYd hQd hdc hec hfc hf0 hA hY hQ hwd hwe hwf hes hfs hds hk1 hj1 hj2 he
  go_enter_defers Tryz.func82, Tryz.ntmps82
  go_upto_region 12 with (first | (go_at_call 103; refine (getBint_any _).mono ?_; intro e w1 h; obtain ⟨r, he1, hi2, hs2, hc2⟩ := h; subst he1; have HT := hid (Thr.start HT.out hi2 hs2 hc2); replace hk := hk.trans hc2 sb_; clear hi2 hs2 hc2; clear d0 d1 d2 e0 e1 e2 f0 f1 f2 r0 r1 r2 q0 q1 q2; obtain ⟨d0, d1, d2, e0, e1, e2, f0, f1, f2, r0, r1, r2, q0, q1, q2⟩ := HB.out _ hk) | (go_at_call 103; refine (getBint_any _).mono ?_; intro e w1 h; obtain ⟨q, he1, hi2, hs2, hc2⟩ := h; subst he1; have HT := hid (Two.start HIP.out hsp hcp hi2 hs2 hc2 HE0.out); replace hk := hk.trans hc2 sb_; clear hi2 hs2 hc2; clear d0 d1 d2 e0 e1 e2 f0 f1 f2 r0 r1 r2 q0 q1 q2; obtain ⟨d0, d1, d2, e0, e1, e2, f0, f1, f2, r0, r1, r2, q0, q1, q2⟩ := HB.out _ hk) | (go_at_call 103; refine (getBint_any _).mono ?_; intro e w1 h; obtain ⟨p, he1, hip, hsp, hcp⟩ := h; subst he1; have HIP := hid hip; clear hip; replace hk := hk.trans hcp sb_; clear d0 d1 d2 e0 e1 e2 f0 f1 f2 r0 r1 r2 q0 q1 q2; obtain ⟨d0, d1, d2, e0, e1, e2, f0, f1, f2, r0, r1, r2, q0, q1, q2⟩ := HB.out _ hk) | (go_at_call 77; (first | refine (HSD.out _).mono ?_ | refine (HSE.out _).mono ?_ | refine (HSF.out _).mono ?_); intro e w1 h; obtain ⟨he1, hc1⟩ := h; subst he1; have HT := hid (HT.out.same hc1); replace hk := hk.trans hc1 sb_; clear hc1; clear d0 d1 d2 e0 e1 e2 f0 f1 f2 r0 r1 r2 q0 q1 q2; obtain ⟨d0, d1, d2, e0, e1, e2, f0, f1, f2, r0, r1, r2, q0, q1, q2⟩ := HB.out _ hk) | (go_at_call 75; (first | refine (HND.out _).mono ?_ | refine (HNE.out _).mono ?_ | refine (HNF.out _).mono ?_); intro e w1 h; obtain ⟨he1, hc1⟩ := h; subst he1; have HT := hid (HT.out.same hc1); replace hk := hk.trans hc1 sb_; clear hc1; clear d0 d1 d2 e0 e1 e2 f0 f1 f2 r0 r1 r2 q0 q1 q2; obtain ⟨d0, d1, d2, e0, e1, e2, f0, f1, f2, r0, r1, r2, q0, q1, q2⟩ := HB.out _ hk) | (go_at_call 105; (first | refine (thr_setFint HT.out HWD.out).mono ?_ | refine (thr_setFint2 HT.out HWE.out).mono ?_ | refine (thr_setFint3 HT.out HWF.out).mono ?_); intro e w1 h; obtain ⟨he1, h⟩ := h; subst he1; have HT := hid h; clear h; replace hk := HT.out.chg; clear d0 d1 d2 e0 e1 e2 f0 f1 f2 r0 r1 r2 q0 q1 q2; obtain ⟨d0, d1, d2, e0, e1, e2, f0, f1, f2, r0, r1, r2, q0, q1, q2⟩ := HB.out _ hk))
  have hk := hk.drew
  have HT := hid (HT.out.same (Chg.refl _ _).drew)
  first | (go_region_held3 (fun w' => w'.cell? ⟨w.heap.size + 1, 0, none⟩ = some (.bool en) ∧ w'.cell? ⟨w.heap.size + 1, 1, none⟩ = some (.int .i8 es) ∧ w'.cell? ⟨w.heap.size + 1, 2, none⟩ = some (.int .u64 (ec : Int)) ∧ w'.cell? ⟨w.heap.size + 1 + 1, 0, none⟩ = some (.bool fn) ∧ w'.cell? ⟨w.heap.size + 1 + 1, 1, none⟩ = some (.int .i8 fs) ∧ w'.cell? ⟨w.heap.size + 1 + 1, 2, none⟩ = some (.int .u64 (fc : Int))) (first | with_reducible exact HSS.out _ hk) (first | (go_at_call 77; (first | refine (HSE.out _).mono ?_ | refine (HSF.out _).mono ?_); intro e w1 h; obtain ⟨he1, hc1⟩ := h; subst he1; have HT := hid (HT.out.same hc1); replace hk := hk.trans hc1 sb_; clear hc1) | (go_at_call 106; refine (HL1.out _ _ _ _ _ _ _ HT.out).mono ?_; intro e w1 h; obtain ⟨he1, h⟩ := h; subst he1; have HT := hid h; clear h; replace hk := HT.out.chg))) | fail
  clear d0 d1 d2 e0 e1 e2 f0 f1 f2 r0 r1 r2 q0 q1 q2
  obtain ⟨d0, d1, d2, e0, e1, e2, f0, f1, f2, r0, r1, r2, q0, q1, q2⟩ := HB.out _ hk
  go_wp2_with (first | (go_at_call 77; (first | refine (HSD.out _).mono ?_ | refine (HSE.out _).mono ?_ | refine (HSF.out _).mono ?_); intro e w1 h; obtain ⟨he1, hc1⟩ := h; subst he1; have HT := hid (HT.out.same hc1); replace hk := hk.trans hc1 sb_; clear hc1; clear d0 d1 d2 e0 e1 e2 f0 f1 f2 r0 r1 r2 q0 q1 q2; obtain ⟨d0, d1, d2, e0, e1, e2, f0, f1, f2, r0, r1, r2, q0, q1, q2⟩ := HB.out _ hk) | (go_at_call 75; (first | refine (HND.out _).mono ?_ | refine (HNE.out _).mono ?_ | refine (HNF.out _).mono ?_); intro e w1 h; obtain ⟨he1, hc1⟩ := h; subst he1; have HT := hid (HT.out.same hc1); replace hk := hk.trans hc1 sb_; clear hc1; clear d0 d1 d2 e0 e1 e2 f0 f1 f2 r0 r1 r2 q0 q1 q2; obtain ⟨d0, d1, d2, e0, e1, e2, f0, f1, f2, r0, r1, r2, q0, q1, q2⟩ := HB.out _ hk) | (go_at_call 106; refine (HL2.out _ _ _ _ _ HT.out).mono ?_; intro e w1 h; obtain ⟨he1, h⟩ := h; subst he1; have HT := hid h; clear h; replace hk := HT.out.chg; clear d0 d1 d2 e0 e1 e2 f0 f1 f2 r0 r1 r2 q0 q1 q2; obtain ⟨d0, d1, d2, e0, e1, e2, f0, f1, f2, r0, r1, r2, q0, q1, q2⟩ := HB.out _ hk) | (go_at_call 107; refine (HQU.out _ _ _ _ _ _ HT.out).mono ?_; intro e w1 h; obtain ⟨he1, h⟩ := h; subst he1; have HT := hid h; clear h; replace hk := HT.out.chg; clear d0 d1 d2 e0 e1 e2 f0 f1 f2 r0 r1 r2 q0 q1 q2; obtain ⟨d0, d1, d2, e0, e1, e2, f0, f1, f2, r0, r1, r2, q0, q1, q2⟩ := HB.out _ hk) | (go_at_call 108; refine (HAD.out _ _ _ _ HT.out).mono ?_; intro e w1 h; obtain ⟨he1, h⟩ := h; subst he1; have HT := hid h; clear h; replace hk := HT.out.chg; clear d0 d1 d2 e0 e1 e2 f0 f1 f2 r0 r1 r2 q0 q1 q2; obtain ⟨d0, d1, d2, e0, e1, e2, f0, f1, f2, r0, r1, r2, q0, q1, q2⟩ := HB.out _ hk) | (go_at_call 109; refine (HCM.out _ _ _ _ HT.out).mono ?_; intro e w1 h; obtain ⟨he1, h⟩ := h; subst he1; have HT := hid h; clear h; replace hk := HT.out.chg; clear d0 d1 d2 e0 e1 e2 f0 f1 f2 r0 r1 r2 q0 q1 q2; obtain ⟨d0, d1, d2, e0, e1, e2, f0, f1, f2, r0, r1, r2, q0, q1, q2⟩ := HB.out _ hk) | (go_at_call 110; refine (HSB.out _ _ _ _ HT.out).mono ?_; intro e w1 h; obtain ⟨he1, h⟩ := h; subst he1; have HT := hid h; clear h; replace hk := HT.out.chg; clear d0 d1 d2 e0 e1 e2 f0 f1 f2 r0 r1 r2 q0 q1 q2; obtain ⟨d0, d1, d2, e0, e1, e2, f0, f1, f2, r0, r1, r2, q0, q1, q2⟩ := HB.out _ hk) | (go_at_call 111; refine (HF.out _ _ _ _ _ HT.out).mono ?_; intro e w1 h; obtain ⟨na, nb, nc, nv, he1, hc1, hp⟩ := h.op; subst he1; replace hk := hc1; clear h hc1; clear d0 d1 d2 e0 e1 e2 f0 f1 f2 r0 r1 r2 q0 q1 q2; obtain ⟨d0, d1, d2, e0, e1, e2, f0, f1, f2, r0, r1, r2, q0, q1, q2⟩ := HB.out _ hk; have HP := hid hp; clear hp))
  refine leaves_cons (f := 104) (args := #[.pointer (some ⟨r, 0, none⟩)]) (by simp) (by simp [go_sem]) ?_
  refine (putBint_d _ .returning _).mono ?_
  rintro e u' w'' ⟨rfl, rfl, rfl⟩
  refine leaves_cons (f := 104) (args := #[.pointer (some ⟨q, 0, none⟩)]) (by simp [settle]) (by simp [go_sem]) ?_
  refine (putBint_d _ .returning _).mono ?_
  rintro e u' w'' ⟨rfl, rfl, rfl⟩
  refine leaves_cons (f := 104) (args := #[.pointer (some ⟨p, 0, none⟩)]) (by simp [settle]) (by simp [go_sem]) ?_
  refine (putBint_d _ .returning _).mono ?_
  rintro e u' w'' ⟨rfl, rfl, rfl⟩
  exact ⟨.tuple #[.agg #[.bool na, .int .i8 nb, .int .u64 nc], nv], dec_result rfl _ _ (w.heap.size + 1 + 1 + 1) _ _ _ _ 53 rfl rfl (store3 (HBX.out _ hk) _ _ _), HP.out.move (chg3 (HC0.out.trans hk sb_) (by omega) _ _ _)⟩)
theorem quo_digs {a k : Nat} (ha : a < 10 ^ 19) (hk : k ≤ 60) : a * 10 ^ k < 10 ^ 79 := by
 have h1 : a * 10 ^ k ≤ a * 10 ^ 60 := Nat.mul_le_mul_left _ (pow_le' hk)
 have h2 : a * 10 ^ 60 < 10 ^ 19 * 10 ^ 60 := Nat.mul_lt_mul_of_pos_right ha (pow10_pos _)
 rw [← Nat.pow_add] at h2
 exact Nat.lt_of_le_of_lt h1 h2
theorem addQuoBint_any (dn en fn xn : Bool) (dc ec fc ds es fs m : Nat) (hdc : dc < 10 ^ 19) (hec : ec < 10 ^ 19) (hfc : fc < 10 ^ 19) (hf0 : 0 < fc) (hds : ds ≤ 19) (hes : es ≤ 19) (hfs : fs ≤ 19) (hm : m ≤ 19) (hx : (!(en == fn)) = xn) (w : World) (he : EnvD w) :
  Calls Tryz.prog 82 #[.agg #[.bool dn, .int .i8 ds, .int .u64 (dc : Int)], .agg #[.bool en, .int .i8 es, .int .u64 (ec : Int)], .agg #[.bool fn, .int .i8 fs, .int .u64 (fc : Int)], .int .i64 m] w
   (PDecN w (aqD dn dc ds xn ec es fc fs).1 (from19 (10 ^ 19) 2 (aqD dn dc ds xn ec es fc fs).2 41 m)) := by
 have hdd := digs_le.2 hdc
 have hde := digs_le.2 hec
 have hdf := digs_le.2 hfc
 have hwd := (fiN hdc).wd
 have hwe := (fiN hec).wd
 have hwf := (fiN hfc).wd
 unfold aqD
 obtain ⟨A, hA⟩ : ∃ A, dc * 10 ^ (41 - ds) = A := ⟨_, rfl⟩
 obtain ⟨Y, hY⟩ : ∃ Y, ec * 10 ^ (41 - es + fs) = Y := ⟨_, rfl⟩
 obtain ⟨Q, hQ⟩ : ∃ Q, Y / fc = Q := ⟨_, rfl⟩
 have hA1 : A < 10 ^ 79 := by rw [← hA]; exact quo_digs hdc (by omega)
 have hY1 : Y < 10 ^ 79 := by rw [← hY]; exact quo_digs hec (by omega)
 have hQ1 : Q ≤ Y := by rw [← hQ]; exact Nat.div_le_self _ _
 have e80 : (10 : Nat) ^ 80 = 10 ^ 79 * 10 := Nat.pow_succ ..
 have dl : ∀ {c : Nat}, c ≤ A + Y → digs c ≤ 80 := fun h => digs_le.2 (by omega)
 rw [hA, hY, hQ]
 unfold sumS
 by_cases hs : dn = xn
 ·rw [if_pos hs]
  exact aqb_all dn en fn xn dn dc ec fc ds es fs m hdd hde hdf hf0 hwd hwe hwf hds hes hfs hm hx w he A hA (dl (by omega)) Y hY (dl (by omega)) Q hQ (dl (by omega)) _ (dl (by omega)) (.inl ⟨by simpa using hs, rfl, rfl⟩)
 ·rw [if_neg hs]
  by_cases hg : A < Q
  ·rw [if_pos hg]
   exact aqb_all dn en fn xn xn dc ec fc ds es fs m hdd hde hdf hf0 hwd hwe hwf hds hes hfs hm hx w he A hA (dl (by omega)) Y hY (dl (by omega)) Q hQ (dl (by omega)) _ (dl (by omega)) (.inr (.inl ⟨by simpa using hs, hg, rfl, rfl⟩))
  ·rw [if_neg hg]
   exact aqb_all dn en fn xn dn dc ec fc ds es fs m hdd hde hdf hf0 hwd hwe hwf hds hes hfs hm hx w he A hA (dl (by omega)) Y hY (dl (by omega)) Q hQ (dl (by omega)) _ (dl (by omega)) (.inr (.inr ⟨by simpa using hs, hg, rfl, rfl⟩))
end Go.Proofs.YtldhfhloinlfaaaGreatDoor
