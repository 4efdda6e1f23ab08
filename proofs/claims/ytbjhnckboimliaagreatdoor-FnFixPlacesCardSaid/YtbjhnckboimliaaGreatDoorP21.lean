/- Part 21 of the proof. -/
import Derived.Test.YtbjhnckboimliaaGreatDoorP20
namespace Go.Proofs.YtbjhnckboimliaaGreatDoor
open Go.RowKit
set_option linter.unusedVariables false
set_option linter.unusedSimpArgs false
set_option maxRecDepth 20000
set_option maxHeartbeats 4000000 in
theorem addBint_lt_same (dn en : Bool) (dc ec ds es m : Nat) (hdc : digs dc ≤ 19) (hec : digs ec ≤ 19) (hwd : Wd (dc : Int)) (hwe : Wd (ec : Int)) (hds : ds ≤ 19) (hes : es ≤ 19) (hm : m ≤ 19) (w : World) (he : EnvD w) (hlt : ds < es) (X : Nat) (hX : dc * 10 ^ (es - ds) = X) (hs : (dn == en) = true) (C : Nat) (hC : X + ec = C) :
  Calls Tryz.prog 87 #[.agg #[.bool dn, .int .i8 ds, .int .u64 (dc : Int)], .agg #[.bool en, .int .i8 es, .int .u64 (ec : Int)], .int .i64 m] w (PDecN w dn (from19 (10 ^ 19) 2 C es m)) := by
 have HWD := hid hwd
 have HWE := hid hwe
 clear hwd hwe
 have c1 : ¬ (es : Int) < (ds : Int) := by omega
 have c2 : (ds : Int) < (es : Int) := by omega
 have hw : IntKind.i64.wrap ((es : Int) - (ds : Int)) = ((es - ds : Nat) : Int) := by rw [show (es : Int) - (ds : Int) = ((es - ds : Nat) : Int) by omega]; exact IntWalk.i64_in _ (by omega)
 have HL := hid (fun w0 w2 p q (h : Two w0 w2 p q (dc : Int) (ec : Int)) => two_lsh (k := es - ds) h (Nat.le_trans hdc (by omega)) (by omega))
 rw [hX] at HL
 have hXd : digs X ≤ 38 := by rw [← hX]; exact Nat.le_trans (digs_mul hdc) (by omega)
 have hCd : digs C ≤ 39 := digs_add hXd (Nat.le_trans hec (by omega) : digs ec ≤ 38) (by omega)
 have HA := hid (fun w0 w2 p q (h : Two w0 w2 p q (X : Int) (ec : Int)) => two_add h (Nat.le_trans hXd (by omega)) (Nat.le_trans hec (by omega)))
 rw [hC] at HA
 have HF := hid (fun w0 w2 p q y (h : Two w0 w2 p q (C : Int) y) => two_nfb (s := es) dn h (Nat.le_trans hCd (by omega)) (by omega) hm)
 generalize from19 (10 ^ 19) 2 C es m = o at *
 clear hX hXd
 clear hC hCd hdc hec
 have HSD := hid (fun w => Scale_any dn (dc : Int) ds hds w)
 have HSE := hid (fun w => Scale_any en (ec : Int) es hes w)
 have HND := hid (fun w => IsNeg_any dn (dc : Int) ds w)
 have HNE := hid (fun w => IsNeg_any en (ec : Int) es w)
 have HBS := hid (Bx.start w dn ds (dc : Int) en es (ec : Int))
 have HB := hid (fun w1 (h : Chg (fun _ => False) (((w.alloc (.cells #[.bool dn, .int .i8 ds, .int .u64 (dc : Int)] 55)).alloc (.cells #[.bool en, .int .i8 es, .int .u64 (ec : Int)] 55)).alloc (.cells #[.bool false, .int .i8 0, .int .u64 0] 55)) w1) => (HBS.out.kept h).facts)
 have HBX := hid (fun w1 (h : Chg (fun _ => False) (((w.alloc (.cells #[.bool dn, .int .i8 ds, .int .u64 (dc : Int)] 55)).alloc (.cells #[.bool en, .int .i8 es, .int .u64 (ec : Int)] 55)).alloc (.cells #[.bool false, .int .i8 0, .int .u64 0] 55)) w1) => (HBS.out.kept h).h2)
 have HC0 := hid (start3 w (.cells #[.bool dn, .int .i8 ds, .int .u64 (dc : Int)] 55) (.cells #[.bool en, .int .i8 es, .int .u64 (ec : Int)] 55) (.cells #[.bool false, .int .i8 0, .int .u64 0] 55))
 have HE0 := hid (he.kept HC0.out)
 have hk := Chg.refl (fun _ => False) (((w.alloc (.cells #[.bool dn, .int .i8 ds, .int .u64 (dc : Int)] 55)).alloc (.cells #[.bool en, .int .i8 es, .int .u64 (ec : Int)] 55)).alloc (.cells #[.bool false, .int .i8 0, .int .u64 0] 55))
 obtain ⟨d0, d1, d2, e0, e1, e2, r0, r1, r2, q0, q1, q2⟩ := HB.out _ hk
 generalize es - ds = j at *
 clear he HBS
 go_enter_defers Tryz.func87, Tryz.ntmps87
 go_wp2_with (first | (go_at_call 98; refine (getBint_any _).mono ?_; intro e w1 h; obtain ⟨q, he1, hi2, hs2, hc2⟩ := h; subst he1; have HT := hid (Two.start HIP.out hsp hcp hi2 hs2 hc2 HE0.out); replace hk := hk.trans hc2 sb_; clear hi2 hs2 hc2; clear d0 d1 d2 e0 e1 e2 r0 r1 r2 q0 q1 q2; obtain ⟨d0, d1, d2, e0, e1, e2, r0, r1, r2, q0, q1, q2⟩ := HB.out _ hk) | (go_at_call 98; refine (getBint_any _).mono ?_; intro e w1 h; obtain ⟨p, he1, hip, hsp, hcp⟩ := h; subst he1; have HIP := hid hip; clear hip; replace hk := hk.trans hcp sb_; clear d0 d1 d2 e0 e1 e2 r0 r1 r2 q0 q1 q2; obtain ⟨d0, d1, d2, e0, e1, e2, r0, r1, r2, q0, q1, q2⟩ := HB.out _ hk) | (go_at_call 66; first | (refine (HSD.out _).mono ?_; intro e w1 h; obtain ⟨he1, hc1⟩ := h; subst he1; have HT := hid (HT.out.same hc1); replace hk := hk.trans hc1 sb_; clear hc1; clear d0 d1 d2 e0 e1 e2 r0 r1 r2 q0 q1 q2; obtain ⟨d0, d1, d2, e0, e1, e2, r0, r1, r2, q0, q1, q2⟩ := HB.out _ hk) | (refine (HSE.out _).mono ?_; intro e w1 h; obtain ⟨he1, hc1⟩ := h; subst he1; have HT := hid (HT.out.same hc1); replace hk := hk.trans hc1 sb_; clear hc1; clear d0 d1 d2 e0 e1 e2 r0 r1 r2 q0 q1 q2; obtain ⟨d0, d1, d2, e0, e1, e2, r0, r1, r2, q0, q1, q2⟩ := HB.out _ hk)) | (go_at_call 64; first | (refine (HND.out _).mono ?_; intro e w1 h; obtain ⟨he1, hc1⟩ := h; subst he1; have HT := hid (HT.out.same hc1); replace hk := hk.trans hc1 sb_; clear hc1; clear d0 d1 d2 e0 e1 e2 r0 r1 r2 q0 q1 q2; obtain ⟨d0, d1, d2, e0, e1, e2, r0, r1, r2, q0, q1, q2⟩ := HB.out _ hk) | (refine (HNE.out _).mono ?_; intro e w1 h; obtain ⟨he1, hc1⟩ := h; subst he1; have HT := hid (HT.out.same hc1); replace hk := hk.trans hc1 sb_; clear hc1; clear d0 d1 d2 e0 e1 e2 r0 r1 r2 q0 q1 q2; obtain ⟨d0, d1, d2, e0, e1, e2, r0, r1, r2, q0, q1, q2⟩ := HB.out _ hk)) | (go_at_call 100; first | (refine (two_setFint HT.out HWD.out).mono ?_; intro e w1 h; obtain ⟨he1, h⟩ := h; subst he1; have HT := hid h; clear h; replace hk := HT.out.chg; clear d0 d1 d2 e0 e1 e2 r0 r1 r2 q0 q1 q2; obtain ⟨d0, d1, d2, e0, e1, e2, r0, r1, r2, q0, q1, q2⟩ := HB.out _ hk) | (refine (two_setFint' HT.out HWE.out).mono ?_; intro e w1 h; obtain ⟨he1, h⟩ := h; subst he1; have HT := hid h; clear h; replace hk := HT.out.chg; clear d0 d1 d2 e0 e1 e2 r0 r1 r2 q0 q1 q2; obtain ⟨d0, d1, d2, e0, e1, e2, r0, r1, r2, q0, q1, q2⟩ := HB.out _ hk)) | (go_at_call 101; refine (HL.out _ _ _ _ HT.out).mono ?_; intro e w1 h; obtain ⟨he1, h⟩ := h; subst he1; have HT := hid h; clear h; replace hk := HT.out.chg; clear d0 d1 d2 e0 e1 e2 r0 r1 r2 q0 q1 q2; obtain ⟨d0, d1, d2, e0, e1, e2, r0, r1, r2, q0, q1, q2⟩ := HB.out _ hk) | (go_at_call 102; refine (HA.out _ _ _ _ HT.out).mono ?_; intro e w1 h; obtain ⟨he1, h⟩ := h; subst he1; have HT := hid h; clear h; replace hk := HT.out.chg; clear d0 d1 d2 e0 e1 e2 r0 r1 r2 q0 q1 q2; obtain ⟨d0, d1, d2, e0, e1, e2, r0, r1, r2, q0, q1, q2⟩ := HB.out _ hk) | (go_at_call 105; refine (HF.out _ _ _ _ _ HT.out).mono ?_; intro e w1 h; obtain ⟨na, nb, nc, nv, he1, hc1, hp⟩ := h.op; subst he1; replace hk := hc1; clear h hc1; clear d0 d1 d2 e0 e1 e2 r0 r1 r2 q0 q1 q2; obtain ⟨d0, d1, d2, e0, e1, e2, r0, r1, r2, q0, q1, q2⟩ := HB.out _ hk; have HP := hid hp; clear hp))
 refine leaves_cons (f := 99) (args := #[.pointer (some ⟨q, 0, none⟩)]) (by simp) (by simp [go_sem]) ?_
 refine (putBint_d _ .returning _).mono ?_
 rintro e u' w'' ⟨rfl, rfl, rfl⟩
 refine leaves_cons (f := 99) (args := #[.pointer (some ⟨p, 0, none⟩)]) (by simp [settle]) (by simp [go_sem]) ?_
 refine (putBint_d _ .returning _).mono ?_
 rintro e u' w'' ⟨rfl, rfl, rfl⟩
 exact ⟨.tuple #[.agg #[.bool na, .int .i8 nb, .int .u64 nc], nv], dec_result rfl _ _ (w.heap.size + 1 + 1) _ _ _ _ 55 rfl rfl (store3 (HBX.out _ hk) _ _ _), HP.out.move (chg3 (HC0.out.trans hk sb_) (by omega) _ _ _)⟩
set_option maxHeartbeats 4000000 in
theorem addBint_lt_dgt (dn en : Bool) (dc ec ds es m : Nat) (hdc : digs dc ≤ 19) (hec : digs ec ≤ 19) (hwd : Wd (dc : Int)) (hwe : Wd (ec : Int)) (hds : ds ≤ 19) (hes : es ≤ 19) (hm : m ≤ 19) (w : World) (he : EnvD w) (hlt : ds < es) (X : Nat) (hX : dc * 10 ^ (es - ds) = X) (hs : (dn == en) = false) (hg : X < ec) (C : Nat) (hC : ec - X = C) :
  Calls Tryz.prog 87 #[.agg #[.bool dn, .int .i8 ds, .int .u64 (dc : Int)], .agg #[.bool en, .int .i8 es, .int .u64 (ec : Int)], .int .i64 m] w (PDecN w en (from19 (10 ^ 19) 2 C es m)) := by
 have HWD := hid hwd
 have HWE := hid hwe
 clear hwd hwe
 have c1 : ¬ (es : Int) < (ds : Int) := by omega
 have c2 : (ds : Int) < (es : Int) := by omega
 have hw : IntKind.i64.wrap ((es : Int) - (ds : Int)) = ((es - ds : Nat) : Int) := by rw [show (es : Int) - (ds : Int) = ((es - ds : Nat) : Int) by omega]; exact IntWalk.i64_in _ (by omega)
 have HL := hid (fun w0 w2 p q (h : Two w0 w2 p q (dc : Int) (ec : Int)) => two_lsh (k := es - ds) h (Nat.le_trans hdc (by omega)) (by omega))
 rw [hX] at HL
 have hXd : digs X ≤ 38 := by rw [← hX]; exact Nat.le_trans (digs_mul hdc) (by omega)
 have hCd : digs C ≤ 39 := digs_add hXd (Nat.le_trans hec (by omega) : digs ec ≤ 38) (by omega)
 have hcc : (if X < ec then ec - X else X - ec) = C := by rw [if_pos hg]; exact hC
 have HSB := hid (fun w0 w2 p q (h : Two w0 w2 p q (X : Int) (ec : Int)) => two_subAbs h (Nat.le_trans hXd (by omega)) (Nat.le_trans hec (by omega)) hcc)
 have hcm : cmpI (ec : Int) (X : Int) = 1 := by unfold cmpI; rw [if_neg (by omega), if_pos (by omega)]
 obtain ⟨kk, hkk⟩ : ∃ kk : Int, kk = 1 := ⟨_, rfl⟩
 rw [← hkk] at hcm
 have hkp : (0 : Int) < kk := by omega
 have HCM := hid (fun w0 w2 p q (h : Two w0 w2 p q (X : Int) (ec : Int)) => two_cmp h hcm)
 clear hcc hcm hg
 clear hkk
 have HF := hid (fun w0 w2 p q y (h : Two w0 w2 p q (C : Int) y) => two_nfb (s := es) en h (Nat.le_trans hCd (by omega)) (by omega) hm)
 generalize from19 (10 ^ 19) 2 C es m = o at *
 clear hX hXd
 clear hC hCd hdc hec
 have HSD := hid (fun w => Scale_any dn (dc : Int) ds hds w)
 have HSE := hid (fun w => Scale_any en (ec : Int) es hes w)
 have HND := hid (fun w => IsNeg_any dn (dc : Int) ds w)
 have HNE := hid (fun w => IsNeg_any en (ec : Int) es w)
 have HBS := hid (Bx.start w dn ds (dc : Int) en es (ec : Int))
 have HB := hid (fun w1 (h : Chg (fun _ => False) (((w.alloc (.cells #[.bool dn, .int .i8 ds, .int .u64 (dc : Int)] 55)).alloc (.cells #[.bool en, .int .i8 es, .int .u64 (ec : Int)] 55)).alloc (.cells #[.bool false, .int .i8 0, .int .u64 0] 55)) w1) => (HBS.out.kept h).facts)
 have HBX := hid (fun w1 (h : Chg (fun _ => False) (((w.alloc (.cells #[.bool dn, .int .i8 ds, .int .u64 (dc : Int)] 55)).alloc (.cells #[.bool en, .int .i8 es, .int .u64 (ec : Int)] 55)).alloc (.cells #[.bool false, .int .i8 0, .int .u64 0] 55)) w1) => (HBS.out.kept h).h2)
 have HC0 := hid (start3 w (.cells #[.bool dn, .int .i8 ds, .int .u64 (dc : Int)] 55) (.cells #[.bool en, .int .i8 es, .int .u64 (ec : Int)] 55) (.cells #[.bool false, .int .i8 0, .int .u64 0] 55))
 have HE0 := hid (he.kept HC0.out)
 have hk := Chg.refl (fun _ => False) (((w.alloc (.cells #[.bool dn, .int .i8 ds, .int .u64 (dc : Int)] 55)).alloc (.cells #[.bool en, .int .i8 es, .int .u64 (ec : Int)] 55)).alloc (.cells #[.bool false, .int .i8 0, .int .u64 0] 55))
 obtain ⟨d0, d1, d2, e0, e1, e2, r0, r1, r2, q0, q1, q2⟩ := HB.out _ hk
 generalize es - ds = j at *
 clear he HBS
 go_enter_defers Tryz.func87, Tryz.ntmps87
 go_wp2_with (first | (go_at_call 98; refine (getBint_any _).mono ?_; intro e w1 h; obtain ⟨q, he1, hi2, hs2, hc2⟩ := h; subst he1; have HT := hid (Two.start HIP.out hsp hcp hi2 hs2 hc2 HE0.out); replace hk := hk.trans hc2 sb_; clear hi2 hs2 hc2; clear d0 d1 d2 e0 e1 e2 r0 r1 r2 q0 q1 q2; obtain ⟨d0, d1, d2, e0, e1, e2, r0, r1, r2, q0, q1, q2⟩ := HB.out _ hk) | (go_at_call 98; refine (getBint_any _).mono ?_; intro e w1 h; obtain ⟨p, he1, hip, hsp, hcp⟩ := h; subst he1; have HIP := hid hip; clear hip; replace hk := hk.trans hcp sb_; clear d0 d1 d2 e0 e1 e2 r0 r1 r2 q0 q1 q2; obtain ⟨d0, d1, d2, e0, e1, e2, r0, r1, r2, q0, q1, q2⟩ := HB.out _ hk) | (go_at_call 66; first | (refine (HSD.out _).mono ?_; intro e w1 h; obtain ⟨he1, hc1⟩ := h; subst he1; have HT := hid (HT.out.same hc1); replace hk := hk.trans hc1 sb_; clear hc1; clear d0 d1 d2 e0 e1 e2 r0 r1 r2 q0 q1 q2; obtain ⟨d0, d1, d2, e0, e1, e2, r0, r1, r2, q0, q1, q2⟩ := HB.out _ hk) | (refine (HSE.out _).mono ?_; intro e w1 h; obtain ⟨he1, hc1⟩ := h; subst he1; have HT := hid (HT.out.same hc1); replace hk := hk.trans hc1 sb_; clear hc1; clear d0 d1 d2 e0 e1 e2 r0 r1 r2 q0 q1 q2; obtain ⟨d0, d1, d2, e0, e1, e2, r0, r1, r2, q0, q1, q2⟩ := HB.out _ hk)) | (go_at_call 64; first | (refine (HND.out _).mono ?_; intro e w1 h; obtain ⟨he1, hc1⟩ := h; subst he1; have HT := hid (HT.out.same hc1); replace hk := hk.trans hc1 sb_; clear hc1; clear d0 d1 d2 e0 e1 e2 r0 r1 r2 q0 q1 q2; obtain ⟨d0, d1, d2, e0, e1, e2, r0, r1, r2, q0, q1, q2⟩ := HB.out _ hk) | (refine (HNE.out _).mono ?_; intro e w1 h; obtain ⟨he1, hc1⟩ := h; subst he1; have HT := hid (HT.out.same hc1); replace hk := hk.trans hc1 sb_; clear hc1; clear d0 d1 d2 e0 e1 e2 r0 r1 r2 q0 q1 q2; obtain ⟨d0, d1, d2, e0, e1, e2, r0, r1, r2, q0, q1, q2⟩ := HB.out _ hk)) | (go_at_call 100; first | (refine (two_setFint HT.out HWD.out).mono ?_; intro e w1 h; obtain ⟨he1, h⟩ := h; subst he1; have HT := hid h; clear h; replace hk := HT.out.chg; clear d0 d1 d2 e0 e1 e2 r0 r1 r2 q0 q1 q2; obtain ⟨d0, d1, d2, e0, e1, e2, r0, r1, r2, q0, q1, q2⟩ := HB.out _ hk) | (refine (two_setFint' HT.out HWE.out).mono ?_; intro e w1 h; obtain ⟨he1, h⟩ := h; subst he1; have HT := hid h; clear h; replace hk := HT.out.chg; clear d0 d1 d2 e0 e1 e2 r0 r1 r2 q0 q1 q2; obtain ⟨d0, d1, d2, e0, e1, e2, r0, r1, r2, q0, q1, q2⟩ := HB.out _ hk)) | (go_at_call 101; refine (HL.out _ _ _ _ HT.out).mono ?_; intro e w1 h; obtain ⟨he1, h⟩ := h; subst he1; have HT := hid h; clear h; replace hk := HT.out.chg; clear d0 d1 d2 e0 e1 e2 r0 r1 r2 q0 q1 q2; obtain ⟨d0, d1, d2, e0, e1, e2, r0, r1, r2, q0, q1, q2⟩ := HB.out _ hk) | (go_at_call 103; refine (HCM.out _ _ _ _ HT.out).mono ?_; intro e w1 h; obtain ⟨he1, h⟩ := h; subst he1; have HT := hid h; clear h; replace hk := HT.out.chg; clear d0 d1 d2 e0 e1 e2 r0 r1 r2 q0 q1 q2; obtain ⟨d0, d1, d2, e0, e1, e2, r0, r1, r2, q0, q1, q2⟩ := HB.out _ hk) | (go_at_call 104; refine (HSB.out _ _ _ _ HT.out).mono ?_; intro e w1 h; obtain ⟨he1, h⟩ := h; subst he1; have HT := hid h; clear h; replace hk := HT.out.chg; clear d0 d1 d2 e0 e1 e2 r0 r1 r2 q0 q1 q2; obtain ⟨d0, d1, d2, e0, e1, e2, r0, r1, r2, q0, q1, q2⟩ := HB.out _ hk) | (go_at_call 105; refine (HF.out _ _ _ _ _ HT.out).mono ?_; intro e w1 h; obtain ⟨na, nb, nc, nv, he1, hc1, hp⟩ := h.op; subst he1; replace hk := hc1; clear h hc1; clear d0 d1 d2 e0 e1 e2 r0 r1 r2 q0 q1 q2; obtain ⟨d0, d1, d2, e0, e1, e2, r0, r1, r2, q0, q1, q2⟩ := HB.out _ hk; have HP := hid hp; clear hp))
 refine leaves_cons (f := 99) (args := #[.pointer (some ⟨q, 0, none⟩)]) (by simp) (by simp [go_sem]) ?_
 refine (putBint_d _ .returning _).mono ?_
 rintro e u' w'' ⟨rfl, rfl, rfl⟩
 refine leaves_cons (f := 99) (args := #[.pointer (some ⟨p, 0, none⟩)]) (by simp [settle]) (by simp [go_sem]) ?_
 refine (putBint_d _ .returning _).mono ?_
 rintro e u' w'' ⟨rfl, rfl, rfl⟩
 exact ⟨.tuple #[.agg #[.bool na, .int .i8 nb, .int .u64 nc], nv], dec_result rfl _ _ (w.heap.size + 1 + 1) _ _ _ _ 55 rfl rfl (store3 (HBX.out _ hk) _ _ _), HP.out.move (chg3 (HC0.out.trans hk sb_) (by omega) _ _ _)⟩
set_option maxHeartbeats 4000000 in
theorem addBint_lt_dle (dn en : Bool) (dc ec ds es m : Nat) (hdc : digs dc ≤ 19) (hec : digs ec ≤ 19) (hwd : Wd (dc : Int)) (hwe : Wd (ec : Int)) (hds : ds ≤ 19) (hes : es ≤ 19) (hm : m ≤ 19) (w : World) (he : EnvD w) (hlt : ds < es) (X : Nat) (hX : dc * 10 ^ (es - ds) = X) (hs : (dn == en) = false) (hg : ¬ X < ec) (C : Nat) (hC : X - ec = C) :
  Calls Tryz.prog 87 #[.agg #[.bool dn, .int .i8 ds, .int .u64 (dc : Int)], .agg #[.bool en, .int .i8 es, .int .u64 (ec : Int)], .int .i64 m] w (PDecN w dn (from19 (10 ^ 19) 2 C es m)) := by
 have HWD := hid hwd
 have HWE := hid hwe
 clear hwd hwe
 have c1 : ¬ (es : Int) < (ds : Int) := by omega
 have c2 : (ds : Int) < (es : Int) := by omega
 have hw : IntKind.i64.wrap ((es : Int) - (ds : Int)) = ((es - ds : Nat) : Int) := by rw [show (es : Int) - (ds : Int) = ((es - ds : Nat) : Int) by omega]; exact IntWalk.i64_in _ (by omega)
 have HL := hid (fun w0 w2 p q (h : Two w0 w2 p q (dc : Int) (ec : Int)) => two_lsh (k := es - ds) h (Nat.le_trans hdc (by omega)) (by omega))
 rw [hX] at HL
 have hXd : digs X ≤ 38 := by rw [← hX]; exact Nat.le_trans (digs_mul hdc) (by omega)
 have hCd : digs C ≤ 39 := digs_add hXd (Nat.le_trans hec (by omega) : digs ec ≤ 38) (by omega)
 have hcc : (if X < ec then ec - X else X - ec) = C := by rw [if_neg hg]; exact hC
 have HSB := hid (fun w0 w2 p q (h : Two w0 w2 p q (X : Int) (ec : Int)) => two_subAbs h (Nat.le_trans hXd (by omega)) (Nat.le_trans hec (by omega)) hcc)
 obtain ⟨kk, hcm⟩ : ∃ kk : Int, cmpI (ec : Int) (X : Int) = kk := ⟨_, rfl⟩
 have hkp : ¬ (0 : Int) < kk := by rw [← hcm]; unfold cmpI; split <;> (try split) <;> omega
 have HCM := hid (fun w0 w2 p q (h : Two w0 w2 p q (X : Int) (ec : Int)) => two_cmp h hcm)
 clear hcc hcm hg
 have HF := hid (fun w0 w2 p q y (h : Two w0 w2 p q (C : Int) y) => two_nfb (s := es) dn h (Nat.le_trans hCd (by omega)) (by omega) hm)
 generalize from19 (10 ^ 19) 2 C es m = o at *
 clear hX hXd
 clear hC hCd hdc hec
 have HSD := hid (fun w => Scale_any dn (dc : Int) ds hds w)
 have HSE := hid (fun w => Scale_any en (ec : Int) es hes w)
 have HND := hid (fun w => IsNeg_any dn (dc : Int) ds w)
 have HNE := hid (fun w => IsNeg_any en (ec : Int) es w)
 have HBS := hid (Bx.start w dn ds (dc : Int) en es (ec : Int))
 have HB := hid (fun w1 (h : Chg (fun _ => False) (((w.alloc (.cells #[.bool dn, .int .i8 ds, .int .u64 (dc : Int)] 55)).alloc (.cells #[.bool en, .int .i8 es, .int .u64 (ec : Int)] 55)).alloc (.cells #[.bool false, .int .i8 0, .int .u64 0] 55)) w1) => (HBS.out.kept h).facts)
 have HBX := hid (fun w1 (h : Chg (fun _ => False) (((w.alloc (.cells #[.bool dn, .int .i8 ds, .int .u64 (dc : Int)] 55)).alloc (.cells #[.bool en, .int .i8 es, .int .u64 (ec : Int)] 55)).alloc (.cells #[.bool false, .int .i8 0, .int .u64 0] 55)) w1) => (HBS.out.kept h).h2)
 have HC0 := hid (start3 w (.cells #[.bool dn, .int .i8 ds, .int .u64 (dc : Int)] 55) (.cells #[.bool en, .int .i8 es, .int .u64 (ec : Int)] 55) (.cells #[.bool false, .int .i8 0, .int .u64 0] 55))
 have HE0 := hid (he.kept HC0.out)
 have hk := Chg.refl (fun _ => False) (((w.alloc (.cells #[.bool dn, .int .i8 ds, .int .u64 (dc : Int)] 55)).alloc (.cells #[.bool en, .int .i8 es, .int .u64 (ec : Int)] 55)).alloc (.cells #[.bool false, .int .i8 0, .int .u64 0] 55))
 obtain ⟨d0, d1, d2, e0, e1, e2, r0, r1, r2, q0, q1, q2⟩ := HB.out _ hk
 generalize es - ds = j at *
 clear he HBS
 go_enter_defers Tryz.func87, Tryz.ntmps87
 go_wp2_with (first | (go_at_call 98; refine (getBint_any _).mono ?_; intro e w1 h; obtain ⟨q, he1, hi2, hs2, hc2⟩ := h; subst he1; have HT := hid (Two.start HIP.out hsp hcp hi2 hs2 hc2 HE0.out); replace hk := hk.trans hc2 sb_; clear hi2 hs2 hc2; clear d0 d1 d2 e0 e1 e2 r0 r1 r2 q0 q1 q2; obtain ⟨d0, d1, d2, e0, e1, e2, r0, r1, r2, q0, q1, q2⟩ := HB.out _ hk) | (go_at_call 98; refine (getBint_any _).mono ?_; intro e w1 h; obtain ⟨p, he1, hip, hsp, hcp⟩ := h; subst he1; have HIP := hid hip; clear hip; replace hk := hk.trans hcp sb_; clear d0 d1 d2 e0 e1 e2 r0 r1 r2 q0 q1 q2; obtain ⟨d0, d1, d2, e0, e1, e2, r0, r1, r2, q0, q1, q2⟩ := HB.out _ hk) | (go_at_call 66; first | (refine (HSD.out _).mono ?_; intro e w1 h; obtain ⟨he1, hc1⟩ := h; subst he1; have HT := hid (HT.out.same hc1); replace hk := hk.trans hc1 sb_; clear hc1; clear d0 d1 d2 e0 e1 e2 r0 r1 r2 q0 q1 q2; obtain ⟨d0, d1, d2, e0, e1, e2, r0, r1, r2, q0, q1, q2⟩ := HB.out _ hk) | (refine (HSE.out _).mono ?_; intro e w1 h; obtain ⟨he1, hc1⟩ := h; subst he1; have HT := hid (HT.out.same hc1); replace hk := hk.trans hc1 sb_; clear hc1; clear d0 d1 d2 e0 e1 e2 r0 r1 r2 q0 q1 q2; obtain ⟨d0, d1, d2, e0, e1, e2, r0, r1, r2, q0, q1, q2⟩ := HB.out _ hk)) | (go_at_call 64; first | (refine (HND.out _).mono ?_; intro e w1 h; obtain ⟨he1, hc1⟩ := h; subst he1; have HT := hid (HT.out.same hc1); replace hk := hk.trans hc1 sb_; clear hc1; clear d0 d1 d2 e0 e1 e2 r0 r1 r2 q0 q1 q2; obtain ⟨d0, d1, d2, e0, e1, e2, r0, r1, r2, q0, q1, q2⟩ := HB.out _ hk) | (refine (HNE.out _).mono ?_; intro e w1 h; obtain ⟨he1, hc1⟩ := h; subst he1; have HT := hid (HT.out.same hc1); replace hk := hk.trans hc1 sb_; clear hc1; clear d0 d1 d2 e0 e1 e2 r0 r1 r2 q0 q1 q2; obtain ⟨d0, d1, d2, e0, e1, e2, r0, r1, r2, q0, q1, q2⟩ := HB.out _ hk)) | (go_at_call 100; first | (refine (two_setFint HT.out HWD.out).mono ?_; intro e w1 h; obtain ⟨he1, h⟩ := h; subst he1; have HT := hid h; clear h; replace hk := HT.out.chg; clear d0 d1 d2 e0 e1 e2 r0 r1 r2 q0 q1 q2; obtain ⟨d0, d1, d2, e0, e1, e2, r0, r1, r2, q0, q1, q2⟩ := HB.out _ hk) | (refine (two_setFint' HT.out HWE.out).mono ?_; intro e w1 h; obtain ⟨he1, h⟩ := h; subst he1; have HT := hid h; clear h; replace hk := HT.out.chg; clear d0 d1 d2 e0 e1 e2 r0 r1 r2 q0 q1 q2; obtain ⟨d0, d1, d2, e0, e1, e2, r0, r1, r2, q0, q1, q2⟩ := HB.out _ hk)) | (go_at_call 101; refine (HL.out _ _ _ _ HT.out).mono ?_; intro e w1 h; obtain ⟨he1, h⟩ := h; subst he1; have HT := hid h; clear h; replace hk := HT.out.chg; clear d0 d1 d2 e0 e1 e2 r0 r1 r2 q0 q1 q2; obtain ⟨d0, d1, d2, e0, e1, e2, r0, r1, r2, q0, q1, q2⟩ := HB.out _ hk) | (go_at_call 103; refine (HCM.out _ _ _ _ HT.out).mono ?_; intro e w1 h; obtain ⟨he1, h⟩ := h; subst he1; have HT := hid h; clear h; replace hk := HT.out.chg; clear d0 d1 d2 e0 e1 e2 r0 r1 r2 q0 q1 q2; obtain ⟨d0, d1, d2, e0, e1, e2, r0, r1, r2, q0, q1, q2⟩ := HB.out _ hk) | (go_at_call 104; refine (HSB.out _ _ _ _ HT.out).mono ?_; intro e w1 h; obtain ⟨he1, h⟩ := h; subst he1; have HT := hid h; clear h; replace hk := HT.out.chg; clear d0 d1 d2 e0 e1 e2 r0 r1 r2 q0 q1 q2; obtain ⟨d0, d1, d2, e0, e1, e2, r0, r1, r2, q0, q1, q2⟩ := HB.out _ hk) | (go_at_call 105; refine (HF.out _ _ _ _ _ HT.out).mono ?_; intro e w1 h; obtain ⟨na, nb, nc, nv, he1, hc1, hp⟩ := h.op; subst he1; replace hk := hc1; clear h hc1; clear d0 d1 d2 e0 e1 e2 r0 r1 r2 q0 q1 q2; obtain ⟨d0, d1, d2, e0, e1, e2, r0, r1, r2, q0, q1, q2⟩ := HB.out _ hk; have HP := hid hp; clear hp))
 refine leaves_cons (f := 99) (args := #[.pointer (some ⟨q, 0, none⟩)]) (by simp) (by simp [go_sem]) ?_
 refine (putBint_d _ .returning _).mono ?_
 rintro e u' w'' ⟨rfl, rfl, rfl⟩
 refine leaves_cons (f := 99) (args := #[.pointer (some ⟨p, 0, none⟩)]) (by simp [settle]) (by simp [go_sem]) ?_
 refine (putBint_d _ .returning _).mono ?_
 rintro e u' w'' ⟨rfl, rfl, rfl⟩
 exact ⟨.tuple #[.agg #[.bool na, .int .i8 nb, .int .u64 nc], nv], dec_result rfl _ _ (w.heap.size + 1 + 1) _ _ _ _ 55 rfl rfl (store3 (HBX.out _ hk) _ _ _), HP.out.move (chg3 (HC0.out.trans hk sb_) (by omega) _ _ _)⟩
set_option maxHeartbeats 4000000 in
theorem addBint_eq_same (dn en : Bool) (dc ec ds es m : Nat) (hdc : digs dc ≤ 19) (hec : digs ec ≤ 19) (hwd : Wd (dc : Int)) (hwe : Wd (ec : Int)) (hds : ds ≤ 19) (hes : es ≤ 19) (hm : m ≤ 19) (w : World) (he : EnvD w) (hlt : es = ds) (hs : (dn == en) = true) (C : Nat) (hC : dc + ec = C) :
  Calls Tryz.prog 87 #[.agg #[.bool dn, .int .i8 ds, .int .u64 (dc : Int)], .agg #[.bool en, .int .i8 es, .int .u64 (ec : Int)], .int .i64 m] w (PDecN w dn (from19 (10 ^ 19) 2 C ds m)) := by
 have HWD := hid hwd
 have HWE := hid hwe
 clear hwd hwe
 subst hlt
 have c1 : ¬ (es : Int) < (es : Int) := by omega
 have hCd : digs C ≤ 39 := digs_add (Nat.le_trans hdc (by omega) : digs dc ≤ 38) (Nat.le_trans hec (by omega) : digs ec ≤ 38) (by omega)
 have HA := hid (fun w0 w2 p q (h : Two w0 w2 p q (dc : Int) (ec : Int)) => two_add h (Nat.le_trans hdc (by omega)) (Nat.le_trans hec (by omega)))
 rw [hC] at HA
 have HF := hid (fun w0 w2 p q y (h : Two w0 w2 p q (C : Int) y) => two_nfb (s := es) dn h (Nat.le_trans hCd (by omega)) (by omega) hm)
 generalize from19 (10 ^ 19) 2 C es m = o at *
 clear hC hCd hdc hec
 have HSD := hid (fun w => Scale_any dn (dc : Int) es hes w)
 have HSE := hid (fun w => Scale_any en (ec : Int) es hes w)
 have HND := hid (fun w => IsNeg_any dn (dc : Int) es w)
 have HNE := hid (fun w => IsNeg_any en (ec : Int) es w)
 have HBS := hid (Bx.start w dn es (dc : Int) en es (ec : Int))
 have HB := hid (fun w1 (h : Chg (fun _ => False) (((w.alloc (.cells #[.bool dn, .int .i8 es, .int .u64 (dc : Int)] 55)).alloc (.cells #[.bool en, .int .i8 es, .int .u64 (ec : Int)] 55)).alloc (.cells #[.bool false, .int .i8 0, .int .u64 0] 55)) w1) => (HBS.out.kept h).facts)
 have HBX := hid (fun w1 (h : Chg (fun _ => False) (((w.alloc (.cells #[.bool dn, .int .i8 es, .int .u64 (dc : Int)] 55)).alloc (.cells #[.bool en, .int .i8 es, .int .u64 (ec : Int)] 55)).alloc (.cells #[.bool false, .int .i8 0, .int .u64 0] 55)) w1) => (HBS.out.kept h).h2)
 have HC0 := hid (start3 w (.cells #[.bool dn, .int .i8 es, .int .u64 (dc : Int)] 55) (.cells #[.bool en, .int .i8 es, .int .u64 (ec : Int)] 55) (.cells #[.bool false, .int .i8 0, .int .u64 0] 55))
 have HE0 := hid (he.kept HC0.out)
 have hk := Chg.refl (fun _ => False) (((w.alloc (.cells #[.bool dn, .int .i8 es, .int .u64 (dc : Int)] 55)).alloc (.cells #[.bool en, .int .i8 es, .int .u64 (ec : Int)] 55)).alloc (.cells #[.bool false, .int .i8 0, .int .u64 0] 55))
 obtain ⟨d0, d1, d2, e0, e1, e2, r0, r1, r2, q0, q1, q2⟩ := HB.out _ hk
 clear he HBS
 go_enter_defers Tryz.func87, Tryz.ntmps87
 go_wp2_with (first | (go_at_call 98; refine (getBint_any _).mono ?_; intro e w1 h; obtain ⟨q, he1, hi2, hs2, hc2⟩ := h; subst he1; have HT := hid (Two.start HIP.out hsp hcp hi2 hs2 hc2 HE0.out); replace hk := hk.trans hc2 sb_; clear hi2 hs2 hc2; clear d0 d1 d2 e0 e1 e2 r0 r1 r2 q0 q1 q2; obtain ⟨d0, d1, d2, e0, e1, e2, r0, r1, r2, q0, q1, q2⟩ := HB.out _ hk) | (go_at_call 98; refine (getBint_any _).mono ?_; intro e w1 h; obtain ⟨p, he1, hip, hsp, hcp⟩ := h; subst he1; have HIP := hid hip; clear hip; replace hk := hk.trans hcp sb_; clear d0 d1 d2 e0 e1 e2 r0 r1 r2 q0 q1 q2; obtain ⟨d0, d1, d2, e0, e1, e2, r0, r1, r2, q0, q1, q2⟩ := HB.out _ hk) | (go_at_call 66; first | (refine (HSD.out _).mono ?_; intro e w1 h; obtain ⟨he1, hc1⟩ := h; subst he1; have HT := hid (HT.out.same hc1); replace hk := hk.trans hc1 sb_; clear hc1; clear d0 d1 d2 e0 e1 e2 r0 r1 r2 q0 q1 q2; obtain ⟨d0, d1, d2, e0, e1, e2, r0, r1, r2, q0, q1, q2⟩ := HB.out _ hk) | (refine (HSE.out _).mono ?_; intro e w1 h; obtain ⟨he1, hc1⟩ := h; subst he1; have HT := hid (HT.out.same hc1); replace hk := hk.trans hc1 sb_; clear hc1; clear d0 d1 d2 e0 e1 e2 r0 r1 r2 q0 q1 q2; obtain ⟨d0, d1, d2, e0, e1, e2, r0, r1, r2, q0, q1, q2⟩ := HB.out _ hk)) | (go_at_call 64; first | (refine (HND.out _).mono ?_; intro e w1 h; obtain ⟨he1, hc1⟩ := h; subst he1; have HT := hid (HT.out.same hc1); replace hk := hk.trans hc1 sb_; clear hc1; clear d0 d1 d2 e0 e1 e2 r0 r1 r2 q0 q1 q2; obtain ⟨d0, d1, d2, e0, e1, e2, r0, r1, r2, q0, q1, q2⟩ := HB.out _ hk) | (refine (HNE.out _).mono ?_; intro e w1 h; obtain ⟨he1, hc1⟩ := h; subst he1; have HT := hid (HT.out.same hc1); replace hk := hk.trans hc1 sb_; clear hc1; clear d0 d1 d2 e0 e1 e2 r0 r1 r2 q0 q1 q2; obtain ⟨d0, d1, d2, e0, e1, e2, r0, r1, r2, q0, q1, q2⟩ := HB.out _ hk)) | (go_at_call 100; first | (refine (two_setFint HT.out HWD.out).mono ?_; intro e w1 h; obtain ⟨he1, h⟩ := h; subst he1; have HT := hid h; clear h; replace hk := HT.out.chg; clear d0 d1 d2 e0 e1 e2 r0 r1 r2 q0 q1 q2; obtain ⟨d0, d1, d2, e0, e1, e2, r0, r1, r2, q0, q1, q2⟩ := HB.out _ hk) | (refine (two_setFint' HT.out HWE.out).mono ?_; intro e w1 h; obtain ⟨he1, h⟩ := h; subst he1; have HT := hid h; clear h; replace hk := HT.out.chg; clear d0 d1 d2 e0 e1 e2 r0 r1 r2 q0 q1 q2; obtain ⟨d0, d1, d2, e0, e1, e2, r0, r1, r2, q0, q1, q2⟩ := HB.out _ hk)) | (go_at_call 102; refine (HA.out _ _ _ _ HT.out).mono ?_; intro e w1 h; obtain ⟨he1, h⟩ := h; subst he1; have HT := hid h; clear h; replace hk := HT.out.chg; clear d0 d1 d2 e0 e1 e2 r0 r1 r2 q0 q1 q2; obtain ⟨d0, d1, d2, e0, e1, e2, r0, r1, r2, q0, q1, q2⟩ := HB.out _ hk) | (go_at_call 105; refine (HF.out _ _ _ _ _ HT.out).mono ?_; intro e w1 h; obtain ⟨na, nb, nc, nv, he1, hc1, hp⟩ := h.op; subst he1; replace hk := hc1; clear h hc1; clear d0 d1 d2 e0 e1 e2 r0 r1 r2 q0 q1 q2; obtain ⟨d0, d1, d2, e0, e1, e2, r0, r1, r2, q0, q1, q2⟩ := HB.out _ hk; have HP := hid hp; clear hp))
 refine leaves_cons (f := 99) (args := #[.pointer (some ⟨q, 0, none⟩)]) (by simp) (by simp [go_sem]) ?_
 refine (putBint_d _ .returning _).mono ?_
 rintro e u' w'' ⟨rfl, rfl, rfl⟩
 refine leaves_cons (f := 99) (args := #[.pointer (some ⟨p, 0, none⟩)]) (by simp [settle]) (by simp [go_sem]) ?_
 refine (putBint_d _ .returning _).mono ?_
 rintro e u' w'' ⟨rfl, rfl, rfl⟩
 exact ⟨.tuple #[.agg #[.bool na, .int .i8 nb, .int .u64 nc], nv], dec_result rfl _ _ (w.heap.size + 1 + 1) _ _ _ _ 55 rfl rfl (store3 (HBX.out _ hk) _ _ _), HP.out.move (chg3 (HC0.out.trans hk sb_) (by omega) _ _ _)⟩
set_option maxHeartbeats 4000000 in
theorem addBint_eq_dgt (dn en : Bool) (dc ec ds es m : Nat) (hdc : digs dc ≤ 19) (hec : digs ec ≤ 19) (hwd : Wd (dc : Int)) (hwe : Wd (ec : Int)) (hds : ds ≤ 19) (hes : es ≤ 19) (hm : m ≤ 19) (w : World) (he : EnvD w) (hlt : es = ds) (hs : (dn == en) = false) (hg : dc < ec) (C : Nat) (hC : ec - dc = C) :
  Calls Tryz.prog 87 #[.agg #[.bool dn, .int .i8 ds, .int .u64 (dc : Int)], .agg #[.bool en, .int .i8 es, .int .u64 (ec : Int)], .int .i64 m] w (PDecN w en (from19 (10 ^ 19) 2 C ds m)) := by
 have HWD := hid hwd
 have HWE := hid hwe
 clear hwd hwe
 subst hlt
 have c1 : ¬ (es : Int) < (es : Int) := by omega
 have hCd : digs C ≤ 39 := digs_add (Nat.le_trans hdc (by omega) : digs dc ≤ 38) (Nat.le_trans hec (by omega) : digs ec ≤ 38) (by omega)
 have hcc : (if dc < ec then ec - dc else dc - ec) = C := by rw [if_pos hg]; exact hC
 have HSB := hid (fun w0 w2 p q (h : Two w0 w2 p q (dc : Int) (ec : Int)) => two_subAbs h (Nat.le_trans hdc (by omega)) (Nat.le_trans hec (by omega)) hcc)
 have hcm : cmpI (ec : Int) (dc : Int) = 1 := by unfold cmpI; rw [if_neg (by omega), if_pos (by omega)]
 obtain ⟨kk, hkk⟩ : ∃ kk : Int, kk = 1 := ⟨_, rfl⟩
 rw [← hkk] at hcm
 have hkp : (0 : Int) < kk := by omega
 have HCM := hid (fun w0 w2 p q (h : Two w0 w2 p q (dc : Int) (ec : Int)) => two_cmp h hcm)
 clear hcc hcm hg
 clear hkk
 have HF := hid (fun w0 w2 p q y (h : Two w0 w2 p q (C : Int) y) => two_nfb (s := es) en h (Nat.le_trans hCd (by omega)) (by omega) hm)
 generalize from19 (10 ^ 19) 2 C es m = o at *
 clear hC hCd hdc hec
 have HSD := hid (fun w => Scale_any dn (dc : Int) es hes w)
 have HSE := hid (fun w => Scale_any en (ec : Int) es hes w)
 have HND := hid (fun w => IsNeg_any dn (dc : Int) es w)
 have HNE := hid (fun w => IsNeg_any en (ec : Int) es w)
 have HBS := hid (Bx.start w dn es (dc : Int) en es (ec : Int))
 have HB := hid (fun w1 (h : Chg (fun _ => False) (((w.alloc (.cells #[.bool dn, .int .i8 es, .int .u64 (dc : Int)] 55)).alloc (.cells #[.bool en, .int .i8 es, .int .u64 (ec : Int)] 55)).alloc (.cells #[.bool false, .int .i8 0, .int .u64 0] 55)) w1) => (HBS.out.kept h).facts)
 have HBX := hid (fun w1 (h : Chg (fun _ => False) (((w.alloc (.cells #[.bool dn, .int .i8 es, .int .u64 (dc : Int)] 55)).alloc (.cells #[.bool en, .int .i8 es, .int .u64 (ec : Int)] 55)).alloc (.cells #[.bool false, .int .i8 0, .int .u64 0] 55)) w1) => (HBS.out.kept h).h2)
 have HC0 := hid (start3 w (.cells #[.bool dn, .int .i8 es, .int .u64 (dc : Int)] 55) (.cells #[.bool en, .int .i8 es, .int .u64 (ec : Int)] 55) (.cells #[.bool false, .int .i8 0, .int .u64 0] 55))
 have HE0 := hid (he.kept HC0.out)
 have hk := Chg.refl (fun _ => False) (((w.alloc (.cells #[.bool dn, .int .i8 es, .int .u64 (dc : Int)] 55)).alloc (.cells #[.bool en, .int .i8 es, .int .u64 (ec : Int)] 55)).alloc (.cells #[.bool false, .int .i8 0, .int .u64 0] 55))
 obtain ⟨d0, d1, d2, e0, e1, e2, r0, r1, r2, q0, q1, q2⟩ := HB.out _ hk
 clear he HBS
 go_enter_defers Tryz.func87, Tryz.ntmps87
 go_wp2_with (first | (go_at_call 98; refine (getBint_any _).mono ?_; intro e w1 h; obtain ⟨q, he1, hi2, hs2, hc2⟩ := h; subst he1; have HT := hid (Two.start HIP.out hsp hcp hi2 hs2 hc2 HE0.out); replace hk := hk.trans hc2 sb_; clear hi2 hs2 hc2; clear d0 d1 d2 e0 e1 e2 r0 r1 r2 q0 q1 q2; obtain ⟨d0, d1, d2, e0, e1, e2, r0, r1, r2, q0, q1, q2⟩ := HB.out _ hk) | (go_at_call 98; refine (getBint_any _).mono ?_; intro e w1 h; obtain ⟨p, he1, hip, hsp, hcp⟩ := h; subst he1; have HIP := hid hip; clear hip; replace hk := hk.trans hcp sb_; clear d0 d1 d2 e0 e1 e2 r0 r1 r2 q0 q1 q2; obtain ⟨d0, d1, d2, e0, e1, e2, r0, r1, r2, q0, q1, q2⟩ := HB.out _ hk) | (go_at_call 66; first | (refine (HSD.out _).mono ?_; intro e w1 h; obtain ⟨he1, hc1⟩ := h; subst he1; have HT := hid (HT.out.same hc1); replace hk := hk.trans hc1 sb_; clear hc1; clear d0 d1 d2 e0 e1 e2 r0 r1 r2 q0 q1 q2; obtain ⟨d0, d1, d2, e0, e1, e2, r0, r1, r2, q0, q1, q2⟩ := HB.out _ hk) | (refine (HSE.out _).mono ?_; intro e w1 h; obtain ⟨he1, hc1⟩ := h; subst he1; have HT := hid (HT.out.same hc1); replace hk := hk.trans hc1 sb_; clear hc1; clear d0 d1 d2 e0 e1 e2 r0 r1 r2 q0 q1 q2; obtain ⟨d0, d1, d2, e0, e1, e2, r0, r1, r2, q0, q1, q2⟩ := HB.out _ hk)) | (go_at_call 64; first | (refine (HND.out _).mono ?_; intro e w1 h; obtain ⟨he1, hc1⟩ := h; subst he1; have HT := hid (HT.out.same hc1); replace hk := hk.trans hc1 sb_; clear hc1; clear d0 d1 d2 e0 e1 e2 r0 r1 r2 q0 q1 q2; obtain ⟨d0, d1, d2, e0, e1, e2, r0, r1, r2, q0, q1, q2⟩ := HB.out _ hk) | (refine (HNE.out _).mono ?_; intro e w1 h; obtain ⟨he1, hc1⟩ := h; subst he1; have HT := hid (HT.out.same hc1); replace hk := hk.trans hc1 sb_; clear hc1; clear d0 d1 d2 e0 e1 e2 r0 r1 r2 q0 q1 q2; obtain ⟨d0, d1, d2, e0, e1, e2, r0, r1, r2, q0, q1, q2⟩ := HB.out _ hk)) | (go_at_call 100; first | (refine (two_setFint HT.out HWD.out).mono ?_; intro e w1 h; obtain ⟨he1, h⟩ := h; subst he1; have HT := hid h; clear h; replace hk := HT.out.chg; clear d0 d1 d2 e0 e1 e2 r0 r1 r2 q0 q1 q2; obtain ⟨d0, d1, d2, e0, e1, e2, r0, r1, r2, q0, q1, q2⟩ := HB.out _ hk) | (refine (two_setFint' HT.out HWE.out).mono ?_; intro e w1 h; obtain ⟨he1, h⟩ := h; subst he1; have HT := hid h; clear h; replace hk := HT.out.chg; clear d0 d1 d2 e0 e1 e2 r0 r1 r2 q0 q1 q2; obtain ⟨d0, d1, d2, e0, e1, e2, r0, r1, r2, q0, q1, q2⟩ := HB.out _ hk)) | (go_at_call 103; refine (HCM.out _ _ _ _ HT.out).mono ?_; intro e w1 h; obtain ⟨he1, h⟩ := h; subst he1; have HT := hid h; clear h; replace hk := HT.out.chg; clear d0 d1 d2 e0 e1 e2 r0 r1 r2 q0 q1 q2; obtain ⟨d0, d1, d2, e0, e1, e2, r0, r1, r2, q0, q1, q2⟩ := HB.out _ hk) | (go_at_call 104; refine (HSB.out _ _ _ _ HT.out).mono ?_; intro e w1 h; obtain ⟨he1, h⟩ := h; subst he1; have HT := hid h; clear h; replace hk := HT.out.chg; clear d0 d1 d2 e0 e1 e2 r0 r1 r2 q0 q1 q2; obtain ⟨d0, d1, d2, e0, e1, e2, r0, r1, r2, q0, q1, q2⟩ := HB.out _ hk) | (go_at_call 105; refine (HF.out _ _ _ _ _ HT.out).mono ?_; intro e w1 h; obtain ⟨na, nb, nc, nv, he1, hc1, hp⟩ := h.op; subst he1; replace hk := hc1; clear h hc1; clear d0 d1 d2 e0 e1 e2 r0 r1 r2 q0 q1 q2; obtain ⟨d0, d1, d2, e0, e1, e2, r0, r1, r2, q0, q1, q2⟩ := HB.out _ hk; have HP := hid hp; clear hp))
 refine leaves_cons (f := 99) (args := #[.pointer (some ⟨q, 0, none⟩)]) (by simp) (by simp [go_sem]) ?_
 refine (putBint_d _ .returning _).mono ?_
 rintro e u' w'' ⟨rfl, rfl, rfl⟩
 refine leaves_cons (f := 99) (args := #[.pointer (some ⟨p, 0, none⟩)]) (by simp [settle]) (by simp [go_sem]) ?_
 refine (putBint_d _ .returning _).mono ?_
 rintro e u' w'' ⟨rfl, rfl, rfl⟩
 exact ⟨.tuple #[.agg #[.bool na, .int .i8 nb, .int .u64 nc], nv], dec_result rfl _ _ (w.heap.size + 1 + 1) _ _ _ _ 55 rfl rfl (store3 (HBX.out _ hk) _ _ _), HP.out.move (chg3 (HC0.out.trans hk sb_) (by omega) _ _ _)⟩
set_option maxHeartbeats 4000000 in
theorem addBint_eq_dle (dn en : Bool) (dc ec ds es m : Nat) (hdc : digs dc ≤ 19) (hec : digs ec ≤ 19) (hwd : Wd (dc : Int)) (hwe : Wd (ec : Int)) (hds : ds ≤ 19) (hes : es ≤ 19) (hm : m ≤ 19) (w : World) (he : EnvD w) (hlt : es = ds) (hs : (dn == en) = false) (hg : ¬ dc < ec) (C : Nat) (hC : dc - ec = C) :
  Calls Tryz.prog 87 #[.agg #[.bool dn, .int .i8 ds, .int .u64 (dc : Int)], .agg #[.bool en, .int .i8 es, .int .u64 (ec : Int)], .int .i64 m] w (PDecN w dn (from19 (10 ^ 19) 2 C ds m)) := by
 have HWD := hid hwd
 have HWE := hid hwe
 clear hwd hwe
 subst hlt
 have c1 : ¬ (es : Int) < (es : Int) := by omega
 have hCd : digs C ≤ 39 := digs_add (Nat.le_trans hdc (by omega) : digs dc ≤ 38) (Nat.le_trans hec (by omega) : digs ec ≤ 38) (by omega)
 have hcc : (if dc < ec then ec - dc else dc - ec) = C := by rw [if_neg hg]; exact hC
 have HSB := hid (fun w0 w2 p q (h : Two w0 w2 p q (dc : Int) (ec : Int)) => two_subAbs h (Nat.le_trans hdc (by omega)) (Nat.le_trans hec (by omega)) hcc)
 obtain ⟨kk, hcm⟩ : ∃ kk : Int, cmpI (ec : Int) (dc : Int) = kk := ⟨_, rfl⟩
 have hkp : ¬ (0 : Int) < kk := by rw [← hcm]; unfold cmpI; split <;> (try split) <;> omega
 have HCM := hid (fun w0 w2 p q (h : Two w0 w2 p q (dc : Int) (ec : Int)) => two_cmp h hcm)
 clear hcc hcm hg
 have HF := hid (fun w0 w2 p q y (h : Two w0 w2 p q (C : Int) y) => two_nfb (s := es) dn h (Nat.le_trans hCd (by omega)) (by omega) hm)
 generalize from19 (10 ^ 19) 2 C es m = o at *
 clear hC hCd hdc hec
 have HSD := hid (fun w => Scale_any dn (dc : Int) es hes w)
 have HSE := hid (fun w => Scale_any en (ec : Int) es hes w)
 have HND := hid (fun w => IsNeg_any dn (dc : Int) es w)
 have HNE := hid (fun w => IsNeg_any en (ec : Int) es w)
 have HBS := hid (Bx.start w dn es (dc : Int) en es (ec : Int))
 have HB := hid (fun w1 (h : Chg (fun _ => False) (((w.alloc (.cells #[.bool dn, .int .i8 es, .int .u64 (dc : Int)] 55)).alloc (.cells #[.bool en, .int .i8 es, .int .u64 (ec : Int)] 55)).alloc (.cells #[.bool false, .int .i8 0, .int .u64 0] 55)) w1) => (HBS.out.kept h).facts)
 have HBX := hid (fun w1 (h : Chg (fun _ => False) (((w.alloc (.cells #[.bool dn, .int .i8 es, .int .u64 (dc : Int)] 55)).alloc (.cells #[.bool en, .int .i8 es, .int .u64 (ec : Int)] 55)).alloc (.cells #[.bool false, .int .i8 0, .int .u64 0] 55)) w1) => (HBS.out.kept h).h2)
 have HC0 := hid (start3 w (.cells #[.bool dn, .int .i8 es, .int .u64 (dc : Int)] 55) (.cells #[.bool en, .int .i8 es, .int .u64 (ec : Int)] 55) (.cells #[.bool false, .int .i8 0, .int .u64 0] 55))
 have HE0 := hid (he.kept HC0.out)
 have hk := Chg.refl (fun _ => False) (((w.alloc (.cells #[.bool dn, .int .i8 es, .int .u64 (dc : Int)] 55)).alloc (.cells #[.bool en, .int .i8 es, .int .u64 (ec : Int)] 55)).alloc (.cells #[.bool false, .int .i8 0, .int .u64 0] 55))
 obtain ⟨d0, d1, d2, e0, e1, e2, r0, r1, r2, q0, q1, q2⟩ := HB.out _ hk
 clear he HBS
 go_enter_defers Tryz.func87, Tryz.ntmps87
 go_wp2_with (first | (go_at_call 98; refine (getBint_any _).mono ?_; intro e w1 h; obtain ⟨q, he1, hi2, hs2, hc2⟩ := h; subst he1; have HT := hid (Two.start HIP.out hsp hcp hi2 hs2 hc2 HE0.out); replace hk := hk.trans hc2 sb_; clear hi2 hs2 hc2; clear d0 d1 d2 e0 e1 e2 r0 r1 r2 q0 q1 q2; obtain ⟨d0, d1, d2, e0, e1, e2, r0, r1, r2, q0, q1, q2⟩ := HB.out _ hk) | (go_at_call 98; refine (getBint_any _).mono ?_; intro e w1 h; obtain ⟨p, he1, hip, hsp, hcp⟩ := h; subst he1; have HIP := hid hip; clear hip; replace hk := hk.trans hcp sb_; clear d0 d1 d2 e0 e1 e2 r0 r1 r2 q0 q1 q2; obtain ⟨d0, d1, d2, e0, e1, e2, r0, r1, r2, q0, q1, q2⟩ := HB.out _ hk) | (go_at_call 66; first | (refine (HSD.out _).mono ?_; intro e w1 h; obtain ⟨he1, hc1⟩ := h; subst he1; have HT := hid (HT.out.same hc1); replace hk := hk.trans hc1 sb_; clear hc1; clear d0 d1 d2 e0 e1 e2 r0 r1 r2 q0 q1 q2; obtain ⟨d0, d1, d2, e0, e1, e2, r0, r1, r2, q0, q1, q2⟩ := HB.out _ hk) | (refine (HSE.out _).mono ?_; intro e w1 h; obtain ⟨he1, hc1⟩ := h; subst he1; have HT := hid (HT.out.same hc1); replace hk := hk.trans hc1 sb_; clear hc1; clear d0 d1 d2 e0 e1 e2 r0 r1 r2 q0 q1 q2; obtain ⟨d0, d1, d2, e0, e1, e2, r0, r1, r2, q0, q1, q2⟩ := HB.out _ hk)) | (go_at_call 64; first | (refine (HND.out _).mono ?_; intro e w1 h; obtain ⟨he1, hc1⟩ := h; subst he1; have HT := hid (HT.out.same hc1); replace hk := hk.trans hc1 sb_; clear hc1; clear d0 d1 d2 e0 e1 e2 r0 r1 r2 q0 q1 q2; obtain ⟨d0, d1, d2, e0, e1, e2, r0, r1, r2, q0, q1, q2⟩ := HB.out _ hk) | (refine (HNE.out _).mono ?_; intro e w1 h; obtain ⟨he1, hc1⟩ := h; subst he1; have HT := hid (HT.out.same hc1); replace hk := hk.trans hc1 sb_; clear hc1; clear d0 d1 d2 e0 e1 e2 r0 r1 r2 q0 q1 q2; obtain ⟨d0, d1, d2, e0, e1, e2, r0, r1, r2, q0, q1, q2⟩ := HB.out _ hk)) | (go_at_call 100; first | (refine (two_setFint HT.out HWD.out).mono ?_; intro e w1 h; obtain ⟨he1, h⟩ := h; subst he1; have HT := hid h; clear h; replace hk := HT.out.chg; clear d0 d1 d2 e0 e1 e2 r0 r1 r2 q0 q1 q2; obtain ⟨d0, d1, d2, e0, e1, e2, r0, r1, r2, q0, q1, q2⟩ := HB.out _ hk) | (refine (two_setFint' HT.out HWE.out).mono ?_; intro e w1 h; obtain ⟨he1, h⟩ := h; subst he1; have HT := hid h; clear h; replace hk := HT.out.chg; clear d0 d1 d2 e0 e1 e2 r0 r1 r2 q0 q1 q2; obtain ⟨d0, d1, d2, e0, e1, e2, r0, r1, r2, q0, q1, q2⟩ := HB.out _ hk)) | (go_at_call 103; refine (HCM.out _ _ _ _ HT.out).mono ?_; intro e w1 h; obtain ⟨he1, h⟩ := h; subst he1; have HT := hid h; clear h; replace hk := HT.out.chg; clear d0 d1 d2 e0 e1 e2 r0 r1 r2 q0 q1 q2; obtain ⟨d0, d1, d2, e0, e1, e2, r0, r1, r2, q0, q1, q2⟩ := HB.out _ hk) | (go_at_call 104; refine (HSB.out _ _ _ _ HT.out).mono ?_; intro e w1 h; obtain ⟨he1, h⟩ := h; subst he1; have HT := hid h; clear h; replace hk := HT.out.chg; clear d0 d1 d2 e0 e1 e2 r0 r1 r2 q0 q1 q2; obtain ⟨d0, d1, d2, e0, e1, e2, r0, r1, r2, q0, q1, q2⟩ := HB.out _ hk) | (go_at_call 105; refine (HF.out _ _ _ _ _ HT.out).mono ?_; intro e w1 h; obtain ⟨na, nb, nc, nv, he1, hc1, hp⟩ := h.op; subst he1; replace hk := hc1; clear h hc1; clear d0 d1 d2 e0 e1 e2 r0 r1 r2 q0 q1 q2; obtain ⟨d0, d1, d2, e0, e1, e2, r0, r1, r2, q0, q1, q2⟩ := HB.out _ hk; have HP := hid hp; clear hp))
 refine leaves_cons (f := 99) (args := #[.pointer (some ⟨q, 0, none⟩)]) (by simp) (by simp [go_sem]) ?_
 refine (putBint_d _ .returning _).mono ?_
 rintro e u' w'' ⟨rfl, rfl, rfl⟩
 refine leaves_cons (f := 99) (args := #[.pointer (some ⟨p, 0, none⟩)]) (by simp [settle]) (by simp [go_sem]) ?_
 refine (putBint_d _ .returning _).mono ?_
 rintro e u' w'' ⟨rfl, rfl, rfl⟩
 exact ⟨.tuple #[.agg #[.bool na, .int .i8 nb, .int .u64 nc], nv], dec_result rfl _ _ (w.heap.size + 1 + 1) _ _ _ _ 55 rfl rfl (store3 (HBX.out _ hk) _ _ _), HP.out.move (chg3 (HC0.out.trans hk sb_) (by omega) _ _ _)⟩
theorem fiN {a : Nat} (h : a < 10 ^ 19) : Fi (a : Int) := by
 have e : (10 : Nat) ^ 19 = 10000000000000000000 := by decide
 exact ⟨by omega, by omega⟩
theorem fiN_iff {a : Nat} : (a : Int) ≤ 9999999999999999999 ↔ a < 10 ^ 19 := by
 have : (10 : Nat) ^ 19 = 10000000000000000000 := by decide
 omega
theorem addFint_any (dn en : Bool) (dc ec ds es m : Nat) (hdc : dc < 10 ^ 19) (hec : ec < 10 ^ 19) (hds : ds ≤ 19) (hes : es ≤ 19) (hm : m ≤ 19) (w : World) (he : EnvD w) :
  Calls Tryz.prog 86 #[.agg #[.bool dn, .int .i8 ds, .int .u64 (dc : Int)], .agg #[.bool en, .int .i8 es, .int .u64 (ec : Int)], .int .i64 m] w
   (PDec w (sumD dn dc ds en ec es).1 (addF dn dc ds en ec es m)) := by
 have hfd := fiN hdc
 have hfe := fiN hec
 have key : ∀ (A B S : Nat), mxp ds es = S → dc * 10 ^ (S - ds) = A → ec * 10 ^ (S - es) = B →
   (addF dn dc ds en ec es m = if A < 10 ^ 19 ∧ B < 10 ^ 19 ∧ (dn = en → A + B < 10 ^ 19) then fromFint ((sumS dn A en B).2 : Nat) S m else none) ∧ sumD dn dc ds en ec es = sumS dn A en B := by
  rintro A B S rfl rfl rfl
  exact ⟨rfl, rfl⟩
 rcases Nat.lt_trichotomy es ds with hlt | hlt | hlt
 ·obtain ⟨k1, k2⟩ := key dc (ec * 10 ^ (ds - es)) ds (by unfold mxp; rw [if_neg (by omega)]) (by rw [Nat.sub_self, Nat.pow_zero, Nat.mul_one]) rfl
  rw [k1, k2]
  have hcast : (ec : Int) * 10 ^ (ds - es) = ((ec * 10 ^ (ds - es) : Nat) : Int) := by rw [Int.natCast_mul, pow_cast]
  by_cases hX : ec * 10 ^ (ds - es) < 10 ^ 19
  ·have hXM := fiN_iff.2 hX
   by_cases hs : dn = en
   ·by_cases hC : dc + ec * 10 ^ (ds - es) < 10 ^ 19
    ·have hCM := fiN_iff.2 hC
     rw [if_pos ⟨hdc, hX, fun _ => hC⟩, show sumS dn dc en (ec * 10 ^ (ds - es)) = (dn, dc + ec * 10 ^ (ds - es)) by unfold sumS; rw [if_pos hs]]
     exact addFint_gt_same dn en dc ec ds es m hfd hfe hds hes hm w he hlt _ hcast hXM (by simpa using hs) _ (Int.natCast_add _ _).symm hCM
    ·rw [if_neg (fun h => hC (h.2.2 hs))]
     exact addFint_gt_ovf dn en dc ec ds es m hfd hfe hds hes hm w he _ hlt _ hcast hXM (by simpa using hs) (by rw [← Int.natCast_add, fiN_iff]; exact hC)
   ·rw [if_pos ⟨hdc, hX, fun h => absurd h hs⟩]
    by_cases hg : dc < ec * 10 ^ (ds - es)
    ·rw [show sumS dn dc en (ec * 10 ^ (ds - es)) = (en, ec * 10 ^ (ds - es) - dc) by unfold sumS; rw [if_neg hs, if_pos hg]]
     exact addFint_gt_dgt dn en dc ec ds es m hfd hfe hds hes hm w he hlt _ hcast hXM (by simpa using hs) (by omega) _ (by omega)
    ·rw [show sumS dn dc en (ec * 10 ^ (ds - es)) = (dn, dc - ec * 10 ^ (ds - es)) by unfold sumS; rw [if_neg hs, if_neg hg]]
     exact addFint_gt_dle dn en dc ec ds es m hfd hfe hds hes hm w he hlt _ hcast hXM (by simpa using hs) (by omega) _ (by omega)
  ·rw [if_neg (fun h => hX h.2.1)]
   exact addFint_gt_err dn en dc ec ds es m hfd hfe hds hes hm w he _ hlt (by rw [hcast, fiN_iff]; exact hX)
 ·obtain ⟨k1, k2⟩ := key dc ec ds (by unfold mxp; rw [if_neg (by omega)]) (by rw [Nat.sub_self, Nat.pow_zero, Nat.mul_one]) (by rw [hlt, Nat.sub_self, Nat.pow_zero, Nat.mul_one])
  rw [k1, k2]
  by_cases hs : dn = en
  ·by_cases hC : dc + ec < 10 ^ 19
   ·have hCM := fiN_iff.2 hC
    rw [if_pos ⟨hdc, hec, fun _ => hC⟩, show sumS dn dc en ec = (dn, dc + ec) by unfold sumS; rw [if_pos hs]]
    exact addFint_eq_same dn en dc ec ds es m hfd hfe hds hes hm w he hlt (by simpa using hs) _ (Int.natCast_add _ _).symm hCM
   ·rw [if_neg (fun h => hC (h.2.2 hs))]
    exact addFint_eq_ovf dn en dc ec ds es m hfd hfe hds hes hm w he _ hlt (by simpa using hs) (by rw [← Int.natCast_add, fiN_iff]; exact hC)
  ·rw [if_pos ⟨hdc, hec, fun h => absurd h hs⟩]
   by_cases hg : dc < ec
   ·rw [show sumS dn dc en ec = (en, ec - dc) by unfold sumS; rw [if_neg hs, if_pos hg]]
    exact addFint_eq_dgt dn en dc ec ds es m hfd hfe hds hes hm w he hlt (by simpa using hs) (by omega) _ (by omega)
   ·rw [show sumS dn dc en ec = (dn, dc - ec) by unfold sumS; rw [if_neg hs, if_neg hg]]
    exact addFint_eq_dle dn en dc ec ds es m hfd hfe hds hes hm w he hlt (by simpa using hs) (by omega) _ (by omega)
 ·obtain ⟨k1, k2⟩ := key (dc * 10 ^ (es - ds)) ec es (by unfold mxp; rw [if_pos hlt]) rfl (by rw [Nat.sub_self, Nat.pow_zero, Nat.mul_one])
  rw [k1, k2]
  have hcast : (dc : Int) * 10 ^ (es - ds) = ((dc * 10 ^ (es - ds) : Nat) : Int) := by rw [Int.natCast_mul, pow_cast]
  by_cases hX : dc * 10 ^ (es - ds) < 10 ^ 19
  ·have hXM := fiN_iff.2 hX
   by_cases hs : dn = en
   ·by_cases hC : dc * 10 ^ (es - ds) + ec < 10 ^ 19
    ·have hCM := fiN_iff.2 hC
     rw [if_pos ⟨hX, hec, fun _ => hC⟩, show sumS dn (dc * 10 ^ (es - ds)) en ec = (dn, dc * 10 ^ (es - ds) + ec) by unfold sumS; rw [if_pos hs]]
     exact addFint_lt_same dn en dc ec ds es m hfd hfe hds hes hm w he hlt _ hcast hXM (by simpa using hs) _ (Int.natCast_add _ _).symm hCM
    ·rw [if_neg (fun h => hC (h.2.2 hs))]
     exact addFint_lt_ovf dn en dc ec ds es m hfd hfe hds hes hm w he _ hlt _ hcast hXM (by simpa using hs) (by rw [← Int.natCast_add, fiN_iff]; exact hC)
   ·rw [if_pos ⟨hX, hec, fun h => absurd h hs⟩]
    by_cases hg : dc * 10 ^ (es - ds) < ec
    ·rw [show sumS dn (dc * 10 ^ (es - ds)) en ec = (en, ec - dc * 10 ^ (es - ds)) by unfold sumS; rw [if_neg hs, if_pos hg]]
     exact addFint_lt_dgt dn en dc ec ds es m hfd hfe hds hes hm w he hlt _ hcast hXM (by simpa using hs) (by omega) _ (by omega)
    ·rw [show sumS dn (dc * 10 ^ (es - ds)) en ec = (dn, dc * 10 ^ (es - ds) - ec) by unfold sumS; rw [if_neg hs, if_neg hg]]
     exact addFint_lt_dle dn en dc ec ds es m hfd hfe hds hes hm w he hlt _ hcast hXM (by simpa using hs) (by omega) _ (by omega)
  ·rw [if_neg (fun h => hX h.1)]
   exact addFint_lt_err dn en dc ec ds es m hfd hfe hds hes hm w he _ hlt (by rw [hcast, fiN_iff]; exact hX)
theorem addBint_any (dn en : Bool) (dc ec ds es m : Nat) (hdc : dc < 10 ^ 19) (hec : ec < 10 ^ 19) (hds : ds ≤ 19) (hes : es ≤ 19) (hm : m ≤ 19) (w : World) (he : EnvD w) :
  Calls Tryz.prog 87 #[.agg #[.bool dn, .int .i8 ds, .int .u64 (dc : Int)], .agg #[.bool en, .int .i8 es, .int .u64 (ec : Int)], .int .i64 m] w
   (PDecN w (sumD dn dc ds en ec es).1 (from19 (10 ^ 19) 2 (sumD dn dc ds en ec es).2 (mxp ds es) m)) := by
 have hdd := digs_le.2 hdc
 have hde := digs_le.2 hec
 have hwd := (fiN hdc).wd
 have hwe := (fiN hec).wd
 have key : ∀ (A B S : Nat), mxp ds es = S → dc * 10 ^ (S - ds) = A → ec * 10 ^ (S - es) = B → mxp ds es = S ∧ sumD dn dc ds en ec es = sumS dn A en B := by
  rintro A B S rfl rfl rfl
  exact ⟨rfl, rfl⟩
 rcases Nat.lt_trichotomy es ds with hlt | hlt | hlt
 ·obtain ⟨k1, k2⟩ := key dc (ec * 10 ^ (ds - es)) ds (by unfold mxp; rw [if_neg (by omega)]) (by rw [Nat.sub_self, Nat.pow_zero, Nat.mul_one]) rfl
  rw [k1, k2]
  by_cases hs : dn = en
  ·rw [show sumS dn dc en (ec * 10 ^ (ds - es)) = (dn, dc + ec * 10 ^ (ds - es)) by unfold sumS; rw [if_pos hs]]
   exact addBint_gt_same dn en dc ec ds es m hdd hde hwd hwe hds hes hm w he hlt _ rfl (by simpa using hs) _ rfl
  ·by_cases hg : dc < ec * 10 ^ (ds - es)
   ·rw [show sumS dn dc en (ec * 10 ^ (ds - es)) = (en, ec * 10 ^ (ds - es) - dc) by unfold sumS; rw [if_neg hs, if_pos hg]]
    exact addBint_gt_dgt dn en dc ec ds es m hdd hde hwd hwe hds hes hm w he hlt _ rfl (by simpa using hs) hg _ rfl
   ·rw [show sumS dn dc en (ec * 10 ^ (ds - es)) = (dn, dc - ec * 10 ^ (ds - es)) by unfold sumS; rw [if_neg hs, if_neg hg]]
    exact addBint_gt_dle dn en dc ec ds es m hdd hde hwd hwe hds hes hm w he hlt _ rfl (by simpa using hs) hg _ rfl
 ·obtain ⟨k1, k2⟩ := key dc ec ds (by unfold mxp; rw [if_neg (by omega)]) (by rw [Nat.sub_self, Nat.pow_zero, Nat.mul_one]) (by rw [hlt, Nat.sub_self, Nat.pow_zero, Nat.mul_one])
  rw [k1, k2]
  by_cases hs : dn = en
  ·rw [show sumS dn dc en ec = (dn, dc + ec) by unfold sumS; rw [if_pos hs]]
   exact addBint_eq_same dn en dc ec ds es m hdd hde hwd hwe hds hes hm w he hlt (by simpa using hs) _ rfl
  ·by_cases hg : dc < ec
   ·rw [show sumS dn dc en ec = (en, ec - dc) by unfold sumS; rw [if_neg hs, if_pos hg]]
    exact addBint_eq_dgt dn en dc ec ds es m hdd hde hwd hwe hds hes hm w he hlt (by simpa using hs) hg _ rfl
   ·rw [show sumS dn dc en ec = (dn, dc - ec) by unfold sumS; rw [if_neg hs, if_neg hg]]
    exact addBint_eq_dle dn en dc ec ds es m hdd hde hwd hwe hds hes hm w he hlt (by simpa using hs) hg _ rfl
 ·obtain ⟨k1, k2⟩ := key (dc * 10 ^ (es - ds)) ec es (by unfold mxp; rw [if_pos hlt]) rfl (by rw [Nat.sub_self, Nat.pow_zero, Nat.mul_one])
  rw [k1, k2]
  by_cases hs : dn = en
  ·rw [show sumS dn (dc * 10 ^ (es - ds)) en ec = (dn, dc * 10 ^ (es - ds) + ec) by unfold sumS; rw [if_pos hs]]
   exact addBint_lt_same dn en dc ec ds es m hdd hde hwd hwe hds hes hm w he hlt _ rfl (by simpa using hs) _ rfl
  ·by_cases hg : dc * 10 ^ (es - ds) < ec
   ·rw [show sumS dn (dc * 10 ^ (es - ds)) en ec = (en, ec - dc * 10 ^ (es - ds)) by unfold sumS; rw [if_neg hs, if_pos hg]]
    exact addBint_lt_dgt dn en dc ec ds es m hdd hde hwd hwe hds hes hm w he hlt _ rfl (by simpa using hs) hg _ rfl
   ·rw [show sumS dn (dc * 10 ^ (es - ds)) en ec = (dn, dc * 10 ^ (es - ds) - ec) by unfold sumS; rw [if_neg hs, if_neg hg]]
    exact addBint_lt_dle dn en dc ec ds es m hdd hde hwd hwe hds hes hm w he hlt _ rfl (by simpa using hs) hg _ rfl
def Var3 (w0 w1 : World) (g : Nat) (a b d : Value) : Prop := Chg (fun _ => False) w0 w1 ∧ w0.heap.size ≤ g ∧ w1.heap[g]? = some (.cells #[a, b, d] 55 (0, 0))
theorem Var3.mk' {w0 w1 : World} (h : Chg (fun _ => False) w0 w1) (a b d : Value) : Var3 w0 (w1.alloc (.cells #[a, b, d] 55)) w1.heap.size a b d :=
 ⟨h.alloc _, h.size, heap_alloc_new _ _⟩
set_option maxHeartbeats 2000000 in
theorem addExact_ok (dn en : Bool) (dc ec ds es m : Nat) (hm : m ≤ 19) (w : World) (k : Int) (t : Nat) (nb : Bool)
  (HA : Hid (Calls Tryz.prog 86 #[.agg #[.bool dn, .int .i8 ds, .int .u64 (dc : Int)], .agg #[.bool en, .int .i8 es, .int .u64 (ec : Int)], .int .i64 m] (((w.alloc (.cells #[.bool dn, .int .i8 ds, .int .u64 (dc : Int)] 55)).alloc (.cells #[.bool en, .int .i8 es, .int .u64 (ec : Int)] 55)).alloc (.cells #[.bool false, .int .i8 0, .int .u64 0] 55))
   (fun e w' => e = .returned (.tuple #[.agg #[.bool nb, .int .i8 t, .int .u64 k], .nilIface]) ∧ Chg (fun _ => False) (((w.alloc (.cells #[.bool dn, .int .i8 ds, .int .u64 (dc : Int)] 55)).alloc (.cells #[.bool en, .int .i8 es, .int .u64 (ec : Int)] 55)).alloc (.cells #[.bool false, .int .i8 0, .int .u64 0] 55)) w'))) :
  Calls Tryz.prog 62 #[.agg #[.bool dn, .int .i8 ds, .int .u64 (dc : Int)], .agg #[.bool en, .int .i8 es, .int .u64 (ec : Int)], .int .i64 m] w
   (fun e w' => e = .returned (.tuple #[.agg #[.bool nb, .int .i8 t, .int .u64 k], .nilIface]) ∧ Chg (fun _ => False) w w') := by
 have HBS := hid (Bx.start w dn ds (dc : Int) en es (ec : Int))
 have HC0 := hid (start3 w (.cells #[.bool dn, .int .i8 ds, .int .u64 (dc : Int)] 55) (.cells #[.bool en, .int .i8 es, .int .u64 (ec : Int)] 55) (.cells #[.bool false, .int .i8 0, .int .u64 0] 55))
 have hb1 : decide ((m : Int) < 0) = false := decide_eq_false (by omega)
 have hb2 : decide ((19 : Int) < (m : Int)) = false := decide_eq_false (by omega)
 obtain ⟨d0, d1, d2, e0, e1, e2, r0, r1, r2, q0, q1, q2⟩ := HBS.out.facts
 go_enter Tryz.func62, Tryz.ntmps62
 go_upto_region 3 with fail
 go_cut [8, 9] from 18 to 24 (fun a b wx => ∃ g : Nat, a = .pointer (some ⟨g, 0, none⟩) ∧ b = .nilIface ∧ Hid (Var3 (((w.alloc (.cells #[.bool dn, .int .i8 ds, .int .u64 (dc : Int)] 55)).alloc (.cells #[.bool en, .int .i8 es, .int .u64 (ec : Int)] 55)).alloc (.cells #[.bool false, .int .i8 0, .int .u64 0] 55)) wx g (.bool nb) (.int .i8 t) (.int .u64 k)))
 case first =>
  go_wp2_with fail
  go_at_call 86
  refine HA.out.mono ?_
  intro e w1 h
  obtain ⟨he1, hk⟩ := h
  subst he1
  clear d0 d1 d2 e0 e1 e2 r0 r1 r2 q0 q1 q2
  have HK := hid hk
  clear hk
  go_wp2_with fail
  go_meet
  exact ⟨w1.heap.size, rfl, rfl, Var3.mk' HK.out _ _ _⟩
 case rest =>
  obtain ⟨g, he1, he2, hv⟩ := hcut
  subst he1
  subst he2
  have HV := hid hv
  clear hv d0 d1 d2 e0 e1 e2 r0 r1 r2 q0 q1 q2
  obtain ⟨d0, d1, d2, e0, e1, e2, r0, r1, r2, q0, q1, q2⟩ := (HBS.out.kept HV.out.out.1).facts
  obtain ⟨k0, k1, k2, l0, l1, l2⟩ := cell3 HV.out.out.2.2
  go_wp2_with fail
  refine bodyPost_ret (v := .tuple #[.agg #[.bool nb, .int .i8 t, .int .u64 k], .nilIface]) (dec_result rfl _ _ (w.heap.size + 1 + 1) _ _ _ _ 55 rfl rfl (store3 (HBS.out.kept HV.out.out.1).h2 _ _ _)) rfl ⟨rfl, chg3 (HC0.out.trans HV.out.out.1 sb_) (by omega) _ _ _⟩
theorem Var3.set {w0 w1 w2 : World} {g : Nat} {x y z : Value} (h : Var3 w0 w1 g x y z) (hc : Chg (fun _ => False) w1 w2) (a b d : Value) :
  Var3 w0 (((w2.setCell ⟨g, 0, none⟩ a).setCell ⟨g, 1, none⟩ b).setCell ⟨g, 2, none⟩ d) g a b d := by
 obtain ⟨h1, h2, h3⟩ := h
 refine ⟨chg3 (h1.trans hc sb_) h2 _ _ _, h2, store3 ((hc.keep g (Array.getElem?_eq_some_iff.1 h3).1 (fun h => h)).trans h3) _ _ _⟩
theorem Var3.kept {w0 w1 w2 : World} {g : Nat} {x y z : Value} (h : Var3 w0 w1 g x y z) (hc : Chg (fun _ => False) w1 w2) : Var3 w0 w2 g x y z :=
 ⟨h.1.trans hc sb_, h.2.1, (hc.keep g (Array.getElem?_eq_some_iff.1 h.2.2).1 (fun h => h)).trans h.2.2⟩
def PErrD (w : World) (e : Ending) (w' : World) : Prop := Chg (fun _ => False) w w' ∧ ∃ t v, e = .returned (.tuple #[.agg #[.bool false, .int .i8 0, .int .u64 0], .iface t v])
set_option maxHeartbeats 2000000 in
theorem addExact_big (dn en : Bool) (dc ec ds es m : Nat) (hm : m ≤ 19) (w : World) (k : Int) (t : Nat) (nb : Bool) (he : EnvD w)
  (HA : Hid (Calls Tryz.prog 86 #[.agg #[.bool dn, .int .i8 ds, .int .u64 (dc : Int)], .agg #[.bool en, .int .i8 es, .int .u64 (ec : Int)], .int .i64 m] (((w.alloc (.cells #[.bool dn, .int .i8 ds, .int .u64 (dc : Int)] 55)).alloc (.cells #[.bool en, .int .i8 es, .int .u64 (ec : Int)] 55)).alloc (.cells #[.bool false, .int .i8 0, .int .u64 0] 55)) (PErrD (((w.alloc (.cells #[.bool dn, .int .i8 ds, .int .u64 (dc : Int)] 55)).alloc (.cells #[.bool en, .int .i8 es, .int .u64 (ec : Int)] 55)).alloc (.cells #[.bool false, .int .i8 0, .int .u64 0] 55)))))
  (HB : Hid (∀ w1, EnvD w1 → Calls Tryz.prog 87 #[.agg #[.bool dn, .int .i8 ds, .int .u64 (dc : Int)], .agg #[.bool en, .int .i8 es, .int .u64 (ec : Int)], .int .i64 m] w1
   (fun e w' => e = .returned (.tuple #[.agg #[.bool nb, .int .i8 t, .int .u64 k], .nilIface]) ∧ Chg (fun _ => False) w1 w'))) :
  Calls Tryz.prog 62 #[.agg #[.bool dn, .int .i8 ds, .int .u64 (dc : Int)], .agg #[.bool en, .int .i8 es, .int .u64 (ec : Int)], .int .i64 m] w
   (fun e w' => e = .returned (.tuple #[.agg #[.bool nb, .int .i8 t, .int .u64 k], .nilIface]) ∧ Chg (fun _ => False) w w') := by
 have HBS := hid (Bx.start w dn ds (dc : Int) en es (ec : Int))
 have HC0 := hid (start3 w (.cells #[.bool dn, .int .i8 ds, .int .u64 (dc : Int)] 55) (.cells #[.bool en, .int .i8 es, .int .u64 (ec : Int)] 55) (.cells #[.bool false, .int .i8 0, .int .u64 0] 55))
 have HE0 := hid (he.kept HC0.out)
 have hb1 : decide ((m : Int) < 0) = false := decide_eq_false (by omega)
 have hb2 : decide ((19 : Int) < (m : Int)) = false := decide_eq_false (by omega)
 obtain ⟨d0, d1, d2, e0, e1, e2, r0, r1, r2, q0, q1, q2⟩ := HBS.out.facts
 clear he
 go_enter Tryz.func62, Tryz.ntmps62
 go_upto_region 3 with fail
 go_cut [8, 9] from 18 to 24 (fun a b wx => ∃ g : Nat, a = .pointer (some ⟨g, 0, none⟩) ∧ (∃ et ev, b = .iface et ev) ∧ Hid (Var3 (((w.alloc (.cells #[.bool dn, .int .i8 ds, .int .u64 (dc : Int)] 55)).alloc (.cells #[.bool en, .int .i8 es, .int .u64 (ec : Int)] 55)).alloc (.cells #[.bool false, .int .i8 0, .int .u64 0] 55)) wx g (.bool false) (.int .i8 0) (.int .u64 0)))
 case first =>
  go_wp2_with fail
  go_at_call 86
  refine HA.out.mono ?_
  intro e w1 h
  obtain ⟨hk, et, ev, he1⟩ := h
  subst he1
  clear d0 d1 d2 e0 e1 e2 r0 r1 r2 q0 q1 q2
  have HK := hid hk
  clear hk
  go_wp2_with fail
  go_meet
  exact ⟨w1.heap.size, rfl, ⟨_, _, rfl⟩, Var3.mk' HK.out _ _ _⟩
 case rest =>
  obtain ⟨g, he1, ⟨et, ev, he2⟩, hv⟩ := hcut
  subst he1
  subst he2
  have HV := hid hv
  clear hv d0 d1 d2 e0 e1 e2 r0 r1 r2 q0 q1 q2
  obtain ⟨d0, d1, d2, e0, e1, e2, r0, r1, r2, q0, q1, q2⟩ := (HBS.out.kept HV.out.out.1).facts
  obtain ⟨k0, k1, k2, l0, l1, l2⟩ := cell3 HV.out.out.2.2
  go_upto_region 5 with fail
  go_cut [8, 9] from 27 to 33 (fun a b wx => a = .pointer (some ⟨g, 0, none⟩) ∧ b = .nilIface ∧ Hid (Var3 (((w.alloc (.cells #[.bool dn, .int .i8 ds, .int .u64 (dc : Int)] 55)).alloc (.cells #[.bool en, .int .i8 es, .int .u64 (ec : Int)] 55)).alloc (.cells #[.bool false, .int .i8 0, .int .u64 0] 55)) wx g (.bool nb) (.int .i8 t) (.int .u64 k)))
  case first =>
   go_wp2_with fail
   go_at_call 87
   refine (HB.out _ (HE0.out.kept HV.out.out.1)).mono ?_
   intro e w1 h
   obtain ⟨he1, hk⟩ := h
   subst he1
   clear d0 d1 d2 e0 e1 e2 r0 r1 r2 q0 q1 q2 k0 k1 k2 l0 l1 l2
   have HK := hid hk
   clear hk
   obtain ⟨k0, k1, k2, l0, l1, l2⟩ := cell3 (HV.out.out.kept HK.out).2.2
   go_wp2_with fail
   go_meet
   exact ⟨rfl, rfl, HV.out.out.set HK.out _ _ _⟩
  case rest =>
   obtain ⟨he1, he2, hv⟩ := hcut
   subst he1
   subst he2
   clear d0 d1 d2 e0 e1 e2 r0 r1 r2 q0 q1 q2 k0 k1 k2 l0 l1 l2
   have HV2 := hid hv
   clear hv HV
   obtain ⟨d0, d1, d2, e0, e1, e2, r0, r1, r2, q0, q1, q2⟩ := (HBS.out.kept HV2.out.out.1).facts
   obtain ⟨k0, k1, k2, l0, l1, l2⟩ := cell3 HV2.out.out.2.2
   go_wp2_with fail
   refine bodyPost_ret (v := .tuple #[.agg #[.bool nb, .int .i8 t, .int .u64 k], .nilIface]) (dec_result rfl _ _ (w.heap.size + 1 + 1) _ _ _ _ 55 rfl rfl (store3 (HBS.out.kept HV2.out.out.1).h2 _ _ _)) rfl ⟨rfl, chg3 (HC0.out.trans HV2.out.out.1 sb_) (by omega) _ _ _⟩
set_option maxHeartbeats 2000000 in
theorem addExact_none (dn en : Bool) (dc ec ds es m : Nat) (hm : m ≤ 19) (w : World) (he : EnvD w)
  (HA : Hid (Calls Tryz.prog 86 #[.agg #[.bool dn, .int .i8 ds, .int .u64 (dc : Int)], .agg #[.bool en, .int .i8 es, .int .u64 (ec : Int)], .int .i64 m] (((w.alloc (.cells #[.bool dn, .int .i8 ds, .int .u64 (dc : Int)] 55)).alloc (.cells #[.bool en, .int .i8 es, .int .u64 (ec : Int)] 55)).alloc (.cells #[.bool false, .int .i8 0, .int .u64 0] 55)) (PErrD (((w.alloc (.cells #[.bool dn, .int .i8 ds, .int .u64 (dc : Int)] 55)).alloc (.cells #[.bool en, .int .i8 es, .int .u64 (ec : Int)] 55)).alloc (.cells #[.bool false, .int .i8 0, .int .u64 0] 55)))))
  (HB : Hid (∀ w1, EnvD w1 → Calls Tryz.prog 87 #[.agg #[.bool dn, .int .i8 ds, .int .u64 (dc : Int)], .agg #[.bool en, .int .i8 es, .int .u64 (ec : Int)], .int .i64 m] w1 (PErrD w1))) :
  Calls Tryz.prog 62 #[.agg #[.bool dn, .int .i8 ds, .int .u64 (dc : Int)], .agg #[.bool en, .int .i8 es, .int .u64 (ec : Int)], .int .i64 m] w (PErrD w) := by
 have HBS := hid (Bx.start w dn ds (dc : Int) en es (ec : Int))
 have HC0 := hid (start3 w (.cells #[.bool dn, .int .i8 ds, .int .u64 (dc : Int)] 55) (.cells #[.bool en, .int .i8 es, .int .u64 (ec : Int)] 55) (.cells #[.bool false, .int .i8 0, .int .u64 0] 55))
 have HE0 := hid (he.kept HC0.out)
 have hb1 : decide ((m : Int) < 0) = false := decide_eq_false (by omega)
 have hb2 : decide ((19 : Int) < (m : Int)) = false := decide_eq_false (by omega)
 obtain ⟨d0, d1, d2, e0, e1, e2, r0, r1, r2, q0, q1, q2⟩ := HBS.out.facts
 clear he
 go_enter Tryz.func62, Tryz.ntmps62
 go_upto_region 3 with fail
 go_cut [8, 9] from 18 to 24 (fun a b wx => ∃ g : Nat, a = .pointer (some ⟨g, 0, none⟩) ∧ (∃ et ev, b = .iface et ev) ∧ Hid (Var3 (((w.alloc (.cells #[.bool dn, .int .i8 ds, .int .u64 (dc : Int)] 55)).alloc (.cells #[.bool en, .int .i8 es, .int .u64 (ec : Int)] 55)).alloc (.cells #[.bool false, .int .i8 0, .int .u64 0] 55)) wx g (.bool false) (.int .i8 0) (.int .u64 0)))
 case first =>
  go_wp2_with fail
  go_at_call 86
  refine HA.out.mono ?_
  intro e w1 h
  obtain ⟨hk, et, ev, he1⟩ := h
  subst he1
  clear d0 d1 d2 e0 e1 e2 r0 r1 r2 q0 q1 q2
  have HK := hid hk
  clear hk
  go_wp2_with fail
  go_meet
  exact ⟨w1.heap.size, rfl, ⟨_, _, rfl⟩, Var3.mk' HK.out _ _ _⟩
 case rest =>
  obtain ⟨g, he1, ⟨et, ev, he2⟩, hv⟩ := hcut
  subst he1
  subst he2
  have HV := hid hv
  clear hv d0 d1 d2 e0 e1 e2 r0 r1 r2 q0 q1 q2
  obtain ⟨d0, d1, d2, e0, e1, e2, r0, r1, r2, q0, q1, q2⟩ := (HBS.out.kept HV.out.out.1).facts
  obtain ⟨k0, k1, k2, l0, l1, l2⟩ := cell3 HV.out.out.2.2
  go_upto_region 5 with fail
  go_cut [8, 9] from 27 to 33 (fun a b wx => a = .pointer (some ⟨g, 0, none⟩) ∧ (∃ t2 v2, b = .iface t2 v2) ∧ Hid (Var3 (((w.alloc (.cells #[.bool dn, .int .i8 ds, .int .u64 (dc : Int)] 55)).alloc (.cells #[.bool en, .int .i8 es, .int .u64 (ec : Int)] 55)).alloc (.cells #[.bool false, .int .i8 0, .int .u64 0] 55)) wx g (.bool false) (.int .i8 0) (.int .u64 0)))
  case first =>
   go_wp2_with fail
   go_at_call 87
   refine (HB.out _ (HE0.out.kept HV.out.out.1)).mono ?_
   intro e w1 h
   obtain ⟨hk, t2, v2, he1⟩ := h
   subst he1
   clear d0 d1 d2 e0 e1 e2 r0 r1 r2 q0 q1 q2 k0 k1 k2 l0 l1 l2
   have HK := hid hk
   clear hk
   obtain ⟨k0, k1, k2, l0, l1, l2⟩ := cell3 (HV.out.out.kept HK.out).2.2
   go_wp2_with fail
   go_meet
   exact ⟨rfl, ⟨_, _, rfl⟩, HV.out.out.set HK.out _ _ _⟩
  case rest =>
   obtain ⟨he1, ⟨t2, v2, he2⟩, hv⟩ := hcut
   subst he1
   subst he2
   clear d0 d1 d2 e0 e1 e2 r0 r1 r2 q0 q1 q2 k0 k1 k2 l0 l1 l2
   have HV2 := hid hv
   clear hv HV
   obtain ⟨d0, d1, d2, e0, e1, e2, r0, r1, r2, q0, q1, q2⟩ := (HBS.out.kept HV2.out.out.1).facts
   obtain ⟨k0, k1, k2, l0, l1, l2⟩ := cell3 HV2.out.out.2.2
   go_wp2_with (go_at_call 76; refine (errorsNew_any _ _).mono ?_; intro e w3 h; obtain ⟨⟨t3, v3, he3⟩, hc3⟩ := h; subst he3; have HK3 := hid hc3; clear hc3; clear d0 d1 d2 e0 e1 e2 r0 r1 r2 q0 q1 q2 k0 k1 k2 l0 l1 l2; obtain ⟨d0, d1, d2, e0, e1, e2, r0, r1, r2, q0, q1, q2⟩ := (HBS.out.kept (HV2.out.out.kept HK3.out).1).facts)
   refine bodyPost_ret (v := .tuple #[.agg #[.bool false, .int .i8 0, .int .u64 0], .iface t3 v3]) (dec_result rfl _ _ (w.heap.size + 1 + 1) _ _ _ _ 55 rfl rfl (store3 (HBS.out.kept (HV2.out.out.kept HK3.out).1).h2 _ _ _)) rfl ⟨chg3 (HC0.out.trans (HV2.out.out.kept HK3.out).1 (fun _ _ h => h)) (by omega) _ _ _, t3, v3, rfl⟩
theorem addExact_places (dn en : Bool) (dc ec : Int) (ds es : Nat) (m : Int) (hm : m < 0 ∨ 19 < m) (w : World) :
  Calls Tryz.prog 62 #[.agg #[.bool dn, .int .i8 ds, .int .u64 dc], .agg #[.bool en, .int .i8 es, .int .u64 ec], .int .i64 m] w (PErrD w) := by
 have HBS := hid (Bx.start w dn ds dc en es ec)
 have HC0 := hid (start3 w (.cells #[.bool dn, .int .i8 ds, .int .u64 dc] 55) (.cells #[.bool en, .int .i8 es, .int .u64 ec] 55) (.cells #[.bool false, .int .i8 0, .int .u64 0] 55))
 by_cases h0 : m < 0
 ·have hb1 : decide (m < 0) = true := decide_eq_true h0
  clear hm
  obtain ⟨d0, d1, d2, e0, e1, e2, r0, r1, r2, q0, q1, q2⟩ := HBS.out.facts
  go_enter Tryz.func62, Tryz.ntmps62
  go_wp2_with (go_at_call 76; refine (errorsNew_any _ _).mono ?_; intro e w3 h; obtain ⟨⟨t3, v3, he3⟩, hc3⟩ := h; subst he3; have HK3 := hid hc3; clear hc3; clear d0 d1 d2 e0 e1 e2 r0 r1 r2 q0 q1 q2; obtain ⟨d0, d1, d2, e0, e1, e2, r0, r1, r2, q0, q1, q2⟩ := (HBS.out.kept HK3.out).facts)
  refine bodyPost_ret (v := .tuple #[.agg #[.bool false, .int .i8 0, .int .u64 0], .iface t3 v3]) (dec_result rfl _ _ (w.heap.size + 1 + 1) _ _ _ _ 55 rfl rfl (store3 (HBS.out.kept HK3.out).h2 _ _ _)) rfl ⟨chg3 (HC0.out.trans HK3.out sb_) (by omega) _ _ _, t3, v3, rfl⟩
 ·have hb1 : decide (m < 0) = false := decide_eq_false h0
  have hb2 : decide (19 < m) = true := decide_eq_true (by omega)
  clear hm
  obtain ⟨d0, d1, d2, e0, e1, e2, r0, r1, r2, q0, q1, q2⟩ := HBS.out.facts
  go_enter Tryz.func62, Tryz.ntmps62
  go_wp2_with (go_at_call 76; refine (errorsNew_any _ _).mono ?_; intro e w3 h; obtain ⟨⟨t3, v3, he3⟩, hc3⟩ := h; subst he3; have HK3 := hid hc3; clear hc3; clear d0 d1 d2 e0 e1 e2 r0 r1 r2 q0 q1 q2; obtain ⟨d0, d1, d2, e0, e1, e2, r0, r1, r2, q0, q1, q2⟩ := (HBS.out.kept HK3.out).facts)
  refine bodyPost_ret (v := .tuple #[.agg #[.bool false, .int .i8 0, .int .u64 0], .iface t3 v3]) (dec_result rfl _ _ (w.heap.size + 1 + 1) _ _ _ _ 55 rfl rfl (store3 (HBS.out.kept HK3.out).h2 _ _ _)) rfl ⟨chg3 (HC0.out.trans HK3.out sb_) (by omega) _ _ _, t3, v3, rfl⟩
theorem addExact_any (dn en : Bool) (dc ec ds es m : Nat) (hdc : dc < 10 ^ 19) (hec : ec < 10 ^ 19) (hds : ds ≤ 19) (hes : es ≤ 19) (hm : m ≤ 19) (w : World) (he : EnvD w) :
  Calls Tryz.prog 62 #[.agg #[.bool dn, .int .i8 ds, .int .u64 (dc : Int)], .agg #[.bool en, .int .i8 es, .int .u64 (ec : Int)], .int .i64 m] w
   (PDecN w (sumD dn dc ds en ec es).1 (from19 (10 ^ 19) 2 (sumD dn dc ds en ec es).2 (mxp ds es) m)) := by
 have hE0 := he.kept (start3 w (.cells #[.bool dn, .int .i8 ds, .int .u64 (dc : Int)] 55) (.cells #[.bool en, .int .i8 es, .int .u64 (ec : Int)] 55) (.cells #[.bool false, .int .i8 0, .int .u64 0] 55))
 have hA := addFint_any dn en dc ec ds es m hdc hec hds hes hm _ hE0
 have hB := fun w1 he1 => addBint_any dn en dc ec ds es m hdc hec hds hes hm w1 he1
 cases hF : addF dn dc ds en ec es m with
 | some kt =>
  obtain ⟨k, t⟩ := kt
  obtain ⟨k', rfl, h19⟩ := addF_from19 hds hes hm hF
  rw [hF] at hA
  rw [h19]
  refine (addExact_ok dn en dc ec ds es m hm w (k' : Int) t _ (hid (hA.mono (fun e w' h => ⟨h.2, h.1⟩)))).mono (fun e w' h => ⟨h.2, h.1⟩)
 | none =>
  rw [hF] at hA
  have hA2 := hid (hA.mono (fun e w' (h : PDec _ _ none e w') => (show PErrD _ e w' from ⟨h.1, h.2⟩)))
  cases h19 : from19 (10 ^ 19) 2 (sumD dn dc ds en ec es).2 (mxp ds es) m with
  | some kt =>
   obtain ⟨k, t⟩ := kt
   rw [h19] at hB
   exact (addExact_big dn en dc ec ds es m hm w (k : Int) t _ he hA2 (hid (fun w1 he1 => (hB w1 he1).mono (fun e w' h => ⟨h.2, h.1⟩)))).mono (fun e w' h => ⟨h.2, h.1⟩)
  | none =>
   rw [h19] at hB
   exact (addExact_none dn en dc ec ds es m hm w he hA2 (hid (fun w1 he1 => (hB w1 he1).mono (fun e w' h => ⟨h.1, h.2⟩)))).mono (fun e w' h => ⟨h.1, h.2⟩)
def PAdd (w : World) (dn : Bool) (dc ds : Nat) (en : Bool) (ec es : Nat) (m : Int) (e : Ending) (w' : World) : Prop :=
 if m < 0 ∨ 19 < m then PErrD w e w' else PDecN w (sumD dn dc ds en ec es).1 (from19 (10 ^ 19) 2 (sumD dn dc ds en ec es).2 (mxp ds es) m.toNat) e w'
theorem AddExact_all (dn en : Bool) (dc ec ds es : Nat) (m : Int) (hdc : dc < 10 ^ 19) (hec : ec < 10 ^ 19) (hds : ds ≤ 19) (hes : es ≤ 19) (w : World) (he : EnvD w) :
  Calls Tryz.prog 62 #[.agg #[.bool dn, .int .i8 ds, .int .u64 (dc : Int)], .agg #[.bool en, .int .i8 es, .int .u64 (ec : Int)], .int .i64 m] w (PAdd w dn dc ds en ec es m) := by
 by_cases h : m < 0 ∨ 19 < m
 ·exact (addExact_places dn en (dc : Int) (ec : Int) ds es m h w).mono (fun e w' k => by unfold PAdd; rw [if_pos h]; exact k)
 ·obtain ⟨k, rfl⟩ : ∃ k : Nat, m = (k : Int) := ⟨m.toNat, by omega⟩
  exact (addExact_any dn en dc ec ds es k hdc hec hds hes (by omega) w he).mono (fun e w' q => by unfold PAdd; rw [if_neg h, Int.toNat_natCast]; exact q)
theorem PAdd.op {w w' : World} {dn en : Bool} {dc ds ec es : Nat} {m : Int} {e : Ending} (h : PAdd w dn dc ds en ec es m e w') :
  ∃ (a : Bool) (b c : Int) (v : Value), e = .returned (.tuple #[.agg #[.bool a, .int .i8 b, .int .u64 c], v]) ∧ Chg (fun _ => False) w w' ∧ PAdd w dn dc ds en ec es m (.returned (.tuple #[.agg #[.bool a, .int .i8 b, .int .u64 c], v])) w' := by
 have hh := h
 unfold PAdd at h
 split at h
 ·obtain ⟨h1, t, v, rfl⟩ := h
  exact ⟨_, _, _, _, rfl, h1, hh⟩
 ·obtain ⟨a, b, c, v, rfl, h1, _⟩ := h.op
  exact ⟨a, b, c, v, rfl, h1, hh⟩
theorem PAdd.move {w w1 w' w'' : World} {dn en : Bool} {dc ds ec es : Nat} {m : Int} {e : Ending} (h : PAdd w1 dn dc ds en ec es m e w'') (c : Chg (fun _ => False) w w') : PAdd w dn dc ds en ec es m e w' := by
 unfold PAdd at *
 split
 ·next k => rw [if_pos k] at h; exact ⟨c, h.2⟩
 ·next k => rw [if_neg k] at h; exact h.move c
theorem Coef_any (neg : Bool) (c : Int) (s : Nat) (w : World) :
  Calls Tryz.prog 65 #[.agg #[.bool neg, .int .i8 s, .int .u64 c]] w (fun e w' => e = .returned (.int .u64 c) ∧ Chg (fun _ => False) w w') := by
 go_enter Tryz.func65, Tryz.ntmps65
 go_wp2_with fail
 go_ret
 exact ⟨rfl, (Chg.refl _ _).alloc _⟩
theorem ZzMake_any (neg nb : Bool) (c : Int) (s : Nat) (hc : Fi c) (hs : s ≤ 19) (hnb : (neg && c != 0) = nb) (w : World) :
  Calls Tryz.prog 61 #[.bool neg, .int .u64 c, .int .i64 s] w (fun e w' => e = .returned (.tuple #[.agg #[.bool nb, .int .i8 s, .int .u64 c], .nilIface]) ∧ Chg (fun _ => False) w w') := by
 have HN := hid (fun w => newSafe_flat neg nb c s hc hs hnb w)
 have HZ := hid (heap_alloc_new w (.cells #[.bool false, .int .i8 0, .int .u64 0] 55))
 have HC0 := hid ((Chg.refl (fun _ => False) w).alloc (.cells #[.bool false, .int .i8 0, .int .u64 0] 55))
 clear hc hs hnb
 go_enter Tryz.func61, Tryz.ntmps61
 go_wp2_with (go_at_call 85; refine (HN.out _).mono ?_; intro e w1 h; obtain ⟨he, hc⟩ := h; subst he; have hk := hc; clear hc; obtain ⟨k0, k1, k2, f0, f1, f2⟩ := cell3 (kept_heap hk HZ.out))
 refine bodyPost_ret (v := .tuple #[.agg #[.bool nb, .int .i8 s, .int .u64 c], .nilIface]) (dec_result rfl _ _ w.heap.size _ _ _ _ 55 rfl rfl (store3 (kept_heap hk HZ.out) _ _ _)) rfl ⟨rfl, chg3 (HC0.out.trans hk sb_) (Nat.le_refl _) _ _ _⟩
theorem fix_size : (Tryz.prog.info? 24).map (·.size) = some 3 := by kernel_rfl
set_option maxHeartbeats 2000000 in
theorem fix_any (n1 : Bool) (c : Int) (s : Nat) (hs : s ≤ 19) (w : World) :
  Calls Tryz.prog 34 #[.agg #[.bool n1, .int .i8 s, .int .u64 c]] w (PV w (.agg #[.bool n1, .int .u64 c, .int .i64 s])) := by
 have H1 := hid (fun w => IsNeg_any n1 c s w)
 have H2 := hid (fun w => Coef_any n1 c s w)
 have H3 := hid (fun w => Scale_any n1 c s hs w)
 clear hs
 obtain ⟨HC0, HD, hB0, hB1⟩ := box2 w #[.bool n1, .int .i8 s, .int .u64 c] 55 #[.bool false, .int .u64 0, .int .i64 0] 24
 have HZ := hid hB1
 have HSS := hid (fun (w1 : World) h => c3_ (cell3 (kept_heap (w' := w1) h hB0)))
 have HST := hid (fun w1 x0 x1 x2 h => And.intro (fr_ (w.heap.size + 1) x0 x1 x2 (HSS.out w1 h).1) (And.intro (fr_ (w.heap.size + 1) x0 x1 x2 (HSS.out w1 h).2.1) (fr_ (w.heap.size + 1) x0 x1 x2 (HSS.out w1 h).2.2)))
 clear hB0 hB1
 have hk := HD.out
 go_enter Tryz.func34, Tryz.ntmps34
 go_wp2_with fail
 first | (go_region_held3 (fun w' => w'.cell? ⟨w.heap.size, 0, none⟩ = some (.bool n1) ∧ w'.cell? ⟨w.heap.size, 1, none⟩ = some (.int .i8 s) ∧ w'.cell? ⟨w.heap.size, 2, none⟩ = some (.int .u64 c)) (first | with_reducible exact HSS.out _ hk | with_reducible exact HST.out _ _ _ _ hk | go_keep) (first | (go_at_call 64; refine (H1.out _).mono ?_; intro e w1 h; obtain ⟨he, hc⟩ := h; subst he; replace hk := hk.trans hc sb_; skip; skip; clear hc; obtain ⟨k0, k1, k2, f0, f1, f2⟩ := cell3 (kept_heap hk HZ.out)) | (go_at_call 65; refine (H2.out _).mono ?_; intro e w1 h; obtain ⟨he, hc⟩ := h; subst he; replace hk := hk.trans hc sb_; skip; skip; clear hc; obtain ⟨k0, k1, k2, f0, f1, f2⟩ := cell3 (kept_heap hk HZ.out)) | (go_at_call 66; refine (H3.out _).mono ?_; intro e w1 h; obtain ⟨he, hc⟩ := h; subst he; replace hk := hk.trans hc sb_; skip; skip; clear hc; obtain ⟨k0, k1, k2, f0, f1, f2⟩ := cell3 (kept_heap hk HZ.out)))) | fail
 all_goals (go_wp2_with fail; refine bodyPost_ret (v := .agg #[.bool n1, .int .u64 c, .int .i64 s]) (by rw [results_cell_row rfl _ _ (w.heap.size + 1) _ _ _ _ rfl (store3 (kept_heap hk HZ.out) _ _ _) Tryz.underlying24 rfl fix_size]) rfl ⟨rfl, chg3 (HC0.out.trans hk sb_) (by omega) _ _ _⟩)
set_option maxHeartbeats 2000000 in
theorem fixed_any (n1 nb : Bool) (c : Int) (s : Nat) (hc : Fi c) (hs : s ≤ 19) (hnb : (n1 && c != 0) = nb) (w : World) :
  Calls Tryz.prog 32 #[.agg #[.bool n1, .int .u64 c, .int .i64 s]] w (PV w (.tuple #[.agg #[.bool nb, .int .i8 s, .int .u64 c], .bool true])) := by
 have HM := hid (fun w => ZzMake_any n1 nb c s hc hs hnb w)
 clear hc hs hnb
 obtain ⟨HC0, HD, hB0, hB1⟩ := box2 w #[.bool n1, .int .u64 c, .int .i64 s] 24 #[.bool false, .int .i8 0, .int .u64 0] 55
 have HZ := hid hB1
 have HSS := hid (fun (w1 : World) h => c3_ (cell3 (kept_heap (w' := w1) h hB0)))
 have HST := hid (fun w1 x0 x1 x2 h => And.intro (fr_ (w.heap.size + 1) x0 x1 x2 (HSS.out w1 h).1) (And.intro (fr_ (w.heap.size + 1) x0 x1 x2 (HSS.out w1 h).2.1) (fr_ (w.heap.size + 1) x0 x1 x2 (HSS.out w1 h).2.2)))
 clear hB0 hB1
 have hk := Chg.refl (fun _ => False) ((w.alloc (.cells #[.bool n1, .int .u64 c, .int .i64 s] 24)).alloc (.cells #[.bool false, .int .i8 0, .int .u64 0] 55))
 obtain ⟨d0, d1, d2⟩ := HSS.out _ hk
 go_enter Tryz.func32, Tryz.ntmps32
 go_wp2_with (go_at_call 61; refine (HM.out _).mono ?_; intro e w1 h; obtain ⟨he, hc⟩ := h; subst he; replace hk := hk.trans hc sb_; have HG := hid (heap_alloc_new w1 (.cells #[.bool nb, .int .i8 s, .int .u64 c] 55)); have hk2 := hk.alloc (.cells #[.bool nb, .int .i8 s, .int .u64 c] 55); clear hc d0 d1 d2; obtain ⟨k0, k1, k2, f0, f1, f2⟩ := cell3 (kept_heap hk2 HZ.out); obtain ⟨g0, g1, g2, _, _, _⟩ := cell3 HG.out)
 go_region
 all_goals (go_wp2_with fail; refine bodyPost_ret (v := .tuple #[.agg #[.bool nb, .int .i8 s, .int .u64 c], .bool true]) (dec_result rfl _ _ (w.heap.size + 1) _ _ _ _ 55 rfl rfl (store3 (kept_heap hk2.drew HZ.out) _ _ _)) rfl ⟨rfl, chg3 (HC0.out.trans hk2.drew sb_) (by omega) _ _ _⟩)
end Go.Proofs.YtbjhnckboimliaaGreatDoor
