/- Part 22 of the proof. -/
import Derived.Test.YthdkandofddohaaGreatDoorP21
namespace Go.Proofs.YthdkandofddohaaGreatDoor
open Go.RowKit
set_option linter.unusedVariables false
set_option linter.unusedSimpArgs false
set_option maxRecDepth 20000
set_option maxHeartbeats 4000000 in
theorem addBint_gt_same (dn en : Bool) (dc ec ds es m : Nat) (hdc : digs dc ≤ 19) (hec : digs ec ≤ 19) (hwd : Wd (dc : Int)) (hwe : Wd (ec : Int)) (hds : ds ≤ 19) (hes : es ≤ 19) (hm : m ≤ 19) (w : World) (he : EnvD w) (hlt : es < ds) (X : Nat) (hX : ec * 10 ^ (ds - es) = X) (hs : (dn == en) = true) (C : Nat) (hC : dc + X = C) :
  Calls Tryz.prog 68 #[.agg #[.bool dn, .int .i8 ds, .int .u64 (dc : Int)], .agg #[.bool en, .int .i8 es, .int .u64 (ec : Int)], .int .i64 m] w (PDecN w dn (from19 (10 ^ 19) 2 C ds m)) := by
 have HWD := hid hwd
 have HWE := hid hwe
 clear hwd hwe
 have c1 : (es : Int) < (ds : Int) := by omega
 have hw : IntKind.i64.wrap ((ds : Int) - (es : Int)) = ((ds - es : Nat) : Int) := by rw [show (ds : Int) - (es : Int) = ((ds - es : Nat) : Int) by omega]; exact IntWalk.i64_in _ (by omega)
 have HL := hid (fun w0 w2 p q (h : Two w0 w2 q p (dc : Int) (ec : Int)) => two_lsh' (k := ds - es) h (Nat.le_trans hec (by omega)) (by omega))
 rw [hX] at HL
 have hXd : digs X ≤ 38 := by rw [← hX]; exact Nat.le_trans (digs_mul hec) (by omega)
 have hCd : digs C ≤ 39 := digs_add (Nat.le_trans hdc (by omega) : digs dc ≤ 38) hXd (by omega)
 have HA := hid (fun w0 w2 p q (h : Two w0 w2 p q (dc : Int) (X : Int)) => two_add h (Nat.le_trans hdc (by omega)) (Nat.le_trans hXd (by omega)))
 rw [hC] at HA
 have HF := hid (fun w0 w2 p q y (h : Two w0 w2 p q (C : Int) y) => two_nfb (s := ds) dn h (Nat.le_trans hCd (by omega)) (by omega) hm)
 generalize from19 (10 ^ 19) 2 C ds m = o at *
 clear hX hXd
 clear hC hCd hdc hec
 have HSD := hid (fun w => Scale_any dn (dc : Int) ds hds w)
 have HSE := hid (fun w => Scale_any en (ec : Int) es hes w)
 have HND := hid (fun w => IsNeg_any dn (dc : Int) ds w)
 have HNE := hid (fun w => IsNeg_any en (ec : Int) es w)
 have HBS := hid (Bx.start w dn ds (dc : Int) en es (ec : Int))
 have HB := hid (fun w1 (h : Chg (fun _ => False) (((w.alloc (.cells #[.bool dn, .int .i8 ds, .int .u64 (dc : Int)] 54)).alloc (.cells #[.bool en, .int .i8 es, .int .u64 (ec : Int)] 54)).alloc (.cells #[.bool false, .int .i8 0, .int .u64 0] 54)) w1) => (HBS.out.kept h).facts)
 have HBX := hid (fun w1 (h : Chg (fun _ => False) (((w.alloc (.cells #[.bool dn, .int .i8 ds, .int .u64 (dc : Int)] 54)).alloc (.cells #[.bool en, .int .i8 es, .int .u64 (ec : Int)] 54)).alloc (.cells #[.bool false, .int .i8 0, .int .u64 0] 54)) w1) => (HBS.out.kept h).h2)
 have HC0 := hid (start3 w (.cells #[.bool dn, .int .i8 ds, .int .u64 (dc : Int)] 54) (.cells #[.bool en, .int .i8 es, .int .u64 (ec : Int)] 54) (.cells #[.bool false, .int .i8 0, .int .u64 0] 54))
 have HE0 := hid (he.kept HC0.out)
 have hk := Chg.refl (fun _ => False) (((w.alloc (.cells #[.bool dn, .int .i8 ds, .int .u64 (dc : Int)] 54)).alloc (.cells #[.bool en, .int .i8 es, .int .u64 (ec : Int)] 54)).alloc (.cells #[.bool false, .int .i8 0, .int .u64 0] 54))
 obtain ⟨d0, d1, d2, e0, e1, e2, r0, r1, r2, q0, q1, q2⟩ := HB.out _ hk
 generalize ds - es = j at *
 clear he HBS
 go_enter_defers Tryz.func68, Tryz.ntmps68
 go_wp2_with (first | (go_at_call 78; refine (getBint_any _).mono ?_; intro e w1 h; obtain ⟨q, he1, hi2, hs2, hc2⟩ := h; subst he1; have HT := hid (Two.start HIP.out hsp hcp hi2 hs2 hc2 HE0.out); replace hk := hk.trans hc2 sb_; clear hi2 hs2 hc2; clear d0 d1 d2 e0 e1 e2 r0 r1 r2 q0 q1 q2; obtain ⟨d0, d1, d2, e0, e1, e2, r0, r1, r2, q0, q1, q2⟩ := HB.out _ hk) | (go_at_call 78; refine (getBint_any _).mono ?_; intro e w1 h; obtain ⟨p, he1, hip, hsp, hcp⟩ := h; subst he1; have HIP := hid hip; clear hip; replace hk := hk.trans hcp sb_; clear d0 d1 d2 e0 e1 e2 r0 r1 r2 q0 q1 q2; obtain ⟨d0, d1, d2, e0, e1, e2, r0, r1, r2, q0, q1, q2⟩ := HB.out _ hk) | (go_at_call 48; first | (refine (HSD.out _).mono ?_; intro e w1 h; obtain ⟨he1, hc1⟩ := h; subst he1; have HT := hid (HT.out.same hc1); replace hk := hk.trans hc1 sb_; clear hc1; clear d0 d1 d2 e0 e1 e2 r0 r1 r2 q0 q1 q2; obtain ⟨d0, d1, d2, e0, e1, e2, r0, r1, r2, q0, q1, q2⟩ := HB.out _ hk) | (refine (HSE.out _).mono ?_; intro e w1 h; obtain ⟨he1, hc1⟩ := h; subst he1; have HT := hid (HT.out.same hc1); replace hk := hk.trans hc1 sb_; clear hc1; clear d0 d1 d2 e0 e1 e2 r0 r1 r2 q0 q1 q2; obtain ⟨d0, d1, d2, e0, e1, e2, r0, r1, r2, q0, q1, q2⟩ := HB.out _ hk)) | (go_at_call 46; first | (refine (HND.out _).mono ?_; intro e w1 h; obtain ⟨he1, hc1⟩ := h; subst he1; have HT := hid (HT.out.same hc1); replace hk := hk.trans hc1 sb_; clear hc1; clear d0 d1 d2 e0 e1 e2 r0 r1 r2 q0 q1 q2; obtain ⟨d0, d1, d2, e0, e1, e2, r0, r1, r2, q0, q1, q2⟩ := HB.out _ hk) | (refine (HNE.out _).mono ?_; intro e w1 h; obtain ⟨he1, hc1⟩ := h; subst he1; have HT := hid (HT.out.same hc1); replace hk := hk.trans hc1 sb_; clear hc1; clear d0 d1 d2 e0 e1 e2 r0 r1 r2 q0 q1 q2; obtain ⟨d0, d1, d2, e0, e1, e2, r0, r1, r2, q0, q1, q2⟩ := HB.out _ hk)) | (go_at_call 80; first | (refine (two_setFint HT.out HWD.out).mono ?_; intro e w1 h; obtain ⟨he1, h⟩ := h; subst he1; have HT := hid h; clear h; replace hk := HT.out.chg; clear d0 d1 d2 e0 e1 e2 r0 r1 r2 q0 q1 q2; obtain ⟨d0, d1, d2, e0, e1, e2, r0, r1, r2, q0, q1, q2⟩ := HB.out _ hk) | (refine (two_setFint' HT.out HWE.out).mono ?_; intro e w1 h; obtain ⟨he1, h⟩ := h; subst he1; have HT := hid h; clear h; replace hk := HT.out.chg; clear d0 d1 d2 e0 e1 e2 r0 r1 r2 q0 q1 q2; obtain ⟨d0, d1, d2, e0, e1, e2, r0, r1, r2, q0, q1, q2⟩ := HB.out _ hk)) | (go_at_call 81; refine (HL.out _ _ _ _ HT.out).mono ?_; intro e w1 h; obtain ⟨he1, h⟩ := h; subst he1; have HT := hid h; clear h; replace hk := HT.out.chg; clear d0 d1 d2 e0 e1 e2 r0 r1 r2 q0 q1 q2; obtain ⟨d0, d1, d2, e0, e1, e2, r0, r1, r2, q0, q1, q2⟩ := HB.out _ hk) | (go_at_call 82; refine (HA.out _ _ _ _ HT.out).mono ?_; intro e w1 h; obtain ⟨he1, h⟩ := h; subst he1; have HT := hid h; clear h; replace hk := HT.out.chg; clear d0 d1 d2 e0 e1 e2 r0 r1 r2 q0 q1 q2; obtain ⟨d0, d1, d2, e0, e1, e2, r0, r1, r2, q0, q1, q2⟩ := HB.out _ hk) | (go_at_call 85; refine (HF.out _ _ _ _ _ HT.out).mono ?_; intro e w1 h; obtain ⟨na, nb, nc, nv, he1, hc1, hp⟩ := h.op; subst he1; replace hk := hc1; clear h hc1; clear d0 d1 d2 e0 e1 e2 r0 r1 r2 q0 q1 q2; obtain ⟨d0, d1, d2, e0, e1, e2, r0, r1, r2, q0, q1, q2⟩ := HB.out _ hk; have HP := hid hp; clear hp))
 refine leaves_cons (f := 79) (args := #[.pointer (some ⟨q, 0, none⟩)]) (by simp) (by simp [go_sem]) ?_
 refine (putBint_d _ .returning _).mono ?_
 rintro e u' w'' ⟨rfl, rfl, rfl⟩
 refine leaves_cons (f := 79) (args := #[.pointer (some ⟨p, 0, none⟩)]) (by simp [settle]) (by simp [go_sem]) ?_
 refine (putBint_d _ .returning _).mono ?_
 rintro e u' w'' ⟨rfl, rfl, rfl⟩
 exact ⟨.tuple #[.agg #[.bool na, .int .i8 nb, .int .u64 nc], nv], dec_result rfl _ _ (w.heap.size + 1 + 1) _ _ _ _ 54 rfl rfl (store3 (HBX.out _ hk) _ _ _), HP.out.move (chg3 (HC0.out.trans hk sb_) (by omega) _ _ _)⟩
set_option maxHeartbeats 4000000 in
theorem addBint_gt_dgt (dn en : Bool) (dc ec ds es m : Nat) (hdc : digs dc ≤ 19) (hec : digs ec ≤ 19) (hwd : Wd (dc : Int)) (hwe : Wd (ec : Int)) (hds : ds ≤ 19) (hes : es ≤ 19) (hm : m ≤ 19) (w : World) (he : EnvD w) (hlt : es < ds) (X : Nat) (hX : ec * 10 ^ (ds - es) = X) (hs : (dn == en) = false) (hg : dc < X) (C : Nat) (hC : X - dc = C) :
  Calls Tryz.prog 68 #[.agg #[.bool dn, .int .i8 ds, .int .u64 (dc : Int)], .agg #[.bool en, .int .i8 es, .int .u64 (ec : Int)], .int .i64 m] w (PDecN w en (from19 (10 ^ 19) 2 C ds m)) := by
 have HWD := hid hwd
 have HWE := hid hwe
 clear hwd hwe
 have c1 : (es : Int) < (ds : Int) := by omega
 have hw : IntKind.i64.wrap ((ds : Int) - (es : Int)) = ((ds - es : Nat) : Int) := by rw [show (ds : Int) - (es : Int) = ((ds - es : Nat) : Int) by omega]; exact IntWalk.i64_in _ (by omega)
 have HL := hid (fun w0 w2 p q (h : Two w0 w2 q p (dc : Int) (ec : Int)) => two_lsh' (k := ds - es) h (Nat.le_trans hec (by omega)) (by omega))
 rw [hX] at HL
 have hXd : digs X ≤ 38 := by rw [← hX]; exact Nat.le_trans (digs_mul hec) (by omega)
 have hCd : digs C ≤ 39 := digs_add (Nat.le_trans hdc (by omega) : digs dc ≤ 38) hXd (by omega)
 have hcc : (if dc < X then X - dc else dc - X) = C := by rw [if_pos hg]; exact hC
 have HSB := hid (fun w0 w2 p q (h : Two w0 w2 p q (dc : Int) (X : Int)) => two_subAbs h (Nat.le_trans hdc (by omega)) (Nat.le_trans hXd (by omega)) hcc)
 have hcm : cmpI (X : Int) (dc : Int) = 1 := by unfold cmpI; rw [if_neg (by omega), if_pos (by omega)]
 obtain ⟨kk, hkk⟩ : ∃ kk : Int, kk = 1 := ⟨_, rfl⟩
 rw [← hkk] at hcm
 have hkp : (0 : Int) < kk := by omega
 have HCM := hid (fun w0 w2 p q (h : Two w0 w2 p q (dc : Int) (X : Int)) => two_cmp h hcm)
 clear hcc hcm hg
 clear hkk
 have HF := hid (fun w0 w2 p q y (h : Two w0 w2 p q (C : Int) y) => two_nfb (s := ds) en h (Nat.le_trans hCd (by omega)) (by omega) hm)
 generalize from19 (10 ^ 19) 2 C ds m = o at *
 clear hX hXd
 clear hC hCd hdc hec
 have HSD := hid (fun w => Scale_any dn (dc : Int) ds hds w)
 have HSE := hid (fun w => Scale_any en (ec : Int) es hes w)
 have HND := hid (fun w => IsNeg_any dn (dc : Int) ds w)
 have HNE := hid (fun w => IsNeg_any en (ec : Int) es w)
 have HBS := hid (Bx.start w dn ds (dc : Int) en es (ec : Int))
 have HB := hid (fun w1 (h : Chg (fun _ => False) (((w.alloc (.cells #[.bool dn, .int .i8 ds, .int .u64 (dc : Int)] 54)).alloc (.cells #[.bool en, .int .i8 es, .int .u64 (ec : Int)] 54)).alloc (.cells #[.bool false, .int .i8 0, .int .u64 0] 54)) w1) => (HBS.out.kept h).facts)
 have HBX := hid (fun w1 (h : Chg (fun _ => False) (((w.alloc (.cells #[.bool dn, .int .i8 ds, .int .u64 (dc : Int)] 54)).alloc (.cells #[.bool en, .int .i8 es, .int .u64 (ec : Int)] 54)).alloc (.cells #[.bool false, .int .i8 0, .int .u64 0] 54)) w1) => (HBS.out.kept h).h2)
 have HC0 := hid (start3 w (.cells #[.bool dn, .int .i8 ds, .int .u64 (dc : Int)] 54) (.cells #[.bool en, .int .i8 es, .int .u64 (ec : Int)] 54) (.cells #[.bool false, .int .i8 0, .int .u64 0] 54))
 have HE0 := hid (he.kept HC0.out)
 have hk := Chg.refl (fun _ => False) (((w.alloc (.cells #[.bool dn, .int .i8 ds, .int .u64 (dc : Int)] 54)).alloc (.cells #[.bool en, .int .i8 es, .int .u64 (ec : Int)] 54)).alloc (.cells #[.bool false, .int .i8 0, .int .u64 0] 54))
 obtain ⟨d0, d1, d2, e0, e1, e2, r0, r1, r2, q0, q1, q2⟩ := HB.out _ hk
 generalize ds - es = j at *
 clear he HBS
 go_enter_defers Tryz.func68, Tryz.ntmps68
 go_wp2_with (first | (go_at_call 78; refine (getBint_any _).mono ?_; intro e w1 h; obtain ⟨q, he1, hi2, hs2, hc2⟩ := h; subst he1; have HT := hid (Two.start HIP.out hsp hcp hi2 hs2 hc2 HE0.out); replace hk := hk.trans hc2 sb_; clear hi2 hs2 hc2; clear d0 d1 d2 e0 e1 e2 r0 r1 r2 q0 q1 q2; obtain ⟨d0, d1, d2, e0, e1, e2, r0, r1, r2, q0, q1, q2⟩ := HB.out _ hk) | (go_at_call 78; refine (getBint_any _).mono ?_; intro e w1 h; obtain ⟨p, he1, hip, hsp, hcp⟩ := h; subst he1; have HIP := hid hip; clear hip; replace hk := hk.trans hcp sb_; clear d0 d1 d2 e0 e1 e2 r0 r1 r2 q0 q1 q2; obtain ⟨d0, d1, d2, e0, e1, e2, r0, r1, r2, q0, q1, q2⟩ := HB.out _ hk) | (go_at_call 48; first | (refine (HSD.out _).mono ?_; intro e w1 h; obtain ⟨he1, hc1⟩ := h; subst he1; have HT := hid (HT.out.same hc1); replace hk := hk.trans hc1 sb_; clear hc1; clear d0 d1 d2 e0 e1 e2 r0 r1 r2 q0 q1 q2; obtain ⟨d0, d1, d2, e0, e1, e2, r0, r1, r2, q0, q1, q2⟩ := HB.out _ hk) | (refine (HSE.out _).mono ?_; intro e w1 h; obtain ⟨he1, hc1⟩ := h; subst he1; have HT := hid (HT.out.same hc1); replace hk := hk.trans hc1 sb_; clear hc1; clear d0 d1 d2 e0 e1 e2 r0 r1 r2 q0 q1 q2; obtain ⟨d0, d1, d2, e0, e1, e2, r0, r1, r2, q0, q1, q2⟩ := HB.out _ hk)) | (go_at_call 46; first | (refine (HND.out _).mono ?_; intro e w1 h; obtain ⟨he1, hc1⟩ := h; subst he1; have HT := hid (HT.out.same hc1); replace hk := hk.trans hc1 sb_; clear hc1; clear d0 d1 d2 e0 e1 e2 r0 r1 r2 q0 q1 q2; obtain ⟨d0, d1, d2, e0, e1, e2, r0, r1, r2, q0, q1, q2⟩ := HB.out _ hk) | (refine (HNE.out _).mono ?_; intro e w1 h; obtain ⟨he1, hc1⟩ := h; subst he1; have HT := hid (HT.out.same hc1); replace hk := hk.trans hc1 sb_; clear hc1; clear d0 d1 d2 e0 e1 e2 r0 r1 r2 q0 q1 q2; obtain ⟨d0, d1, d2, e0, e1, e2, r0, r1, r2, q0, q1, q2⟩ := HB.out _ hk)) | (go_at_call 80; first | (refine (two_setFint HT.out HWD.out).mono ?_; intro e w1 h; obtain ⟨he1, h⟩ := h; subst he1; have HT := hid h; clear h; replace hk := HT.out.chg; clear d0 d1 d2 e0 e1 e2 r0 r1 r2 q0 q1 q2; obtain ⟨d0, d1, d2, e0, e1, e2, r0, r1, r2, q0, q1, q2⟩ := HB.out _ hk) | (refine (two_setFint' HT.out HWE.out).mono ?_; intro e w1 h; obtain ⟨he1, h⟩ := h; subst he1; have HT := hid h; clear h; replace hk := HT.out.chg; clear d0 d1 d2 e0 e1 e2 r0 r1 r2 q0 q1 q2; obtain ⟨d0, d1, d2, e0, e1, e2, r0, r1, r2, q0, q1, q2⟩ := HB.out _ hk)) | (go_at_call 81; refine (HL.out _ _ _ _ HT.out).mono ?_; intro e w1 h; obtain ⟨he1, h⟩ := h; subst he1; have HT := hid h; clear h; replace hk := HT.out.chg; clear d0 d1 d2 e0 e1 e2 r0 r1 r2 q0 q1 q2; obtain ⟨d0, d1, d2, e0, e1, e2, r0, r1, r2, q0, q1, q2⟩ := HB.out _ hk) | (go_at_call 83; refine (HCM.out _ _ _ _ HT.out).mono ?_; intro e w1 h; obtain ⟨he1, h⟩ := h; subst he1; have HT := hid h; clear h; replace hk := HT.out.chg; clear d0 d1 d2 e0 e1 e2 r0 r1 r2 q0 q1 q2; obtain ⟨d0, d1, d2, e0, e1, e2, r0, r1, r2, q0, q1, q2⟩ := HB.out _ hk) | (go_at_call 84; refine (HSB.out _ _ _ _ HT.out).mono ?_; intro e w1 h; obtain ⟨he1, h⟩ := h; subst he1; have HT := hid h; clear h; replace hk := HT.out.chg; clear d0 d1 d2 e0 e1 e2 r0 r1 r2 q0 q1 q2; obtain ⟨d0, d1, d2, e0, e1, e2, r0, r1, r2, q0, q1, q2⟩ := HB.out _ hk) | (go_at_call 85; refine (HF.out _ _ _ _ _ HT.out).mono ?_; intro e w1 h; obtain ⟨na, nb, nc, nv, he1, hc1, hp⟩ := h.op; subst he1; replace hk := hc1; clear h hc1; clear d0 d1 d2 e0 e1 e2 r0 r1 r2 q0 q1 q2; obtain ⟨d0, d1, d2, e0, e1, e2, r0, r1, r2, q0, q1, q2⟩ := HB.out _ hk; have HP := hid hp; clear hp))
 refine leaves_cons (f := 79) (args := #[.pointer (some ⟨q, 0, none⟩)]) (by simp) (by simp [go_sem]) ?_
 refine (putBint_d _ .returning _).mono ?_
 rintro e u' w'' ⟨rfl, rfl, rfl⟩
 refine leaves_cons (f := 79) (args := #[.pointer (some ⟨p, 0, none⟩)]) (by simp [settle]) (by simp [go_sem]) ?_
 refine (putBint_d _ .returning _).mono ?_
 rintro e u' w'' ⟨rfl, rfl, rfl⟩
 exact ⟨.tuple #[.agg #[.bool na, .int .i8 nb, .int .u64 nc], nv], dec_result rfl _ _ (w.heap.size + 1 + 1) _ _ _ _ 54 rfl rfl (store3 (HBX.out _ hk) _ _ _), HP.out.move (chg3 (HC0.out.trans hk sb_) (by omega) _ _ _)⟩
set_option maxHeartbeats 4000000 in
theorem addBint_gt_dle (dn en : Bool) (dc ec ds es m : Nat) (hdc : digs dc ≤ 19) (hec : digs ec ≤ 19) (hwd : Wd (dc : Int)) (hwe : Wd (ec : Int)) (hds : ds ≤ 19) (hes : es ≤ 19) (hm : m ≤ 19) (w : World) (he : EnvD w) (hlt : es < ds) (X : Nat) (hX : ec * 10 ^ (ds - es) = X) (hs : (dn == en) = false) (hg : ¬ dc < X) (C : Nat) (hC : dc - X = C) :
  Calls Tryz.prog 68 #[.agg #[.bool dn, .int .i8 ds, .int .u64 (dc : Int)], .agg #[.bool en, .int .i8 es, .int .u64 (ec : Int)], .int .i64 m] w (PDecN w dn (from19 (10 ^ 19) 2 C ds m)) := by
 have HWD := hid hwd
 have HWE := hid hwe
 clear hwd hwe
 have c1 : (es : Int) < (ds : Int) := by omega
 have hw : IntKind.i64.wrap ((ds : Int) - (es : Int)) = ((ds - es : Nat) : Int) := by rw [show (ds : Int) - (es : Int) = ((ds - es : Nat) : Int) by omega]; exact IntWalk.i64_in _ (by omega)
 have HL := hid (fun w0 w2 p q (h : Two w0 w2 q p (dc : Int) (ec : Int)) => two_lsh' (k := ds - es) h (Nat.le_trans hec (by omega)) (by omega))
 rw [hX] at HL
 have hXd : digs X ≤ 38 := by rw [← hX]; exact Nat.le_trans (digs_mul hec) (by omega)
 have hCd : digs C ≤ 39 := digs_add (Nat.le_trans hdc (by omega) : digs dc ≤ 38) hXd (by omega)
 have hcc : (if dc < X then X - dc else dc - X) = C := by rw [if_neg hg]; exact hC
 have HSB := hid (fun w0 w2 p q (h : Two w0 w2 p q (dc : Int) (X : Int)) => two_subAbs h (Nat.le_trans hdc (by omega)) (Nat.le_trans hXd (by omega)) hcc)
 obtain ⟨kk, hcm⟩ : ∃ kk : Int, cmpI (X : Int) (dc : Int) = kk := ⟨_, rfl⟩
 have hkp : ¬ (0 : Int) < kk := by rw [← hcm]; unfold cmpI; split <;> (try split) <;> omega
 have HCM := hid (fun w0 w2 p q (h : Two w0 w2 p q (dc : Int) (X : Int)) => two_cmp h hcm)
 clear hcc hcm hg
 have HF := hid (fun w0 w2 p q y (h : Two w0 w2 p q (C : Int) y) => two_nfb (s := ds) dn h (Nat.le_trans hCd (by omega)) (by omega) hm)
 generalize from19 (10 ^ 19) 2 C ds m = o at *
 clear hX hXd
 clear hC hCd hdc hec
 have HSD := hid (fun w => Scale_any dn (dc : Int) ds hds w)
 have HSE := hid (fun w => Scale_any en (ec : Int) es hes w)
 have HND := hid (fun w => IsNeg_any dn (dc : Int) ds w)
 have HNE := hid (fun w => IsNeg_any en (ec : Int) es w)
 have HBS := hid (Bx.start w dn ds (dc : Int) en es (ec : Int))
 have HB := hid (fun w1 (h : Chg (fun _ => False) (((w.alloc (.cells #[.bool dn, .int .i8 ds, .int .u64 (dc : Int)] 54)).alloc (.cells #[.bool en, .int .i8 es, .int .u64 (ec : Int)] 54)).alloc (.cells #[.bool false, .int .i8 0, .int .u64 0] 54)) w1) => (HBS.out.kept h).facts)
 have HBX := hid (fun w1 (h : Chg (fun _ => False) (((w.alloc (.cells #[.bool dn, .int .i8 ds, .int .u64 (dc : Int)] 54)).alloc (.cells #[.bool en, .int .i8 es, .int .u64 (ec : Int)] 54)).alloc (.cells #[.bool false, .int .i8 0, .int .u64 0] 54)) w1) => (HBS.out.kept h).h2)
 have HC0 := hid (start3 w (.cells #[.bool dn, .int .i8 ds, .int .u64 (dc : Int)] 54) (.cells #[.bool en, .int .i8 es, .int .u64 (ec : Int)] 54) (.cells #[.bool false, .int .i8 0, .int .u64 0] 54))
 have HE0 := hid (he.kept HC0.out)
 have hk := Chg.refl (fun _ => False) (((w.alloc (.cells #[.bool dn, .int .i8 ds, .int .u64 (dc : Int)] 54)).alloc (.cells #[.bool en, .int .i8 es, .int .u64 (ec : Int)] 54)).alloc (.cells #[.bool false, .int .i8 0, .int .u64 0] 54))
 obtain ⟨d0, d1, d2, e0, e1, e2, r0, r1, r2, q0, q1, q2⟩ := HB.out _ hk
 generalize ds - es = j at *
 clear he HBS
 go_enter_defers Tryz.func68, Tryz.ntmps68
 go_wp2_with (first | (go_at_call 78; refine (getBint_any _).mono ?_; intro e w1 h; obtain ⟨q, he1, hi2, hs2, hc2⟩ := h; subst he1; have HT := hid (Two.start HIP.out hsp hcp hi2 hs2 hc2 HE0.out); replace hk := hk.trans hc2 sb_; clear hi2 hs2 hc2; clear d0 d1 d2 e0 e1 e2 r0 r1 r2 q0 q1 q2; obtain ⟨d0, d1, d2, e0, e1, e2, r0, r1, r2, q0, q1, q2⟩ := HB.out _ hk) | (go_at_call 78; refine (getBint_any _).mono ?_; intro e w1 h; obtain ⟨p, he1, hip, hsp, hcp⟩ := h; subst he1; have HIP := hid hip; clear hip; replace hk := hk.trans hcp sb_; clear d0 d1 d2 e0 e1 e2 r0 r1 r2 q0 q1 q2; obtain ⟨d0, d1, d2, e0, e1, e2, r0, r1, r2, q0, q1, q2⟩ := HB.out _ hk) | (go_at_call 48; first | (refine (HSD.out _).mono ?_; intro e w1 h; obtain ⟨he1, hc1⟩ := h; subst he1; have HT := hid (HT.out.same hc1); replace hk := hk.trans hc1 sb_; clear hc1; clear d0 d1 d2 e0 e1 e2 r0 r1 r2 q0 q1 q2; obtain ⟨d0, d1, d2, e0, e1, e2, r0, r1, r2, q0, q1, q2⟩ := HB.out _ hk) | (refine (HSE.out _).mono ?_; intro e w1 h; obtain ⟨he1, hc1⟩ := h; subst he1; have HT := hid (HT.out.same hc1); replace hk := hk.trans hc1 sb_; clear hc1; clear d0 d1 d2 e0 e1 e2 r0 r1 r2 q0 q1 q2; obtain ⟨d0, d1, d2, e0, e1, e2, r0, r1, r2, q0, q1, q2⟩ := HB.out _ hk)) | (go_at_call 46; first | (refine (HND.out _).mono ?_; intro e w1 h; obtain ⟨he1, hc1⟩ := h; subst he1; have HT := hid (HT.out.same hc1); replace hk := hk.trans hc1 sb_; clear hc1; clear d0 d1 d2 e0 e1 e2 r0 r1 r2 q0 q1 q2; obtain ⟨d0, d1, d2, e0, e1, e2, r0, r1, r2, q0, q1, q2⟩ := HB.out _ hk) | (refine (HNE.out _).mono ?_; intro e w1 h; obtain ⟨he1, hc1⟩ := h; subst he1; have HT := hid (HT.out.same hc1); replace hk := hk.trans hc1 sb_; clear hc1; clear d0 d1 d2 e0 e1 e2 r0 r1 r2 q0 q1 q2; obtain ⟨d0, d1, d2, e0, e1, e2, r0, r1, r2, q0, q1, q2⟩ := HB.out _ hk)) | (go_at_call 80; first | (refine (two_setFint HT.out HWD.out).mono ?_; intro e w1 h; obtain ⟨he1, h⟩ := h; subst he1; have HT := hid h; clear h; replace hk := HT.out.chg; clear d0 d1 d2 e0 e1 e2 r0 r1 r2 q0 q1 q2; obtain ⟨d0, d1, d2, e0, e1, e2, r0, r1, r2, q0, q1, q2⟩ := HB.out _ hk) | (refine (two_setFint' HT.out HWE.out).mono ?_; intro e w1 h; obtain ⟨he1, h⟩ := h; subst he1; have HT := hid h; clear h; replace hk := HT.out.chg; clear d0 d1 d2 e0 e1 e2 r0 r1 r2 q0 q1 q2; obtain ⟨d0, d1, d2, e0, e1, e2, r0, r1, r2, q0, q1, q2⟩ := HB.out _ hk)) | (go_at_call 81; refine (HL.out _ _ _ _ HT.out).mono ?_; intro e w1 h; obtain ⟨he1, h⟩ := h; subst he1; have HT := hid h; clear h; replace hk := HT.out.chg; clear d0 d1 d2 e0 e1 e2 r0 r1 r2 q0 q1 q2; obtain ⟨d0, d1, d2, e0, e1, e2, r0, r1, r2, q0, q1, q2⟩ := HB.out _ hk) | (go_at_call 83; refine (HCM.out _ _ _ _ HT.out).mono ?_; intro e w1 h; obtain ⟨he1, h⟩ := h; subst he1; have HT := hid h; clear h; replace hk := HT.out.chg; clear d0 d1 d2 e0 e1 e2 r0 r1 r2 q0 q1 q2; obtain ⟨d0, d1, d2, e0, e1, e2, r0, r1, r2, q0, q1, q2⟩ := HB.out _ hk) | (go_at_call 84; refine (HSB.out _ _ _ _ HT.out).mono ?_; intro e w1 h; obtain ⟨he1, h⟩ := h; subst he1; have HT := hid h; clear h; replace hk := HT.out.chg; clear d0 d1 d2 e0 e1 e2 r0 r1 r2 q0 q1 q2; obtain ⟨d0, d1, d2, e0, e1, e2, r0, r1, r2, q0, q1, q2⟩ := HB.out _ hk) | (go_at_call 85; refine (HF.out _ _ _ _ _ HT.out).mono ?_; intro e w1 h; obtain ⟨na, nb, nc, nv, he1, hc1, hp⟩ := h.op; subst he1; replace hk := hc1; clear h hc1; clear d0 d1 d2 e0 e1 e2 r0 r1 r2 q0 q1 q2; obtain ⟨d0, d1, d2, e0, e1, e2, r0, r1, r2, q0, q1, q2⟩ := HB.out _ hk; have HP := hid hp; clear hp))
 refine leaves_cons (f := 79) (args := #[.pointer (some ⟨q, 0, none⟩)]) (by simp) (by simp [go_sem]) ?_
 refine (putBint_d _ .returning _).mono ?_
 rintro e u' w'' ⟨rfl, rfl, rfl⟩
 refine leaves_cons (f := 79) (args := #[.pointer (some ⟨p, 0, none⟩)]) (by simp [settle]) (by simp [go_sem]) ?_
 refine (putBint_d _ .returning _).mono ?_
 rintro e u' w'' ⟨rfl, rfl, rfl⟩
 exact ⟨.tuple #[.agg #[.bool na, .int .i8 nb, .int .u64 nc], nv], dec_result rfl _ _ (w.heap.size + 1 + 1) _ _ _ _ 54 rfl rfl (store3 (HBX.out _ hk) _ _ _), HP.out.move (chg3 (HC0.out.trans hk sb_) (by omega) _ _ _)⟩
set_option maxHeartbeats 4000000 in
theorem addBint_lt_same (dn en : Bool) (dc ec ds es m : Nat) (hdc : digs dc ≤ 19) (hec : digs ec ≤ 19) (hwd : Wd (dc : Int)) (hwe : Wd (ec : Int)) (hds : ds ≤ 19) (hes : es ≤ 19) (hm : m ≤ 19) (w : World) (he : EnvD w) (hlt : ds < es) (X : Nat) (hX : dc * 10 ^ (es - ds) = X) (hs : (dn == en) = true) (C : Nat) (hC : X + ec = C) :
  Calls Tryz.prog 68 #[.agg #[.bool dn, .int .i8 ds, .int .u64 (dc : Int)], .agg #[.bool en, .int .i8 es, .int .u64 (ec : Int)], .int .i64 m] w (PDecN w dn (from19 (10 ^ 19) 2 C es m)) := by
 have HWD := hid hwd
 have HWE := hid hwe
 clear hwd hwe
 have c1 : ¬ (es : Int) < (ds : Int) := by omega
 have c2 : (ds : Int) < (es : Int) := by omega
 have hw : IntKind.i64.wrap ((es : Int) - (ds : Int)) = ((es - ds : Nat) : Int) := by rw [show (es : Int) - (ds : Int) = ((es - ds : Nat) : Int) by omega]; exact IntWalk.i64_in _ (by omega)
 have HL := hid (fun w0 w2 p q (h : Two w0 w2 p q (dc : Int) (ec : Int)) => two_lsh (k := es - ds) h (Nat.le_trans hdc (by omega)) (by omega))
 rw [hX] at HL
 have hXd : digs X ≤ 38 := by rw [← hX]; exact Nat.le_trans (digs_mul hdc) (by omega)
 have hCd : digs C ≤ 39 := digs_add hXd (Nat.le_trans hec (by omega) : digs ec ≤ 38) (by omega)
 have HA := hid (fun w0 w2 p q (h : Two w0 w2 p q (X : Int) (ec : Int)) => two_add h (Nat.le_trans hXd (by omega)) (Nat.le_trans hec (by omega)))
 rw [hC] at HA
 have HF := hid (fun w0 w2 p q y (h : Two w0 w2 p q (C : Int) y) => two_nfb (s := es) dn h (Nat.le_trans hCd (by omega)) (by omega) hm)
 generalize from19 (10 ^ 19) 2 C es m = o at *
 clear hX hXd
 clear hC hCd hdc hec
 have HSD := hid (fun w => Scale_any dn (dc : Int) ds hds w)
 have HSE := hid (fun w => Scale_any en (ec : Int) es hes w)
 have HND := hid (fun w => IsNeg_any dn (dc : Int) ds w)
 have HNE := hid (fun w => IsNeg_any en (ec : Int) es w)
 have HBS := hid (Bx.start w dn ds (dc : Int) en es (ec : Int))
 have HB := hid (fun w1 (h : Chg (fun _ => False) (((w.alloc (.cells #[.bool dn, .int .i8 ds, .int .u64 (dc : Int)] 54)).alloc (.cells #[.bool en, .int .i8 es, .int .u64 (ec : Int)] 54)).alloc (.cells #[.bool false, .int .i8 0, .int .u64 0] 54)) w1) => (HBS.out.kept h).facts)
 have HBX := hid (fun w1 (h : Chg (fun _ => False) (((w.alloc (.cells #[.bool dn, .int .i8 ds, .int .u64 (dc : Int)] 54)).alloc (.cells #[.bool en, .int .i8 es, .int .u64 (ec : Int)] 54)).alloc (.cells #[.bool false, .int .i8 0, .int .u64 0] 54)) w1) => (HBS.out.kept h).h2)
 have HC0 := hid (start3 w (.cells #[.bool dn, .int .i8 ds, .int .u64 (dc : Int)] 54) (.cells #[.bool en, .int .i8 es, .int .u64 (ec : Int)] 54) (.cells #[.bool false, .int .i8 0, .int .u64 0] 54))
 have HE0 := hid (he.kept HC0.out)
 have hk := Chg.refl (fun _ => False) (((w.alloc (.cells #[.bool dn, .int .i8 ds, .int .u64 (dc : Int)] 54)).alloc (.cells #[.bool en, .int .i8 es, .int .u64 (ec : Int)] 54)).alloc (.cells #[.bool false, .int .i8 0, .int .u64 0] 54))
 obtain ⟨d0, d1, d2, e0, e1, e2, r0, r1, r2, q0, q1, q2⟩ := HB.out _ hk
 generalize es - ds = j at *
 clear he HBS
 go_enter_defers Tryz.func68, Tryz.ntmps68
 go_wp2_with (first | (go_at_call 78; refine (getBint_any _).mono ?_; intro e w1 h; obtain ⟨q, he1, hi2, hs2, hc2⟩ := h; subst he1; have HT := hid (Two.start HIP.out hsp hcp hi2 hs2 hc2 HE0.out); replace hk := hk.trans hc2 sb_; clear hi2 hs2 hc2; clear d0 d1 d2 e0 e1 e2 r0 r1 r2 q0 q1 q2; obtain ⟨d0, d1, d2, e0, e1, e2, r0, r1, r2, q0, q1, q2⟩ := HB.out _ hk) | (go_at_call 78; refine (getBint_any _).mono ?_; intro e w1 h; obtain ⟨p, he1, hip, hsp, hcp⟩ := h; subst he1; have HIP := hid hip; clear hip; replace hk := hk.trans hcp sb_; clear d0 d1 d2 e0 e1 e2 r0 r1 r2 q0 q1 q2; obtain ⟨d0, d1, d2, e0, e1, e2, r0, r1, r2, q0, q1, q2⟩ := HB.out _ hk) | (go_at_call 48; first | (refine (HSD.out _).mono ?_; intro e w1 h; obtain ⟨he1, hc1⟩ := h; subst he1; have HT := hid (HT.out.same hc1); replace hk := hk.trans hc1 sb_; clear hc1; clear d0 d1 d2 e0 e1 e2 r0 r1 r2 q0 q1 q2; obtain ⟨d0, d1, d2, e0, e1, e2, r0, r1, r2, q0, q1, q2⟩ := HB.out _ hk) | (refine (HSE.out _).mono ?_; intro e w1 h; obtain ⟨he1, hc1⟩ := h; subst he1; have HT := hid (HT.out.same hc1); replace hk := hk.trans hc1 sb_; clear hc1; clear d0 d1 d2 e0 e1 e2 r0 r1 r2 q0 q1 q2; obtain ⟨d0, d1, d2, e0, e1, e2, r0, r1, r2, q0, q1, q2⟩ := HB.out _ hk)) | (go_at_call 46; first | (refine (HND.out _).mono ?_; intro e w1 h; obtain ⟨he1, hc1⟩ := h; subst he1; have HT := hid (HT.out.same hc1); replace hk := hk.trans hc1 sb_; clear hc1; clear d0 d1 d2 e0 e1 e2 r0 r1 r2 q0 q1 q2; obtain ⟨d0, d1, d2, e0, e1, e2, r0, r1, r2, q0, q1, q2⟩ := HB.out _ hk) | (refine (HNE.out _).mono ?_; intro e w1 h; obtain ⟨he1, hc1⟩ := h; subst he1; have HT := hid (HT.out.same hc1); replace hk := hk.trans hc1 sb_; clear hc1; clear d0 d1 d2 e0 e1 e2 r0 r1 r2 q0 q1 q2; obtain ⟨d0, d1, d2, e0, e1, e2, r0, r1, r2, q0, q1, q2⟩ := HB.out _ hk)) | (go_at_call 80; first | (refine (two_setFint HT.out HWD.out).mono ?_; intro e w1 h; obtain ⟨he1, h⟩ := h; subst he1; have HT := hid h; clear h; replace hk := HT.out.chg; clear d0 d1 d2 e0 e1 e2 r0 r1 r2 q0 q1 q2; obtain ⟨d0, d1, d2, e0, e1, e2, r0, r1, r2, q0, q1, q2⟩ := HB.out _ hk) | (refine (two_setFint' HT.out HWE.out).mono ?_; intro e w1 h; obtain ⟨he1, h⟩ := h; subst he1; have HT := hid h; clear h; replace hk := HT.out.chg; clear d0 d1 d2 e0 e1 e2 r0 r1 r2 q0 q1 q2; obtain ⟨d0, d1, d2, e0, e1, e2, r0, r1, r2, q0, q1, q2⟩ := HB.out _ hk)) | (go_at_call 81; refine (HL.out _ _ _ _ HT.out).mono ?_; intro e w1 h; obtain ⟨he1, h⟩ := h; subst he1; have HT := hid h; clear h; replace hk := HT.out.chg; clear d0 d1 d2 e0 e1 e2 r0 r1 r2 q0 q1 q2; obtain ⟨d0, d1, d2, e0, e1, e2, r0, r1, r2, q0, q1, q2⟩ := HB.out _ hk) | (go_at_call 82; refine (HA.out _ _ _ _ HT.out).mono ?_; intro e w1 h; obtain ⟨he1, h⟩ := h; subst he1; have HT := hid h; clear h; replace hk := HT.out.chg; clear d0 d1 d2 e0 e1 e2 r0 r1 r2 q0 q1 q2; obtain ⟨d0, d1, d2, e0, e1, e2, r0, r1, r2, q0, q1, q2⟩ := HB.out _ hk) | (go_at_call 85; refine (HF.out _ _ _ _ _ HT.out).mono ?_; intro e w1 h; obtain ⟨na, nb, nc, nv, he1, hc1, hp⟩ := h.op; subst he1; replace hk := hc1; clear h hc1; clear d0 d1 d2 e0 e1 e2 r0 r1 r2 q0 q1 q2; obtain ⟨d0, d1, d2, e0, e1, e2, r0, r1, r2, q0, q1, q2⟩ := HB.out _ hk; have HP := hid hp; clear hp))
 refine leaves_cons (f := 79) (args := #[.pointer (some ⟨q, 0, none⟩)]) (by simp) (by simp [go_sem]) ?_
 refine (putBint_d _ .returning _).mono ?_
 rintro e u' w'' ⟨rfl, rfl, rfl⟩
 refine leaves_cons (f := 79) (args := #[.pointer (some ⟨p, 0, none⟩)]) (by simp [settle]) (by simp [go_sem]) ?_
 refine (putBint_d _ .returning _).mono ?_
 rintro e u' w'' ⟨rfl, rfl, rfl⟩
 exact ⟨.tuple #[.agg #[.bool na, .int .i8 nb, .int .u64 nc], nv], dec_result rfl _ _ (w.heap.size + 1 + 1) _ _ _ _ 54 rfl rfl (store3 (HBX.out _ hk) _ _ _), HP.out.move (chg3 (HC0.out.trans hk sb_) (by omega) _ _ _)⟩
set_option maxHeartbeats 4000000 in
theorem addBint_lt_dgt (dn en : Bool) (dc ec ds es m : Nat) (hdc : digs dc ≤ 19) (hec : digs ec ≤ 19) (hwd : Wd (dc : Int)) (hwe : Wd (ec : Int)) (hds : ds ≤ 19) (hes : es ≤ 19) (hm : m ≤ 19) (w : World) (he : EnvD w) (hlt : ds < es) (X : Nat) (hX : dc * 10 ^ (es - ds) = X) (hs : (dn == en) = false) (hg : X < ec) (C : Nat) (hC : ec - X = C) :
  Calls Tryz.prog 68 #[.agg #[.bool dn, .int .i8 ds, .int .u64 (dc : Int)], .agg #[.bool en, .int .i8 es, .int .u64 (ec : Int)], .int .i64 m] w (PDecN w en (from19 (10 ^ 19) 2 C es m)) := by
 have HWD := hid hwd
 have HWE := hid hwe
 clear hwd hwe
 have c1 : ¬ (es : Int) < (ds : Int) := by omega
 have c2 : (ds : Int) < (es : Int) := by omega
 have hw : IntKind.i64.wrap ((es : Int) - (ds : Int)) = ((es - ds : Nat) : Int) := by rw [show (es : Int) - (ds : Int) = ((es - ds : Nat) : Int) by omega]; exact IntWalk.i64_in _ (by omega)
 have HL := hid (fun w0 w2 p q (h : Two w0 w2 p q (dc : Int) (ec : Int)) => two_lsh (k := es - ds) h (Nat.le_trans hdc (by omega)) (by omega))
 rw [hX] at HL
 have hXd : digs X ≤ 38 := by rw [← hX]; exact Nat.le_trans (digs_mul hdc) (by omega)
 have hCd : digs C ≤ 39 := digs_add hXd (Nat.le_trans hec (by omega) : digs ec ≤ 38) (by omega)
 have hcc : (if X < ec then ec - X else X - ec) = C := by rw [if_pos hg]; exact hC
 have HSB := hid (fun w0 w2 p q (h : Two w0 w2 p q (X : Int) (ec : Int)) => two_subAbs h (Nat.le_trans hXd (by omega)) (Nat.le_trans hec (by omega)) hcc)
 have hcm : cmpI (ec : Int) (X : Int) = 1 := by unfold cmpI; rw [if_neg (by omega), if_pos (by omega)]
 obtain ⟨kk, hkk⟩ : ∃ kk : Int, kk = 1 := ⟨_, rfl⟩
 rw [← hkk] at hcm
 have hkp : (0 : Int) < kk := by omega
 have HCM := hid (fun w0 w2 p q (h : Two w0 w2 p q (X : Int) (ec : Int)) => two_cmp h hcm)
 clear hcc hcm hg
 clear hkk
 have HF := hid (fun w0 w2 p q y (h : Two w0 w2 p q (C : Int) y) => two_nfb (s := es) en h (Nat.le_trans hCd (by omega)) (by omega) hm)
 generalize from19 (10 ^ 19) 2 C es m = o at *
 clear hX hXd
 clear hC hCd hdc hec
 have HSD := hid (fun w => Scale_any dn (dc : Int) ds hds w)
 have HSE := hid (fun w => Scale_any en (ec : Int) es hes w)
 have HND := hid (fun w => IsNeg_any dn (dc : Int) ds w)
 have HNE := hid (fun w => IsNeg_any en (ec : Int) es w)
 have HBS := hid (Bx.start w dn ds (dc : Int) en es (ec : Int))
 have HB := hid (fun w1 (h : Chg (fun _ => False) (((w.alloc (.cells #[.bool dn, .int .i8 ds, .int .u64 (dc : Int)] 54)).alloc (.cells #[.bool en, .int .i8 es, .int .u64 (ec : Int)] 54)).alloc (.cells #[.bool false, .int .i8 0, .int .u64 0] 54)) w1) => (HBS.out.kept h).facts)
 have HBX := hid (fun w1 (h : Chg (fun _ => False) (((w.alloc (.cells #[.bool dn, .int .i8 ds, .int .u64 (dc : Int)] 54)).alloc (.cells #[.bool en, .int .i8 es, .int .u64 (ec : Int)] 54)).alloc (.cells #[.bool false, .int .i8 0, .int .u64 0] 54)) w1) => (HBS.out.kept h).h2)
 have HC0 := hid (start3 w (.cells #[.bool dn, .int .i8 ds, .int .u64 (dc : Int)] 54) (.cells #[.bool en, .int .i8 es, .int .u64 (ec : Int)] 54) (.cells #[.bool false, .int .i8 0, .int .u64 0] 54))
 have HE0 := hid (he.kept HC0.out)
 have hk := Chg.refl (fun _ => False) (((w.alloc (.cells #[.bool dn, .int .i8 ds, .int .u64 (dc : Int)] 54)).alloc (.cells #[.bool en, .int .i8 es, .int .u64 (ec : Int)] 54)).alloc (.cells #[.bool false, .int .i8 0, .int .u64 0] 54))
 obtain ⟨d0, d1, d2, e0, e1, e2, r0, r1, r2, q0, q1, q2⟩ := HB.out _ hk
 generalize es - ds = j at *
 clear he HBS
 go_enter_defers Tryz.func68, Tryz.ntmps68
 go_wp2_with (first | (go_at_call 78; refine (getBint_any _).mono ?_; intro e w1 h; obtain ⟨q, he1, hi2, hs2, hc2⟩ := h; subst he1; have HT := hid (Two.start HIP.out hsp hcp hi2 hs2 hc2 HE0.out); replace hk := hk.trans hc2 sb_; clear hi2 hs2 hc2; clear d0 d1 d2 e0 e1 e2 r0 r1 r2 q0 q1 q2; obtain ⟨d0, d1, d2, e0, e1, e2, r0, r1, r2, q0, q1, q2⟩ := HB.out _ hk) | (go_at_call 78; refine (getBint_any _).mono ?_; intro e w1 h; obtain ⟨p, he1, hip, hsp, hcp⟩ := h; subst he1; have HIP := hid hip; clear hip; replace hk := hk.trans hcp sb_; clear d0 d1 d2 e0 e1 e2 r0 r1 r2 q0 q1 q2; obtain ⟨d0, d1, d2, e0, e1, e2, r0, r1, r2, q0, q1, q2⟩ := HB.out _ hk) | (go_at_call 48; first | (refine (HSD.out _).mono ?_; intro e w1 h; obtain ⟨he1, hc1⟩ := h; subst he1; have HT := hid (HT.out.same hc1); replace hk := hk.trans hc1 sb_; clear hc1; clear d0 d1 d2 e0 e1 e2 r0 r1 r2 q0 q1 q2; obtain ⟨d0, d1, d2, e0, e1, e2, r0, r1, r2, q0, q1, q2⟩ := HB.out _ hk) | (refine (HSE.out _).mono ?_; intro e w1 h; obtain ⟨he1, hc1⟩ := h; subst he1; have HT := hid (HT.out.same hc1); replace hk := hk.trans hc1 sb_; clear hc1; clear d0 d1 d2 e0 e1 e2 r0 r1 r2 q0 q1 q2; obtain ⟨d0, d1, d2, e0, e1, e2, r0, r1, r2, q0, q1, q2⟩ := HB.out _ hk)) | (go_at_call 46; first | (refine (HND.out _).mono ?_; intro e w1 h; obtain ⟨he1, hc1⟩ := h; subst he1; have HT := hid (HT.out.same hc1); replace hk := hk.trans hc1 sb_; clear hc1; clear d0 d1 d2 e0 e1 e2 r0 r1 r2 q0 q1 q2; obtain ⟨d0, d1, d2, e0, e1, e2, r0, r1, r2, q0, q1, q2⟩ := HB.out _ hk) | (refine (HNE.out _).mono ?_; intro e w1 h; obtain ⟨he1, hc1⟩ := h; subst he1; have HT := hid (HT.out.same hc1); replace hk := hk.trans hc1 sb_; clear hc1; clear d0 d1 d2 e0 e1 e2 r0 r1 r2 q0 q1 q2; obtain ⟨d0, d1, d2, e0, e1, e2, r0, r1, r2, q0, q1, q2⟩ := HB.out _ hk)) | (go_at_call 80; first | (refine (two_setFint HT.out HWD.out).mono ?_; intro e w1 h; obtain ⟨he1, h⟩ := h; subst he1; have HT := hid h; clear h; replace hk := HT.out.chg; clear d0 d1 d2 e0 e1 e2 r0 r1 r2 q0 q1 q2; obtain ⟨d0, d1, d2, e0, e1, e2, r0, r1, r2, q0, q1, q2⟩ := HB.out _ hk) | (refine (two_setFint' HT.out HWE.out).mono ?_; intro e w1 h; obtain ⟨he1, h⟩ := h; subst he1; have HT := hid h; clear h; replace hk := HT.out.chg; clear d0 d1 d2 e0 e1 e2 r0 r1 r2 q0 q1 q2; obtain ⟨d0, d1, d2, e0, e1, e2, r0, r1, r2, q0, q1, q2⟩ := HB.out _ hk)) | (go_at_call 81; refine (HL.out _ _ _ _ HT.out).mono ?_; intro e w1 h; obtain ⟨he1, h⟩ := h; subst he1; have HT := hid h; clear h; replace hk := HT.out.chg; clear d0 d1 d2 e0 e1 e2 r0 r1 r2 q0 q1 q2; obtain ⟨d0, d1, d2, e0, e1, e2, r0, r1, r2, q0, q1, q2⟩ := HB.out _ hk) | (go_at_call 83; refine (HCM.out _ _ _ _ HT.out).mono ?_; intro e w1 h; obtain ⟨he1, h⟩ := h; subst he1; have HT := hid h; clear h; replace hk := HT.out.chg; clear d0 d1 d2 e0 e1 e2 r0 r1 r2 q0 q1 q2; obtain ⟨d0, d1, d2, e0, e1, e2, r0, r1, r2, q0, q1, q2⟩ := HB.out _ hk) | (go_at_call 84; refine (HSB.out _ _ _ _ HT.out).mono ?_; intro e w1 h; obtain ⟨he1, h⟩ := h; subst he1; have HT := hid h; clear h; replace hk := HT.out.chg; clear d0 d1 d2 e0 e1 e2 r0 r1 r2 q0 q1 q2; obtain ⟨d0, d1, d2, e0, e1, e2, r0, r1, r2, q0, q1, q2⟩ := HB.out _ hk) | (go_at_call 85; refine (HF.out _ _ _ _ _ HT.out).mono ?_; intro e w1 h; obtain ⟨na, nb, nc, nv, he1, hc1, hp⟩ := h.op; subst he1; replace hk := hc1; clear h hc1; clear d0 d1 d2 e0 e1 e2 r0 r1 r2 q0 q1 q2; obtain ⟨d0, d1, d2, e0, e1, e2, r0, r1, r2, q0, q1, q2⟩ := HB.out _ hk; have HP := hid hp; clear hp))
 refine leaves_cons (f := 79) (args := #[.pointer (some ⟨q, 0, none⟩)]) (by simp) (by simp [go_sem]) ?_
 refine (putBint_d _ .returning _).mono ?_
 rintro e u' w'' ⟨rfl, rfl, rfl⟩
 refine leaves_cons (f := 79) (args := #[.pointer (some ⟨p, 0, none⟩)]) (by simp [settle]) (by simp [go_sem]) ?_
 refine (putBint_d _ .returning _).mono ?_
 rintro e u' w'' ⟨rfl, rfl, rfl⟩
 exact ⟨.tuple #[.agg #[.bool na, .int .i8 nb, .int .u64 nc], nv], dec_result rfl _ _ (w.heap.size + 1 + 1) _ _ _ _ 54 rfl rfl (store3 (HBX.out _ hk) _ _ _), HP.out.move (chg3 (HC0.out.trans hk sb_) (by omega) _ _ _)⟩
set_option maxHeartbeats 4000000 in
theorem addBint_lt_dle (dn en : Bool) (dc ec ds es m : Nat) (hdc : digs dc ≤ 19) (hec : digs ec ≤ 19) (hwd : Wd (dc : Int)) (hwe : Wd (ec : Int)) (hds : ds ≤ 19) (hes : es ≤ 19) (hm : m ≤ 19) (w : World) (he : EnvD w) (hlt : ds < es) (X : Nat) (hX : dc * 10 ^ (es - ds) = X) (hs : (dn == en) = false) (hg : ¬ X < ec) (C : Nat) (hC : X - ec = C) :
  Calls Tryz.prog 68 #[.agg #[.bool dn, .int .i8 ds, .int .u64 (dc : Int)], .agg #[.bool en, .int .i8 es, .int .u64 (ec : Int)], .int .i64 m] w (PDecN w dn (from19 (10 ^ 19) 2 C es m)) := by
 have HWD := hid hwd
 have HWE := hid hwe
 clear hwd hwe
 have c1 : ¬ (es : Int) < (ds : Int) := by omega
 have c2 : (ds : Int) < (es : Int) := by omega
 have hw : IntKind.i64.wrap ((es : Int) - (ds : Int)) = ((es - ds : Nat) : Int) := by rw [show (es : Int) - (ds : Int) = ((es - ds : Nat) : Int) by omega]; exact IntWalk.i64_in _ (by omega)
 have HL := hid (fun w0 w2 p q (h : Two w0 w2 p q (dc : Int) (ec : Int)) => two_lsh (k := es - ds) h (Nat.le_trans hdc (by omega)) (by omega))
 rw [hX] at HL
 have hXd : digs X ≤ 38 := by rw [← hX]; exact Nat.le_trans (digs_mul hdc) (by omega)
 have hCd : digs C ≤ 39 := digs_add hXd (Nat.le_trans hec (by omega) : digs ec ≤ 38) (by omega)
 have hcc : (if X < ec then ec - X else X - ec) = C := by rw [if_neg hg]; exact hC
 have HSB := hid (fun w0 w2 p q (h : Two w0 w2 p q (X : Int) (ec : Int)) => two_subAbs h (Nat.le_trans hXd (by omega)) (Nat.le_trans hec (by omega)) hcc)
 obtain ⟨kk, hcm⟩ : ∃ kk : Int, cmpI (ec : Int) (X : Int) = kk := ⟨_, rfl⟩
 have hkp : ¬ (0 : Int) < kk := by rw [← hcm]; unfold cmpI; split <;> (try split) <;> omega
 have HCM := hid (fun w0 w2 p q (h : Two w0 w2 p q (X : Int) (ec : Int)) => two_cmp h hcm)
 clear hcc hcm hg
 have HF := hid (fun w0 w2 p q y (h : Two w0 w2 p q (C : Int) y) => two_nfb (s := es) dn h (Nat.le_trans hCd (by omega)) (by omega) hm)
 generalize from19 (10 ^ 19) 2 C es m = o at *
 clear hX hXd
 clear hC hCd hdc hec
 have HSD := hid (fun w => Scale_any dn (dc : Int) ds hds w)
 have HSE := hid (fun w => Scale_any en (ec : Int) es hes w)
 have HND := hid (fun w => IsNeg_any dn (dc : Int) ds w)
 have HNE := hid (fun w => IsNeg_any en (ec : Int) es w)
 have HBS := hid (Bx.start w dn ds (dc : Int) en es (ec : Int))
 have HB := hid (fun w1 (h : Chg (fun _ => False) (((w.alloc (.cells #[.bool dn, .int .i8 ds, .int .u64 (dc : Int)] 54)).alloc (.cells #[.bool en, .int .i8 es, .int .u64 (ec : Int)] 54)).alloc (.cells #[.bool false, .int .i8 0, .int .u64 0] 54)) w1) => (HBS.out.kept h).facts)
 have HBX := hid (fun w1 (h : Chg (fun _ => False) (((w.alloc (.cells #[.bool dn, .int .i8 ds, .int .u64 (dc : Int)] 54)).alloc (.cells #[.bool en, .int .i8 es, .int .u64 (ec : Int)] 54)).alloc (.cells #[.bool false, .int .i8 0, .int .u64 0] 54)) w1) => (HBS.out.kept h).h2)
 have HC0 := hid (start3 w (.cells #[.bool dn, .int .i8 ds, .int .u64 (dc : Int)] 54) (.cells #[.bool en, .int .i8 es, .int .u64 (ec : Int)] 54) (.cells #[.bool false, .int .i8 0, .int .u64 0] 54))
 have HE0 := hid (he.kept HC0.out)
 have hk := Chg.refl (fun _ => False) (((w.alloc (.cells #[.bool dn, .int .i8 ds, .int .u64 (dc : Int)] 54)).alloc (.cells #[.bool en, .int .i8 es, .int .u64 (ec : Int)] 54)).alloc (.cells #[.bool false, .int .i8 0, .int .u64 0] 54))
 obtain ⟨d0, d1, d2, e0, e1, e2, r0, r1, r2, q0, q1, q2⟩ := HB.out _ hk
 generalize es - ds = j at *
 clear he HBS
 go_enter_defers Tryz.func68, Tryz.ntmps68
 go_wp2_with (first | (go_at_call 78; refine (getBint_any _).mono ?_; intro e w1 h; obtain ⟨q, he1, hi2, hs2, hc2⟩ := h; subst he1; have HT := hid (Two.start HIP.out hsp hcp hi2 hs2 hc2 HE0.out); replace hk := hk.trans hc2 sb_; clear hi2 hs2 hc2; clear d0 d1 d2 e0 e1 e2 r0 r1 r2 q0 q1 q2; obtain ⟨d0, d1, d2, e0, e1, e2, r0, r1, r2, q0, q1, q2⟩ := HB.out _ hk) | (go_at_call 78; refine (getBint_any _).mono ?_; intro e w1 h; obtain ⟨p, he1, hip, hsp, hcp⟩ := h; subst he1; have HIP := hid hip; clear hip; replace hk := hk.trans hcp sb_; clear d0 d1 d2 e0 e1 e2 r0 r1 r2 q0 q1 q2; obtain ⟨d0, d1, d2, e0, e1, e2, r0, r1, r2, q0, q1, q2⟩ := HB.out _ hk) | (go_at_call 48; first | (refine (HSD.out _).mono ?_; intro e w1 h; obtain ⟨he1, hc1⟩ := h; subst he1; have HT := hid (HT.out.same hc1); replace hk := hk.trans hc1 sb_; clear hc1; clear d0 d1 d2 e0 e1 e2 r0 r1 r2 q0 q1 q2; obtain ⟨d0, d1, d2, e0, e1, e2, r0, r1, r2, q0, q1, q2⟩ := HB.out _ hk) | (refine (HSE.out _).mono ?_; intro e w1 h; obtain ⟨he1, hc1⟩ := h; subst he1; have HT := hid (HT.out.same hc1); replace hk := hk.trans hc1 sb_; clear hc1; clear d0 d1 d2 e0 e1 e2 r0 r1 r2 q0 q1 q2; obtain ⟨d0, d1, d2, e0, e1, e2, r0, r1, r2, q0, q1, q2⟩ := HB.out _ hk)) | (go_at_call 46; first | (refine (HND.out _).mono ?_; intro e w1 h; obtain ⟨he1, hc1⟩ := h; subst he1; have HT := hid (HT.out.same hc1); replace hk := hk.trans hc1 sb_; clear hc1; clear d0 d1 d2 e0 e1 e2 r0 r1 r2 q0 q1 q2; obtain ⟨d0, d1, d2, e0, e1, e2, r0, r1, r2, q0, q1, q2⟩ := HB.out _ hk) | (refine (HNE.out _).mono ?_; intro e w1 h; obtain ⟨he1, hc1⟩ := h; subst he1; have HT := hid (HT.out.same hc1); replace hk := hk.trans hc1 sb_; clear hc1; clear d0 d1 d2 e0 e1 e2 r0 r1 r2 q0 q1 q2; obtain ⟨d0, d1, d2, e0, e1, e2, r0, r1, r2, q0, q1, q2⟩ := HB.out _ hk)) | (go_at_call 80; first | (refine (two_setFint HT.out HWD.out).mono ?_; intro e w1 h; obtain ⟨he1, h⟩ := h; subst he1; have HT := hid h; clear h; replace hk := HT.out.chg; clear d0 d1 d2 e0 e1 e2 r0 r1 r2 q0 q1 q2; obtain ⟨d0, d1, d2, e0, e1, e2, r0, r1, r2, q0, q1, q2⟩ := HB.out _ hk) | (refine (two_setFint' HT.out HWE.out).mono ?_; intro e w1 h; obtain ⟨he1, h⟩ := h; subst he1; have HT := hid h; clear h; replace hk := HT.out.chg; clear d0 d1 d2 e0 e1 e2 r0 r1 r2 q0 q1 q2; obtain ⟨d0, d1, d2, e0, e1, e2, r0, r1, r2, q0, q1, q2⟩ := HB.out _ hk)) | (go_at_call 81; refine (HL.out _ _ _ _ HT.out).mono ?_; intro e w1 h; obtain ⟨he1, h⟩ := h; subst he1; have HT := hid h; clear h; replace hk := HT.out.chg; clear d0 d1 d2 e0 e1 e2 r0 r1 r2 q0 q1 q2; obtain ⟨d0, d1, d2, e0, e1, e2, r0, r1, r2, q0, q1, q2⟩ := HB.out _ hk) | (go_at_call 83; refine (HCM.out _ _ _ _ HT.out).mono ?_; intro e w1 h; obtain ⟨he1, h⟩ := h; subst he1; have HT := hid h; clear h; replace hk := HT.out.chg; clear d0 d1 d2 e0 e1 e2 r0 r1 r2 q0 q1 q2; obtain ⟨d0, d1, d2, e0, e1, e2, r0, r1, r2, q0, q1, q2⟩ := HB.out _ hk) | (go_at_call 84; refine (HSB.out _ _ _ _ HT.out).mono ?_; intro e w1 h; obtain ⟨he1, h⟩ := h; subst he1; have HT := hid h; clear h; replace hk := HT.out.chg; clear d0 d1 d2 e0 e1 e2 r0 r1 r2 q0 q1 q2; obtain ⟨d0, d1, d2, e0, e1, e2, r0, r1, r2, q0, q1, q2⟩ := HB.out _ hk) | (go_at_call 85; refine (HF.out _ _ _ _ _ HT.out).mono ?_; intro e w1 h; obtain ⟨na, nb, nc, nv, he1, hc1, hp⟩ := h.op; subst he1; replace hk := hc1; clear h hc1; clear d0 d1 d2 e0 e1 e2 r0 r1 r2 q0 q1 q2; obtain ⟨d0, d1, d2, e0, e1, e2, r0, r1, r2, q0, q1, q2⟩ := HB.out _ hk; have HP := hid hp; clear hp))
 refine leaves_cons (f := 79) (args := #[.pointer (some ⟨q, 0, none⟩)]) (by simp) (by simp [go_sem]) ?_
 refine (putBint_d _ .returning _).mono ?_
 rintro e u' w'' ⟨rfl, rfl, rfl⟩
 refine leaves_cons (f := 79) (args := #[.pointer (some ⟨p, 0, none⟩)]) (by simp [settle]) (by simp [go_sem]) ?_
 refine (putBint_d _ .returning _).mono ?_
 rintro e u' w'' ⟨rfl, rfl, rfl⟩
 exact ⟨.tuple #[.agg #[.bool na, .int .i8 nb, .int .u64 nc], nv], dec_result rfl _ _ (w.heap.size + 1 + 1) _ _ _ _ 54 rfl rfl (store3 (HBX.out _ hk) _ _ _), HP.out.move (chg3 (HC0.out.trans hk sb_) (by omega) _ _ _)⟩
set_option maxHeartbeats 4000000 in
theorem addBint_eq_same (dn en : Bool) (dc ec ds es m : Nat) (hdc : digs dc ≤ 19) (hec : digs ec ≤ 19) (hwd : Wd (dc : Int)) (hwe : Wd (ec : Int)) (hds : ds ≤ 19) (hes : es ≤ 19) (hm : m ≤ 19) (w : World) (he : EnvD w) (hlt : es = ds) (hs : (dn == en) = true) (C : Nat) (hC : dc + ec = C) :
  Calls Tryz.prog 68 #[.agg #[.bool dn, .int .i8 ds, .int .u64 (dc : Int)], .agg #[.bool en, .int .i8 es, .int .u64 (ec : Int)], .int .i64 m] w (PDecN w dn (from19 (10 ^ 19) 2 C ds m)) := by
 have HWD := hid hwd
 have HWE := hid hwe
 clear hwd hwe
 subst hlt
 have c1 : ¬ (es : Int) < (es : Int) := by omega
 have hCd : digs C ≤ 39 := digs_add (Nat.le_trans hdc (by omega) : digs dc ≤ 38) (Nat.le_trans hec (by omega) : digs ec ≤ 38) (by omega)
 have HA := hid (fun w0 w2 p q (h : Two w0 w2 p q (dc : Int) (ec : Int)) => two_add h (Nat.le_trans hdc (by omega)) (Nat.le_trans hec (by omega)))
 rw [hC] at HA
 have HF := hid (fun w0 w2 p q y (h : Two w0 w2 p q (C : Int) y) => two_nfb (s := es) dn h (Nat.le_trans hCd (by omega)) (by omega) hm)
 generalize from19 (10 ^ 19) 2 C es m = o at *
 clear hC hCd hdc hec
 have HSD := hid (fun w => Scale_any dn (dc : Int) es hes w)
 have HSE := hid (fun w => Scale_any en (ec : Int) es hes w)
 have HND := hid (fun w => IsNeg_any dn (dc : Int) es w)
 have HNE := hid (fun w => IsNeg_any en (ec : Int) es w)
 have HBS := hid (Bx.start w dn es (dc : Int) en es (ec : Int))
 have HB := hid (fun w1 (h : Chg (fun _ => False) (((w.alloc (.cells #[.bool dn, .int .i8 es, .int .u64 (dc : Int)] 54)).alloc (.cells #[.bool en, .int .i8 es, .int .u64 (ec : Int)] 54)).alloc (.cells #[.bool false, .int .i8 0, .int .u64 0] 54)) w1) => (HBS.out.kept h).facts)
 have HBX := hid (fun w1 (h : Chg (fun _ => False) (((w.alloc (.cells #[.bool dn, .int .i8 es, .int .u64 (dc : Int)] 54)).alloc (.cells #[.bool en, .int .i8 es, .int .u64 (ec : Int)] 54)).alloc (.cells #[.bool false, .int .i8 0, .int .u64 0] 54)) w1) => (HBS.out.kept h).h2)
 have HC0 := hid (start3 w (.cells #[.bool dn, .int .i8 es, .int .u64 (dc : Int)] 54) (.cells #[.bool en, .int .i8 es, .int .u64 (ec : Int)] 54) (.cells #[.bool false, .int .i8 0, .int .u64 0] 54))
 have HE0 := hid (he.kept HC0.out)
 have hk := Chg.refl (fun _ => False) (((w.alloc (.cells #[.bool dn, .int .i8 es, .int .u64 (dc : Int)] 54)).alloc (.cells #[.bool en, .int .i8 es, .int .u64 (ec : Int)] 54)).alloc (.cells #[.bool false, .int .i8 0, .int .u64 0] 54))
 obtain ⟨d0, d1, d2, e0, e1, e2, r0, r1, r2, q0, q1, q2⟩ := HB.out _ hk
 clear he HBS
 go_enter_defers Tryz.func68, Tryz.ntmps68
 go_wp2_with (first | (go_at_call 78; refine (getBint_any _).mono ?_; intro e w1 h; obtain ⟨q, he1, hi2, hs2, hc2⟩ := h; subst he1; have HT := hid (Two.start HIP.out hsp hcp hi2 hs2 hc2 HE0.out); replace hk := hk.trans hc2 sb_; clear hi2 hs2 hc2; clear d0 d1 d2 e0 e1 e2 r0 r1 r2 q0 q1 q2; obtain ⟨d0, d1, d2, e0, e1, e2, r0, r1, r2, q0, q1, q2⟩ := HB.out _ hk) | (go_at_call 78; refine (getBint_any _).mono ?_; intro e w1 h; obtain ⟨p, he1, hip, hsp, hcp⟩ := h; subst he1; have HIP := hid hip; clear hip; replace hk := hk.trans hcp sb_; clear d0 d1 d2 e0 e1 e2 r0 r1 r2 q0 q1 q2; obtain ⟨d0, d1, d2, e0, e1, e2, r0, r1, r2, q0, q1, q2⟩ := HB.out _ hk) | (go_at_call 48; first | (refine (HSD.out _).mono ?_; intro e w1 h; obtain ⟨he1, hc1⟩ := h; subst he1; have HT := hid (HT.out.same hc1); replace hk := hk.trans hc1 sb_; clear hc1; clear d0 d1 d2 e0 e1 e2 r0 r1 r2 q0 q1 q2; obtain ⟨d0, d1, d2, e0, e1, e2, r0, r1, r2, q0, q1, q2⟩ := HB.out _ hk) | (refine (HSE.out _).mono ?_; intro e w1 h; obtain ⟨he1, hc1⟩ := h; subst he1; have HT := hid (HT.out.same hc1); replace hk := hk.trans hc1 sb_; clear hc1; clear d0 d1 d2 e0 e1 e2 r0 r1 r2 q0 q1 q2; obtain ⟨d0, d1, d2, e0, e1, e2, r0, r1, r2, q0, q1, q2⟩ := HB.out _ hk)) | (go_at_call 46; first | (refine (HND.out _).mono ?_; intro e w1 h; obtain ⟨he1, hc1⟩ := h; subst he1; have HT := hid (HT.out.same hc1); replace hk := hk.trans hc1 sb_; clear hc1; clear d0 d1 d2 e0 e1 e2 r0 r1 r2 q0 q1 q2; obtain ⟨d0, d1, d2, e0, e1, e2, r0, r1, r2, q0, q1, q2⟩ := HB.out _ hk) | (refine (HNE.out _).mono ?_; intro e w1 h; obtain ⟨he1, hc1⟩ := h; subst he1; have HT := hid (HT.out.same hc1); replace hk := hk.trans hc1 sb_; clear hc1; clear d0 d1 d2 e0 e1 e2 r0 r1 r2 q0 q1 q2; obtain ⟨d0, d1, d2, e0, e1, e2, r0, r1, r2, q0, q1, q2⟩ := HB.out _ hk)) | (go_at_call 80; first | (refine (two_setFint HT.out HWD.out).mono ?_; intro e w1 h; obtain ⟨he1, h⟩ := h; subst he1; have HT := hid h; clear h; replace hk := HT.out.chg; clear d0 d1 d2 e0 e1 e2 r0 r1 r2 q0 q1 q2; obtain ⟨d0, d1, d2, e0, e1, e2, r0, r1, r2, q0, q1, q2⟩ := HB.out _ hk) | (refine (two_setFint' HT.out HWE.out).mono ?_; intro e w1 h; obtain ⟨he1, h⟩ := h; subst he1; have HT := hid h; clear h; replace hk := HT.out.chg; clear d0 d1 d2 e0 e1 e2 r0 r1 r2 q0 q1 q2; obtain ⟨d0, d1, d2, e0, e1, e2, r0, r1, r2, q0, q1, q2⟩ := HB.out _ hk)) | (go_at_call 82; refine (HA.out _ _ _ _ HT.out).mono ?_; intro e w1 h; obtain ⟨he1, h⟩ := h; subst he1; have HT := hid h; clear h; replace hk := HT.out.chg; clear d0 d1 d2 e0 e1 e2 r0 r1 r2 q0 q1 q2; obtain ⟨d0, d1, d2, e0, e1, e2, r0, r1, r2, q0, q1, q2⟩ := HB.out _ hk) | (go_at_call 85; refine (HF.out _ _ _ _ _ HT.out).mono ?_; intro e w1 h; obtain ⟨na, nb, nc, nv, he1, hc1, hp⟩ := h.op; subst he1; replace hk := hc1; clear h hc1; clear d0 d1 d2 e0 e1 e2 r0 r1 r2 q0 q1 q2; obtain ⟨d0, d1, d2, e0, e1, e2, r0, r1, r2, q0, q1, q2⟩ := HB.out _ hk; have HP := hid hp; clear hp))
 refine leaves_cons (f := 79) (args := #[.pointer (some ⟨q, 0, none⟩)]) (by simp) (by simp [go_sem]) ?_
 refine (putBint_d _ .returning _).mono ?_
 rintro e u' w'' ⟨rfl, rfl, rfl⟩
 refine leaves_cons (f := 79) (args := #[.pointer (some ⟨p, 0, none⟩)]) (by simp [settle]) (by simp [go_sem]) ?_
 refine (putBint_d _ .returning _).mono ?_
 rintro e u' w'' ⟨rfl, rfl, rfl⟩
 exact ⟨.tuple #[.agg #[.bool na, .int .i8 nb, .int .u64 nc], nv], dec_result rfl _ _ (w.heap.size + 1 + 1) _ _ _ _ 54 rfl rfl (store3 (HBX.out _ hk) _ _ _), HP.out.move (chg3 (HC0.out.trans hk sb_) (by omega) _ _ _)⟩
set_option maxHeartbeats 4000000 in
theorem addBint_eq_dgt (dn en : Bool) (dc ec ds es m : Nat) (hdc : digs dc ≤ 19) (hec : digs ec ≤ 19) (hwd : Wd (dc : Int)) (hwe : Wd (ec : Int)) (hds : ds ≤ 19) (hes : es ≤ 19) (hm : m ≤ 19) (w : World) (he : EnvD w) (hlt : es = ds) (hs : (dn == en) = false) (hg : dc < ec) (C : Nat) (hC : ec - dc = C) :
  Calls Tryz.prog 68 #[.agg #[.bool dn, .int .i8 ds, .int .u64 (dc : Int)], .agg #[.bool en, .int .i8 es, .int .u64 (ec : Int)], .int .i64 m] w (PDecN w en (from19 (10 ^ 19) 2 C ds m)) := by
 have HWD := hid hwd
 have HWE := hid hwe
 clear hwd hwe
 subst hlt
 have c1 : ¬ (es : Int) < (es : Int) := by omega
 have hCd : digs C ≤ 39 := digs_add (Nat.le_trans hdc (by omega) : digs dc ≤ 38) (Nat.le_trans hec (by omega) : digs ec ≤ 38) (by omega)
 have hcc : (if dc < ec then ec - dc else dc - ec) = C := by rw [if_pos hg]; exact hC
 have HSB := hid (fun w0 w2 p q (h : Two w0 w2 p q (dc : Int) (ec : Int)) => two_subAbs h (Nat.le_trans hdc (by omega)) (Nat.le_trans hec (by omega)) hcc)
 have hcm : cmpI (ec : Int) (dc : Int) = 1 := by unfold cmpI; rw [if_neg (by omega), if_pos (by omega)]
 obtain ⟨kk, hkk⟩ : ∃ kk : Int, kk = 1 := ⟨_, rfl⟩
 rw [← hkk] at hcm
 have hkp : (0 : Int) < kk := by omega
 have HCM := hid (fun w0 w2 p q (h : Two w0 w2 p q (dc : Int) (ec : Int)) => two_cmp h hcm)
 clear hcc hcm hg
 clear hkk
 have HF := hid (fun w0 w2 p q y (h : Two w0 w2 p q (C : Int) y) => two_nfb (s := es) en h (Nat.le_trans hCd (by omega)) (by omega) hm)
 generalize from19 (10 ^ 19) 2 C es m = o at *
 clear hC hCd hdc hec
 have HSD := hid (fun w => Scale_any dn (dc : Int) es hes w)
 have HSE := hid (fun w => Scale_any en (ec : Int) es hes w)
 have HND := hid (fun w => IsNeg_any dn (dc : Int) es w)
 have HNE := hid (fun w => IsNeg_any en (ec : Int) es w)
 have HBS := hid (Bx.start w dn es (dc : Int) en es (ec : Int))
 have HB := hid (fun w1 (h : Chg (fun _ => False) (((w.alloc (.cells #[.bool dn, .int .i8 es, .int .u64 (dc : Int)] 54)).alloc (.cells #[.bool en, .int .i8 es, .int .u64 (ec : Int)] 54)).alloc (.cells #[.bool false, .int .i8 0, .int .u64 0] 54)) w1) => (HBS.out.kept h).facts)
 have HBX := hid (fun w1 (h : Chg (fun _ => False) (((w.alloc (.cells #[.bool dn, .int .i8 es, .int .u64 (dc : Int)] 54)).alloc (.cells #[.bool en, .int .i8 es, .int .u64 (ec : Int)] 54)).alloc (.cells #[.bool false, .int .i8 0, .int .u64 0] 54)) w1) => (HBS.out.kept h).h2)
 have HC0 := hid (start3 w (.cells #[.bool dn, .int .i8 es, .int .u64 (dc : Int)] 54) (.cells #[.bool en, .int .i8 es, .int .u64 (ec : Int)] 54) (.cells #[.bool false, .int .i8 0, .int .u64 0] 54))
 have HE0 := hid (he.kept HC0.out)
 have hk := Chg.refl (fun _ => False) (((w.alloc (.cells #[.bool dn, .int .i8 es, .int .u64 (dc : Int)] 54)).alloc (.cells #[.bool en, .int .i8 es, .int .u64 (ec : Int)] 54)).alloc (.cells #[.bool false, .int .i8 0, .int .u64 0] 54))
 obtain ⟨d0, d1, d2, e0, e1, e2, r0, r1, r2, q0, q1, q2⟩ := HB.out _ hk
 clear he HBS
 go_enter_defers Tryz.func68, Tryz.ntmps68
 go_wp2_with (first | (go_at_call 78; refine (getBint_any _).mono ?_; intro e w1 h; obtain ⟨q, he1, hi2, hs2, hc2⟩ := h; subst he1; have HT := hid (Two.start HIP.out hsp hcp hi2 hs2 hc2 HE0.out); replace hk := hk.trans hc2 sb_; clear hi2 hs2 hc2; clear d0 d1 d2 e0 e1 e2 r0 r1 r2 q0 q1 q2; obtain ⟨d0, d1, d2, e0, e1, e2, r0, r1, r2, q0, q1, q2⟩ := HB.out _ hk) | (go_at_call 78; refine (getBint_any _).mono ?_; intro e w1 h; obtain ⟨p, he1, hip, hsp, hcp⟩ := h; subst he1; have HIP := hid hip; clear hip; replace hk := hk.trans hcp sb_; clear d0 d1 d2 e0 e1 e2 r0 r1 r2 q0 q1 q2; obtain ⟨d0, d1, d2, e0, e1, e2, r0, r1, r2, q0, q1, q2⟩ := HB.out _ hk) | (go_at_call 48; first | (refine (HSD.out _).mono ?_; intro e w1 h; obtain ⟨he1, hc1⟩ := h; subst he1; have HT := hid (HT.out.same hc1); replace hk := hk.trans hc1 sb_; clear hc1; clear d0 d1 d2 e0 e1 e2 r0 r1 r2 q0 q1 q2; obtain ⟨d0, d1, d2, e0, e1, e2, r0, r1, r2, q0, q1, q2⟩ := HB.out _ hk) | (refine (HSE.out _).mono ?_; intro e w1 h; obtain ⟨he1, hc1⟩ := h; subst he1; have HT := hid (HT.out.same hc1); replace hk := hk.trans hc1 sb_; clear hc1; clear d0 d1 d2 e0 e1 e2 r0 r1 r2 q0 q1 q2; obtain ⟨d0, d1, d2, e0, e1, e2, r0, r1, r2, q0, q1, q2⟩ := HB.out _ hk)) | (go_at_call 46; first | (refine (HND.out _).mono ?_; intro e w1 h; obtain ⟨he1, hc1⟩ := h; subst he1; have HT := hid (HT.out.same hc1); replace hk := hk.trans hc1 sb_; clear hc1; clear d0 d1 d2 e0 e1 e2 r0 r1 r2 q0 q1 q2; obtain ⟨d0, d1, d2, e0, e1, e2, r0, r1, r2, q0, q1, q2⟩ := HB.out _ hk) | (refine (HNE.out _).mono ?_; intro e w1 h; obtain ⟨he1, hc1⟩ := h; subst he1; have HT := hid (HT.out.same hc1); replace hk := hk.trans hc1 sb_; clear hc1; clear d0 d1 d2 e0 e1 e2 r0 r1 r2 q0 q1 q2; obtain ⟨d0, d1, d2, e0, e1, e2, r0, r1, r2, q0, q1, q2⟩ := HB.out _ hk)) | (go_at_call 80; first | (refine (two_setFint HT.out HWD.out).mono ?_; intro e w1 h; obtain ⟨he1, h⟩ := h; subst he1; have HT := hid h; clear h; replace hk := HT.out.chg; clear d0 d1 d2 e0 e1 e2 r0 r1 r2 q0 q1 q2; obtain ⟨d0, d1, d2, e0, e1, e2, r0, r1, r2, q0, q1, q2⟩ := HB.out _ hk) | (refine (two_setFint' HT.out HWE.out).mono ?_; intro e w1 h; obtain ⟨he1, h⟩ := h; subst he1; have HT := hid h; clear h; replace hk := HT.out.chg; clear d0 d1 d2 e0 e1 e2 r0 r1 r2 q0 q1 q2; obtain ⟨d0, d1, d2, e0, e1, e2, r0, r1, r2, q0, q1, q2⟩ := HB.out _ hk)) | (go_at_call 83; refine (HCM.out _ _ _ _ HT.out).mono ?_; intro e w1 h; obtain ⟨he1, h⟩ := h; subst he1; have HT := hid h; clear h; replace hk := HT.out.chg; clear d0 d1 d2 e0 e1 e2 r0 r1 r2 q0 q1 q2; obtain ⟨d0, d1, d2, e0, e1, e2, r0, r1, r2, q0, q1, q2⟩ := HB.out _ hk) | (go_at_call 84; refine (HSB.out _ _ _ _ HT.out).mono ?_; intro e w1 h; obtain ⟨he1, h⟩ := h; subst he1; have HT := hid h; clear h; replace hk := HT.out.chg; clear d0 d1 d2 e0 e1 e2 r0 r1 r2 q0 q1 q2; obtain ⟨d0, d1, d2, e0, e1, e2, r0, r1, r2, q0, q1, q2⟩ := HB.out _ hk) | (go_at_call 85; refine (HF.out _ _ _ _ _ HT.out).mono ?_; intro e w1 h; obtain ⟨na, nb, nc, nv, he1, hc1, hp⟩ := h.op; subst he1; replace hk := hc1; clear h hc1; clear d0 d1 d2 e0 e1 e2 r0 r1 r2 q0 q1 q2; obtain ⟨d0, d1, d2, e0, e1, e2, r0, r1, r2, q0, q1, q2⟩ := HB.out _ hk; have HP := hid hp; clear hp))
 refine leaves_cons (f := 79) (args := #[.pointer (some ⟨q, 0, none⟩)]) (by simp) (by simp [go_sem]) ?_
 refine (putBint_d _ .returning _).mono ?_
 rintro e u' w'' ⟨rfl, rfl, rfl⟩
 refine leaves_cons (f := 79) (args := #[.pointer (some ⟨p, 0, none⟩)]) (by simp [settle]) (by simp [go_sem]) ?_
 refine (putBint_d _ .returning _).mono ?_
 rintro e u' w'' ⟨rfl, rfl, rfl⟩
 exact ⟨.tuple #[.agg #[.bool na, .int .i8 nb, .int .u64 nc], nv], dec_result rfl _ _ (w.heap.size + 1 + 1) _ _ _ _ 54 rfl rfl (store3 (HBX.out _ hk) _ _ _), HP.out.move (chg3 (HC0.out.trans hk sb_) (by omega) _ _ _)⟩
set_option maxHeartbeats 4000000 in
theorem addBint_eq_dle (dn en : Bool) (dc ec ds es m : Nat) (hdc : digs dc ≤ 19) (hec : digs ec ≤ 19) (hwd : Wd (dc : Int)) (hwe : Wd (ec : Int)) (hds : ds ≤ 19) (hes : es ≤ 19) (hm : m ≤ 19) (w : World) (he : EnvD w) (hlt : es = ds) (hs : (dn == en) = false) (hg : ¬ dc < ec) (C : Nat) (hC : dc - ec = C) :
  Calls Tryz.prog 68 #[.agg #[.bool dn, .int .i8 ds, .int .u64 (dc : Int)], .agg #[.bool en, .int .i8 es, .int .u64 (ec : Int)], .int .i64 m] w (PDecN w dn (from19 (10 ^ 19) 2 C ds m)) := by
 have HWD := hid hwd
 have HWE := hid hwe
 clear hwd hwe
 subst hlt
 have c1 : ¬ (es : Int) < (es : Int) := by omega
 have hCd : digs C ≤ 39 := digs_add (Nat.le_trans hdc (by omega) : digs dc ≤ 38) (Nat.le_trans hec (by omega) : digs ec ≤ 38) (by omega)
 have hcc : (if dc < ec then ec - dc else dc - ec) = C := by rw [if_neg hg]; exact hC
 have HSB := hid (fun w0 w2 p q (h : Two w0 w2 p q (dc : Int) (ec : Int)) => two_subAbs h (Nat.le_trans hdc (by omega)) (Nat.le_trans hec (by omega)) hcc)
 obtain ⟨kk, hcm⟩ : ∃ kk : Int, cmpI (ec : Int) (dc : Int) = kk := ⟨_, rfl⟩
 have hkp : ¬ (0 : Int) < kk := by rw [← hcm]; unfold cmpI; split <;> (try split) <;> omega
 have HCM := hid (fun w0 w2 p q (h : Two w0 w2 p q (dc : Int) (ec : Int)) => two_cmp h hcm)
 clear hcc hcm hg
 have HF := hid (fun w0 w2 p q y (h : Two w0 w2 p q (C : Int) y) => two_nfb (s := es) dn h (Nat.le_trans hCd (by omega)) (by omega) hm)
 generalize from19 (10 ^ 19) 2 C es m = o at *
 clear hC hCd hdc hec
 have HSD := hid (fun w => Scale_any dn (dc : Int) es hes w)
 have HSE := hid (fun w => Scale_any en (ec : Int) es hes w)
 have HND := hid (fun w => IsNeg_any dn (dc : Int) es w)
 have HNE := hid (fun w => IsNeg_any en (ec : Int) es w)
 have HBS := hid (Bx.start w dn es (dc : Int) en es (ec : Int))
 have HB := hid (fun w1 (h : Chg (fun _ => False) (((w.alloc (.cells #[.bool dn, .int .i8 es, .int .u64 (dc : Int)] 54)).alloc (.cells #[.bool en, .int .i8 es, .int .u64 (ec : Int)] 54)).alloc (.cells #[.bool false, .int .i8 0, .int .u64 0] 54)) w1) => (HBS.out.kept h).facts)
 have HBX := hid (fun w1 (h : Chg (fun _ => False) (((w.alloc (.cells #[.bool dn, .int .i8 es, .int .u64 (dc : Int)] 54)).alloc (.cells #[.bool en, .int .i8 es, .int .u64 (ec : Int)] 54)).alloc (.cells #[.bool false, .int .i8 0, .int .u64 0] 54)) w1) => (HBS.out.kept h).h2)
 have HC0 := hid (start3 w (.cells #[.bool dn, .int .i8 es, .int .u64 (dc : Int)] 54) (.cells #[.bool en, .int .i8 es, .int .u64 (ec : Int)] 54) (.cells #[.bool false, .int .i8 0, .int .u64 0] 54))
 have HE0 := hid (he.kept HC0.out)
 have hk := Chg.refl (fun _ => False) (((w.alloc (.cells #[.bool dn, .int .i8 es, .int .u64 (dc : Int)] 54)).alloc (.cells #[.bool en, .int .i8 es, .int .u64 (ec : Int)] 54)).alloc (.cells #[.bool false, .int .i8 0, .int .u64 0] 54))
 obtain ⟨d0, d1, d2, e0, e1, e2, r0, r1, r2, q0, q1, q2⟩ := HB.out _ hk
 clear he HBS
 go_enter_defers Tryz.func68, Tryz.ntmps68
 go_wp2_with (first | (go_at_call 78; refine (getBint_any _).mono ?_; intro e w1 h; obtain ⟨q, he1, hi2, hs2, hc2⟩ := h; subst he1; have HT := hid (Two.start HIP.out hsp hcp hi2 hs2 hc2 HE0.out); replace hk := hk.trans hc2 sb_; clear hi2 hs2 hc2; clear d0 d1 d2 e0 e1 e2 r0 r1 r2 q0 q1 q2; obtain ⟨d0, d1, d2, e0, e1, e2, r0, r1, r2, q0, q1, q2⟩ := HB.out _ hk) | (go_at_call 78; refine (getBint_any _).mono ?_; intro e w1 h; obtain ⟨p, he1, hip, hsp, hcp⟩ := h; subst he1; have HIP := hid hip; clear hip; replace hk := hk.trans hcp sb_; clear d0 d1 d2 e0 e1 e2 r0 r1 r2 q0 q1 q2; obtain ⟨d0, d1, d2, e0, e1, e2, r0, r1, r2, q0, q1, q2⟩ := HB.out _ hk) | (go_at_call 48; first | (refine (HSD.out _).mono ?_; intro e w1 h; obtain ⟨he1, hc1⟩ := h; subst he1; have HT := hid (HT.out.same hc1); replace hk := hk.trans hc1 sb_; clear hc1; clear d0 d1 d2 e0 e1 e2 r0 r1 r2 q0 q1 q2; obtain ⟨d0, d1, d2, e0, e1, e2, r0, r1, r2, q0, q1, q2⟩ := HB.out _ hk) | (refine (HSE.out _).mono ?_; intro e w1 h; obtain ⟨he1, hc1⟩ := h; subst he1; have HT := hid (HT.out.same hc1); replace hk := hk.trans hc1 sb_; clear hc1; clear d0 d1 d2 e0 e1 e2 r0 r1 r2 q0 q1 q2; obtain ⟨d0, d1, d2, e0, e1, e2, r0, r1, r2, q0, q1, q2⟩ := HB.out _ hk)) | (go_at_call 46; first | (refine (HND.out _).mono ?_; intro e w1 h; obtain ⟨he1, hc1⟩ := h; subst he1; have HT := hid (HT.out.same hc1); replace hk := hk.trans hc1 sb_; clear hc1; clear d0 d1 d2 e0 e1 e2 r0 r1 r2 q0 q1 q2; obtain ⟨d0, d1, d2, e0, e1, e2, r0, r1, r2, q0, q1, q2⟩ := HB.out _ hk) | (refine (HNE.out _).mono ?_; intro e w1 h; obtain ⟨he1, hc1⟩ := h; subst he1; have HT := hid (HT.out.same hc1); replace hk := hk.trans hc1 sb_; clear hc1; clear d0 d1 d2 e0 e1 e2 r0 r1 r2 q0 q1 q2; obtain ⟨d0, d1, d2, e0, e1, e2, r0, r1, r2, q0, q1, q2⟩ := HB.out _ hk)) | (go_at_call 80; first | (refine (two_setFint HT.out HWD.out).mono ?_; intro e w1 h; obtain ⟨he1, h⟩ := h; subst he1; have HT := hid h; clear h; replace hk := HT.out.chg; clear d0 d1 d2 e0 e1 e2 r0 r1 r2 q0 q1 q2; obtain ⟨d0, d1, d2, e0, e1, e2, r0, r1, r2, q0, q1, q2⟩ := HB.out _ hk) | (refine (two_setFint' HT.out HWE.out).mono ?_; intro e w1 h; obtain ⟨he1, h⟩ := h; subst he1; have HT := hid h; clear h; replace hk := HT.out.chg; clear d0 d1 d2 e0 e1 e2 r0 r1 r2 q0 q1 q2; obtain ⟨d0, d1, d2, e0, e1, e2, r0, r1, r2, q0, q1, q2⟩ := HB.out _ hk)) | (go_at_call 83; refine (HCM.out _ _ _ _ HT.out).mono ?_; intro e w1 h; obtain ⟨he1, h⟩ := h; subst he1; have HT := hid h; clear h; replace hk := HT.out.chg; clear d0 d1 d2 e0 e1 e2 r0 r1 r2 q0 q1 q2; obtain ⟨d0, d1, d2, e0, e1, e2, r0, r1, r2, q0, q1, q2⟩ := HB.out _ hk) | (go_at_call 84; refine (HSB.out _ _ _ _ HT.out).mono ?_; intro e w1 h; obtain ⟨he1, h⟩ := h; subst he1; have HT := hid h; clear h; replace hk := HT.out.chg; clear d0 d1 d2 e0 e1 e2 r0 r1 r2 q0 q1 q2; obtain ⟨d0, d1, d2, e0, e1, e2, r0, r1, r2, q0, q1, q2⟩ := HB.out _ hk) | (go_at_call 85; refine (HF.out _ _ _ _ _ HT.out).mono ?_; intro e w1 h; obtain ⟨na, nb, nc, nv, he1, hc1, hp⟩ := h.op; subst he1; replace hk := hc1; clear h hc1; clear d0 d1 d2 e0 e1 e2 r0 r1 r2 q0 q1 q2; obtain ⟨d0, d1, d2, e0, e1, e2, r0, r1, r2, q0, q1, q2⟩ := HB.out _ hk; have HP := hid hp; clear hp))
 refine leaves_cons (f := 79) (args := #[.pointer (some ⟨q, 0, none⟩)]) (by simp) (by simp [go_sem]) ?_
 refine (putBint_d _ .returning _).mono ?_
 rintro e u' w'' ⟨rfl, rfl, rfl⟩
 refine leaves_cons (f := 79) (args := #[.pointer (some ⟨p, 0, none⟩)]) (by simp [settle]) (by simp [go_sem]) ?_
 refine (putBint_d _ .returning _).mono ?_
 rintro e u' w'' ⟨rfl, rfl, rfl⟩
 exact ⟨.tuple #[.agg #[.bool na, .int .i8 nb, .int .u64 nc], nv], dec_result rfl _ _ (w.heap.size + 1 + 1) _ _ _ _ 54 rfl rfl (store3 (HBX.out _ hk) _ _ _), HP.out.move (chg3 (HC0.out.trans hk sb_) (by omega) _ _ _)⟩
theorem fiN {a : Nat} (h : a < 10 ^ 19) : Fi (a : Int) := by
 have e : (10 : Nat) ^ 19 = 10000000000000000000 := by decide
 exact ⟨by omega, by omega⟩
theorem fiN_iff {a : Nat} : (a : Int) ≤ 9999999999999999999 ↔ a < 10 ^ 19 := by
 have : (10 : Nat) ^ 19 = 10000000000000000000 := by decide
 omega
theorem addFint_any (dn en : Bool) (dc ec ds es m : Nat) (hdc : dc < 10 ^ 19) (hec : ec < 10 ^ 19) (hds : ds ≤ 19) (hes : es ≤ 19) (hm : m ≤ 19) (w : World) (he : EnvD w) :
  Calls Tryz.prog 67 #[.agg #[.bool dn, .int .i8 ds, .int .u64 (dc : Int)], .agg #[.bool en, .int .i8 es, .int .u64 (ec : Int)], .int .i64 m] w
   (PDec w (sumD dn dc ds en ec es).1 (addF dn dc ds en ec es m)) := by
 have hfd := fiN hdc
 have hfe := fiN hec
 have key : ∀ (A B S : Nat), mxp ds es = S → dc * 10 ^ (S - ds) = A → ec * 10 ^ (S - es) = B →
   (addF dn dc ds en ec es m = if A < 10 ^ 19 ∧ B < 10 ^ 19 ∧ (dn = en → A + B < 10 ^ 19) then fromFint ((sumS dn A en B).2 : Nat) S m else none) ∧ sumD dn dc ds en ec es = sumS dn A en B := by
  rintro A B S rfl rfl rfl
  exact ⟨rfl, rfl⟩
 rcases Nat.lt_trichotomy es ds with hlt | hlt | hlt
 ·obtain ⟨k1, k2⟩ := key dc (ec * 10 ^ (ds - es)) ds (by unfold mxp; rw [if_neg (by omega)]) (by rw [Nat.sub_self, Nat.pow_zero, Nat.mul_one]) rfl
  rw [k1, k2]
  have hcast : (ec : Int) * 10 ^ (ds - es) = ((ec * 10 ^ (ds - es) : Nat) : Int) := by rw [Int.natCast_mul, pow_cast]
  by_cases hX : ec * 10 ^ (ds - es) < 10 ^ 19
  ·have hXM := fiN_iff.2 hX
   by_cases hs : dn = en
   ·by_cases hC : dc + ec * 10 ^ (ds - es) < 10 ^ 19
    ·have hCM := fiN_iff.2 hC
     rw [if_pos ⟨hdc, hX, fun _ => hC⟩, show sumS dn dc en (ec * 10 ^ (ds - es)) = (dn, dc + ec * 10 ^ (ds - es)) by unfold sumS; rw [if_pos hs]]
     exact addFint_gt_same dn en dc ec ds es m hfd hfe hds hes hm w he hlt _ hcast hXM (by simpa using hs) _ (Int.natCast_add _ _).symm hCM
    ·rw [if_neg (fun h => hC (h.2.2 hs))]
     exact addFint_gt_ovf dn en dc ec ds es m hfd hfe hds hes hm w he _ hlt _ hcast hXM (by simpa using hs) (by rw [← Int.natCast_add, fiN_iff]; exact hC)
   ·rw [if_pos ⟨hdc, hX, fun h => absurd h hs⟩]
    by_cases hg : dc < ec * 10 ^ (ds - es)
    ·rw [show sumS dn dc en (ec * 10 ^ (ds - es)) = (en, ec * 10 ^ (ds - es) - dc) by unfold sumS; rw [if_neg hs, if_pos hg]]
     exact addFint_gt_dgt dn en dc ec ds es m hfd hfe hds hes hm w he hlt _ hcast hXM (by simpa using hs) (by omega) _ (by omega)
    ·rw [show sumS dn dc en (ec * 10 ^ (ds - es)) = (dn, dc - ec * 10 ^ (ds - es)) by unfold sumS; rw [if_neg hs, if_neg hg]]
     exact addFint_gt_dle dn en dc ec ds es m hfd hfe hds hes hm w he hlt _ hcast hXM (by simpa using hs) (by omega) _ (by omega)
  ·rw [if_neg (fun h => hX h.2.1)]
   exact addFint_gt_err dn en dc ec ds es m hfd hfe hds hes hm w he _ hlt (by rw [hcast, fiN_iff]; exact hX)
 ·obtain ⟨k1, k2⟩ := key dc ec ds (by unfold mxp; rw [if_neg (by omega)]) (by rw [Nat.sub_self, Nat.pow_zero, Nat.mul_one]) (by rw [hlt, Nat.sub_self, Nat.pow_zero, Nat.mul_one])
  rw [k1, k2]
  by_cases hs : dn = en
  ·by_cases hC : dc + ec < 10 ^ 19
   ·have hCM := fiN_iff.2 hC
    rw [if_pos ⟨hdc, hec, fun _ => hC⟩, show sumS dn dc en ec = (dn, dc + ec) by unfold sumS; rw [if_pos hs]]
    exact addFint_eq_same dn en dc ec ds es m hfd hfe hds hes hm w he hlt (by simpa using hs) _ (Int.natCast_add _ _).symm hCM
   ·rw [if_neg (fun h => hC (h.2.2 hs))]
    exact addFint_eq_ovf dn en dc ec ds es m hfd hfe hds hes hm w he _ hlt (by simpa using hs) (by rw [← Int.natCast_add, fiN_iff]; exact hC)
  ·rw [if_pos ⟨hdc, hec, fun h => absurd h hs⟩]
   by_cases hg : dc < ec
   ·rw [show sumS dn dc en ec = (en, ec - dc) by unfold sumS; rw [if_neg hs, if_pos hg]]
    exact addFint_eq_dgt dn en dc ec ds es m hfd hfe hds hes hm w he hlt (by simpa using hs) (by omega) _ (by omega)
   ·rw [show sumS dn dc en ec = (dn, dc - ec) by unfold sumS; rw [if_neg hs, if_neg hg]]
    exact addFint_eq_dle dn en dc ec ds es m hfd hfe hds hes hm w he hlt (by simpa using hs) (by omega) _ (by omega)
 ·obtain ⟨k1, k2⟩ := key (dc * 10 ^ (es - ds)) ec es (by unfold mxp; rw [if_pos hlt]) rfl (by rw [Nat.sub_self, Nat.pow_zero, Nat.mul_one])
  rw [k1, k2]
  have hcast : (dc : Int) * 10 ^ (es - ds) = ((dc * 10 ^ (es - ds) : Nat) : Int) := by rw [Int.natCast_mul, pow_cast]
  by_cases hX : dc * 10 ^ (es - ds) < 10 ^ 19
  ·have hXM := fiN_iff.2 hX
   by_cases hs : dn = en
   ·by_cases hC : dc * 10 ^ (es - ds) + ec < 10 ^ 19
    ·have hCM := fiN_iff.2 hC
     rw [if_pos ⟨hX, hec, fun _ => hC⟩, show sumS dn (dc * 10 ^ (es - ds)) en ec = (dn, dc * 10 ^ (es - ds) + ec) by unfold sumS; rw [if_pos hs]]
     exact addFint_lt_same dn en dc ec ds es m hfd hfe hds hes hm w he hlt _ hcast hXM (by simpa using hs) _ (Int.natCast_add _ _).symm hCM
    ·rw [if_neg (fun h => hC (h.2.2 hs))]
     exact addFint_lt_ovf dn en dc ec ds es m hfd hfe hds hes hm w he _ hlt _ hcast hXM (by simpa using hs) (by rw [← Int.natCast_add, fiN_iff]; exact hC)
   ·rw [if_pos ⟨hX, hec, fun h => absurd h hs⟩]
    by_cases hg : dc * 10 ^ (es - ds) < ec
    ·rw [show sumS dn (dc * 10 ^ (es - ds)) en ec = (en, ec - dc * 10 ^ (es - ds)) by unfold sumS; rw [if_neg hs, if_pos hg]]
     exact addFint_lt_dgt dn en dc ec ds es m hfd hfe hds hes hm w he hlt _ hcast hXM (by simpa using hs) (by omega) _ (by omega)
    ·rw [show sumS dn (dc * 10 ^ (es - ds)) en ec = (dn, dc * 10 ^ (es - ds) - ec) by unfold sumS; rw [if_neg hs, if_neg hg]]
     exact addFint_lt_dle dn en dc ec ds es m hfd hfe hds hes hm w he hlt _ hcast hXM (by simpa using hs) (by omega) _ (by omega)
  ·rw [if_neg (fun h => hX h.1)]
   exact addFint_lt_err dn en dc ec ds es m hfd hfe hds hes hm w he _ hlt (by rw [hcast, fiN_iff]; exact hX)
theorem addBint_any (dn en : Bool) (dc ec ds es m : Nat) (hdc : dc < 10 ^ 19) (hec : ec < 10 ^ 19) (hds : ds ≤ 19) (hes : es ≤ 19) (hm : m ≤ 19) (w : World) (he : EnvD w) :
  Calls Tryz.prog 68 #[.agg #[.bool dn, .int .i8 ds, .int .u64 (dc : Int)], .agg #[.bool en, .int .i8 es, .int .u64 (ec : Int)], .int .i64 m] w
   (PDecN w (sumD dn dc ds en ec es).1 (from19 (10 ^ 19) 2 (sumD dn dc ds en ec es).2 (mxp ds es) m)) := by
 have hdd := digs_le.2 hdc
 have hde := digs_le.2 hec
 have hwd := (fiN hdc).wd
 have hwe := (fiN hec).wd
 have key : ∀ (A B S : Nat), mxp ds es = S → dc * 10 ^ (S - ds) = A → ec * 10 ^ (S - es) = B → mxp ds es = S ∧ sumD dn dc ds en ec es = sumS dn A en B := by
  rintro A B S rfl rfl rfl
  exact ⟨rfl, rfl⟩
 rcases Nat.lt_trichotomy es ds with hlt | hlt | hlt
 ·obtain ⟨k1, k2⟩ := key dc (ec * 10 ^ (ds - es)) ds (by unfold mxp; rw [if_neg (by omega)]) (by rw [Nat.sub_self, Nat.pow_zero, Nat.mul_one]) rfl
  rw [k1, k2]
  by_cases hs : dn = en
  ·rw [show sumS dn dc en (ec * 10 ^ (ds - es)) = (dn, dc + ec * 10 ^ (ds - es)) by unfold sumS; rw [if_pos hs]]
   exact addBint_gt_same dn en dc ec ds es m hdd hde hwd hwe hds hes hm w he hlt _ rfl (by simpa using hs) _ rfl
  ·by_cases hg : dc < ec * 10 ^ (ds - es)
   ·rw [show sumS dn dc en (ec * 10 ^ (ds - es)) = (en, ec * 10 ^ (ds - es) - dc) by unfold sumS; rw [if_neg hs, if_pos hg]]
    exact addBint_gt_dgt dn en dc ec ds es m hdd hde hwd hwe hds hes hm w he hlt _ rfl (by simpa using hs) hg _ rfl
   ·rw [show sumS dn dc en (ec * 10 ^ (ds - es)) = (dn, dc - ec * 10 ^ (ds - es)) by unfold sumS; rw [if_neg hs, if_neg hg]]
    exact addBint_gt_dle dn en dc ec ds es m hdd hde hwd hwe hds hes hm w he hlt _ rfl (by simpa using hs) hg _ rfl
 ·obtain ⟨k1, k2⟩ := key dc ec ds (by unfold mxp; rw [if_neg (by omega)]) (by rw [Nat.sub_self, Nat.pow_zero, Nat.mul_one]) (by rw [hlt, Nat.sub_self, Nat.pow_zero, Nat.mul_one])
  rw [k1, k2]
  by_cases hs : dn = en
  ·rw [show sumS dn dc en ec = (dn, dc + ec) by unfold sumS; rw [if_pos hs]]
   exact addBint_eq_same dn en dc ec ds es m hdd hde hwd hwe hds hes hm w he hlt (by simpa using hs) _ rfl
  ·by_cases hg : dc < ec
   ·rw [show sumS dn dc en ec = (en, ec - dc) by unfold sumS; rw [if_neg hs, if_pos hg]]
    exact addBint_eq_dgt dn en dc ec ds es m hdd hde hwd hwe hds hes hm w he hlt (by simpa using hs) hg _ rfl
   ·rw [show sumS dn dc en ec = (dn, dc - ec) by unfold sumS; rw [if_neg hs, if_neg hg]]
    exact addBint_eq_dle dn en dc ec ds es m hdd hde hwd hwe hds hes hm w he hlt (by simpa using hs) hg _ rfl
 ·obtain ⟨k1, k2⟩ := key (dc * 10 ^ (es - ds)) ec es (by unfold mxp; rw [if_pos hlt]) rfl (by rw [Nat.sub_self, Nat.pow_zero, Nat.mul_one])
  rw [k1, k2]
  by_cases hs : dn = en
  ·rw [show sumS dn (dc * 10 ^ (es - ds)) en ec = (dn, dc * 10 ^ (es - ds) + ec) by unfold sumS; rw [if_pos hs]]
   exact addBint_lt_same dn en dc ec ds es m hdd hde hwd hwe hds hes hm w he hlt _ rfl (by simpa using hs) _ rfl
  ·by_cases hg : dc * 10 ^ (es - ds) < ec
   ·rw [show sumS dn (dc * 10 ^ (es - ds)) en ec = (en, ec - dc * 10 ^ (es - ds)) by unfold sumS; rw [if_neg hs, if_pos hg]]
    exact addBint_lt_dgt dn en dc ec ds es m hdd hde hwd hwe hds hes hm w he hlt _ rfl (by simpa using hs) hg _ rfl
   ·rw [show sumS dn (dc * 10 ^ (es - ds)) en ec = (dn, dc * 10 ^ (es - ds) - ec) by unfold sumS; rw [if_neg hs, if_neg hg]]
    exact addBint_lt_dle dn en dc ec ds es m hdd hde hwd hwe hds hes hm w he hlt _ rfl (by simpa using hs) hg _ rfl
end Go.Proofs.YthdkandofddohaaGreatDoor
