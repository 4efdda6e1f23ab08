/- Part 50 of the proof. -/
import Derived.Test.YtldhfhloinlfaaaGreatDoorC40
namespace Go.Proofs.YtldhfhloinlfaaaGreatDoor
open Go.RowKit
set_option linter.unusedVariables false
set_option linter.unusedSimpArgs false
set_option maxRecDepth 20000
theorem bool_nz2 (b : Bool) (x t : Nat) (ht : 0 < t) (h : (b && x != 0) = b) : (b && x * t != 0) = b := by
 cases b with
 | false => rfl
 | true =>
  rw [Bool.true_and] at *
  have : x ≠ 0 := bne_iff_ne.1 h
  exact bne_iff_ne.2 (Nat.mul_ne_zero this (by omega))
theorem Prec_any (neg : Bool) (c s : Nat) (hc : c < 10 ^ 19) (w : World) (he : EnvD w) :
  Calls Tryz.prog 120 #[.agg #[.bool neg, .int .i8 s, .int .u64 (c : Int)]] w (fun e w' => e = .returned (.int .i64 (digs c : Nat)) ∧ Chg (fun _ => False) w w') := by
 have hpr := fun w ht => fint_prec (c : Int) (fiN hc) w ht
 rw [Int.toNat_natCast] at hpr
 have HPR := hid hpr
 clear hpr
 generalize digs c = D at *
 obtain ⟨K, hK⟩ : ∃ v : Int, (c : Int) = v := ⟨_, rfl⟩
 rw [hK] at HPR ⊢
 have hc0 := hid ((Chg.refl (fun _ => False) w).alloc (.cells #[.bool neg, .int .i8 s, .int .u64 K] 53))
 have HE := hid he
 clear hc hK he
 go_enter Tryz.func120, Tryz.ntmps120
 go_wp2_with (go_at_call 112; refine (HPR.out _ (HE.out.kept hc0.out).env.tab).mono ?_; intro e w2 h; obtain ⟨he1, he2⟩ := h; subst he1; subst he2)
 go_ret
 exact ⟨rfl, hc0.out⟩
def PPad (dn : Bool) (dc ds : Nat) (w : World) (e : Ending) (w' : World) : Prop :=
 ∃ i, ds + i ≤ 19 ∧ dc * 10 ^ i < 10 ^ 19 ∧ e = .returned (.agg #[.bool dn, .int .i8 ((ds + i : Nat) : Int), .int .u64 ((dc * 10 ^ i : Nat) : Int)]) ∧ Chg (fun _ => False) w w'
set_option maxHeartbeats 4000000 in
theorem Pad_any (dn : Bool) (dc ds p : Nat) (hdc : dc < 10 ^ 19) (hds : ds ≤ 19) (hdn : (dn && dc != 0) = dn) (w : World) (he : EnvD w) :
  Calls Tryz.prog 93 #[.agg #[.bool dn, .int .i8 ds, .int .u64 (dc : Int)], .int .i64 p] w (PPad dn dc ds w) := by
 have hd19 : digs dc ≤ 19 := digs_le.2 hdc
 have HS := hid (fun w => Scale_any dn (dc : Int) ds hds w)
 have HN := hid (fun w => IsNeg_any dn (dc : Int) ds w)
 have HP := hid (fun w he => Prec_any dn dc ds hdc w he)
 obtain ⟨A, hA⟩ : ∃ v : Int, 19 - ((digs dc : Nat) : Int) = v := ⟨_, rfl⟩
 obtain ⟨B, hB⟩ : ∃ v : Int, A + (ds : Int) = v := ⟨_, rfl⟩
 have hw1 : IntKind.i64.wrap (19 - ((digs dc : Nat) : Int)) = A := by rw [hA]; exact IntWalk.i64_in _ (by omega)
 have hw2 : IntKind.i64.wrap (A + (ds : Int)) = B := by rw [hB]; exact IntWalk.i64_in _ (by omega)
 obtain ⟨q, hq⟩ : ∃ q : Nat, min (min (p : Int) 19) B = (q : Int) := ⟨(min (min (p : Int) 19) B).toNat, by omega⟩
 have hmin := fun ts t x y z w => min3_run (P := Tryz.prog) ts t x y z w
 have hq1 : q ≤ 19 := by omega
 have hq2 : q ≤ 19 - digs dc + ds := by omega
 have hlsh : dc * 10 ^ (q - ds) < 10 ^ 19 := by
  have h1 := lsh_digs hdc
  have h2 : dc * 10 ^ (q - ds) ≤ dc * 10 ^ (19 - digs dc) := Nat.mul_le_mul_left _ (pow_le' (by omega))
  omega
 obtain ⟨HC0, HD, hB0, hB1⟩ := box2 w #[.bool dn, .int .i8 ds, .int .u64 (dc : Int)] 53 #[.bool false, .int .i8 0, .int .u64 0] 53
 have HBX := hid (fun w1 h => kept_heap (w' := w1) h hB1)
 have HB := hid (fun w1 h => And.intro (cell3 (kept_heap (w' := w1) h hB0)) (cell3 (kept_heap (w' := w1) h hB1)))
 have HSS := hid (fun (w1 : World) h => And.intro ((cell3 (kept_heap (w' := w1) h hB0)).1) (And.intro ((cell3 (kept_heap (w' := w1) h hB0)).2.1) ((cell3 (kept_heap (w' := w1) h hB0)).2.2.1)))
 have HE := hid he
 have hk := Chg.refl (fun _ => False) ((w.alloc (.cells #[.bool dn, .int .i8 ds, .int .u64 (dc : Int)] 53)).alloc (.cells #[.bool false, .int .i8 0, .int .u64 0] 53))
 obtain ⟨⟨d0, d1, d2, _, _, _⟩, ⟨r0, r1, r2, q0, q1, q2⟩⟩ := HB.out _ hk
 generalize digs dc = PD at *
 have HDC := hid hdc
 have HDN := hid hdn
 have HQ := hid (And.intro hq1 hlsh)
 have HDS := hid hds
 clear hB0 hB1 HD he hdc hdn hq2 hd19 hA hB hlsh
 go_enter Tryz.func93, Tryz.ntmps93
 go_upto_region 1 with fail
 go_cut [1] (fun a wx => a = .int .i64 (q : Int) ∧ Hid (Chg (fun _ => False) ((w.alloc (.cells #[.bool dn, .int .i8 ds, .int .u64 (dc : Int)] 53)).alloc (.cells #[.bool false, .int .i8 0, .int .u64 0] 53)) wx))
 case first =>
  have hk := hk.drew
  clear hq1
  first | (go_region_held3 (fun w' => w'.cell? ⟨w.heap.size, 0, none⟩ = some (.bool dn) ∧ w'.cell? ⟨w.heap.size, 1, none⟩ = some (.int .i8 ds) ∧ w'.cell? ⟨w.heap.size, 2, none⟩ = some (.int .u64 (dc : Int))) (first | with_reducible exact HSS.out _ hk) (first | (go_at_call 77; refine (HS.out _).mono ?_; intro e w1 h; obtain ⟨he1, hc1⟩ := h; subst he1; replace hk := hk.trans hc1 sb_; clear hc1) | (go_at_call 120; refine (HP.out _ (HE.out.kept (HC0.out.trans hk sb_))).mono ?_; intro e w1 h; obtain ⟨he1, hc1⟩ := h; subst he1; replace hk := hk.trans hc1 sb_; clear hc1))) | fail
  all_goals (go_wp2_with fail; go_meet; exact ⟨rfl, hk⟩)
 case rest =>
  obtain ⟨g1, hv⟩ := hcut
  subst g1
  clear hk d0 d1 d2 r0 r1 r2 q0 q1 q2 hw1 hw2 hq hmin hq1
  have hk := hv.out
  clear hv
  obtain ⟨⟨d0, d1, d2, _, _, _⟩, ⟨r0, r1, r2, q0, q1, q2⟩⟩ := HB.out _ hk
  by_cases c1 : (q : Int) ≤ (ds : Int)
  ·go_wp2_with (first | (go_at_call 77; refine (HS.out _).mono ?_; intro e w1 h; obtain ⟨he1, hc1⟩ := h; subst he1; replace hk := hk.trans hc1 sb_; clear hc1 d0 d1 d2 r0 r1 r2 q0 q1 q2; obtain ⟨⟨d0, d1, d2, _, _, _⟩, ⟨r0, r1, r2, q0, q1, q2⟩⟩ := HB.out _ hk))
   exact bodyPost_ret (v := .agg #[.bool dn, .int .i8 ds, .int .u64 (dc : Int)]) (by rw [results_cell_row rfl _ _ (w.heap.size + 1) _ _ _ _ rfl (store3 (HBX.out _ hk) _ _ _) Tryz.underlying53 rfl dec_size]) rfl ⟨0, HDS.out, by rw [Nat.pow_zero, Nat.mul_one]; exact HDC.out, by rw [Nat.pow_zero, Nat.mul_one, Nat.add_zero], chg3 (HC0.out.trans hk sb_) (by omega) _ _ _⟩
  ·have hw : IntKind.i64.wrap ((q : Int) - (ds : Int)) = ((q - ds : Nat) : Int) := by have := HQ.out; rw [show (q : Int) - (ds : Int) = ((q - ds : Nat) : Int) by omega]; exact IntWalk.i64_in _ (by omega)
   have hl := fun w ht => fint_lsh (dc : Int) (q - ds) (fiN HDC.out) (by have := HQ.out; omega) w ht
   have hcX : (dc : Int) * 10 ^ (q - ds) = ((dc * 10 ^ (q - ds) : Nat) : Int) := by rw [Int.natCast_mul, pow_cast]
   have hXM := fiN_iff.2 HQ.out.2
   simp only [hcX, if_pos hXM, decide_eq_true hXM] at hl
   have HL := hid hl
   have hnz : (dn && ((dc * 10 ^ (q - ds) : Nat) : Int) != 0) = dn := by rw [nat_bne]; exact bool_nz2 dn dc _ (pow10_pos _) HDN.out
   have HU := hid (fun w => newUnsafe_flat dn dn ((dc * 10 ^ (q - ds) : Nat) : Int) q (fiN HQ.out.2) HQ.out.1 hnz w)
   have HEN : Hid (ds + (q - ds) = q) := (by omega : ds + (q - ds) = q)
   have HX := hid HQ.out.2
   clear hl hcX hXM hnz
   generalize q - ds = j at *
   obtain ⟨X, hX⟩ : ∃ v : Int, ((dc * 10 ^ j : Nat) : Int) = v := ⟨_, rfl⟩
   rw [hX] at HL HU
   have HXX := hid hX
   clear hX
   go_wp2_with (first | (go_at_call 77; refine (HS.out _).mono ?_; intro e w1 h; obtain ⟨he1, hc1⟩ := h; subst he1; replace hk := hk.trans hc1 sb_; clear hc1 d0 d1 d2 r0 r1 r2 q0 q1 q2; obtain ⟨⟨d0, d1, d2, _, _, _⟩, ⟨r0, r1, r2, q0, q1, q2⟩⟩ := HB.out _ hk) | (go_at_call 75; refine (HN.out _).mono ?_; intro e w1 h; obtain ⟨he1, hc1⟩ := h; subst he1; replace hk := hk.trans hc1 sb_; clear hc1 d0 d1 d2 r0 r1 r2 q0 q1 q2; obtain ⟨⟨d0, d1, d2, _, _, _⟩, ⟨r0, r1, r2, q0, q1, q2⟩⟩ := HB.out _ hk) | (go_at_call 113; refine (HL.out _ (HE.out.kept (HC0.out.trans hk sb_)).env.tab).mono ?_; intro e w2 h; obtain ⟨he1, he2⟩ := h; subst he1; subst he2) | (go_at_call 102; refine (HU.out _).mono ?_; intro e w1 h; obtain ⟨he1, hc1⟩ := h; subst he1; replace hk := hk.trans hc1 sb_; clear hc1 d0 d1 d2 r0 r1 r2 q0 q1 q2; obtain ⟨⟨d0, d1, d2, _, _, _⟩, ⟨r0, r1, r2, q0, q1, q2⟩⟩ := HB.out _ hk))
   exact bodyPost_ret (v := .agg #[.bool dn, .int .i8 q, .int .u64 X]) (by rw [results_cell_row rfl _ _ (w.heap.size + 1) _ _ _ _ rfl (store3 (HBX.out _ hk) _ _ _) Tryz.underlying53 rfl dec_size]) rfl ⟨j, by rw [HEN.out]; exact HQ.out.1, HX.out, by rw [HEN.out, HXX.out], chg3 (HC0.out.trans hk sb_) (by omega) _ _ _⟩
set_option maxHeartbeats 4000000 in
theorem adqEx_nil (dn en fn : Bool) (dc ec fc ds es fs : Nat) (m : Nat) (hm : m ≤ 19) (hdc : dc < 10 ^ 19) (hec : ec < 10 ^ 19) (hfc : fc < 10 ^ 19) (hds : ds ≤ 19) (hes : es ≤ 19) (hfs : fs ≤ 19) (hec0 : ec = 0) (hf0 : 0 < fc) (hdn : (dn && dc != 0) = dn) (P : Bool → Option (Nat × Nat) → Prop) (w : World) (he : EnvI w)
  (hP : ∀ i, ds + i ≤ 19 → dc * 10 ^ i < 10 ^ 19 → P dn (some (dc * 10 ^ i, ds + i))) :
  Calls Tryz.prog 55 #[.agg #[.bool dn, .int .i8 ds, .int .u64 (dc : Int)], .agg #[.bool en, .int .i8 es, .int .u64 (ec : Int)], .agg #[.bool fn, .int .i8 fs, .int .u64 (fc : Int)], .int .i64 m] w (PX P w) := by
 have hSE := fun w => Scale_any en (ec : Int) es hes w
 have hSF := fun w => Scale_any fn (fc : Int) fs hfs w
 obtain ⟨DD, hDD⟩ : ∃ v : Int, (es : Int) - (fs : Int) = v := ⟨_, rfl⟩
 have hwd : IntKind.i64.wrap ((es : Int) - (fs : Int)) = DD := by rw [hDD]; exact IntWalk.i64_in _ (by omega)
 obtain ⟨p, hmx⟩ : ∃ p : Nat, max (m : Int) DD = (p : Int) := ⟨(max (m : Int) DD).toNat, by omega⟩
 have hpad := fun w he => Pad_any dn dc ds p hdc hds hdn w he
 obtain ⟨DC, hDC⟩ : ∃ v : Int, (dc : Int) = v := ⟨_, rfl⟩
 obtain ⟨EC, hEC⟩ : ∃ v : Int, (ec : Int) = v := ⟨_, rfl⟩
 obtain ⟨FC, hFC⟩ : ∃ v : Int, (fc : Int) = v := ⟨_, rfl⟩
 rw [hEC] at hSE
 rw [hFC] at hSF
 rw [hDC] at hpad
 rw [hDC, hEC, hFC]
 have HSE := hid hSE
 have HSF := hid hSF
 have HPD := hid hpad
 have hzEC : (EC == 0) = true := by rw [← hEC, hec0]; rfl
 have hzFC : (FC == 0) = false := by rw [← hFC]; exact beq_eq_false_iff_ne.2 (by omega)
 have hb1 : decide ((m : Int) < 0) = false := decide_eq_false (by omega)
 have hb2 : decide ((19 : Int) < (m : Int)) = false := decide_eq_false (by omega)
 have HIE := hid (fun w => IsZero_any en EC es w)
 have HIF := hid (fun w => IsZero_any fn FC fs w)
 have HID := HIE
 have HSD := HSE
 obtain ⟨HB, HBX, HC0, hk⟩ := bx4 w dn ds DC en es EC fn fs FC
 have HSS := hid (fun w' (h : Chg (fun _ => False) ((((w.alloc (.cells #[.bool dn, .int .i8 ds, .int .u64 DC] 53)).alloc (.cells #[.bool en, .int .i8 es, .int .u64 EC] 53)).alloc (.cells #[.bool fn, .int .i8 fs, .int .u64 FC] 53)).alloc (.cells #[.bool false, .int .i8 0, .int .u64 0] 53)) w') => (show w'.cell? ⟨w.heap.size, 0, none⟩ = some (.bool dn) ∧ w'.cell? ⟨w.heap.size, 1, none⟩ = some (.int .i8 ds) ∧ w'.cell? ⟨w.heap.size, 2, none⟩ = some (.int .u64 DC) ∧ w'.cell? ⟨w.heap.size + 1, 0, none⟩ = some (.bool en) ∧ w'.cell? ⟨w.heap.size + 1, 1, none⟩ = some (.int .i8 es) ∧ w'.cell? ⟨w.heap.size + 1, 2, none⟩ = some (.int .u64 EC) ∧ w'.cell? ⟨w.heap.size + 1 + 1, 0, none⟩ = some (.bool fn) ∧ w'.cell? ⟨w.heap.size + 1 + 1, 1, none⟩ = some (.int .i8 fs) ∧ w'.cell? ⟨w.heap.size + 1 + 1, 2, none⟩ = some (.int .u64 FC) from ⟨(HB.out _ h).1, (HB.out _ h).2.1, (HB.out _ h).2.2.1, (HB.out _ h).2.2.2.1, (HB.out _ h).2.2.2.2.1, (HB.out _ h).2.2.2.2.2.1, (HB.out _ h).2.2.2.2.2.2.1, (HB.out _ h).2.2.2.2.2.2.2.1, (HB.out _ h).2.2.2.2.2.2.2.2.1⟩))
 obtain ⟨d0, d1, d2, e0, e1, e2, f0, f1, f2, r0, r1, r2, q0, q1, q2⟩ := HB.out _ (hk)
 have HP := hid hP
 have HDN := hid hdn
 have HE0 := hid (he.kept HC0.out)
 clear he hP hm hdc hec hfc hds hes hfs hec0 hf0 hDC hEC hFC hDD hSE hSF hpad hdn
 go_enter Tryz.func55, Tryz.ntmps55
 go_upto_region 6 with (go_at_call 89; (first | refine (HID.out _).mono ?_ | refine (HIE.out _).mono ?_ | refine (HIF.out _).mono ?_); intro e w1 h; obtain ⟨he1, hc1⟩ := h; subst he1; replace hk := hk.trans hc1 sb_; clear hc1; clear d0 d1 d2 e0 e1 e2 f0 f1 f2 r0 r1 r2 q0 q1 q2; obtain ⟨d0, d1, d2, e0, e1, e2, f0, f1, f2, r0, r1, r2, q0, q1, q2⟩ := HB.out _ (hk))
 go_cut [3] (fun a wx => a = .int .i64 (p : Int) ∧ Hid (Chg (fun _ => False) ((((w.alloc (.cells #[.bool dn, .int .i8 ds, .int .u64 DC] 53)).alloc (.cells #[.bool en, .int .i8 es, .int .u64 EC] 53)).alloc (.cells #[.bool fn, .int .i8 fs, .int .u64 FC] 53)).alloc (.cells #[.bool false, .int .i8 0, .int .u64 0] 53)) wx))
 case first =>
  have hk := hk.drew
  first | (go_region_held3 (fun w' => w'.cell? ⟨w.heap.size, 0, none⟩ = some (.bool dn) ∧ w'.cell? ⟨w.heap.size, 1, none⟩ = some (.int .i8 ds) ∧ w'.cell? ⟨w.heap.size, 2, none⟩ = some (.int .u64 DC) ∧ w'.cell? ⟨w.heap.size + 1, 0, none⟩ = some (.bool en) ∧ w'.cell? ⟨w.heap.size + 1, 1, none⟩ = some (.int .i8 es) ∧ w'.cell? ⟨w.heap.size + 1, 2, none⟩ = some (.int .u64 EC) ∧ w'.cell? ⟨w.heap.size + 1 + 1, 0, none⟩ = some (.bool fn) ∧ w'.cell? ⟨w.heap.size + 1 + 1, 1, none⟩ = some (.int .i8 fs) ∧ w'.cell? ⟨w.heap.size + 1 + 1, 2, none⟩ = some (.int .u64 FC)) (first | with_reducible exact HSS.out _ hk) (first | (go_at_call 77; (first | refine (HSD.out _).mono ?_ | refine (HSE.out _).mono ?_ | refine (HSF.out _).mono ?_); intro e w1 h; obtain ⟨he1, hc1⟩ := h; subst he1; replace hk := hk.trans hc1 sb_; clear hc1))) | fail
  all_goals (go_wp2_with fail; go_meet; exact ⟨rfl, hk⟩)
 case rest =>
  obtain ⟨g1, hv⟩ := hcut
  subst g1
  clear hk d0 d1 d2 e0 e1 e2 f0 f1 f2 r0 r1 r2 q0 q1 q2
  have hk := hv.out
  clear hv
  obtain ⟨d0, d1, d2, e0, e1, e2, f0, f1, f2, r0, r1, r2, q0, q1, q2⟩ := HB.out _ (hk)
  go_wp2_with fail
  go_at_call 93
  refine (HPD.out _ (HE0.out.kept hk).1).mono ?_
  intro e w1 h
  obtain ⟨i, hi1, hi2, he1, hc1⟩ := h
  subst he1
  replace hk := hk.trans hc1 sb_
  have HQ := hid (HP.out i hi1 hi2)
  obtain ⟨K, hK⟩ : ∃ v : Int, ((dc * 10 ^ i : Nat) : Int) = v := ⟨_, rfl⟩
  obtain ⟨SI, hSI⟩ : ∃ v : Int, ((ds + i : Nat) : Int) = v := ⟨_, rfl⟩
  rw [hK, hSI]
  have HK := hid hK
  have HSI := hid hSI
  clear hc1 hi1 hi2 hK hSI
  clear d0 d1 d2 e0 e1 e2 f0 f1 f2 r0 r1 r2 q0 q1 q2
  obtain ⟨d0, d1, d2, e0, e1, e2, f0, f1, f2, r0, r1, r2, q0, q1, q2⟩ := HB.out _ (hk)
  go_wp2_with fail
  refine bodyPost_ret (v := .tuple #[.agg #[.bool dn, .int .i8 SI, .int .u64 K], .nilIface]) (dec_result rfl _ _ (w.heap.size + 1 + 1 + 1) _ _ _ _ 53 rfl rfl (store3 (HBX.out _ hk) _ _ _)) rfl ⟨dn, some (dc * 10 ^ i, ds + i), HQ.out, chg3 (HC0.out.trans hk sb_) (by omega) _ _ _, ?_⟩
  show _ = Ending.returned (.tuple #[decV (dn && ((dc * 10 ^ i : Nat) : Int) != 0) ((dc * 10 ^ i : Nat) : Int) (ds + i), .nilIface])
  rw [nat_bne, bool_nz2 dn dc _ (pow10_pos _) HDN.out, HK.out]
  unfold decV
  rw [HSI.out]
end Go.Proofs.YtldhfhloinlfaaaGreatDoor
namespace Go.Proofs.YtldhfhloinlfaaaGreatDoor
open Go.RowKit
set_option linter.unusedVariables false
theorem AddQuo0_in (dn en fn : Bool) (dc ec fc ds es fs : Nat) (hdc : dc < 10 ^ 19) (hec : ec < 10 ^ 19) (hfc : fc < 10 ^ 19) (hds : ds ≤ 19) (hes : es ≤ 19) (hfs : fs ≤ 19) (hf0 : 0 < fc) (hdn : (dn && dc != 0) = dn) (w : World) (he : EnvI w) :
  Calls Tryz.prog 55 #[.agg #[.bool dn, .int .i8 ds, .int .u64 (dc : Int)], .agg #[.bool en, .int .i8 es, .int .u64 (ec : Int)], .agg #[.bool fn, .int .i8 fs, .int .u64 (fc : Int)], .int .i64 ((0 : Nat) : Int)] w
   (PX (Good (aqS dn dc ds (en != fn) ec es fc fs) (aqF dn dc ds (en != fn) ec es fc fs).2 (10 ^ ds * (10 ^ es * fc)) 0) w) := by
 by_cases h0 : ec = 0
 ·subst h0
  exact adqEx_nil dn en fn dc 0 fc ds es fs 0 (by omega) hdc hec hfc hds hes hfs rfl hf0 hdn _ w he (fun i h1 h2 => good_aq_zero dn (en != fn) hf0 h2 h1 (by omega))
 ·exact adq_some dn en fn dc ec fc ds es fs 0 hdc hec hfc hds hes hfs (by omega) (by omega) hf0 w he
end Go.Proofs.YtldhfhloinlfaaaGreatDoor
