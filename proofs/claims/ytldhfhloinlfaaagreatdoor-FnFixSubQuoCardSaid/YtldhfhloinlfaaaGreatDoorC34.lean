/- Part 34 of the proof. -/
import Derived.Test.YtldhfhloinlfaaaGreatDoorC24
import Derived.Test.YtldhfhloinlfaaaGreatDoorC32
import Derived.Test.YtldhfhloinlfaaaGreatDoorC33
namespace Go.Proofs.YtldhfhloinlfaaaGreatDoor
open Go.RowKit
set_option linter.unusedVariables false
set_option linter.unusedSimpArgs false
set_option maxRecDepth 20000
theorem adqEx_bad (dn en fn : Bool) (dc ec fc ds es fs : Nat) (m : Int) (hbad : (m < 0 ∨ 19 < m) ∨ fc = 0) (P : Bool → Option (Nat × Nat) → Prop) (hp : P false none) (w : World) :
  Calls Tryz.prog 55 #[.agg #[.bool dn, .int .i8 ds, .int .u64 (dc : Int)], .agg #[.bool en, .int .i8 es, .int .u64 (ec : Int)], .agg #[.bool fn, .int .i8 fs, .int .u64 (fc : Int)], .int .i64 m] w (PX P w) := by
 obtain ⟨DC, hDC⟩ : ∃ v : Int, (dc : Int) = v := ⟨_, rfl⟩
 obtain ⟨EC, hEC⟩ : ∃ v : Int, (ec : Int) = v := ⟨_, rfl⟩
 obtain ⟨FC, hFC⟩ : ∃ v : Int, (fc : Int) = v := ⟨_, rfl⟩
 have hz : ¬ (m < 0 ∨ 19 < m) → (FC == 0) = true := fun h => by rw [← hFC]; have := hbad.resolve_left h; rw [this]; rfl
 rw [hDC, hEC, hFC]
 obtain ⟨HB, HBX, HC0, hk⟩ := bx4 w dn ds DC en es EC fn fs FC
 have HID := hid (fun w => IsZero_any dn DC ds w)
 have HIE := hid (fun w => IsZero_any en EC es w)
 have HIF := hid (fun w => IsZero_any fn FC fs w)
 obtain ⟨d0, d1, d2, e0, e1, e2, f0, f1, f2, r0, r1, r2, q0, q1, q2⟩ := HB.out _ (hk)
 by_cases h0 : m < 0
 ·have hb1 : decide (m < 0) = true := decide_eq_true h0
  clear hbad hz
  go_enter Tryz.func55, Tryz.ntmps55
  go_wp2_with (go_at_call 88; refine (errorsNew_any _ _).mono ?_; intro e w3 h; obtain ⟨⟨t3, v3, he3⟩, hc3⟩ := h; subst he3; have HK3 := hid hc3; clear hc3; clear d0 d1 d2 e0 e1 e2 f0 f1 f2 r0 r1 r2 q0 q1 q2; obtain ⟨d0, d1, d2, e0, e1, e2, f0, f1, f2, r0, r1, r2, q0, q1, q2⟩ := HB.out _ (hk.trans HK3.out sb_))
  exact bodyPost_ret (v := .tuple #[.agg #[.bool false, .int .i8 0, .int .u64 0], .iface t3 v3]) (dec_result rfl _ _ (w.heap.size + 1 + 1 + 1) _ _ _ _ 53 rfl rfl (store3 (HBX.out _ (hk.trans HK3.out sb_)) _ _ _)) rfl ⟨false, none, hp, chg3 (HC0.out.trans (hk.trans HK3.out sb_) (fun _ _ h => h)) (by omega) _ _ _, t3, v3, rfl⟩
 ·have hb1 : decide (m < 0) = false := decide_eq_false h0
  by_cases h1 : 19 < m
  ·have hb2 : decide (19 < m) = true := decide_eq_true h1
   clear hbad hz
   go_enter Tryz.func55, Tryz.ntmps55
   go_wp2_with (go_at_call 88; refine (errorsNew_any _ _).mono ?_; intro e w3 h; obtain ⟨⟨t3, v3, he3⟩, hc3⟩ := h; subst he3; have HK3 := hid hc3; clear hc3; clear d0 d1 d2 e0 e1 e2 f0 f1 f2 r0 r1 r2 q0 q1 q2; obtain ⟨d0, d1, d2, e0, e1, e2, f0, f1, f2, r0, r1, r2, q0, q1, q2⟩ := HB.out _ (hk.trans HK3.out sb_))
   exact bodyPost_ret (v := .tuple #[.agg #[.bool false, .int .i8 0, .int .u64 0], .iface t3 v3]) (dec_result rfl _ _ (w.heap.size + 1 + 1 + 1) _ _ _ _ 53 rfl rfl (store3 (HBX.out _ (hk.trans HK3.out sb_)) _ _ _)) rfl ⟨false, none, hp, chg3 (HC0.out.trans (hk.trans HK3.out sb_) (fun _ _ h => h)) (by omega) _ _ _, t3, v3, rfl⟩
  ·have hb2 : decide (19 < m) = false := decide_eq_false h1
   have hb3 := hz (by omega)
   clear hbad hz h0 h1
   go_enter Tryz.func55, Tryz.ntmps55
   go_wp2_with (first | (go_at_call 89; (first | refine (HID.out _).mono ?_ | refine (HIE.out _).mono ?_ | refine (HIF.out _).mono ?_); intro e w1 h; obtain ⟨he1, hc1⟩ := h; subst he1; replace hk := hk.trans hc1 sb_; clear hc1; clear d0 d1 d2 e0 e1 e2 f0 f1 f2 r0 r1 r2 q0 q1 q2; obtain ⟨d0, d1, d2, e0, e1, e2, f0, f1, f2, r0, r1, r2, q0, q1, q2⟩ := HB.out _ (hk)) | (go_at_call 88; refine (errorsNew_any _ _).mono ?_; intro e w3 h; obtain ⟨⟨t3, v3, he3⟩, hc3⟩ := h; subst he3; have HK3 := hid hc3; clear hc3; clear d0 d1 d2 e0 e1 e2 f0 f1 f2 r0 r1 r2 q0 q1 q2; obtain ⟨d0, d1, d2, e0, e1, e2, f0, f1, f2, r0, r1, r2, q0, q1, q2⟩ := HB.out _ (hk.trans HK3.out sb_)))
   exact bodyPost_ret (v := .tuple #[.agg #[.bool false, .int .i8 0, .int .u64 0], .iface t3 v3]) (dec_result rfl _ _ (w.heap.size + 1 + 1 + 1) _ _ _ _ 53 rfl rfl (store3 (HBX.out _ (hk.trans HK3.out sb_)) _ _ _)) rfl ⟨false, none, hp, chg3 (HC0.out.trans (hk.trans HK3.out sb_) (fun _ _ h => h)) (by omega) _ _ _, t3, v3, rfl⟩
set_option maxHeartbeats 16000000 in
theorem adqEx_in (dn en fn : Bool) (dc ec fc ds es fs : Nat) (m : Nat) (hm : m ≤ 19) (hdc : dc < 10 ^ 19) (hec : ec < 10 ^ 19) (hfc : fc < 10 ^ 19) (hds : ds ≤ 19) (hes : es ≤ 19) (hfs : fs ≤ 19) (hec0 : 0 < ec) (hfc0 : 0 < fc) (P P1 : Bool → Option (Nat × Nat) → Prop) (w : World) (he : EnvI w)
  (hP1 : ∀ sg k t, P1 sg (some (k, t)) → P sg (some (k, t))) (hPb : ∀ sg k t, P sg (some (k, t)) → t ≤ 19 ∧ k < 10 ^ 19 ∧ m ≤ t) (hPt : ∀ sg k t k' t', P sg (some (k, t)) → m ≤ t' → t' ≤ t → k = k' * 10 ^ (t - t') → P sg (some (k', t')))
  (hFI : ∀ w1, EnvI w1 → Calls Tryz.prog 94 #[.agg #[.bool dn, .int .i8 ds, .int .u64 (dc : Int)], .agg #[.bool en, .int .i8 es, .int .u64 (ec : Int)], .agg #[.bool fn, .int .i8 fs, .int .u64 (fc : Int)], .int .i64 m] w1 (PX P1 w1)) (hBI : ∀ w1, EnvI w1 → Calls Tryz.prog 82 #[.agg #[.bool dn, .int .i8 ds, .int .u64 (dc : Int)], .agg #[.bool en, .int .i8 es, .int .u64 (ec : Int)], .agg #[.bool fn, .int .i8 fs, .int .u64 (fc : Int)], .int .i64 m] w1 (PX P w1)) :
  Calls Tryz.prog 55 #[.agg #[.bool dn, .int .i8 ds, .int .u64 (dc : Int)], .agg #[.bool en, .int .i8 es, .int .u64 (ec : Int)], .agg #[.bool fn, .int .i8 fs, .int .u64 (fc : Int)], .int .i64 m] w (PX P w) := by
 obtain ⟨DC, hDC⟩ : ∃ v : Int, (dc : Int) = v := ⟨_, rfl⟩
 obtain ⟨EC, hEC⟩ : ∃ v : Int, (ec : Int) = v := ⟨_, rfl⟩
 obtain ⟨FC, hFC⟩ : ∃ v : Int, (fc : Int) = v := ⟨_, rfl⟩
 obtain ⟨DS, hDS⟩ : ∃ v : Int, (ds : Int) = v := ⟨_, rfl⟩
 obtain ⟨ES, hES⟩ : ∃ v : Int, (es : Int) = v := ⟨_, rfl⟩
 obtain ⟨FS, hFS⟩ : ∃ v : Int, (fs : Int) = v := ⟨_, rfl⟩
 have HSD := hid (fun w => Scale_as dn DC ds DS hds hDS w)
 have HSE := hid (fun w => Scale_as en EC es ES hes hES w)
 have HSF := hid (fun w => Scale_as fn FC fs FS hfs hFS w)
 rw [hDC, hEC, hFC] at hFI hBI
 rw [hDC, hEC, hFC]
 obtain ⟨DD, hDD⟩ : ∃ v : Int, ES - FS = v := ⟨_, rfl⟩
 have hwd : IntKind.i64.wrap (ES - FS) = DD := by rw [hDD]; exact IntWalk.i64_in _ (by omega)
 obtain ⟨p, hmx⟩ : ∃ p : Nat, max (max (m : Int) DS) DD = (p : Int) := ⟨(max (max (m : Int) DS) DD).toNat, by omega⟩
 have HMP : Hid (m ≤ p) := (by omega : m ≤ p)
 have hmx3 := fun ts t x y z w => max3_run (P := Tryz.prog) ts t x y z w
 have hzEC : (EC == 0) = false := by rw [← hEC]; exact beq_eq_false_iff_ne.2 (by omega)
 have hzFC : (FC == 0) = false := by rw [← hFC]; exact beq_eq_false_iff_ne.2 (by omega)
 have hb1 : decide ((m : Int) < 0) = false := decide_eq_false (by omega)
 have hb2 : decide ((19 : Int) < (m : Int)) = false := decide_eq_false (by omega)
 have HID := hid (fun w => IsZero_any dn DC ds w)
 have HIE := hid (fun w => IsZero_any en EC es w)
 have HIF := hid (fun w => IsZero_any fn FC fs w)
 have HTR := hid (fun nb (c s : Nat) hc hs hnb w he => Trim_any nb c s p hc hs hnb w he)
 obtain ⟨HB, HBX, HC0, hk⟩ := bx4 w dn ds DC en es EC fn fs FC
 have HSS := hid (fun w' (h : Chg (fun _ => False) ((((w.alloc (.cells #[.bool dn, .int .i8 ds, .int .u64 DC] 53)).alloc (.cells #[.bool en, .int .i8 es, .int .u64 EC] 53)).alloc (.cells #[.bool fn, .int .i8 fs, .int .u64 FC] 53)).alloc (.cells #[.bool false, .int .i8 0, .int .u64 0] 53)) w') => (show w'.cell? ⟨w.heap.size, 0, none⟩ = some (.bool dn) ∧ w'.cell? ⟨w.heap.size, 1, none⟩ = some (.int .i8 ds) ∧ w'.cell? ⟨w.heap.size, 2, none⟩ = some (.int .u64 DC) ∧ w'.cell? ⟨w.heap.size + 1, 0, none⟩ = some (.bool en) ∧ w'.cell? ⟨w.heap.size + 1, 1, none⟩ = some (.int .i8 es) ∧ w'.cell? ⟨w.heap.size + 1, 2, none⟩ = some (.int .u64 EC) ∧ w'.cell? ⟨w.heap.size + 1 + 1, 0, none⟩ = some (.bool fn) ∧ w'.cell? ⟨w.heap.size + 1 + 1, 1, none⟩ = some (.int .i8 fs) ∧ w'.cell? ⟨w.heap.size + 1 + 1, 2, none⟩ = some (.int .u64 FC) from ⟨(HB.out _ h).1, (HB.out _ h).2.1, (HB.out _ h).2.2.1, (HB.out _ h).2.2.2.1, (HB.out _ h).2.2.2.2.1, (HB.out _ h).2.2.2.2.2.1, (HB.out _ h).2.2.2.2.2.2.1, (HB.out _ h).2.2.2.2.2.2.2.1, (HB.out _ h).2.2.2.2.2.2.2.2.1⟩))
 have HE0 := hid (he.kept HC0.out)
 have HFIX := hid hFI
 have HBI := hid hBI
 have HP1 := hid hP1
 have HPB := hid hPb
 have HPT := hid hPt
 obtain ⟨d0, d1, d2, e0, e1, e2, f0, f1, f2, r0, r1, r2, q0, q1, q2⟩ := HB.out _ (hk)
 clear he hFI hBI hP1 hPb hPt hm hdc hds hec hes hfc hfs hDC hDS hEC hES hFC hFS hec0 hfc0 hDD
 go_enter Tryz.func55, Tryz.ntmps55
 go_upto_region 8 with (go_at_call 89; (first | refine (HID.out _).mono ?_ | refine (HIE.out _).mono ?_ | refine (HIF.out _).mono ?_); intro e w1 h; obtain ⟨he1, hc1⟩ := h; subst he1; replace hk := hk.trans hc1 sb_; clear hc1; clear d0 d1 d2 e0 e1 e2 f0 f1 f2 r0 r1 r2 q0 q1 q2; obtain ⟨d0, d1, d2, e0, e1, e2, f0, f1, f2, r0, r1, r2, q0, q1, q2⟩ := HB.out _ (hk))
 go_cut [10, 11] (fun a b wx => ∃ g : Nat, a = .pointer (some ⟨g, 0, none⟩) ∧ ((b = .nilIface ∧ ∃ sg k t, Hid (P sg (some (k, t))) ∧ Hid (Var3 ((((w.alloc (.cells #[.bool dn, .int .i8 ds, .int .u64 DC] 53)).alloc (.cells #[.bool en, .int .i8 es, .int .u64 EC] 53)).alloc (.cells #[.bool fn, .int .i8 fs, .int .u64 FC] 53)).alloc (.cells #[.bool false, .int .i8 0, .int .u64 0] 53)) wx g (.bool (sg && (k : Int) != 0)) (.int .i8 (t : Int)) (.int .u64 (k : Int)))) ∨ ((∃ et ev, b = .iface et ev) ∧ Hid (Var3 ((((w.alloc (.cells #[.bool dn, .int .i8 ds, .int .u64 DC] 53)).alloc (.cells #[.bool en, .int .i8 es, .int .u64 EC] 53)).alloc (.cells #[.bool fn, .int .i8 fs, .int .u64 FC] 53)).alloc (.cells #[.bool false, .int .i8 0, .int .u64 0] 53)) wx g (.bool false) (.int .i8 0) (.int .u64 0)))))
 case first =>
  go_wp2_with fail
  go_at_call 94
  refine (HFIX.out _ (HE0.out.kept hk)).mono ?_
  intro e w1 h
  obtain ⟨sg, o, hp, hc, ho⟩ := h
  have HK := hid (hk.trans hc sb_)
  have HPP := hid hp
  clear hc hp hk d0 d1 d2 e0 e1 e2 f0 f1 f2 r0 r1 r2 q0 q1 q2
  cases o with
  | none =>
   obtain ⟨et, ev, he1⟩ := ho
   have he2 : e = .returned (.tuple #[.agg #[.bool false, .int .i8 0, .int .u64 0], .iface et ev]) := he1
   clear he1
   subst he2
   go_wp2_with fail
   go_meet
   exact ⟨w1.heap.size, rfl, .inr ⟨⟨_, _, rfl⟩, Var3.mk' HK.out _ _ _⟩⟩
  | some kt =>
   obtain ⟨k, t⟩ := kt
   have he2 : e = .returned (.tuple #[.agg #[.bool (sg && (k : Int) != 0), .int .i8 t, .int .u64 (k : Int)], .nilIface]) := ho
   clear ho
   have HQ := hid (HP1.out _ _ _ HPP.out)
   obtain ⟨nb, hnb⟩ : ∃ b, (sg && (k : Int) != 0) = b := ⟨_, rfl⟩
   have HNB := hid hnb
   rw [hnb] at he2
   subst he2
   clear hnb
   go_wp2_with fail
   go_meet
   exact ⟨w1.heap.size, rfl, .inl ⟨rfl, sg, k, t, HQ, by rw [HNB.out]; exact Var3.mk' HK.out _ _ _⟩⟩
 case rest =>
  obtain ⟨g, g1, hcut⟩ := hcut
  subst g1
  clear hk d0 d1 d2 e0 e1 e2 f0 f1 f2 r0 r1 r2 q0 q1 q2
  go_upto_region 9 with fail
  go_cut [45] (fun c wx => (c = .bool false ∧ ∃ sg k t, Hid (P sg (some (k, t))) ∧ Hid (Var3 ((((w.alloc (.cells #[.bool dn, .int .i8 ds, .int .u64 DC] 53)).alloc (.cells #[.bool en, .int .i8 es, .int .u64 EC] 53)).alloc (.cells #[.bool fn, .int .i8 fs, .int .u64 FC] 53)).alloc (.cells #[.bool false, .int .i8 0, .int .u64 0] 53)) wx g (.bool (sg && (k : Int) != 0)) (.int .i8 (t : Int)) (.int .u64 (k : Int)))) ∨ (c = .bool true ∧ Hid (Var3 ((((w.alloc (.cells #[.bool dn, .int .i8 ds, .int .u64 DC] 53)).alloc (.cells #[.bool en, .int .i8 es, .int .u64 EC] 53)).alloc (.cells #[.bool fn, .int .i8 fs, .int .u64 FC] 53)).alloc (.cells #[.bool false, .int .i8 0, .int .u64 0] 53)) wx g (.bool false) (.int .i8 0) (.int .u64 0))))
  case first =>
   rcases hcut with ⟨he2, sg, k, t, hp, hv⟩ | ⟨⟨et, ev, he2⟩, hv⟩
   ·subst he2
    go_wp2_with fail
    go_meet
    exact .inl ⟨rfl, sg, k, t, hp, hv⟩
   ·subst he2
    go_wp2_with fail
    go_meet
    exact .inr ⟨rfl, hv⟩
  case rest =>
  go_upto_if 45 with fail
  go_cut [11] (fun b wx => ∃ sg k t, Hid (P sg (some (k, t))) ∧ Hid (Var3 ((((w.alloc (.cells #[.bool dn, .int .i8 ds, .int .u64 DC] 53)).alloc (.cells #[.bool en, .int .i8 es, .int .u64 EC] 53)).alloc (.cells #[.bool fn, .int .i8 fs, .int .u64 FC] 53)).alloc (.cells #[.bool false, .int .i8 0, .int .u64 0] 53)) wx g (.bool (sg && (k : Int) != 0)) (.int .i8 (t : Int)) (.int .u64 (k : Int))))
  case first =>
   rcases hcut with ⟨he2, sg, k, t, hp, hv⟩ | ⟨he2, hv⟩
   ·subst he2
    go_wp2_with fail
    go_meet
    exact ⟨sg, k, t, hp, hv⟩
   ·subst he2
    have HV := hid hv.out
    clear hv
    obtain ⟨d0, d1, d2, e0, e1, e2, f0, f1, f2, r0, r1, r2, q0, q1, q2⟩ := HB.out _ (HV.out.1)
    obtain ⟨k0, k1, k2, l0, l1, l2⟩ := cell3 HV.out.2.2
    go_wp2_with fail
    go_at_call 82
    refine (HBI.out _ (HE0.out.kept HV.out.1)).mono ?_
    intro e w1 h
    obtain ⟨sg, o, hp, hc, ho⟩ := h
    have HPP := hid hp
    have HV2 := hid (HV.out.kept hc)
    have HCC := hid hc
    clear hp hc d0 d1 d2 e0 e1 e2 f0 f1 f2 r0 r1 r2 q0 q1 q2 k0 k1 k2 l0 l1 l2
    obtain ⟨d0, d1, d2, e0, e1, e2, f0, f1, f2, r0, r1, r2, q0, q1, q2⟩ := HB.out _ (HV2.out.1)
    obtain ⟨k0, k1, k2, l0, l1, l2⟩ := cell3 HV2.out.2.2
    cases o with
    | none =>
     obtain ⟨et2, ev2, he1⟩ := ho
     have he2 : e = .returned (.tuple #[.agg #[.bool false, .int .i8 0, .int .u64 0], .iface et2 ev2]) := he1
     clear he1
     subst he2
     have HV3 := hid (HV2.out.set (Chg.refl _ _) (.bool false) (.int .i8 0) (.int .u64 0))
     go_wp2_with (go_at_call 88; refine (errorsNew_any _ _).mono ?_; intro e w3 h; obtain ⟨⟨t3, v3, he3⟩, hc3⟩ := h; subst he3; have HV4 := hid (HV3.out.kept hc3); clear hc3; clear d0 d1 d2 e0 e1 e2 f0 f1 f2 r0 r1 r2 q0 q1 q2; obtain ⟨d0, d1, d2, e0, e1, e2, f0, f1, f2, r0, r1, r2, q0, q1, q2⟩ := HB.out _ (HV4.out.1))
     exact bodyPost_ret (v := .tuple #[.agg #[.bool false, .int .i8 0, .int .u64 0], .iface t3 v3]) (dec_result rfl _ _ (w.heap.size + 1 + 1 + 1) _ _ _ _ 53 rfl rfl (store3 (HBX.out _ (HV4.out.1)) _ _ _)) rfl ⟨sg, none, HPP.out, chg3 (HC0.out.trans (HV4.out.1) sb_) (by omega) _ _ _, t3, v3, rfl⟩
    | some kt =>
     obtain ⟨k, t⟩ := kt
     have he2 : e = .returned (.tuple #[.agg #[.bool (sg && (k : Int) != 0), .int .i8 t, .int .u64 (k : Int)], .nilIface]) := ho
     clear ho
     obtain ⟨nb, hnb⟩ : ∃ b, (sg && (k : Int) != 0) = b := ⟨_, rfl⟩
     have HNB := hid hnb
     rw [hnb] at he2
     subst he2
     clear hnb
     go_wp2_with fail
     go_meet
     exact ⟨sg, k, t, HPP, by rw [HNB.out]; exact HV.out.set HCC.out _ _ _⟩
  case rest =>
   obtain ⟨sg, k, t, hp, hv⟩ := hcut
   have hbd := HPB.out _ _ _ hp.out
   have htr := fun nb h w he => HTR.out nb k t hbd.2.1 hbd.1 h w he
   have HTP := hid (fun k' t' h1 h2 h3 => HPT.out sg k t k' t' hp.out h1 h2 h3)
   have HMT := hid hbd.2.2
   obtain ⟨nb, hnb⟩ : ∃ b, (sg && (k : Int) != 0) = b := ⟨_, rfl⟩
   have hnb2 : (nb && (k : Int) != 0) = nb := by rw [← hnb]; cases sg <;> simp
   have htr2 := fun w he => htr nb hnb2 w he
   rw [hnb] at hv
   have HNB := hid hnb
   obtain ⟨K, hK⟩ : ∃ v : Int, (k : Int) = v := ⟨_, rfl⟩
   rw [hK] at hv htr2
   have HT2 := hid htr2
   have HKK := hid hK
   have HV := hid hv.out
   clear hp hv hbd htr htr2 hnb hnb2 hK
   have hk := HV.out.1
   go_upto_region 13 with fail
   go_cut [3] (fun a wx => a = .int .i64 (p : Int) ∧ Hid (Var3 ((((w.alloc (.cells #[.bool dn, .int .i8 ds, .int .u64 DC] 53)).alloc (.cells #[.bool en, .int .i8 es, .int .u64 EC] 53)).alloc (.cells #[.bool fn, .int .i8 fs, .int .u64 FC] 53)).alloc (.cells #[.bool false, .int .i8 0, .int .u64 0] 53)) wx g (.bool nb) (.int .i8 t) (.int .u64 K)))
   case first =>
    have hw6 := (Chg.refl (fun _ => False) wc).drew
    have hk := hk.drew
    first | (go_region_held3 (fun w' => w'.cell? ⟨w.heap.size, 0, none⟩ = some (.bool dn) ∧ w'.cell? ⟨w.heap.size, 1, none⟩ = some (.int .i8 ds) ∧ w'.cell? ⟨w.heap.size, 2, none⟩ = some (.int .u64 DC) ∧ w'.cell? ⟨w.heap.size + 1, 0, none⟩ = some (.bool en) ∧ w'.cell? ⟨w.heap.size + 1, 1, none⟩ = some (.int .i8 es) ∧ w'.cell? ⟨w.heap.size + 1, 2, none⟩ = some (.int .u64 EC) ∧ w'.cell? ⟨w.heap.size + 1 + 1, 0, none⟩ = some (.bool fn) ∧ w'.cell? ⟨w.heap.size + 1 + 1, 1, none⟩ = some (.int .i8 fs) ∧ w'.cell? ⟨w.heap.size + 1 + 1, 2, none⟩ = some (.int .u64 FC)) (first | with_reducible exact HSS.out _ hk) (first | (go_at_call 77; (first | refine (HSD.out _).mono ?_ | refine (HSE.out _).mono ?_ | refine (HSF.out _).mono ?_); intro e w1 h; obtain ⟨he1, hc1⟩ := h; subst he1; replace hk := hk.trans hc1 sb_; replace hw6 := hw6.trans hc1 sb_; clear hc1))) | fail
    all_goals (go_wp2_with fail; go_meet; exact ⟨rfl, HV.out.kept hw6⟩)
   case rest =>
    obtain ⟨g2, hv⟩ := hcut
    subst g2
    clear hk HV
    have HV := hid hv.out
    clear hv
    obtain ⟨d0, d1, d2, e0, e1, e2, f0, f1, f2, r0, r1, r2, q0, q1, q2⟩ := HB.out _ (HV.out.1)
    obtain ⟨k0, k1, k2, l0, l1, l2⟩ := cell3 HV.out.2.2
    go_wp2_with fail
    go_at_call 92
    refine (HT2.out _ (HE0.out.kept HV.out.1).1).mono ?_
    intro e w5 h
    obtain ⟨k', t', he1, ht1, ht2, ht3, hc⟩ := h
    subst he1
    have HV2 := hid (HV.out.kept hc)
    have HEND := hid (And.intro ht1 (And.intro ht2 ht3))
    obtain ⟨K2, hK2⟩ : ∃ v : Int, (k' : Int) = v := ⟨_, rfl⟩
    rw [hK2]
    have HK2 := hid hK2
    have HV3 := hid (HV2.out.set (Chg.refl _ _) (.bool nb) (.int .i8 (t' : Int)) (.int .u64 K2))
    clear hc ht1 ht2 ht3 hK2 d0 d1 d2 e0 e1 e2 f0 f1 f2 r0 r1 r2 q0 q1 q2 k0 k1 k2 l0 l1 l2
    obtain ⟨d0, d1, d2, e0, e1, e2, f0, f1, f2, r0, r1, r2, q0, q1, q2⟩ := HB.out _ (HV2.out.1)
    obtain ⟨k0, k1, k2, l0, l1, l2⟩ := cell3 HV2.out.2.2
    obtain ⟨d0v, d1v, d2v, e0v, e1v, e2v, f0v, f1v, f2v, r0v, r1v, r2v, q0v, q1v, q2v⟩ := HB.out _ (HV3.out.1)
    obtain ⟨k0v, k1v, k2v, l0v, l1v, l2v⟩ := cell3 HV3.out.2.2
    go_wp2_with fail
    refine bodyPost_ret (v := .tuple #[.agg #[.bool nb, .int .i8 (t' : Int), .int .u64 K2], .nilIface]) (dec_result rfl _ _ (w.heap.size + 1 + 1 + 1) _ _ _ _ 53 rfl rfl (store3 (HBX.out _ HV3.out.1) _ _ _)) rfl ⟨sg, some (k', t'), ?_, chg3 (HC0.out.trans HV3.out.1 sb_) (by omega) _ _ _, ?_⟩
    ·have h := HEND.out
     exact HTP.out k' t' (by have h1 := HMP.out; have h2 := HMT.out; omega) h.1 h.2.2
    ·have h := HEND.out.2.2
     have h4 : (sg && (k' : Int) != 0) = nb := by
      rw [← HNB.out, nat_bne, nat_bne]
      congr 1
      by_cases h0 : k' = 0
      ·rw [h0, Nat.zero_mul] at h; rw [h0, h]
      ·have h5 : k ≠ 0 := by rw [h]; exact Nat.mul_ne_zero h0 (by have := pow10_pos (t - t'); omega)
       rw [bne_iff_ne.2 h0, bne_iff_ne.2 h5]
     show _ = Ending.returned (.tuple #[decV (sg && (k' : Int) != 0) (k' : Int) t', .nilIface])
     rw [h4, HK2.out]
     rfl
end Go.Proofs.YtldhfhloinlfaaaGreatDoor
