/- Part 32 of the proof. -/
import Derived.Test.YtmpkgkjnoanlhaaGreatDoorP31
namespace Go.Proofs.YtmpkgkjnoanlhaaGreatDoor
open Go.RowKit
set_option linter.unusedVariables false
set_option linter.unusedSimpArgs false
set_option maxRecDepth 20000
theorem addMulExact_places (dn en fn : Bool) (dc ec fc : Int) (ds es fs : Nat) (m : Int) (hm : m < 0 ∨ 19 < m) (w : World) :
  Calls Tryz.prog 36 #[.agg #[.bool dn, .int .i8 ds, .int .u64 dc], .agg #[.bool en, .int .i8 es, .int .u64 ec], .agg #[.bool fn, .int .i8 fs, .int .u64 fc], .int .i64 m] w (PErrD w) := by
 obtain ⟨HB, HBX, HC0, hk0⟩ := bx4 w dn ds dc en es ec fn fs fc
 obtain ⟨d0, d1, d2, e0, e1, e2, f0, f1, f2, r0, r1, r2, q0, q1, q2⟩ := HB.out _ (hk0)
 by_cases h0 : m < 0
 ·have hb1 : decide (m < 0) = true := decide_eq_true h0
  clear hm
  go_enter Tryz.func36, Tryz.ntmps36
  go_wp2_with (go_at_call 61; refine (errorsNew_any _ _).mono ?_; intro e w3 h; obtain ⟨⟨t3, v3, he3⟩, hc3⟩ := h; subst he3; have HK3 := hid hc3; clear hc3; clear d0 d1 d2 e0 e1 e2 f0 f1 f2 r0 r1 r2 q0 q1 q2; obtain ⟨d0, d1, d2, e0, e1, e2, f0, f1, f2, r0, r1, r2, q0, q1, q2⟩ := HB.out _ (HK3.out))
  refine bodyPost_ret (v := .tuple #[.agg #[.bool false, .int .i8 0, .int .u64 0], .iface t3 v3]) (dec_result rfl _ _ (w.heap.size + 1 + 1 + 1) _ _ _ _ 46 rfl rfl (store3 (HBX.out _ (HK3.out)) _ _ _)) rfl ⟨chg3 (HC0.out.trans (HK3.out) sb_) (by omega) _ _ _, t3, v3, rfl⟩
 ·have hb1 : decide (m < 0) = false := decide_eq_false h0
  have hb2 : decide (19 < m) = true := decide_eq_true (by omega)
  clear hm
  go_enter Tryz.func36, Tryz.ntmps36
  go_wp2_with (go_at_call 61; refine (errorsNew_any _ _).mono ?_; intro e w3 h; obtain ⟨⟨t3, v3, he3⟩, hc3⟩ := h; subst he3; have HK3 := hid hc3; clear hc3; clear d0 d1 d2 e0 e1 e2 f0 f1 f2 r0 r1 r2 q0 q1 q2; obtain ⟨d0, d1, d2, e0, e1, e2, f0, f1, f2, r0, r1, r2, q0, q1, q2⟩ := HB.out _ (HK3.out))
  refine bodyPost_ret (v := .tuple #[.agg #[.bool false, .int .i8 0, .int .u64 0], .iface t3 v3]) (dec_result rfl _ _ (w.heap.size + 1 + 1 + 1) _ _ _ _ 46 rfl rfl (store3 (HBX.out _ (HK3.out)) _ _ _)) rfl ⟨chg3 (HC0.out.trans (HK3.out) sb_) (by omega) _ _ _, t3, v3, rfl⟩
set_option maxHeartbeats 4000000 in
theorem addMulExact_in (dn en fn : Bool) (dc ec fc : Int) (ds es fs : Nat) (m : Nat) (hm : m ≤ 19) (neg : Bool) (C S : Nat) (w : World) (he : EnvD w)
  (hA : ∀ w1, EnvD w1 → Calls Tryz.prog 62 #[.agg #[.bool dn, .int .i8 ds, .int .u64 dc], .agg #[.bool en, .int .i8 es, .int .u64 ec], .agg #[.bool fn, .int .i8 fs, .int .u64 fc], .int .i64 m] w1 (PFE w1 neg C S m))
  (hBi : ∀ w1, EnvD w1 → Calls Tryz.prog 56 #[.agg #[.bool dn, .int .i8 ds, .int .u64 dc], .agg #[.bool en, .int .i8 es, .int .u64 ec], .agg #[.bool fn, .int .i8 fs, .int .u64 fc], .int .i64 m] w1 (PDecN w1 neg (from19 (10 ^ 19) 2 C S m))) :
  Calls Tryz.prog 36 #[.agg #[.bool dn, .int .i8 ds, .int .u64 dc], .agg #[.bool en, .int .i8 es, .int .u64 ec], .agg #[.bool fn, .int .i8 fs, .int .u64 fc], .int .i64 m] w (PDecN w neg (from19 (10 ^ 19) 2 C S m)) := by
 obtain ⟨HB, HBX, HC0, hk0⟩ := bx4 w dn ds dc en es ec fn fs fc
 have HE0 := hid (he.kept HC0.out)
 have HFI := hid (hA _ HE0.out)
 have HBI := hid hBi
 unfold PFE at HFI
 have hb1 : decide ((m : Int) < 0) = false := decide_eq_false (by omega)
 have hb2 : decide ((19 : Int) < (m : Int)) = false := decide_eq_false (by omega)
 generalize from19 (10 ^ 19) 2 C S m = o at *
 obtain ⟨nb, k, t, hnb⟩ : ∃ (nb : Bool) (k : Int) (t : Nat), ∀ k' t', o = some (k', t') → k = k' ∧ t = t' ∧ nb = (neg && (k' : Int) != 0) := by
  cases o with
  | none => exact ⟨false, 0, 0, fun _ _ h => by cases h⟩
  | some kt => exact ⟨neg && (kt.1 : Int) != 0, kt.1, kt.2, fun k' t' h => by cases h; exact ⟨rfl, rfl, rfl⟩⟩
 have HNB := hid hnb
 obtain ⟨d0, d1, d2, e0, e1, e2, f0, f1, f2, r0, r1, r2, q0, q1, q2⟩ := HB.out _ (hk0)
 clear he hA hBi hnb
 go_enter Tryz.func36, Tryz.ntmps36
 go_upto_region 3 with fail
 go_cut [10, 11] from 20 to 27 (fun a b wx => ∃ g : Nat, a = .pointer (some ⟨g, 0, none⟩) ∧ ((b = .nilIface ∧ Hid (∃ kt, o = some kt) ∧ Hid (Var3 ((((w.alloc (.cells #[.bool dn, .int .i8 ds, .int .u64 dc] 46)).alloc (.cells #[.bool en, .int .i8 es, .int .u64 ec] 46)).alloc (.cells #[.bool fn, .int .i8 fs, .int .u64 fc] 46)).alloc (.cells #[.bool false, .int .i8 0, .int .u64 0] 46)) wx g (.bool nb) (.int .i8 t) (.int .u64 k))) ∨ ((∃ et ev, b = .iface et ev) ∧ Hid (Var3 ((((w.alloc (.cells #[.bool dn, .int .i8 ds, .int .u64 dc] 46)).alloc (.cells #[.bool en, .int .i8 es, .int .u64 ec] 46)).alloc (.cells #[.bool fn, .int .i8 fs, .int .u64 fc] 46)).alloc (.cells #[.bool false, .int .i8 0, .int .u64 0] 46)) wx g (.bool false) (.int .i8 0) (.int .u64 0)))))
 case first =>
  go_wp2_with fail
  go_at_call 62
  refine HFI.out.mono ?_
  intro e w1 h
  obtain ⟨hk, h⟩ := h
  have HK := hid hk
  clear hk hk0 d0 d1 d2 e0 e1 e2 f0 f1 f2 r0 r1 r2 q0 q1 q2
  rcases h with ⟨et, ev, he1⟩ | ⟨k', t', ho, he1⟩
  ·subst he1
   unfold decV
   go_wp2_with fail
   go_meet
   exact ⟨w1.heap.size, rfl, .inr ⟨⟨_, _, rfl⟩, Var3.mk' HK.out _ _ _⟩⟩
  ·obtain ⟨z1, z2, z3⟩ := HNB.out _ _ ho
   subst z2
   have he2 : e = .returned (.tuple #[.agg #[.bool nb, .int .i8 t, .int .u64 k], .nilIface]) := by rw [he1, z1, z3]; rfl
   clear he1
   subst he2
   have HO := hid (show ∃ kt, o = some kt from ⟨_, ho⟩)
   clear z1 z3 ho
   go_wp2_with fail
   go_meet
   exact ⟨w1.heap.size, rfl, .inl ⟨rfl, HO, Var3.mk' HK.out _ _ _⟩⟩
 case rest =>
  obtain ⟨g, he1, hcut⟩ := hcut
  subst he1
  rcases hcut with ⟨he2, HO, hv⟩ | ⟨⟨et, ev, he2⟩, hv⟩
  ·subst he2
   have HV := hid hv
   clear hv hk0 d0 d1 d2 e0 e1 e2 f0 f1 f2 r0 r1 r2 q0 q1 q2
   obtain ⟨d0, d1, d2, e0, e1, e2, f0, f1, f2, r0, r1, r2, q0, q1, q2⟩ := HB.out _ (HV.out.out.1)
   obtain ⟨k0, k1, k2, l0, l1, l2⟩ := cell3 HV.out.out.2.2
   go_wp2_with fail
   refine bodyPost_ret (v := .tuple #[.agg #[.bool nb, .int .i8 t, .int .u64 k], .nilIface]) (dec_result rfl _ _ (w.heap.size + 1 + 1 + 1) _ _ _ _ 46 rfl rfl (store3 (HBX.out _ HV.out.out.1) _ _ _)) rfl ⟨chg3 (HC0.out.trans HV.out.out.1 sb_) (by omega) _ _ _, ?_⟩
   obtain ⟨⟨k', t'⟩, ho⟩ := HO.out
   obtain ⟨rfl, rfl, rfl⟩ := HNB.out _ _ ho
   rw [ho]
   rfl
  ·subst he2
   have HV := hid hv
   clear hv hk0 d0 d1 d2 e0 e1 e2 f0 f1 f2 r0 r1 r2 q0 q1 q2
   obtain ⟨d0, d1, d2, e0, e1, e2, f0, f1, f2, r0, r1, r2, q0, q1, q2⟩ := HB.out _ (HV.out.out.1)
   obtain ⟨k0, k1, k2, l0, l1, l2⟩ := cell3 HV.out.out.2.2
   go_upto_region 5 with fail
   go_cut [10, 11] from 30 to 37 (fun a b wx => a = .pointer (some ⟨g, 0, none⟩) ∧ ((b = .nilIface ∧ Hid (∃ kt, o = some kt) ∧ Hid (Var3 ((((w.alloc (.cells #[.bool dn, .int .i8 ds, .int .u64 dc] 46)).alloc (.cells #[.bool en, .int .i8 es, .int .u64 ec] 46)).alloc (.cells #[.bool fn, .int .i8 fs, .int .u64 fc] 46)).alloc (.cells #[.bool false, .int .i8 0, .int .u64 0] 46)) wx g (.bool nb) (.int .i8 t) (.int .u64 k))) ∨ ((∃ et ev, b = .iface et ev) ∧ Hid (o = none) ∧ Hid (Var3 ((((w.alloc (.cells #[.bool dn, .int .i8 ds, .int .u64 dc] 46)).alloc (.cells #[.bool en, .int .i8 es, .int .u64 ec] 46)).alloc (.cells #[.bool fn, .int .i8 fs, .int .u64 fc] 46)).alloc (.cells #[.bool false, .int .i8 0, .int .u64 0] 46)) wx g (.bool false) (.int .i8 0) (.int .u64 0)))))
   case first =>
    go_wp2_with fail
    go_at_call 56
    refine (HBI.out _ (HE0.out.kept HV.out.out.1)).mono ?_
    intro e w1 h
    obtain ⟨hk, h⟩ := h
    have HK := hid hk
    clear hk d0 d1 d2 e0 e1 e2 f0 f1 f2 r0 r1 r2 q0 q1 q2 k0 k1 k2 l0 l1 l2
    obtain ⟨k0, k1, k2, l0, l1, l2⟩ := cell3 (HV.out.out.kept HK.out).2.2
    cases ho : o with
    | none =>
     rw [ho] at h
     obtain ⟨t2, v2, he1⟩ := h
     subst he1
     have HO := hid ho
     clear ho
     unfold decV
     go_wp2_with fail
     go_meet
     exact ⟨rfl, .inr ⟨⟨_, _, rfl⟩, HO, HV.out.out.set HK.out _ _ _⟩⟩
    | some kt =>
     obtain ⟨k', t'⟩ := kt
     rw [ho] at h
     obtain ⟨z1, z2, z3⟩ := HNB.out _ _ ho
     subst z2
     have he2 : e = .returned (.tuple #[.agg #[.bool nb, .int .i8 t, .int .u64 k], .nilIface]) := by
      have he1 : e = .returned (.tuple #[decV (neg && (k' : Int) != 0) k' t, .nilIface]) := h
      rw [he1, z1, z3]; rfl
     clear h
     subst he2
     have HO := hid (show ∃ kt, o = some kt from ⟨_, ho⟩)
     clear z1 z3 ho
     go_wp2_with fail
     go_meet
     exact ⟨rfl, .inl ⟨rfl, HO, HV.out.out.set HK.out _ _ _⟩⟩
   case rest =>
    obtain ⟨he1, hcut⟩ := hcut
    subst he1
    clear d0 d1 d2 e0 e1 e2 f0 f1 f2 r0 r1 r2 q0 q1 q2 k0 k1 k2 l0 l1 l2
    rcases hcut with ⟨he2, HO, hv⟩ | ⟨⟨et2, ev2, he2⟩, HO, hv⟩
    ·subst he2
     have HV2 := hid hv
     clear hv HV
     obtain ⟨d0, d1, d2, e0, e1, e2, f0, f1, f2, r0, r1, r2, q0, q1, q2⟩ := HB.out _ (HV2.out.out.1)
     obtain ⟨k0, k1, k2, l0, l1, l2⟩ := cell3 HV2.out.out.2.2
     go_wp2_with fail
     refine bodyPost_ret (v := .tuple #[.agg #[.bool nb, .int .i8 t, .int .u64 k], .nilIface]) (dec_result rfl _ _ (w.heap.size + 1 + 1 + 1) _ _ _ _ 46 rfl rfl (store3 (HBX.out _ HV2.out.out.1) _ _ _)) rfl ⟨chg3 (HC0.out.trans HV2.out.out.1 sb_) (by omega) _ _ _, ?_⟩
     obtain ⟨⟨k', t'⟩, ho⟩ := HO.out
     obtain ⟨rfl, rfl, rfl⟩ := HNB.out _ _ ho
     rw [ho]
     rfl
    ·subst he2
     have HV2 := hid hv
     clear hv HV
     obtain ⟨d0, d1, d2, e0, e1, e2, f0, f1, f2, r0, r1, r2, q0, q1, q2⟩ := HB.out _ (HV2.out.out.1)
     obtain ⟨k0, k1, k2, l0, l1, l2⟩ := cell3 HV2.out.out.2.2
     go_wp2_with (go_at_call 61; refine (errorsNew_any _ _).mono ?_; intro e w3 h; obtain ⟨⟨t3, v3, he3⟩, hc3⟩ := h; subst he3; have HK3 := hid hc3; clear hc3; clear d0 d1 d2 e0 e1 e2 f0 f1 f2 r0 r1 r2 q0 q1 q2 k0 k1 k2 l0 l1 l2; obtain ⟨d0, d1, d2, e0, e1, e2, f0, f1, f2, r0, r1, r2, q0, q1, q2⟩ := HB.out _ ((HV2.out.out.kept HK3.out).1))
     rw [HO.out]
     refine bodyPost_ret (v := .tuple #[.agg #[.bool false, .int .i8 0, .int .u64 0], .iface t3 v3]) (dec_result rfl _ _ (w.heap.size + 1 + 1 + 1) _ _ _ _ 46 rfl rfl (store3 (HBX.out _ ((HV2.out.out.kept HK3.out).1)) _ _ _)) rfl ⟨chg3 (HC0.out.trans ((HV2.out.out.kept HK3.out).1) (fun _ _ h => h)) (by omega) _ _ _, t3, v3, rfl⟩
def PMul (w : World) (neg : Bool) (C S : Nat) (m : Int) (e : Ending) (w' : World) : Prop := if m < 0 ∨ 19 < m then PErrD w e w' else PDecN w neg (from19 (10 ^ 19) 2 C S m.toNat) e w'
theorem PMul.op {w w' : World} {neg : Bool} {C S : Nat} {m : Int} {e : Ending} (h : PMul w neg C S m e w') :
  ∃ (a : Bool) (b c : Int) (v : Value), e = .returned (.tuple #[.agg #[.bool a, .int .i8 b, .int .u64 c], v]) ∧ Chg (fun _ => False) w w' ∧ PMul w neg C S m (.returned (.tuple #[.agg #[.bool a, .int .i8 b, .int .u64 c], v])) w' := by
 by_cases hm : m < 0 ∨ 19 < m
 ·have h2 := h
  unfold PMul at h2
  rw [if_pos hm] at h2
  obtain ⟨hc, t, v, rfl⟩ := h2
  exact ⟨_, _, _, _, rfl, hc, h⟩
 ·have h2 := h
  unfold PMul at h2
  rw [if_neg hm] at h2
  obtain ⟨a, b, c, v, rfl, hc, _⟩ := h2.op
  exact ⟨_, _, _, _, rfl, hc, h⟩
theorem PMul.move {w w1 w' w'' : World} {neg : Bool} {C S : Nat} {m : Int} {e : Ending} (h : PMul w1 neg C S m e w'') (c : Chg (fun _ => False) w w') : PMul w neg C S m e w' := by
 unfold PMul at *
 split
 ·next k => rw [if_pos k] at h; exact ⟨c, h.2⟩
 ·next k => rw [if_neg k] at h; exact h.move c
theorem AddMulExact_all (dn en fn xn : Bool) (dc ec fc ds es fs : Nat) (m : Int) (hdc : dc < 10 ^ 19) (hec : ec < 10 ^ 19) (hfc : fc < 10 ^ 19) (hds : ds ≤ 19) (hes : es ≤ 19) (hfs : fs ≤ 19) (hx : (!(en == fn)) = xn) (w : World) (he : EnvD w) :
  Calls Tryz.prog 36 #[.agg #[.bool dn, .int .i8 ds, .int .u64 (dc : Int)], .agg #[.bool en, .int .i8 es, .int .u64 (ec : Int)], .agg #[.bool fn, .int .i8 fs, .int .u64 (fc : Int)], .int .i64 m] w
   (PMul w (sumD dn dc ds xn (ec * fc) (es + fs)).1 (sumD dn dc ds xn (ec * fc) (es + fs)).2 (mxp ds (es + fs)) m) := by
 by_cases hm : m < 0 ∨ 19 < m
 ·exact (addMulExact_places dn en fn dc ec fc ds es fs m hm w).mono (fun e w' h => by unfold PMul; rw [if_pos hm]; exact h)
 ·obtain ⟨k, rfl⟩ : ∃ k : Nat, m = k := ⟨m.toNat, by omega⟩
  refine (addMulExact_in dn en fn dc ec fc ds es fs k (by omega) _ _ _ w he (fun w1 he1 => addMulFint_any dn en fn xn dc ec fc ds es fs k hdc hec hfc hds hes hfs (by omega) hx w1 he1) (fun w1 he1 => addMulBint_any dn en fn xn dc ec fc ds es fs k hdc hec hfc hds hes hfs (by omega) hx w1 he1)).mono (fun e w' h => ?_)
  unfold PMul
  rw [if_neg hm, Int.toNat_natCast]
  exact h
set_option maxHeartbeats 2000000 in
theorem SubMulExact_all (dn en fn e2 xn : Bool) (dc ec fc ds es fs : Nat) (m : Int) (hdc : dc < 10 ^ 19) (hec : ec < 10 ^ 19) (hfc : fc < 10 ^ 19) (hds : ds ≤ 19) (hes : es ≤ 19) (hfs : fs ≤ 19) (he2 : (!en && (ec : Int) != 0) = e2) (hx : (!(e2 == fn)) = xn) (w : World) (he : EnvD w) :
  Calls Tryz.prog 38 #[.agg #[.bool dn, .int .i8 ds, .int .u64 (dc : Int)], .agg #[.bool en, .int .i8 es, .int .u64 (ec : Int)], .agg #[.bool fn, .int .i8 fs, .int .u64 (fc : Int)], .int .i64 m] w
   (PMul w (sumD dn dc ds xn (ec * fc) (es + fs)).1 (sumD dn dc ds xn (ec * fc) (es + fs)).2 (mxp ds (es + fs)) m) := by
 have HN := hid (fun w => Neg_any en (ec : Int) es (fiN hec) hes w)
 rw [he2] at HN
 have HA := hid (fun w1 (he : EnvD w1) => AddMulExact_all dn e2 fn xn dc ec fc ds es fs m hdc hec hfc hds hes hfs hx w1 he)
 have HE := hid he
 generalize (sumD dn dc ds xn (ec * fc) (es + fs)).1 = neg at *
 generalize (sumD dn dc ds xn (ec * fc) (es + fs)).2 = C at *
 generalize mxp ds (es + fs) = S at *
 obtain ⟨DC, hDC⟩ : ∃ v : Int, (dc : Int) = v := ⟨_, rfl⟩
 obtain ⟨EC, hEC⟩ : ∃ v : Int, (ec : Int) = v := ⟨_, rfl⟩
 obtain ⟨FC, hFC⟩ : ∃ v : Int, (fc : Int) = v := ⟨_, rfl⟩
 rw [hDC, hEC, hFC] at HA
 rw [hEC] at HN
 rw [hDC, hEC, hFC]
 clear hdc hec hfc hds hes hfs he he2 hx hDC hEC hFC
 obtain ⟨HC0, HD, hB0, hB1, hB2, hB3⟩ := box4 w #[.bool dn, .int .i8 ds, .int .u64 DC] 46 #[.bool en, .int .i8 es, .int .u64 EC] 46 #[.bool fn, .int .i8 fs, .int .u64 FC] 46 #[.bool false, .int .i8 0, .int .u64 0] 46
 have HZ := hid hB3
 have HSS := hid (fun (w1 : World) h => And.intro ((cell3 (kept_heap (w' := w1) h hB0)).1) (And.intro ((cell3 (kept_heap (w' := w1) h hB0)).2.1) (And.intro ((cell3 (kept_heap (w' := w1) h hB0)).2.2.1) (And.intro ((cell3 (kept_heap (w' := w1) h hB1)).1) (And.intro ((cell3 (kept_heap (w' := w1) h hB1)).2.1) (And.intro ((cell3 (kept_heap (w' := w1) h hB1)).2.2.1) (And.intro ((cell3 (kept_heap (w' := w1) h hB2)).1) (And.intro ((cell3 (kept_heap (w' := w1) h hB2)).2.1) ((cell3 (kept_heap (w' := w1) h hB2)).2.2.1)))))))))
 have HST := hid (fun w1 x0 x1 x2 h => And.intro (far3 (z := w.heap.size + 1 + 1 + 1) (x0 := x0) (x1 := x1) (x2 := x2) (HSS.out w1 h).1 (by omega)) (And.intro (far3 (z := w.heap.size + 1 + 1 + 1) (x0 := x0) (x1 := x1) (x2 := x2) (HSS.out w1 h).2.1 (by omega)) (And.intro (far3 (z := w.heap.size + 1 + 1 + 1) (x0 := x0) (x1 := x1) (x2 := x2) (HSS.out w1 h).2.2.1 (by omega)) (And.intro (far3 (z := w.heap.size + 1 + 1 + 1) (x0 := x0) (x1 := x1) (x2 := x2) (HSS.out w1 h).2.2.2.1 (by omega)) (And.intro (far3 (z := w.heap.size + 1 + 1 + 1) (x0 := x0) (x1 := x1) (x2 := x2) (HSS.out w1 h).2.2.2.2.1 (by omega)) (And.intro (far3 (z := w.heap.size + 1 + 1 + 1) (x0 := x0) (x1 := x1) (x2 := x2) (HSS.out w1 h).2.2.2.2.2.1 (by omega)) (And.intro (far3 (z := w.heap.size + 1 + 1 + 1) (x0 := x0) (x1 := x1) (x2 := x2) (HSS.out w1 h).2.2.2.2.2.2.1 (by omega)) (And.intro (far3 (z := w.heap.size + 1 + 1 + 1) (x0 := x0) (x1 := x1) (x2 := x2) (HSS.out w1 h).2.2.2.2.2.2.2.1 (by omega)) (far3 (z := w.heap.size + 1 + 1 + 1) (x0 := x0) (x1 := x1) (x2 := x2) (HSS.out w1 h).2.2.2.2.2.2.2.2 (by omega))))))))))
 clear hB0 hB1 hB2 hB3
 have hk := HD.out
 go_enter Tryz.func38, Tryz.ntmps38
 go_wp2_with fail
 first | (go_region_held3 (fun w' => w'.cell? ⟨w.heap.size, 0, none⟩ = some (.bool dn) ∧ w'.cell? ⟨w.heap.size, 1, none⟩ = some (.int .i8 ds) ∧ w'.cell? ⟨w.heap.size, 2, none⟩ = some (.int .u64 DC) ∧ w'.cell? ⟨w.heap.size + 1, 0, none⟩ = some (.bool en) ∧ w'.cell? ⟨w.heap.size + 1, 1, none⟩ = some (.int .i8 es) ∧ w'.cell? ⟨w.heap.size + 1, 2, none⟩ = some (.int .u64 EC) ∧ w'.cell? ⟨w.heap.size + 1 + 1, 0, none⟩ = some (.bool fn) ∧ w'.cell? ⟨w.heap.size + 1 + 1, 1, none⟩ = some (.int .i8 fs) ∧ w'.cell? ⟨w.heap.size + 1 + 1, 2, none⟩ = some (.int .u64 FC)) (first | with_reducible exact HSS.out _ hk | with_reducible exact HST.out _ _ _ _ hk | go_keep) (first | (go_at_call 41; refine (HN.out _).mono ?_; intro e w1 h; obtain ⟨he, hc⟩ := h; subst he; replace hk := hk.trans hc sb_; skip; skip; clear hc; obtain ⟨k0, k1, k2, f0, f1, f2⟩ := cell3 (kept_heap hk HZ.out)) | (go_at_call 36; refine (HA.out _ (HE.out.kept (HC0.out.trans hk sb_))).mono ?_; intro e w1 h; obtain ⟨na, nb, nc, nv, he, hc, hp⟩ := h.op; subst he; replace hk := hk.trans hc sb_; skip; have HP := hid hp; clear hp; clear hc; obtain ⟨k0, k1, k2, f0, f1, f2⟩ := cell3 (kept_heap hk HZ.out)))) | fail
 all_goals (go_wp2_with fail; refine bodyPost_ret (v := .tuple #[.agg #[.bool na, .int .i8 nb, .int .u64 nc], nv]) (dec_result rfl _ _ (w.heap.size + 1 + 1 + 1) _ _ _ _ 46 rfl rfl (store3 (kept_heap hk HZ.out) _ _ _)) rfl (HP.out.move (chg3 (HC0.out.trans hk sb_) (by omega) _ _ _)))
end Go.Proofs.YtmpkgkjnoanlhaaGreatDoor
