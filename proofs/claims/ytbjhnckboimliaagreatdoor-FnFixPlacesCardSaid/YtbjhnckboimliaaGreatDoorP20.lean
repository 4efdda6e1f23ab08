/- Part 20 of the proof. -/
import Derived.Test.YtbjhnckboimliaaGreatDoorP19
namespace Go.Proofs.YtbjhnckboimliaaGreatDoor
open Go.RowKit
set_option linter.unusedVariables false
set_option linter.unusedSimpArgs false
set_option maxRecDepth 20000
set_option maxHeartbeats 2000000 in
theorem addFint_lt_err (dn en : Bool) (dc ec : Int) (ds es m : Nat) (hdc : Fi dc) (hec : Fi ec) (hds : ds ≤ 19) (hes : es ≤ 19) (hm : m ≤ 19) (w : World) (he : EnvD w) (neg : Bool) (hlt : ds < es) (hX : ¬ dc * 10 ^ (es - ds) ≤ 9999999999999999999) :
  Calls Tryz.prog 86 #[.agg #[.bool dn, .int .i8 ds, .int .u64 dc], .agg #[.bool en, .int .i8 es, .int .u64 ec], .int .i64 m] w (PDec w neg none) := by
 have c1 : ¬ (es : Int) < (ds : Int) := by omega
 have c2 : (ds : Int) < (es : Int) := by omega
 have hw : IntKind.i64.wrap ((es : Int) - (ds : Int)) = ((es - ds : Nat) : Int) := by rw [show (es : Int) - (ds : Int) = ((es - ds : Nat) : Int) by omega]; exact IntWalk.i64_in _ (by omega)
 have hl := fun w ht => fint_lsh dc (es - ds) hdc (by omega) w ht
 have hX0 := Int.mul_nonneg hdc.1 (Int.le_of_lt (p10_pos (es - ds)))
 simp only [if_neg hX, decide_eq_false hX] at hl
 clear hX
 have HL := hid hl
 clear hl
 have HSD := hid (fun w => Scale_any dn dc ds hds w)
 have HSE := hid (fun w => Scale_any en ec es hes w)
 have HND := hid (fun w => IsNeg_any dn dc ds w)
 have HNE := hid (fun w => IsNeg_any en ec es w)
 have HBS := hid (Bx.start w dn ds dc en es ec)
 have HB := hid (fun w1 (h : Chg (fun _ => False) (((w.alloc (.cells #[.bool dn, .int .i8 ds, .int .u64 dc] 55)).alloc (.cells #[.bool en, .int .i8 es, .int .u64 ec] 55)).alloc (.cells #[.bool false, .int .i8 0, .int .u64 0] 55)) w1) => (HBS.out.kept h).facts)
 have HBX := hid (fun w1 (h : Chg (fun _ => False) (((w.alloc (.cells #[.bool dn, .int .i8 ds, .int .u64 dc] 55)).alloc (.cells #[.bool en, .int .i8 es, .int .u64 ec] 55)).alloc (.cells #[.bool false, .int .i8 0, .int .u64 0] 55)) w1) => (HBS.out.kept h).h2)
 have HC0 := hid (start3 w (.cells #[.bool dn, .int .i8 ds, .int .u64 dc] 55) (.cells #[.bool en, .int .i8 es, .int .u64 ec] 55) (.cells #[.bool false, .int .i8 0, .int .u64 0] 55))
 have hk := Chg.refl (fun _ => False) (((w.alloc (.cells #[.bool dn, .int .i8 ds, .int .u64 dc] 55)).alloc (.cells #[.bool en, .int .i8 es, .int .u64 ec] 55)).alloc (.cells #[.bool false, .int .i8 0, .int .u64 0] 55))
 have HT := hid (fun w1 (h : Chg (fun _ => False) (((w.alloc (.cells #[.bool dn, .int .i8 ds, .int .u64 dc] 55)).alloc (.cells #[.bool en, .int .i8 es, .int .u64 ec] 55)).alloc (.cells #[.bool false, .int .i8 0, .int .u64 0] 55)) w1) => ((he.kept HC0.out).kept h))
 obtain ⟨t, v, HOV⟩ : ∃ t v, Hid (∀ w1, Chg (fun _ => False) (((w.alloc (.cells #[.bool dn, .int .i8 ds, .int .u64 dc] 55)).alloc (.cells #[.bool en, .int .i8 es, .int .u64 ec] 55)).alloc (.cells #[.bool false, .int .i8 0, .int .u64 0] 55)) w1 → w1.cell? ⟨0, 0, none⟩ = some (.iface t v)) := by
  obtain ⟨t, v, h⟩ := (he.kept HC0.out).ovf
  exact ⟨t, v, hid (fun w1 hc => cell_kept h hc (fun h => h))⟩
 obtain ⟨d0, d1, d2, e0, e1, e2, r0, r1, r2, q0, q1, q2⟩ := HB.out _ hk
 have ov := HOV.out _ hk
 generalize hj : es - ds = j at *
 clear hj
 obtain ⟨hdc0, hdc1⟩ := hdc
 obtain ⟨hec0, hec1⟩ := hec
 clear he HBS
 go_enter Tryz.func86, Tryz.ntmps86
 go_wp2_with (first | (go_at_call 66; first | (refine (HSD.out _).mono ?_; intro e w1 h; obtain ⟨he1, hc1⟩ := h; subst he1; replace hk := hk.trans hc1 sb_; clear hc1 d0 d1 d2 e0 e1 e2 r0 r1 r2 q0 q1 q2 ov; obtain ⟨d0, d1, d2, e0, e1, e2, r0, r1, r2, q0, q1, q2⟩ := HB.out _ hk; have ov := HOV.out _ hk) | (refine (HSE.out _).mono ?_; intro e w1 h; obtain ⟨he1, hc1⟩ := h; subst he1; replace hk := hk.trans hc1 sb_; clear hc1 d0 d1 d2 e0 e1 e2 r0 r1 r2 q0 q1 q2 ov; obtain ⟨d0, d1, d2, e0, e1, e2, r0, r1, r2, q0, q1, q2⟩ := HB.out _ hk; have ov := HOV.out _ hk)) | (go_at_call 64; first | (refine (HND.out _).mono ?_; intro e w1 h; obtain ⟨he1, hc1⟩ := h; subst he1; replace hk := hk.trans hc1 sb_; clear hc1 d0 d1 d2 e0 e1 e2 r0 r1 r2 q0 q1 q2 ov; obtain ⟨d0, d1, d2, e0, e1, e2, r0, r1, r2, q0, q1, q2⟩ := HB.out _ hk; have ov := HOV.out _ hk) | (refine (HNE.out _).mono ?_; intro e w1 h; obtain ⟨he1, hc1⟩ := h; subst he1; replace hk := hk.trans hc1 sb_; clear hc1 d0 d1 d2 e0 e1 e2 r0 r1 r2 q0 q1 q2 ov; obtain ⟨d0, d1, d2, e0, e1, e2, r0, r1, r2, q0, q1, q2⟩ := HB.out _ hk; have ov := HOV.out _ hk)) | (go_at_call 94; refine (HL.out _ (HT.out _ hk).env.tab).mono ?_; intro e w2 h; obtain ⟨he1, he2⟩ := h; subst he1; subst he2))
 go_region
 all_goals (go_wp2_with fail; refine bodyPost_ret (v := .tuple #[.agg #[.bool false, .int .i8 0, .int .u64 0], .iface t v]) (dec_result rfl _ _ (w.heap.size + 1 + 1) _ _ _ _ 55 rfl rfl (store3 (HBX.out _ hk) _ _ _)) rfl ⟨(chg3 (HC0.out.trans hk sb_) (by omega) _ _ _).drew, t, v, rfl⟩)
set_option maxHeartbeats 2000000 in
theorem addFint_lt_same (dn en : Bool) (dc ec : Int) (ds es m : Nat) (hdc : Fi dc) (hec : Fi ec) (hds : ds ≤ 19) (hes : es ≤ 19) (hm : m ≤ 19) (w : World) (he : EnvD w) (hlt : ds < es) (X : Int) (hX : dc * 10 ^ (es - ds) = X) (hXM : X ≤ 9999999999999999999) (hs : (dn == en) = true) (C : Int) (hC : X + ec = C) (hCM : C ≤ 9999999999999999999) :
  Calls Tryz.prog 86 #[.agg #[.bool dn, .int .i8 ds, .int .u64 dc], .agg #[.bool en, .int .i8 es, .int .u64 ec], .int .i64 m] w (PDec w dn (fromFint C es m)) := by
 have c1 : ¬ (es : Int) < (ds : Int) := by omega
 have c2 : (ds : Int) < (es : Int) := by omega
 have hw : IntKind.i64.wrap ((es : Int) - (ds : Int)) = ((es - ds : Nat) : Int) := by rw [show (es : Int) - (ds : Int) = ((es - ds : Nat) : Int) by omega]; exact IntWalk.i64_in _ (by omega)
 have hl := fun w ht => fint_lsh dc (es - ds) hdc (by omega) w ht
 have hX0 := Int.mul_nonneg hdc.1 (Int.le_of_lt (p10_pos (es - ds)))
 rw [hX] at hX0
 simp only [hX, if_pos hXM, decide_eq_true hXM] at hl
 have hXF : Fi X := ⟨hX0, hXM⟩
 clear hX
 have HL := hid hl
 clear hl
 have ha := fun w => fint_add X ec hXF hec w
 simp only [hC, if_pos hCM, decide_eq_true hCM] at ha
 have hCF : Fi C := ⟨by rw [← hC]; exact Int.add_nonneg hXF.1 hec.1, hCM⟩
 clear hC
 have HA := hid ha
 clear ha
 have hff := fun w he => newFromFint_any dn C es m hCF hes hm w he
 have hS19 := hds
 generalize fromFint C es m = o at *
 have HF := hid hff
 obtain ⟨hC0, hC1⟩ := hCF
 clear hff
 have HSD := hid (fun w => Scale_any dn dc ds hds w)
 have HSE := hid (fun w => Scale_any en ec es hes w)
 have HND := hid (fun w => IsNeg_any dn dc ds w)
 have HNE := hid (fun w => IsNeg_any en ec es w)
 have HBS := hid (Bx.start w dn ds dc en es ec)
 have HB := hid (fun w1 (h : Chg (fun _ => False) (((w.alloc (.cells #[.bool dn, .int .i8 ds, .int .u64 dc] 55)).alloc (.cells #[.bool en, .int .i8 es, .int .u64 ec] 55)).alloc (.cells #[.bool false, .int .i8 0, .int .u64 0] 55)) w1) => (HBS.out.kept h).facts)
 have HBX := hid (fun w1 (h : Chg (fun _ => False) (((w.alloc (.cells #[.bool dn, .int .i8 ds, .int .u64 dc] 55)).alloc (.cells #[.bool en, .int .i8 es, .int .u64 ec] 55)).alloc (.cells #[.bool false, .int .i8 0, .int .u64 0] 55)) w1) => (HBS.out.kept h).h2)
 have HC0 := hid (start3 w (.cells #[.bool dn, .int .i8 ds, .int .u64 dc] 55) (.cells #[.bool en, .int .i8 es, .int .u64 ec] 55) (.cells #[.bool false, .int .i8 0, .int .u64 0] 55))
 have hk := Chg.refl (fun _ => False) (((w.alloc (.cells #[.bool dn, .int .i8 ds, .int .u64 dc] 55)).alloc (.cells #[.bool en, .int .i8 es, .int .u64 ec] 55)).alloc (.cells #[.bool false, .int .i8 0, .int .u64 0] 55))
 have HT := hid (fun w1 (h : Chg (fun _ => False) (((w.alloc (.cells #[.bool dn, .int .i8 ds, .int .u64 dc] 55)).alloc (.cells #[.bool en, .int .i8 es, .int .u64 ec] 55)).alloc (.cells #[.bool false, .int .i8 0, .int .u64 0] 55)) w1) => ((he.kept HC0.out).kept h))
 obtain ⟨t, v, HOV⟩ : ∃ t v, Hid (∀ w1, Chg (fun _ => False) (((w.alloc (.cells #[.bool dn, .int .i8 ds, .int .u64 dc] 55)).alloc (.cells #[.bool en, .int .i8 es, .int .u64 ec] 55)).alloc (.cells #[.bool false, .int .i8 0, .int .u64 0] 55)) w1 → w1.cell? ⟨0, 0, none⟩ = some (.iface t v)) := by
  obtain ⟨t, v, h⟩ := (he.kept HC0.out).ovf
  exact ⟨t, v, hid (fun w1 hc => cell_kept h hc (fun h => h))⟩
 obtain ⟨d0, d1, d2, e0, e1, e2, r0, r1, r2, q0, q1, q2⟩ := HB.out _ hk
 have ov := HOV.out _ hk
 generalize hj : es - ds = j at *
 clear hj
 obtain ⟨hX0, hX1⟩ := hXF
 obtain ⟨hdc0, hdc1⟩ := hdc
 obtain ⟨hec0, hec1⟩ := hec
 clear he HBS
 go_enter Tryz.func86, Tryz.ntmps86
 go_wp2_with (first | (go_at_call 66; first | (refine (HSD.out _).mono ?_; intro e w1 h; obtain ⟨he1, hc1⟩ := h; subst he1; replace hk := hk.trans hc1 sb_; clear hc1 d0 d1 d2 e0 e1 e2 r0 r1 r2 q0 q1 q2 ov; obtain ⟨d0, d1, d2, e0, e1, e2, r0, r1, r2, q0, q1, q2⟩ := HB.out _ hk; have ov := HOV.out _ hk) | (refine (HSE.out _).mono ?_; intro e w1 h; obtain ⟨he1, hc1⟩ := h; subst he1; replace hk := hk.trans hc1 sb_; clear hc1 d0 d1 d2 e0 e1 e2 r0 r1 r2 q0 q1 q2 ov; obtain ⟨d0, d1, d2, e0, e1, e2, r0, r1, r2, q0, q1, q2⟩ := HB.out _ hk; have ov := HOV.out _ hk)) | (go_at_call 64; first | (refine (HND.out _).mono ?_; intro e w1 h; obtain ⟨he1, hc1⟩ := h; subst he1; replace hk := hk.trans hc1 sb_; clear hc1 d0 d1 d2 e0 e1 e2 r0 r1 r2 q0 q1 q2 ov; obtain ⟨d0, d1, d2, e0, e1, e2, r0, r1, r2, q0, q1, q2⟩ := HB.out _ hk; have ov := HOV.out _ hk) | (refine (HNE.out _).mono ?_; intro e w1 h; obtain ⟨he1, hc1⟩ := h; subst he1; replace hk := hk.trans hc1 sb_; clear hc1 d0 d1 d2 e0 e1 e2 r0 r1 r2 q0 q1 q2 ov; obtain ⟨d0, d1, d2, e0, e1, e2, r0, r1, r2, q0, q1, q2⟩ := HB.out _ hk; have ov := HOV.out _ hk)) | (go_at_call 94; refine (HL.out _ (HT.out _ hk).env.tab).mono ?_; intro e w2 h; obtain ⟨he1, he2⟩ := h; subst he1; subst he2) | (go_at_call 95; refine (HA.out _).mono ?_; intro e w2 h; obtain ⟨he1, he2⟩ := h; subst he1; subst he2) | (go_at_call 97; refine (HF.out _ (HT.out _ hk)).mono ?_; intro e w1 h; obtain ⟨na, nb, nc, nv, he1, hc1, hp⟩ := h.op; subst he1; replace hk := hk.trans hc1 sb_; clear h hc1 d0 d1 d2 e0 e1 e2 r0 r1 r2 q0 q1 q2 ov; obtain ⟨d0, d1, d2, e0, e1, e2, r0, r1, r2, q0, q1, q2⟩ := HB.out _ hk; have HP := hid hp; clear hp))
 refine bodyPost_ret (v := .tuple #[.agg #[.bool na, .int .i8 nb, .int .u64 nc], nv]) (dec_result rfl _ _ (w.heap.size + 1 + 1) _ _ _ _ 55 rfl rfl (store3 (HBX.out _ hk) _ _ _)) rfl (HP.out.move (chg3 (HC0.out.trans hk sb_) (by omega) _ _ _))
set_option maxHeartbeats 2000000 in
theorem addFint_lt_ovf (dn en : Bool) (dc ec : Int) (ds es m : Nat) (hdc : Fi dc) (hec : Fi ec) (hds : ds ≤ 19) (hes : es ≤ 19) (hm : m ≤ 19) (w : World) (he : EnvD w) (neg : Bool) (hlt : ds < es) (X : Int) (hX : dc * 10 ^ (es - ds) = X) (hXM : X ≤ 9999999999999999999) (hs : (dn == en) = true) (hC : ¬ X + ec ≤ 9999999999999999999) :
  Calls Tryz.prog 86 #[.agg #[.bool dn, .int .i8 ds, .int .u64 dc], .agg #[.bool en, .int .i8 es, .int .u64 ec], .int .i64 m] w (PDec w neg none) := by
 have c1 : ¬ (es : Int) < (ds : Int) := by omega
 have c2 : (ds : Int) < (es : Int) := by omega
 have hw : IntKind.i64.wrap ((es : Int) - (ds : Int)) = ((es - ds : Nat) : Int) := by rw [show (es : Int) - (ds : Int) = ((es - ds : Nat) : Int) by omega]; exact IntWalk.i64_in _ (by omega)
 have hl := fun w ht => fint_lsh dc (es - ds) hdc (by omega) w ht
 have hX0 := Int.mul_nonneg hdc.1 (Int.le_of_lt (p10_pos (es - ds)))
 rw [hX] at hX0
 simp only [hX, if_pos hXM, decide_eq_true hXM] at hl
 have hXF : Fi X := ⟨hX0, hXM⟩
 clear hX
 have HL := hid hl
 clear hl
 have ha := fun w => fint_add X ec hXF hec w
 simp only [if_neg hC, decide_eq_false hC] at ha
 clear hC
 have HA := hid ha
 clear ha
 have HSD := hid (fun w => Scale_any dn dc ds hds w)
 have HSE := hid (fun w => Scale_any en ec es hes w)
 have HND := hid (fun w => IsNeg_any dn dc ds w)
 have HNE := hid (fun w => IsNeg_any en ec es w)
 have HBS := hid (Bx.start w dn ds dc en es ec)
 have HB := hid (fun w1 (h : Chg (fun _ => False) (((w.alloc (.cells #[.bool dn, .int .i8 ds, .int .u64 dc] 55)).alloc (.cells #[.bool en, .int .i8 es, .int .u64 ec] 55)).alloc (.cells #[.bool false, .int .i8 0, .int .u64 0] 55)) w1) => (HBS.out.kept h).facts)
 have HBX := hid (fun w1 (h : Chg (fun _ => False) (((w.alloc (.cells #[.bool dn, .int .i8 ds, .int .u64 dc] 55)).alloc (.cells #[.bool en, .int .i8 es, .int .u64 ec] 55)).alloc (.cells #[.bool false, .int .i8 0, .int .u64 0] 55)) w1) => (HBS.out.kept h).h2)
 have HC0 := hid (start3 w (.cells #[.bool dn, .int .i8 ds, .int .u64 dc] 55) (.cells #[.bool en, .int .i8 es, .int .u64 ec] 55) (.cells #[.bool false, .int .i8 0, .int .u64 0] 55))
 have hk := Chg.refl (fun _ => False) (((w.alloc (.cells #[.bool dn, .int .i8 ds, .int .u64 dc] 55)).alloc (.cells #[.bool en, .int .i8 es, .int .u64 ec] 55)).alloc (.cells #[.bool false, .int .i8 0, .int .u64 0] 55))
 have HT := hid (fun w1 (h : Chg (fun _ => False) (((w.alloc (.cells #[.bool dn, .int .i8 ds, .int .u64 dc] 55)).alloc (.cells #[.bool en, .int .i8 es, .int .u64 ec] 55)).alloc (.cells #[.bool false, .int .i8 0, .int .u64 0] 55)) w1) => ((he.kept HC0.out).kept h))
 obtain ⟨t, v, HOV⟩ : ∃ t v, Hid (∀ w1, Chg (fun _ => False) (((w.alloc (.cells #[.bool dn, .int .i8 ds, .int .u64 dc] 55)).alloc (.cells #[.bool en, .int .i8 es, .int .u64 ec] 55)).alloc (.cells #[.bool false, .int .i8 0, .int .u64 0] 55)) w1 → w1.cell? ⟨0, 0, none⟩ = some (.iface t v)) := by
  obtain ⟨t, v, h⟩ := (he.kept HC0.out).ovf
  exact ⟨t, v, hid (fun w1 hc => cell_kept h hc (fun h => h))⟩
 obtain ⟨d0, d1, d2, e0, e1, e2, r0, r1, r2, q0, q1, q2⟩ := HB.out _ hk
 have ov := HOV.out _ hk
 generalize hj : es - ds = j at *
 clear hj
 obtain ⟨hX0, hX1⟩ := hXF
 obtain ⟨hdc0, hdc1⟩ := hdc
 obtain ⟨hec0, hec1⟩ := hec
 clear he HBS
 go_enter Tryz.func86, Tryz.ntmps86
 go_wp2_with (first | (go_at_call 66; first | (refine (HSD.out _).mono ?_; intro e w1 h; obtain ⟨he1, hc1⟩ := h; subst he1; replace hk := hk.trans hc1 sb_; clear hc1 d0 d1 d2 e0 e1 e2 r0 r1 r2 q0 q1 q2 ov; obtain ⟨d0, d1, d2, e0, e1, e2, r0, r1, r2, q0, q1, q2⟩ := HB.out _ hk; have ov := HOV.out _ hk) | (refine (HSE.out _).mono ?_; intro e w1 h; obtain ⟨he1, hc1⟩ := h; subst he1; replace hk := hk.trans hc1 sb_; clear hc1 d0 d1 d2 e0 e1 e2 r0 r1 r2 q0 q1 q2 ov; obtain ⟨d0, d1, d2, e0, e1, e2, r0, r1, r2, q0, q1, q2⟩ := HB.out _ hk; have ov := HOV.out _ hk)) | (go_at_call 64; first | (refine (HND.out _).mono ?_; intro e w1 h; obtain ⟨he1, hc1⟩ := h; subst he1; replace hk := hk.trans hc1 sb_; clear hc1 d0 d1 d2 e0 e1 e2 r0 r1 r2 q0 q1 q2 ov; obtain ⟨d0, d1, d2, e0, e1, e2, r0, r1, r2, q0, q1, q2⟩ := HB.out _ hk; have ov := HOV.out _ hk) | (refine (HNE.out _).mono ?_; intro e w1 h; obtain ⟨he1, hc1⟩ := h; subst he1; replace hk := hk.trans hc1 sb_; clear hc1 d0 d1 d2 e0 e1 e2 r0 r1 r2 q0 q1 q2 ov; obtain ⟨d0, d1, d2, e0, e1, e2, r0, r1, r2, q0, q1, q2⟩ := HB.out _ hk; have ov := HOV.out _ hk)) | (go_at_call 94; refine (HL.out _ (HT.out _ hk).env.tab).mono ?_; intro e w2 h; obtain ⟨he1, he2⟩ := h; subst he1; subst he2) | (go_at_call 95; refine (HA.out _).mono ?_; intro e w2 h; obtain ⟨he1, he2⟩ := h; subst he1; subst he2))
 go_region
 all_goals (go_wp2_with fail; refine bodyPost_ret (v := .tuple #[.agg #[.bool false, .int .i8 0, .int .u64 0], .iface t v]) (dec_result rfl _ _ (w.heap.size + 1 + 1) _ _ _ _ 55 rfl rfl (store3 (HBX.out _ hk) _ _ _)) rfl ⟨(chg3 (HC0.out.trans hk sb_) (by omega) _ _ _).drew, t, v, rfl⟩)
set_option maxHeartbeats 2000000 in
theorem addFint_lt_dgt (dn en : Bool) (dc ec : Int) (ds es m : Nat) (hdc : Fi dc) (hec : Fi ec) (hds : ds ≤ 19) (hes : es ≤ 19) (hm : m ≤ 19) (w : World) (he : EnvD w) (hlt : ds < es) (X : Int) (hX : dc * 10 ^ (es - ds) = X) (hXM : X ≤ 9999999999999999999) (hs : (dn == en) = false) (hg : X < ec) (C : Int) (hC : ec - X = C) :
  Calls Tryz.prog 86 #[.agg #[.bool dn, .int .i8 ds, .int .u64 dc], .agg #[.bool en, .int .i8 es, .int .u64 ec], .int .i64 m] w (PDec w en (fromFint C es m)) := by
 have c1 : ¬ (es : Int) < (ds : Int) := by omega
 have c2 : (ds : Int) < (es : Int) := by omega
 have hw : IntKind.i64.wrap ((es : Int) - (ds : Int)) = ((es - ds : Nat) : Int) := by rw [show (es : Int) - (ds : Int) = ((es - ds : Nat) : Int) by omega]; exact IntWalk.i64_in _ (by omega)
 have hl := fun w ht => fint_lsh dc (es - ds) hdc (by omega) w ht
 have hX0 := Int.mul_nonneg hdc.1 (Int.le_of_lt (p10_pos (es - ds)))
 rw [hX] at hX0
 simp only [hX, if_pos hXM, decide_eq_true hXM] at hl
 have hXF : Fi X := ⟨hX0, hXM⟩
 clear hX
 have HL := hid hl
 clear hl
 have hcm : (if ec ≤ X then X - ec else ec - X) = C := by rw [if_neg (by omega)]; exact hC
 have hCF : Fi C := ⟨by omega, by have := hXF.1; have := hXF.2; have := hec.1; have := hec.2; omega⟩
 have hsb := fun w => fint_subAbs X ec hXF hec w
 rw [hcm] at hsb
 have HS := hid hsb
 clear hsb hcm hC
 have hff := fun w he => newFromFint_any en C es m hCF hes hm w he
 have hS19 := hds
 generalize fromFint C es m = o at *
 have HF := hid hff
 obtain ⟨hC0, hC1⟩ := hCF
 clear hff
 have HSD := hid (fun w => Scale_any dn dc ds hds w)
 have HSE := hid (fun w => Scale_any en ec es hes w)
 have HND := hid (fun w => IsNeg_any dn dc ds w)
 have HNE := hid (fun w => IsNeg_any en ec es w)
 have HBS := hid (Bx.start w dn ds dc en es ec)
 have HB := hid (fun w1 (h : Chg (fun _ => False) (((w.alloc (.cells #[.bool dn, .int .i8 ds, .int .u64 dc] 55)).alloc (.cells #[.bool en, .int .i8 es, .int .u64 ec] 55)).alloc (.cells #[.bool false, .int .i8 0, .int .u64 0] 55)) w1) => (HBS.out.kept h).facts)
 have HBX := hid (fun w1 (h : Chg (fun _ => False) (((w.alloc (.cells #[.bool dn, .int .i8 ds, .int .u64 dc] 55)).alloc (.cells #[.bool en, .int .i8 es, .int .u64 ec] 55)).alloc (.cells #[.bool false, .int .i8 0, .int .u64 0] 55)) w1) => (HBS.out.kept h).h2)
 have HC0 := hid (start3 w (.cells #[.bool dn, .int .i8 ds, .int .u64 dc] 55) (.cells #[.bool en, .int .i8 es, .int .u64 ec] 55) (.cells #[.bool false, .int .i8 0, .int .u64 0] 55))
 have hk := Chg.refl (fun _ => False) (((w.alloc (.cells #[.bool dn, .int .i8 ds, .int .u64 dc] 55)).alloc (.cells #[.bool en, .int .i8 es, .int .u64 ec] 55)).alloc (.cells #[.bool false, .int .i8 0, .int .u64 0] 55))
 have HT := hid (fun w1 (h : Chg (fun _ => False) (((w.alloc (.cells #[.bool dn, .int .i8 ds, .int .u64 dc] 55)).alloc (.cells #[.bool en, .int .i8 es, .int .u64 ec] 55)).alloc (.cells #[.bool false, .int .i8 0, .int .u64 0] 55)) w1) => ((he.kept HC0.out).kept h))
 obtain ⟨t, v, HOV⟩ : ∃ t v, Hid (∀ w1, Chg (fun _ => False) (((w.alloc (.cells #[.bool dn, .int .i8 ds, .int .u64 dc] 55)).alloc (.cells #[.bool en, .int .i8 es, .int .u64 ec] 55)).alloc (.cells #[.bool false, .int .i8 0, .int .u64 0] 55)) w1 → w1.cell? ⟨0, 0, none⟩ = some (.iface t v)) := by
  obtain ⟨t, v, h⟩ := (he.kept HC0.out).ovf
  exact ⟨t, v, hid (fun w1 hc => cell_kept h hc (fun h => h))⟩
 obtain ⟨d0, d1, d2, e0, e1, e2, r0, r1, r2, q0, q1, q2⟩ := HB.out _ hk
 have ov := HOV.out _ hk
 generalize hj : es - ds = j at *
 clear hj
 obtain ⟨hX0, hX1⟩ := hXF
 obtain ⟨hdc0, hdc1⟩ := hdc
 obtain ⟨hec0, hec1⟩ := hec
 clear he HBS
 go_enter Tryz.func86, Tryz.ntmps86
 go_wp2_with (first | (go_at_call 66; first | (refine (HSD.out _).mono ?_; intro e w1 h; obtain ⟨he1, hc1⟩ := h; subst he1; replace hk := hk.trans hc1 sb_; clear hc1 d0 d1 d2 e0 e1 e2 r0 r1 r2 q0 q1 q2 ov; obtain ⟨d0, d1, d2, e0, e1, e2, r0, r1, r2, q0, q1, q2⟩ := HB.out _ hk; have ov := HOV.out _ hk) | (refine (HSE.out _).mono ?_; intro e w1 h; obtain ⟨he1, hc1⟩ := h; subst he1; replace hk := hk.trans hc1 sb_; clear hc1 d0 d1 d2 e0 e1 e2 r0 r1 r2 q0 q1 q2 ov; obtain ⟨d0, d1, d2, e0, e1, e2, r0, r1, r2, q0, q1, q2⟩ := HB.out _ hk; have ov := HOV.out _ hk)) | (go_at_call 64; first | (refine (HND.out _).mono ?_; intro e w1 h; obtain ⟨he1, hc1⟩ := h; subst he1; replace hk := hk.trans hc1 sb_; clear hc1 d0 d1 d2 e0 e1 e2 r0 r1 r2 q0 q1 q2 ov; obtain ⟨d0, d1, d2, e0, e1, e2, r0, r1, r2, q0, q1, q2⟩ := HB.out _ hk; have ov := HOV.out _ hk) | (refine (HNE.out _).mono ?_; intro e w1 h; obtain ⟨he1, hc1⟩ := h; subst he1; replace hk := hk.trans hc1 sb_; clear hc1 d0 d1 d2 e0 e1 e2 r0 r1 r2 q0 q1 q2 ov; obtain ⟨d0, d1, d2, e0, e1, e2, r0, r1, r2, q0, q1, q2⟩ := HB.out _ hk; have ov := HOV.out _ hk)) | (go_at_call 94; refine (HL.out _ (HT.out _ hk).env.tab).mono ?_; intro e w2 h; obtain ⟨he1, he2⟩ := h; subst he1; subst he2) | (go_at_call 96; refine (HS.out _).mono ?_; intro e w2 h; obtain ⟨he1, he2⟩ := h; subst he1; subst he2) | (go_at_call 97; refine (HF.out _ (HT.out _ hk)).mono ?_; intro e w1 h; obtain ⟨na, nb, nc, nv, he1, hc1, hp⟩ := h.op; subst he1; replace hk := hk.trans hc1 sb_; clear h hc1 d0 d1 d2 e0 e1 e2 r0 r1 r2 q0 q1 q2 ov; obtain ⟨d0, d1, d2, e0, e1, e2, r0, r1, r2, q0, q1, q2⟩ := HB.out _ hk; have HP := hid hp; clear hp))
 refine bodyPost_ret (v := .tuple #[.agg #[.bool na, .int .i8 nb, .int .u64 nc], nv]) (dec_result rfl _ _ (w.heap.size + 1 + 1) _ _ _ _ 55 rfl rfl (store3 (HBX.out _ hk) _ _ _)) rfl (HP.out.move (chg3 (HC0.out.trans hk sb_) (by omega) _ _ _))
set_option maxHeartbeats 2000000 in
theorem addFint_lt_dle (dn en : Bool) (dc ec : Int) (ds es m : Nat) (hdc : Fi dc) (hec : Fi ec) (hds : ds ≤ 19) (hes : es ≤ 19) (hm : m ≤ 19) (w : World) (he : EnvD w) (hlt : ds < es) (X : Int) (hX : dc * 10 ^ (es - ds) = X) (hXM : X ≤ 9999999999999999999) (hs : (dn == en) = false) (hg : ¬ X < ec) (C : Int) (hC : X - ec = C) :
  Calls Tryz.prog 86 #[.agg #[.bool dn, .int .i8 ds, .int .u64 dc], .agg #[.bool en, .int .i8 es, .int .u64 ec], .int .i64 m] w (PDec w dn (fromFint C es m)) := by
 have c1 : ¬ (es : Int) < (ds : Int) := by omega
 have c2 : (ds : Int) < (es : Int) := by omega
 have hw : IntKind.i64.wrap ((es : Int) - (ds : Int)) = ((es - ds : Nat) : Int) := by rw [show (es : Int) - (ds : Int) = ((es - ds : Nat) : Int) by omega]; exact IntWalk.i64_in _ (by omega)
 have hl := fun w ht => fint_lsh dc (es - ds) hdc (by omega) w ht
 have hX0 := Int.mul_nonneg hdc.1 (Int.le_of_lt (p10_pos (es - ds)))
 rw [hX] at hX0
 simp only [hX, if_pos hXM, decide_eq_true hXM] at hl
 have hXF : Fi X := ⟨hX0, hXM⟩
 clear hX
 have HL := hid hl
 clear hl
 have hcm : (if ec ≤ X then X - ec else ec - X) = C := by rw [if_pos (by omega)]; exact hC
 have hCF : Fi C := ⟨by omega, by have := hXF.1; have := hXF.2; have := hec.1; have := hec.2; omega⟩
 have hsb := fun w => fint_subAbs X ec hXF hec w
 rw [hcm] at hsb
 have HS := hid hsb
 clear hsb hcm hC
 have hff := fun w he => newFromFint_any dn C es m hCF hes hm w he
 have hS19 := hds
 generalize fromFint C es m = o at *
 have HF := hid hff
 obtain ⟨hC0, hC1⟩ := hCF
 clear hff
 have HSD := hid (fun w => Scale_any dn dc ds hds w)
 have HSE := hid (fun w => Scale_any en ec es hes w)
 have HND := hid (fun w => IsNeg_any dn dc ds w)
 have HNE := hid (fun w => IsNeg_any en ec es w)
 have HBS := hid (Bx.start w dn ds dc en es ec)
 have HB := hid (fun w1 (h : Chg (fun _ => False) (((w.alloc (.cells #[.bool dn, .int .i8 ds, .int .u64 dc] 55)).alloc (.cells #[.bool en, .int .i8 es, .int .u64 ec] 55)).alloc (.cells #[.bool false, .int .i8 0, .int .u64 0] 55)) w1) => (HBS.out.kept h).facts)
 have HBX := hid (fun w1 (h : Chg (fun _ => False) (((w.alloc (.cells #[.bool dn, .int .i8 ds, .int .u64 dc] 55)).alloc (.cells #[.bool en, .int .i8 es, .int .u64 ec] 55)).alloc (.cells #[.bool false, .int .i8 0, .int .u64 0] 55)) w1) => (HBS.out.kept h).h2)
 have HC0 := hid (start3 w (.cells #[.bool dn, .int .i8 ds, .int .u64 dc] 55) (.cells #[.bool en, .int .i8 es, .int .u64 ec] 55) (.cells #[.bool false, .int .i8 0, .int .u64 0] 55))
 have hk := Chg.refl (fun _ => False) (((w.alloc (.cells #[.bool dn, .int .i8 ds, .int .u64 dc] 55)).alloc (.cells #[.bool en, .int .i8 es, .int .u64 ec] 55)).alloc (.cells #[.bool false, .int .i8 0, .int .u64 0] 55))
 have HT := hid (fun w1 (h : Chg (fun _ => False) (((w.alloc (.cells #[.bool dn, .int .i8 ds, .int .u64 dc] 55)).alloc (.cells #[.bool en, .int .i8 es, .int .u64 ec] 55)).alloc (.cells #[.bool false, .int .i8 0, .int .u64 0] 55)) w1) => ((he.kept HC0.out).kept h))
 obtain ⟨t, v, HOV⟩ : ∃ t v, Hid (∀ w1, Chg (fun _ => False) (((w.alloc (.cells #[.bool dn, .int .i8 ds, .int .u64 dc] 55)).alloc (.cells #[.bool en, .int .i8 es, .int .u64 ec] 55)).alloc (.cells #[.bool false, .int .i8 0, .int .u64 0] 55)) w1 → w1.cell? ⟨0, 0, none⟩ = some (.iface t v)) := by
  obtain ⟨t, v, h⟩ := (he.kept HC0.out).ovf
  exact ⟨t, v, hid (fun w1 hc => cell_kept h hc (fun h => h))⟩
 obtain ⟨d0, d1, d2, e0, e1, e2, r0, r1, r2, q0, q1, q2⟩ := HB.out _ hk
 have ov := HOV.out _ hk
 generalize hj : es - ds = j at *
 clear hj
 obtain ⟨hX0, hX1⟩ := hXF
 obtain ⟨hdc0, hdc1⟩ := hdc
 obtain ⟨hec0, hec1⟩ := hec
 clear he HBS
 go_enter Tryz.func86, Tryz.ntmps86
 go_wp2_with (first | (go_at_call 66; first | (refine (HSD.out _).mono ?_; intro e w1 h; obtain ⟨he1, hc1⟩ := h; subst he1; replace hk := hk.trans hc1 sb_; clear hc1 d0 d1 d2 e0 e1 e2 r0 r1 r2 q0 q1 q2 ov; obtain ⟨d0, d1, d2, e0, e1, e2, r0, r1, r2, q0, q1, q2⟩ := HB.out _ hk; have ov := HOV.out _ hk) | (refine (HSE.out _).mono ?_; intro e w1 h; obtain ⟨he1, hc1⟩ := h; subst he1; replace hk := hk.trans hc1 sb_; clear hc1 d0 d1 d2 e0 e1 e2 r0 r1 r2 q0 q1 q2 ov; obtain ⟨d0, d1, d2, e0, e1, e2, r0, r1, r2, q0, q1, q2⟩ := HB.out _ hk; have ov := HOV.out _ hk)) | (go_at_call 64; first | (refine (HND.out _).mono ?_; intro e w1 h; obtain ⟨he1, hc1⟩ := h; subst he1; replace hk := hk.trans hc1 sb_; clear hc1 d0 d1 d2 e0 e1 e2 r0 r1 r2 q0 q1 q2 ov; obtain ⟨d0, d1, d2, e0, e1, e2, r0, r1, r2, q0, q1, q2⟩ := HB.out _ hk; have ov := HOV.out _ hk) | (refine (HNE.out _).mono ?_; intro e w1 h; obtain ⟨he1, hc1⟩ := h; subst he1; replace hk := hk.trans hc1 sb_; clear hc1 d0 d1 d2 e0 e1 e2 r0 r1 r2 q0 q1 q2 ov; obtain ⟨d0, d1, d2, e0, e1, e2, r0, r1, r2, q0, q1, q2⟩ := HB.out _ hk; have ov := HOV.out _ hk)) | (go_at_call 94; refine (HL.out _ (HT.out _ hk).env.tab).mono ?_; intro e w2 h; obtain ⟨he1, he2⟩ := h; subst he1; subst he2) | (go_at_call 96; refine (HS.out _).mono ?_; intro e w2 h; obtain ⟨he1, he2⟩ := h; subst he1; subst he2) | (go_at_call 97; refine (HF.out _ (HT.out _ hk)).mono ?_; intro e w1 h; obtain ⟨na, nb, nc, nv, he1, hc1, hp⟩ := h.op; subst he1; replace hk := hk.trans hc1 sb_; clear h hc1 d0 d1 d2 e0 e1 e2 r0 r1 r2 q0 q1 q2 ov; obtain ⟨d0, d1, d2, e0, e1, e2, r0, r1, r2, q0, q1, q2⟩ := HB.out _ hk; have HP := hid hp; clear hp))
 refine bodyPost_ret (v := .tuple #[.agg #[.bool na, .int .i8 nb, .int .u64 nc], nv]) (dec_result rfl _ _ (w.heap.size + 1 + 1) _ _ _ _ 55 rfl rfl (store3 (HBX.out _ hk) _ _ _)) rfl (HP.out.move (chg3 (HC0.out.trans hk sb_) (by omega) _ _ _))
set_option maxHeartbeats 2000000 in
theorem addFint_eq_same (dn en : Bool) (dc ec : Int) (ds es m : Nat) (hdc : Fi dc) (hec : Fi ec) (hds : ds ≤ 19) (hes : es ≤ 19) (hm : m ≤ 19) (w : World) (he : EnvD w) (hlt : es = ds) (hs : (dn == en) = true) (C : Int) (hC : dc + ec = C) (hCM : C ≤ 9999999999999999999) :
  Calls Tryz.prog 86 #[.agg #[.bool dn, .int .i8 ds, .int .u64 dc], .agg #[.bool en, .int .i8 es, .int .u64 ec], .int .i64 m] w (PDec w dn (fromFint C ds m)) := by
 subst hlt
 have c1 : ¬ (es : Int) < (es : Int) := by omega
 have ha := fun w => fint_add dc ec hdc hec w
 simp only [hC, if_pos hCM, decide_eq_true hCM] at ha
 have hCF : Fi C := ⟨by rw [← hC]; exact Int.add_nonneg hdc.1 hec.1, hCM⟩
 clear hC
 have HA := hid ha
 clear ha
 have hff := fun w he => newFromFint_any dn C es m hCF hes hm w he
 have hS19 := hds
 generalize fromFint C es m = o at *
 have HF := hid hff
 obtain ⟨hC0, hC1⟩ := hCF
 clear hff
 have HSD := hid (fun w => Scale_any dn dc es hes w)
 have HSE := hid (fun w => Scale_any en ec es hes w)
 have HND := hid (fun w => IsNeg_any dn dc es w)
 have HNE := hid (fun w => IsNeg_any en ec es w)
 have HBS := hid (Bx.start w dn es dc en es ec)
 have HB := hid (fun w1 (h : Chg (fun _ => False) (((w.alloc (.cells #[.bool dn, .int .i8 es, .int .u64 dc] 55)).alloc (.cells #[.bool en, .int .i8 es, .int .u64 ec] 55)).alloc (.cells #[.bool false, .int .i8 0, .int .u64 0] 55)) w1) => (HBS.out.kept h).facts)
 have HBX := hid (fun w1 (h : Chg (fun _ => False) (((w.alloc (.cells #[.bool dn, .int .i8 es, .int .u64 dc] 55)).alloc (.cells #[.bool en, .int .i8 es, .int .u64 ec] 55)).alloc (.cells #[.bool false, .int .i8 0, .int .u64 0] 55)) w1) => (HBS.out.kept h).h2)
 have HC0 := hid (start3 w (.cells #[.bool dn, .int .i8 es, .int .u64 dc] 55) (.cells #[.bool en, .int .i8 es, .int .u64 ec] 55) (.cells #[.bool false, .int .i8 0, .int .u64 0] 55))
 have hk := Chg.refl (fun _ => False) (((w.alloc (.cells #[.bool dn, .int .i8 es, .int .u64 dc] 55)).alloc (.cells #[.bool en, .int .i8 es, .int .u64 ec] 55)).alloc (.cells #[.bool false, .int .i8 0, .int .u64 0] 55))
 have HT := hid (fun w1 (h : Chg (fun _ => False) (((w.alloc (.cells #[.bool dn, .int .i8 es, .int .u64 dc] 55)).alloc (.cells #[.bool en, .int .i8 es, .int .u64 ec] 55)).alloc (.cells #[.bool false, .int .i8 0, .int .u64 0] 55)) w1) => ((he.kept HC0.out).kept h))
 obtain ⟨t, v, HOV⟩ : ∃ t v, Hid (∀ w1, Chg (fun _ => False) (((w.alloc (.cells #[.bool dn, .int .i8 es, .int .u64 dc] 55)).alloc (.cells #[.bool en, .int .i8 es, .int .u64 ec] 55)).alloc (.cells #[.bool false, .int .i8 0, .int .u64 0] 55)) w1 → w1.cell? ⟨0, 0, none⟩ = some (.iface t v)) := by
  obtain ⟨t, v, h⟩ := (he.kept HC0.out).ovf
  exact ⟨t, v, hid (fun w1 hc => cell_kept h hc (fun h => h))⟩
 obtain ⟨d0, d1, d2, e0, e1, e2, r0, r1, r2, q0, q1, q2⟩ := HB.out _ hk
 have ov := HOV.out _ hk
 obtain ⟨hdc0, hdc1⟩ := hdc
 obtain ⟨hec0, hec1⟩ := hec
 clear he HBS
 go_enter Tryz.func86, Tryz.ntmps86
 go_wp2_with (first | (go_at_call 66; first | (refine (HSD.out _).mono ?_; intro e w1 h; obtain ⟨he1, hc1⟩ := h; subst he1; replace hk := hk.trans hc1 sb_; clear hc1 d0 d1 d2 e0 e1 e2 r0 r1 r2 q0 q1 q2 ov; obtain ⟨d0, d1, d2, e0, e1, e2, r0, r1, r2, q0, q1, q2⟩ := HB.out _ hk; have ov := HOV.out _ hk) | (refine (HSE.out _).mono ?_; intro e w1 h; obtain ⟨he1, hc1⟩ := h; subst he1; replace hk := hk.trans hc1 sb_; clear hc1 d0 d1 d2 e0 e1 e2 r0 r1 r2 q0 q1 q2 ov; obtain ⟨d0, d1, d2, e0, e1, e2, r0, r1, r2, q0, q1, q2⟩ := HB.out _ hk; have ov := HOV.out _ hk)) | (go_at_call 64; first | (refine (HND.out _).mono ?_; intro e w1 h; obtain ⟨he1, hc1⟩ := h; subst he1; replace hk := hk.trans hc1 sb_; clear hc1 d0 d1 d2 e0 e1 e2 r0 r1 r2 q0 q1 q2 ov; obtain ⟨d0, d1, d2, e0, e1, e2, r0, r1, r2, q0, q1, q2⟩ := HB.out _ hk; have ov := HOV.out _ hk) | (refine (HNE.out _).mono ?_; intro e w1 h; obtain ⟨he1, hc1⟩ := h; subst he1; replace hk := hk.trans hc1 sb_; clear hc1 d0 d1 d2 e0 e1 e2 r0 r1 r2 q0 q1 q2 ov; obtain ⟨d0, d1, d2, e0, e1, e2, r0, r1, r2, q0, q1, q2⟩ := HB.out _ hk; have ov := HOV.out _ hk)) | (go_at_call 95; refine (HA.out _).mono ?_; intro e w2 h; obtain ⟨he1, he2⟩ := h; subst he1; subst he2) | (go_at_call 97; refine (HF.out _ (HT.out _ hk)).mono ?_; intro e w1 h; obtain ⟨na, nb, nc, nv, he1, hc1, hp⟩ := h.op; subst he1; replace hk := hk.trans hc1 sb_; clear h hc1 d0 d1 d2 e0 e1 e2 r0 r1 r2 q0 q1 q2 ov; obtain ⟨d0, d1, d2, e0, e1, e2, r0, r1, r2, q0, q1, q2⟩ := HB.out _ hk; have HP := hid hp; clear hp))
 refine bodyPost_ret (v := .tuple #[.agg #[.bool na, .int .i8 nb, .int .u64 nc], nv]) (dec_result rfl _ _ (w.heap.size + 1 + 1) _ _ _ _ 55 rfl rfl (store3 (HBX.out _ hk) _ _ _)) rfl (HP.out.move (chg3 (HC0.out.trans hk sb_) (by omega) _ _ _))
set_option maxHeartbeats 2000000 in
theorem addFint_eq_ovf (dn en : Bool) (dc ec : Int) (ds es m : Nat) (hdc : Fi dc) (hec : Fi ec) (hds : ds ≤ 19) (hes : es ≤ 19) (hm : m ≤ 19) (w : World) (he : EnvD w) (neg : Bool) (hlt : es = ds) (hs : (dn == en) = true) (hC : ¬ dc + ec ≤ 9999999999999999999) :
  Calls Tryz.prog 86 #[.agg #[.bool dn, .int .i8 ds, .int .u64 dc], .agg #[.bool en, .int .i8 es, .int .u64 ec], .int .i64 m] w (PDec w neg none) := by
 subst hlt
 have c1 : ¬ (es : Int) < (es : Int) := by omega
 have ha := fun w => fint_add dc ec hdc hec w
 simp only [if_neg hC, decide_eq_false hC] at ha
 clear hC
 have HA := hid ha
 clear ha
 have HSD := hid (fun w => Scale_any dn dc es hes w)
 have HSE := hid (fun w => Scale_any en ec es hes w)
 have HND := hid (fun w => IsNeg_any dn dc es w)
 have HNE := hid (fun w => IsNeg_any en ec es w)
 have HBS := hid (Bx.start w dn es dc en es ec)
 have HB := hid (fun w1 (h : Chg (fun _ => False) (((w.alloc (.cells #[.bool dn, .int .i8 es, .int .u64 dc] 55)).alloc (.cells #[.bool en, .int .i8 es, .int .u64 ec] 55)).alloc (.cells #[.bool false, .int .i8 0, .int .u64 0] 55)) w1) => (HBS.out.kept h).facts)
 have HBX := hid (fun w1 (h : Chg (fun _ => False) (((w.alloc (.cells #[.bool dn, .int .i8 es, .int .u64 dc] 55)).alloc (.cells #[.bool en, .int .i8 es, .int .u64 ec] 55)).alloc (.cells #[.bool false, .int .i8 0, .int .u64 0] 55)) w1) => (HBS.out.kept h).h2)
 have HC0 := hid (start3 w (.cells #[.bool dn, .int .i8 es, .int .u64 dc] 55) (.cells #[.bool en, .int .i8 es, .int .u64 ec] 55) (.cells #[.bool false, .int .i8 0, .int .u64 0] 55))
 have hk := Chg.refl (fun _ => False) (((w.alloc (.cells #[.bool dn, .int .i8 es, .int .u64 dc] 55)).alloc (.cells #[.bool en, .int .i8 es, .int .u64 ec] 55)).alloc (.cells #[.bool false, .int .i8 0, .int .u64 0] 55))
 have HT := hid (fun w1 (h : Chg (fun _ => False) (((w.alloc (.cells #[.bool dn, .int .i8 es, .int .u64 dc] 55)).alloc (.cells #[.bool en, .int .i8 es, .int .u64 ec] 55)).alloc (.cells #[.bool false, .int .i8 0, .int .u64 0] 55)) w1) => ((he.kept HC0.out).kept h))
 obtain ⟨t, v, HOV⟩ : ∃ t v, Hid (∀ w1, Chg (fun _ => False) (((w.alloc (.cells #[.bool dn, .int .i8 es, .int .u64 dc] 55)).alloc (.cells #[.bool en, .int .i8 es, .int .u64 ec] 55)).alloc (.cells #[.bool false, .int .i8 0, .int .u64 0] 55)) w1 → w1.cell? ⟨0, 0, none⟩ = some (.iface t v)) := by
  obtain ⟨t, v, h⟩ := (he.kept HC0.out).ovf
  exact ⟨t, v, hid (fun w1 hc => cell_kept h hc (fun h => h))⟩
 obtain ⟨d0, d1, d2, e0, e1, e2, r0, r1, r2, q0, q1, q2⟩ := HB.out _ hk
 have ov := HOV.out _ hk
 obtain ⟨hdc0, hdc1⟩ := hdc
 obtain ⟨hec0, hec1⟩ := hec
 clear he HBS
 go_enter Tryz.func86, Tryz.ntmps86
 go_wp2_with (first | (go_at_call 66; first | (refine (HSD.out _).mono ?_; intro e w1 h; obtain ⟨he1, hc1⟩ := h; subst he1; replace hk := hk.trans hc1 sb_; clear hc1 d0 d1 d2 e0 e1 e2 r0 r1 r2 q0 q1 q2 ov; obtain ⟨d0, d1, d2, e0, e1, e2, r0, r1, r2, q0, q1, q2⟩ := HB.out _ hk; have ov := HOV.out _ hk) | (refine (HSE.out _).mono ?_; intro e w1 h; obtain ⟨he1, hc1⟩ := h; subst he1; replace hk := hk.trans hc1 sb_; clear hc1 d0 d1 d2 e0 e1 e2 r0 r1 r2 q0 q1 q2 ov; obtain ⟨d0, d1, d2, e0, e1, e2, r0, r1, r2, q0, q1, q2⟩ := HB.out _ hk; have ov := HOV.out _ hk)) | (go_at_call 64; first | (refine (HND.out _).mono ?_; intro e w1 h; obtain ⟨he1, hc1⟩ := h; subst he1; replace hk := hk.trans hc1 sb_; clear hc1 d0 d1 d2 e0 e1 e2 r0 r1 r2 q0 q1 q2 ov; obtain ⟨d0, d1, d2, e0, e1, e2, r0, r1, r2, q0, q1, q2⟩ := HB.out _ hk; have ov := HOV.out _ hk) | (refine (HNE.out _).mono ?_; intro e w1 h; obtain ⟨he1, hc1⟩ := h; subst he1; replace hk := hk.trans hc1 sb_; clear hc1 d0 d1 d2 e0 e1 e2 r0 r1 r2 q0 q1 q2 ov; obtain ⟨d0, d1, d2, e0, e1, e2, r0, r1, r2, q0, q1, q2⟩ := HB.out _ hk; have ov := HOV.out _ hk)) | (go_at_call 95; refine (HA.out _).mono ?_; intro e w2 h; obtain ⟨he1, he2⟩ := h; subst he1; subst he2))
 go_region
 all_goals (go_wp2_with fail; refine bodyPost_ret (v := .tuple #[.agg #[.bool false, .int .i8 0, .int .u64 0], .iface t v]) (dec_result rfl _ _ (w.heap.size + 1 + 1) _ _ _ _ 55 rfl rfl (store3 (HBX.out _ hk) _ _ _)) rfl ⟨(chg3 (HC0.out.trans hk sb_) (by omega) _ _ _).drew, t, v, rfl⟩)
set_option maxHeartbeats 2000000 in
theorem addFint_eq_dgt (dn en : Bool) (dc ec : Int) (ds es m : Nat) (hdc : Fi dc) (hec : Fi ec) (hds : ds ≤ 19) (hes : es ≤ 19) (hm : m ≤ 19) (w : World) (he : EnvD w) (hlt : es = ds) (hs : (dn == en) = false) (hg : dc < ec) (C : Int) (hC : ec - dc = C) :
  Calls Tryz.prog 86 #[.agg #[.bool dn, .int .i8 ds, .int .u64 dc], .agg #[.bool en, .int .i8 es, .int .u64 ec], .int .i64 m] w (PDec w en (fromFint C ds m)) := by
 subst hlt
 have c1 : ¬ (es : Int) < (es : Int) := by omega
 have hcm : (if ec ≤ dc then dc - ec else ec - dc) = C := by rw [if_neg (by omega)]; exact hC
 have hCF : Fi C := ⟨by omega, by have := hdc.1; have := hdc.2; have := hec.1; have := hec.2; omega⟩
 have hsb := fun w => fint_subAbs dc ec hdc hec w
 rw [hcm] at hsb
 have HS := hid hsb
 clear hsb hcm hC
 have hff := fun w he => newFromFint_any en C es m hCF hes hm w he
 have hS19 := hds
 generalize fromFint C es m = o at *
 have HF := hid hff
 obtain ⟨hC0, hC1⟩ := hCF
 clear hff
 have HSD := hid (fun w => Scale_any dn dc es hes w)
 have HSE := hid (fun w => Scale_any en ec es hes w)
 have HND := hid (fun w => IsNeg_any dn dc es w)
 have HNE := hid (fun w => IsNeg_any en ec es w)
 have HBS := hid (Bx.start w dn es dc en es ec)
 have HB := hid (fun w1 (h : Chg (fun _ => False) (((w.alloc (.cells #[.bool dn, .int .i8 es, .int .u64 dc] 55)).alloc (.cells #[.bool en, .int .i8 es, .int .u64 ec] 55)).alloc (.cells #[.bool false, .int .i8 0, .int .u64 0] 55)) w1) => (HBS.out.kept h).facts)
 have HBX := hid (fun w1 (h : Chg (fun _ => False) (((w.alloc (.cells #[.bool dn, .int .i8 es, .int .u64 dc] 55)).alloc (.cells #[.bool en, .int .i8 es, .int .u64 ec] 55)).alloc (.cells #[.bool false, .int .i8 0, .int .u64 0] 55)) w1) => (HBS.out.kept h).h2)
 have HC0 := hid (start3 w (.cells #[.bool dn, .int .i8 es, .int .u64 dc] 55) (.cells #[.bool en, .int .i8 es, .int .u64 ec] 55) (.cells #[.bool false, .int .i8 0, .int .u64 0] 55))
 have hk := Chg.refl (fun _ => False) (((w.alloc (.cells #[.bool dn, .int .i8 es, .int .u64 dc] 55)).alloc (.cells #[.bool en, .int .i8 es, .int .u64 ec] 55)).alloc (.cells #[.bool false, .int .i8 0, .int .u64 0] 55))
 have HT := hid (fun w1 (h : Chg (fun _ => False) (((w.alloc (.cells #[.bool dn, .int .i8 es, .int .u64 dc] 55)).alloc (.cells #[.bool en, .int .i8 es, .int .u64 ec] 55)).alloc (.cells #[.bool false, .int .i8 0, .int .u64 0] 55)) w1) => ((he.kept HC0.out).kept h))
 obtain ⟨t, v, HOV⟩ : ∃ t v, Hid (∀ w1, Chg (fun _ => False) (((w.alloc (.cells #[.bool dn, .int .i8 es, .int .u64 dc] 55)).alloc (.cells #[.bool en, .int .i8 es, .int .u64 ec] 55)).alloc (.cells #[.bool false, .int .i8 0, .int .u64 0] 55)) w1 → w1.cell? ⟨0, 0, none⟩ = some (.iface t v)) := by
  obtain ⟨t, v, h⟩ := (he.kept HC0.out).ovf
  exact ⟨t, v, hid (fun w1 hc => cell_kept h hc (fun h => h))⟩
 obtain ⟨d0, d1, d2, e0, e1, e2, r0, r1, r2, q0, q1, q2⟩ := HB.out _ hk
 have ov := HOV.out _ hk
 obtain ⟨hdc0, hdc1⟩ := hdc
 obtain ⟨hec0, hec1⟩ := hec
 clear he HBS
 go_enter Tryz.func86, Tryz.ntmps86
 go_wp2_with (first | (go_at_call 66; first | (refine (HSD.out _).mono ?_; intro e w1 h; obtain ⟨he1, hc1⟩ := h; subst he1; replace hk := hk.trans hc1 sb_; clear hc1 d0 d1 d2 e0 e1 e2 r0 r1 r2 q0 q1 q2 ov; obtain ⟨d0, d1, d2, e0, e1, e2, r0, r1, r2, q0, q1, q2⟩ := HB.out _ hk; have ov := HOV.out _ hk) | (refine (HSE.out _).mono ?_; intro e w1 h; obtain ⟨he1, hc1⟩ := h; subst he1; replace hk := hk.trans hc1 sb_; clear hc1 d0 d1 d2 e0 e1 e2 r0 r1 r2 q0 q1 q2 ov; obtain ⟨d0, d1, d2, e0, e1, e2, r0, r1, r2, q0, q1, q2⟩ := HB.out _ hk; have ov := HOV.out _ hk)) | (go_at_call 64; first | (refine (HND.out _).mono ?_; intro e w1 h; obtain ⟨he1, hc1⟩ := h; subst he1; replace hk := hk.trans hc1 sb_; clear hc1 d0 d1 d2 e0 e1 e2 r0 r1 r2 q0 q1 q2 ov; obtain ⟨d0, d1, d2, e0, e1, e2, r0, r1, r2, q0, q1, q2⟩ := HB.out _ hk; have ov := HOV.out _ hk) | (refine (HNE.out _).mono ?_; intro e w1 h; obtain ⟨he1, hc1⟩ := h; subst he1; replace hk := hk.trans hc1 sb_; clear hc1 d0 d1 d2 e0 e1 e2 r0 r1 r2 q0 q1 q2 ov; obtain ⟨d0, d1, d2, e0, e1, e2, r0, r1, r2, q0, q1, q2⟩ := HB.out _ hk; have ov := HOV.out _ hk)) | (go_at_call 96; refine (HS.out _).mono ?_; intro e w2 h; obtain ⟨he1, he2⟩ := h; subst he1; subst he2) | (go_at_call 97; refine (HF.out _ (HT.out _ hk)).mono ?_; intro e w1 h; obtain ⟨na, nb, nc, nv, he1, hc1, hp⟩ := h.op; subst he1; replace hk := hk.trans hc1 sb_; clear h hc1 d0 d1 d2 e0 e1 e2 r0 r1 r2 q0 q1 q2 ov; obtain ⟨d0, d1, d2, e0, e1, e2, r0, r1, r2, q0, q1, q2⟩ := HB.out _ hk; have HP := hid hp; clear hp))
 refine bodyPost_ret (v := .tuple #[.agg #[.bool na, .int .i8 nb, .int .u64 nc], nv]) (dec_result rfl _ _ (w.heap.size + 1 + 1) _ _ _ _ 55 rfl rfl (store3 (HBX.out _ hk) _ _ _)) rfl (HP.out.move (chg3 (HC0.out.trans hk sb_) (by omega) _ _ _))
set_option maxHeartbeats 2000000 in
theorem addFint_eq_dle (dn en : Bool) (dc ec : Int) (ds es m : Nat) (hdc : Fi dc) (hec : Fi ec) (hds : ds ≤ 19) (hes : es ≤ 19) (hm : m ≤ 19) (w : World) (he : EnvD w) (hlt : es = ds) (hs : (dn == en) = false) (hg : ¬ dc < ec) (C : Int) (hC : dc - ec = C) :
  Calls Tryz.prog 86 #[.agg #[.bool dn, .int .i8 ds, .int .u64 dc], .agg #[.bool en, .int .i8 es, .int .u64 ec], .int .i64 m] w (PDec w dn (fromFint C ds m)) := by
 subst hlt
 have c1 : ¬ (es : Int) < (es : Int) := by omega
 have hcm : (if ec ≤ dc then dc - ec else ec - dc) = C := by rw [if_pos (by omega)]; exact hC
 have hCF : Fi C := ⟨by omega, by have := hdc.1; have := hdc.2; have := hec.1; have := hec.2; omega⟩
 have hsb := fun w => fint_subAbs dc ec hdc hec w
 rw [hcm] at hsb
 have HS := hid hsb
 clear hsb hcm hC
 have hff := fun w he => newFromFint_any dn C es m hCF hes hm w he
 have hS19 := hds
 generalize fromFint C es m = o at *
 have HF := hid hff
 obtain ⟨hC0, hC1⟩ := hCF
 clear hff
 have HSD := hid (fun w => Scale_any dn dc es hes w)
 have HSE := hid (fun w => Scale_any en ec es hes w)
 have HND := hid (fun w => IsNeg_any dn dc es w)
 have HNE := hid (fun w => IsNeg_any en ec es w)
 have HBS := hid (Bx.start w dn es dc en es ec)
 have HB := hid (fun w1 (h : Chg (fun _ => False) (((w.alloc (.cells #[.bool dn, .int .i8 es, .int .u64 dc] 55)).alloc (.cells #[.bool en, .int .i8 es, .int .u64 ec] 55)).alloc (.cells #[.bool false, .int .i8 0, .int .u64 0] 55)) w1) => (HBS.out.kept h).facts)
 have HBX := hid (fun w1 (h : Chg (fun _ => False) (((w.alloc (.cells #[.bool dn, .int .i8 es, .int .u64 dc] 55)).alloc (.cells #[.bool en, .int .i8 es, .int .u64 ec] 55)).alloc (.cells #[.bool false, .int .i8 0, .int .u64 0] 55)) w1) => (HBS.out.kept h).h2)
 have HC0 := hid (start3 w (.cells #[.bool dn, .int .i8 es, .int .u64 dc] 55) (.cells #[.bool en, .int .i8 es, .int .u64 ec] 55) (.cells #[.bool false, .int .i8 0, .int .u64 0] 55))
 have hk := Chg.refl (fun _ => False) (((w.alloc (.cells #[.bool dn, .int .i8 es, .int .u64 dc] 55)).alloc (.cells #[.bool en, .int .i8 es, .int .u64 ec] 55)).alloc (.cells #[.bool false, .int .i8 0, .int .u64 0] 55))
 have HT := hid (fun w1 (h : Chg (fun _ => False) (((w.alloc (.cells #[.bool dn, .int .i8 es, .int .u64 dc] 55)).alloc (.cells #[.bool en, .int .i8 es, .int .u64 ec] 55)).alloc (.cells #[.bool false, .int .i8 0, .int .u64 0] 55)) w1) => ((he.kept HC0.out).kept h))
 obtain ⟨t, v, HOV⟩ : ∃ t v, Hid (∀ w1, Chg (fun _ => False) (((w.alloc (.cells #[.bool dn, .int .i8 es, .int .u64 dc] 55)).alloc (.cells #[.bool en, .int .i8 es, .int .u64 ec] 55)).alloc (.cells #[.bool false, .int .i8 0, .int .u64 0] 55)) w1 → w1.cell? ⟨0, 0, none⟩ = some (.iface t v)) := by
  obtain ⟨t, v, h⟩ := (he.kept HC0.out).ovf
  exact ⟨t, v, hid (fun w1 hc => cell_kept h hc (fun h => h))⟩
 obtain ⟨d0, d1, d2, e0, e1, e2, r0, r1, r2, q0, q1, q2⟩ := HB.out _ hk
 have ov := HOV.out _ hk
 obtain ⟨hdc0, hdc1⟩ := hdc
 obtain ⟨hec0, hec1⟩ := hec
 clear he HBS
 go_enter Tryz.func86, Tryz.ntmps86
 go_wp2_with (first | (go_at_call 66; first | (refine (HSD.out _).mono ?_; intro e w1 h; obtain ⟨he1, hc1⟩ := h; subst he1; replace hk := hk.trans hc1 sb_; clear hc1 d0 d1 d2 e0 e1 e2 r0 r1 r2 q0 q1 q2 ov; obtain ⟨d0, d1, d2, e0, e1, e2, r0, r1, r2, q0, q1, q2⟩ := HB.out _ hk; have ov := HOV.out _ hk) | (refine (HSE.out _).mono ?_; intro e w1 h; obtain ⟨he1, hc1⟩ := h; subst he1; replace hk := hk.trans hc1 sb_; clear hc1 d0 d1 d2 e0 e1 e2 r0 r1 r2 q0 q1 q2 ov; obtain ⟨d0, d1, d2, e0, e1, e2, r0, r1, r2, q0, q1, q2⟩ := HB.out _ hk; have ov := HOV.out _ hk)) | (go_at_call 64; first | (refine (HND.out _).mono ?_; intro e w1 h; obtain ⟨he1, hc1⟩ := h; subst he1; replace hk := hk.trans hc1 sb_; clear hc1 d0 d1 d2 e0 e1 e2 r0 r1 r2 q0 q1 q2 ov; obtain ⟨d0, d1, d2, e0, e1, e2, r0, r1, r2, q0, q1, q2⟩ := HB.out _ hk; have ov := HOV.out _ hk) | (refine (HNE.out _).mono ?_; intro e w1 h; obtain ⟨he1, hc1⟩ := h; subst he1; replace hk := hk.trans hc1 sb_; clear hc1 d0 d1 d2 e0 e1 e2 r0 r1 r2 q0 q1 q2 ov; obtain ⟨d0, d1, d2, e0, e1, e2, r0, r1, r2, q0, q1, q2⟩ := HB.out _ hk; have ov := HOV.out _ hk)) | (go_at_call 96; refine (HS.out _).mono ?_; intro e w2 h; obtain ⟨he1, he2⟩ := h; subst he1; subst he2) | (go_at_call 97; refine (HF.out _ (HT.out _ hk)).mono ?_; intro e w1 h; obtain ⟨na, nb, nc, nv, he1, hc1, hp⟩ := h.op; subst he1; replace hk := hk.trans hc1 sb_; clear h hc1 d0 d1 d2 e0 e1 e2 r0 r1 r2 q0 q1 q2 ov; obtain ⟨d0, d1, d2, e0, e1, e2, r0, r1, r2, q0, q1, q2⟩ := HB.out _ hk; have HP := hid hp; clear hp))
 refine bodyPost_ret (v := .tuple #[.agg #[.bool na, .int .i8 nb, .int .u64 nc], nv]) (dec_result rfl _ _ (w.heap.size + 1 + 1) _ _ _ _ 55 rfl rfl (store3 (HBX.out _ hk) _ _ _)) rfl (HP.out.move (chg3 (HC0.out.trans hk sb_) (by omega) _ _ _))
set_option maxHeartbeats 4000000 in
theorem addBint_gt_same (dn en : Bool) (dc ec ds es m : Nat) (hdc : digs dc ≤ 19) (hec : digs ec ≤ 19) (hwd : Wd (dc : Int)) (hwe : Wd (ec : Int)) (hds : ds ≤ 19) (hes : es ≤ 19) (hm : m ≤ 19) (w : World) (he : EnvD w) (hlt : es < ds) (X : Nat) (hX : ec * 10 ^ (ds - es) = X) (hs : (dn == en) = true) (C : Nat) (hC : dc + X = C) :
  Calls Tryz.prog 87 #[.agg #[.bool dn, .int .i8 ds, .int .u64 (dc : Int)], .agg #[.bool en, .int .i8 es, .int .u64 (ec : Int)], .int .i64 m] w (PDecN w dn (from19 (10 ^ 19) 2 C ds m)) := by
 have HWD := hid hwd
 have HWE := hid hwe
 clear hwd hwe
 have c1 : (es : Int) < (ds : Int) := by omega
 have hw : IntKind.i64.wrap ((ds : Int) - (es : Int)) = ((ds - es : Nat) : Int) := by rw [show (ds : Int) - (es : Int) = ((ds - es : Nat) : Int) by omega]; exact IntWalk.i64_in _ (by omega)
 have HL := hid (fun w0 w2 p q (h : Two w0 w2 q p (dc : Int) (ec : Int)) => two_lsh' (k := ds - es) h (Nat.le_trans hec (by omega)) (by omega))
 rw [hX] at HL
 have hXd : digs X ≤ 38 := by rw [← hX]; exact Nat.le_trans (digs_mul hec) (by omega)
 have hCd : digs C ≤ 39 := digs_add (Nat.le_trans hdc (by omega) : digs dc ≤ 38) hXd (by omega)
 have HA := hid (fun w0 w2 p q (h : Two w0 w2 p q (dc : Int) (X : Int)) => two_add h (Nat.le_trans hdc (by omega)) (Nat.le_trans hXd (by omega)))
 rw [hC] at HA
 have HF := hid (fun w0 w2 p q y (h : Two w0 w2 p q (C : Int) y) => two_nfb (s := ds) dn h (Nat.le_trans hCd (by omega)) (by omega) hm)
 generalize from19 (10 ^ 19) 2 C ds m = o at *
 clear hX hXd
 clear hC hCd hdc hec
 have HSD := hid (fun w => Scale_any dn (dc : Int) ds hds w)
 have HSE := hid (fun w => Scale_any en (ec : Int) es hes w)
 have HND := hid (fun w => IsNeg_any dn (dc : Int) ds w)
 have HNE := hid (fun w => IsNeg_any en (ec : Int) es w)
 have HBS := hid (Bx.start w dn ds (dc : Int) en es (ec : Int))
 have HB := hid (fun w1 (h : Chg (fun _ => False) (((w.alloc (.cells #[.bool dn, .int .i8 ds, .int .u64 (dc : Int)] 55)).alloc (.cells #[.bool en, .int .i8 es, .int .u64 (ec : Int)] 55)).alloc (.cells #[.bool false, .int .i8 0, .int .u64 0] 55)) w1) => (HBS.out.kept h).facts)
 have HBX := hid (fun w1 (h : Chg (fun _ => False) (((w.alloc (.cells #[.bool dn, .int .i8 ds, .int .u64 (dc : Int)] 55)).alloc (.cells #[.bool en, .int .i8 es, .int .u64 (ec : Int)] 55)).alloc (.cells #[.bool false, .int .i8 0, .int .u64 0] 55)) w1) => (HBS.out.kept h).h2)
 have HC0 := hid (start3 w (.cells #[.bool dn, .int .i8 ds, .int .u64 (dc : Int)] 55) (.cells #[.bool en, .int .i8 es, .int .u64 (ec : Int)] 55) (.cells #[.bool false, .int .i8 0, .int .u64 0] 55))
 have HE0 := hid (he.kept HC0.out)
 have hk := Chg.refl (fun _ => False) (((w.alloc (.cells #[.bool dn, .int .i8 ds, .int .u64 (dc : Int)] 55)).alloc (.cells #[.bool en, .int .i8 es, .int .u64 (ec : Int)] 55)).alloc (.cells #[.bool false, .int .i8 0, .int .u64 0] 55))
 obtain ⟨d0, d1, d2, e0, e1, e2, r0, r1, r2, q0, q1, q2⟩ := HB.out _ hk
 generalize ds - es = j at *
 clear he HBS
 go_enter_defers Tryz.func87, Tryz.ntmps87
 go_wp2_with (first | (go_at_call 98; refine (getBint_any _).mono ?_; intro e w1 h; obtain ⟨q, he1, hi2, hs2, hc2⟩ := h; subst he1; have HT := hid (Two.start HIP.out hsp hcp hi2 hs2 hc2 HE0.out); replace hk := hk.trans hc2 sb_; clear hi2 hs2 hc2; clear d0 d1 d2 e0 e1 e2 r0 r1 r2 q0 q1 q2; obtain ⟨d0, d1, d2, e0, e1, e2, r0, r1, r2, q0, q1, q2⟩ := HB.out _ hk) | (go_at_call 98; refine (getBint_any _).mono ?_; intro e w1 h; obtain ⟨p, he1, hip, hsp, hcp⟩ := h; subst he1; have HIP := hid hip; clear hip; replace hk := hk.trans hcp sb_; clear d0 d1 d2 e0 e1 e2 r0 r1 r2 q0 q1 q2; obtain ⟨d0, d1, d2, e0, e1, e2, r0, r1, r2, q0, q1, q2⟩ := HB.out _ hk) | (go_at_call 66; first | (refine (HSD.out _).mono ?_; intro e w1 h; obtain ⟨he1, hc1⟩ := h; subst he1; have HT := hid (HT.out.same hc1); replace hk := hk.trans hc1 sb_; clear hc1; clear d0 d1 d2 e0 e1 e2 r0 r1 r2 q0 q1 q2; obtain ⟨d0, d1, d2, e0, e1, e2, r0, r1, r2, q0, q1, q2⟩ := HB.out _ hk) | (refine (HSE.out _).mono ?_; intro e w1 h; obtain ⟨he1, hc1⟩ := h; subst he1; have HT := hid (HT.out.same hc1); replace hk := hk.trans hc1 sb_; clear hc1; clear d0 d1 d2 e0 e1 e2 r0 r1 r2 q0 q1 q2; obtain ⟨d0, d1, d2, e0, e1, e2, r0, r1, r2, q0, q1, q2⟩ := HB.out _ hk)) | (go_at_call 64; first | (refine (HND.out _).mono ?_; intro e w1 h; obtain ⟨he1, hc1⟩ := h; subst he1; have HT := hid (HT.out.same hc1); replace hk := hk.trans hc1 sb_; clear hc1; clear d0 d1 d2 e0 e1 e2 r0 r1 r2 q0 q1 q2; obtain ⟨d0, d1, d2, e0, e1, e2, r0, r1, r2, q0, q1, q2⟩ := HB.out _ hk) | (refine (HNE.out _).mono ?_; intro e w1 h; obtain ⟨he1, hc1⟩ := h; subst he1; have HT := hid (HT.out.same hc1); replace hk := hk.trans hc1 sb_; clear hc1; clear d0 d1 d2 e0 e1 e2 r0 r1 r2 q0 q1 q2; obtain ⟨d0, d1, d2, e0, e1, e2, r0, r1, r2, q0, q1, q2⟩ := HB.out _ hk)) | (go_at_call 100; first | (refine (two_setFint HT.out HWD.out).mono ?_; intro e w1 h; obtain ⟨he1, h⟩ := h; subst he1; have HT := hid h; clear h; replace hk := HT.out.chg; clear d0 d1 d2 e0 e1 e2 r0 r1 r2 q0 q1 q2; obtain ⟨d0, d1, d2, e0, e1, e2, r0, r1, r2, q0, q1, q2⟩ := HB.out _ hk) | (refine (two_setFint' HT.out HWE.out).mono ?_; intro e w1 h; obtain ⟨he1, h⟩ := h; subst he1; have HT := hid h; clear h; replace hk := HT.out.chg; clear d0 d1 d2 e0 e1 e2 r0 r1 r2 q0 q1 q2; obtain ⟨d0, d1, d2, e0, e1, e2, r0, r1, r2, q0, q1, q2⟩ := HB.out _ hk)) | (go_at_call 101; refine (HL.out _ _ _ _ HT.out).mono ?_; intro e w1 h; obtain ⟨he1, h⟩ := h; subst he1; have HT := hid h; clear h; replace hk := HT.out.chg; clear d0 d1 d2 e0 e1 e2 r0 r1 r2 q0 q1 q2; obtain ⟨d0, d1, d2, e0, e1, e2, r0, r1, r2, q0, q1, q2⟩ := HB.out _ hk) | (go_at_call 102; refine (HA.out _ _ _ _ HT.out).mono ?_; intro e w1 h; obtain ⟨he1, h⟩ := h; subst he1; have HT := hid h; clear h; replace hk := HT.out.chg; clear d0 d1 d2 e0 e1 e2 r0 r1 r2 q0 q1 q2; obtain ⟨d0, d1, d2, e0, e1, e2, r0, r1, r2, q0, q1, q2⟩ := HB.out _ hk) | (go_at_call 105; refine (HF.out _ _ _ _ _ HT.out).mono ?_; intro e w1 h; obtain ⟨na, nb, nc, nv, he1, hc1, hp⟩ := h.op; subst he1; replace hk := hc1; clear h hc1; clear d0 d1 d2 e0 e1 e2 r0 r1 r2 q0 q1 q2; obtain ⟨d0, d1, d2, e0, e1, e2, r0, r1, r2, q0, q1, q2⟩ := HB.out _ hk; have HP := hid hp; clear hp))
 refine leaves_cons (f := 99) (args := #[.pointer (some ⟨q, 0, none⟩)]) (by simp) (by simp [go_sem]) ?_
 refine (putBint_d _ .returning _).mono ?_
 rintro e u' w'' ⟨rfl, rfl, rfl⟩
 refine leaves_cons (f := 99) (args := #[.pointer (some ⟨p, 0, none⟩)]) (by simp [settle]) (by simp [go_sem]) ?_
 refine (putBint_d _ .returning _).mono ?_
 rintro e u' w'' ⟨rfl, rfl, rfl⟩
 exact ⟨.tuple #[.agg #[.bool na, .int .i8 nb, .int .u64 nc], nv], dec_result rfl _ _ (w.heap.size + 1 + 1) _ _ _ _ 55 rfl rfl (store3 (HBX.out _ hk) _ _ _), HP.out.move (chg3 (HC0.out.trans hk sb_) (by omega) _ _ _)⟩
set_option maxHeartbeats 4000000 in
theorem addBint_gt_dgt (dn en : Bool) (dc ec ds es m : Nat) (hdc : digs dc ≤ 19) (hec : digs ec ≤ 19) (hwd : Wd (dc : Int)) (hwe : Wd (ec : Int)) (hds : ds ≤ 19) (hes : es ≤ 19) (hm : m ≤ 19) (w : World) (he : EnvD w) (hlt : es < ds) (X : Nat) (hX : ec * 10 ^ (ds - es) = X) (hs : (dn == en) = false) (hg : dc < X) (C : Nat) (hC : X - dc = C) :
  Calls Tryz.prog 87 #[.agg #[.bool dn, .int .i8 ds, .int .u64 (dc : Int)], .agg #[.bool en, .int .i8 es, .int .u64 (ec : Int)], .int .i64 m] w (PDecN w en (from19 (10 ^ 19) 2 C ds m)) := by
 have HWD := hid hwd
 have HWE := hid hwe
 clear hwd hwe
 have c1 : (es : Int) < (ds : Int) := by omega
 have hw : IntKind.i64.wrap ((ds : Int) - (es : Int)) = ((ds - es : Nat) : Int) := by rw [show (ds : Int) - (es : Int) = ((ds - es : Nat) : Int) by omega]; exact IntWalk.i64_in _ (by omega)
 have HL := hid (fun w0 w2 p q (h : Two w0 w2 q p (dc : Int) (ec : Int)) => two_lsh' (k := ds - es) h (Nat.le_trans hec (by omega)) (by omega))
 rw [hX] at HL
 have hXd : digs X ≤ 38 := by rw [← hX]; exact Nat.le_trans (digs_mul hec) (by omega)
 have hCd : digs C ≤ 39 := digs_add (Nat.le_trans hdc (by omega) : digs dc ≤ 38) hXd (by omega)
 have hcc : (if dc < X then X - dc else dc - X) = C := by rw [if_pos hg]; exact hC
 have HSB := hid (fun w0 w2 p q (h : Two w0 w2 p q (dc : Int) (X : Int)) => two_subAbs h (Nat.le_trans hdc (by omega)) (Nat.le_trans hXd (by omega)) hcc)
 have hcm : cmpI (X : Int) (dc : Int) = 1 := by unfold cmpI; rw [if_neg (by omega), if_pos (by omega)]
 obtain ⟨kk, hkk⟩ : ∃ kk : Int, kk = 1 := ⟨_, rfl⟩
 rw [← hkk] at hcm
 have hkp : (0 : Int) < kk := by omega
 have HCM := hid (fun w0 w2 p q (h : Two w0 w2 p q (dc : Int) (X : Int)) => two_cmp h hcm)
 clear hcc hcm hg
 clear hkk
 have HF := hid (fun w0 w2 p q y (h : Two w0 w2 p q (C : Int) y) => two_nfb (s := ds) en h (Nat.le_trans hCd (by omega)) (by omega) hm)
 generalize from19 (10 ^ 19) 2 C ds m = o at *
 clear hX hXd
 clear hC hCd hdc hec
 have HSD := hid (fun w => Scale_any dn (dc : Int) ds hds w)
 have HSE := hid (fun w => Scale_any en (ec : Int) es hes w)
 have HND := hid (fun w => IsNeg_any dn (dc : Int) ds w)
 have HNE := hid (fun w => IsNeg_any en (ec : Int) es w)
 have HBS := hid (Bx.start w dn ds (dc : Int) en es (ec : Int))
 have HB := hid (fun w1 (h : Chg (fun _ => False) (((w.alloc (.cells #[.bool dn, .int .i8 ds, .int .u64 (dc : Int)] 55)).alloc (.cells #[.bool en, .int .i8 es, .int .u64 (ec : Int)] 55)).alloc (.cells #[.bool false, .int .i8 0, .int .u64 0] 55)) w1) => (HBS.out.kept h).facts)
 have HBX := hid (fun w1 (h : Chg (fun _ => False) (((w.alloc (.cells #[.bool dn, .int .i8 ds, .int .u64 (dc : Int)] 55)).alloc (.cells #[.bool en, .int .i8 es, .int .u64 (ec : Int)] 55)).alloc (.cells #[.bool false, .int .i8 0, .int .u64 0] 55)) w1) => (HBS.out.kept h).h2)
 have HC0 := hid (start3 w (.cells #[.bool dn, .int .i8 ds, .int .u64 (dc : Int)] 55) (.cells #[.bool en, .int .i8 es, .int .u64 (ec : Int)] 55) (.cells #[.bool false, .int .i8 0, .int .u64 0] 55))
 have HE0 := hid (he.kept HC0.out)
 have hk := Chg.refl (fun _ => False) (((w.alloc (.cells #[.bool dn, .int .i8 ds, .int .u64 (dc : Int)] 55)).alloc (.cells #[.bool en, .int .i8 es, .int .u64 (ec : Int)] 55)).alloc (.cells #[.bool false, .int .i8 0, .int .u64 0] 55))
 obtain ⟨d0, d1, d2, e0, e1, e2, r0, r1, r2, q0, q1, q2⟩ := HB.out _ hk
 generalize ds - es = j at *
 clear he HBS
 go_enter_defers Tryz.func87, Tryz.ntmps87
 go_wp2_with (first | (go_at_call 98; refine (getBint_any _).mono ?_; intro e w1 h; obtain ⟨q, he1, hi2, hs2, hc2⟩ := h; subst he1; have HT := hid (Two.start HIP.out hsp hcp hi2 hs2 hc2 HE0.out); replace hk := hk.trans hc2 sb_; clear hi2 hs2 hc2; clear d0 d1 d2 e0 e1 e2 r0 r1 r2 q0 q1 q2; obtain ⟨d0, d1, d2, e0, e1, e2, r0, r1, r2, q0, q1, q2⟩ := HB.out _ hk) | (go_at_call 98; refine (getBint_any _).mono ?_; intro e w1 h; obtain ⟨p, he1, hip, hsp, hcp⟩ := h; subst he1; have HIP := hid hip; clear hip; replace hk := hk.trans hcp sb_; clear d0 d1 d2 e0 e1 e2 r0 r1 r2 q0 q1 q2; obtain ⟨d0, d1, d2, e0, e1, e2, r0, r1, r2, q0, q1, q2⟩ := HB.out _ hk) | (go_at_call 66; first | (refine (HSD.out _).mono ?_; intro e w1 h; obtain ⟨he1, hc1⟩ := h; subst he1; have HT := hid (HT.out.same hc1); replace hk := hk.trans hc1 sb_; clear hc1; clear d0 d1 d2 e0 e1 e2 r0 r1 r2 q0 q1 q2; obtain ⟨d0, d1, d2, e0, e1, e2, r0, r1, r2, q0, q1, q2⟩ := HB.out _ hk) | (refine (HSE.out _).mono ?_; intro e w1 h; obtain ⟨he1, hc1⟩ := h; subst he1; have HT := hid (HT.out.same hc1); replace hk := hk.trans hc1 sb_; clear hc1; clear d0 d1 d2 e0 e1 e2 r0 r1 r2 q0 q1 q2; obtain ⟨d0, d1, d2, e0, e1, e2, r0, r1, r2, q0, q1, q2⟩ := HB.out _ hk)) | (go_at_call 64; first | (refine (HND.out _).mono ?_; intro e w1 h; obtain ⟨he1, hc1⟩ := h; subst he1; have HT := hid (HT.out.same hc1); replace hk := hk.trans hc1 sb_; clear hc1; clear d0 d1 d2 e0 e1 e2 r0 r1 r2 q0 q1 q2; obtain ⟨d0, d1, d2, e0, e1, e2, r0, r1, r2, q0, q1, q2⟩ := HB.out _ hk) | (refine (HNE.out _).mono ?_; intro e w1 h; obtain ⟨he1, hc1⟩ := h; subst he1; have HT := hid (HT.out.same hc1); replace hk := hk.trans hc1 sb_; clear hc1; clear d0 d1 d2 e0 e1 e2 r0 r1 r2 q0 q1 q2; obtain ⟨d0, d1, d2, e0, e1, e2, r0, r1, r2, q0, q1, q2⟩ := HB.out _ hk)) | (go_at_call 100; first | (refine (two_setFint HT.out HWD.out).mono ?_; intro e w1 h; obtain ⟨he1, h⟩ := h; subst he1; have HT := hid h; clear h; replace hk := HT.out.chg; clear d0 d1 d2 e0 e1 e2 r0 r1 r2 q0 q1 q2; obtain ⟨d0, d1, d2, e0, e1, e2, r0, r1, r2, q0, q1, q2⟩ := HB.out _ hk) | (refine (two_setFint' HT.out HWE.out).mono ?_; intro e w1 h; obtain ⟨he1, h⟩ := h; subst he1; have HT := hid h; clear h; replace hk := HT.out.chg; clear d0 d1 d2 e0 e1 e2 r0 r1 r2 q0 q1 q2; obtain ⟨d0, d1, d2, e0, e1, e2, r0, r1, r2, q0, q1, q2⟩ := HB.out _ hk)) | (go_at_call 101; refine (HL.out _ _ _ _ HT.out).mono ?_; intro e w1 h; obtain ⟨he1, h⟩ := h; subst he1; have HT := hid h; clear h; replace hk := HT.out.chg; clear d0 d1 d2 e0 e1 e2 r0 r1 r2 q0 q1 q2; obtain ⟨d0, d1, d2, e0, e1, e2, r0, r1, r2, q0, q1, q2⟩ := HB.out _ hk) | (go_at_call 103; refine (HCM.out _ _ _ _ HT.out).mono ?_; intro e w1 h; obtain ⟨he1, h⟩ := h; subst he1; have HT := hid h; clear h; replace hk := HT.out.chg; clear d0 d1 d2 e0 e1 e2 r0 r1 r2 q0 q1 q2; obtain ⟨d0, d1, d2, e0, e1, e2, r0, r1, r2, q0, q1, q2⟩ := HB.out _ hk) | (go_at_call 104; refine (HSB.out _ _ _ _ HT.out).mono ?_; intro e w1 h; obtain ⟨he1, h⟩ := h; subst he1; have HT := hid h; clear h; replace hk := HT.out.chg; clear d0 d1 d2 e0 e1 e2 r0 r1 r2 q0 q1 q2; obtain ⟨d0, d1, d2, e0, e1, e2, r0, r1, r2, q0, q1, q2⟩ := HB.out _ hk) | (go_at_call 105; refine (HF.out _ _ _ _ _ HT.out).mono ?_; intro e w1 h; obtain ⟨na, nb, nc, nv, he1, hc1, hp⟩ := h.op; subst he1; replace hk := hc1; clear h hc1; clear d0 d1 d2 e0 e1 e2 r0 r1 r2 q0 q1 q2; obtain ⟨d0, d1, d2, e0, e1, e2, r0, r1, r2, q0, q1, q2⟩ := HB.out _ hk; have HP := hid hp; clear hp))
 refine leaves_cons (f := 99) (args := #[.pointer (some ⟨q, 0, none⟩)]) (by simp) (by simp [go_sem]) ?_
 refine (putBint_d _ .returning _).mono ?_
 rintro e u' w'' ⟨rfl, rfl, rfl⟩
 refine leaves_cons (f := 99) (args := #[.pointer (some ⟨p, 0, none⟩)]) (by simp [settle]) (by simp [go_sem]) ?_
 refine (putBint_d _ .returning _).mono ?_
 rintro e u' w'' ⟨rfl, rfl, rfl⟩
 exact ⟨.tuple #[.agg #[.bool na, .int .i8 nb, .int .u64 nc], nv], dec_result rfl _ _ (w.heap.size + 1 + 1) _ _ _ _ 55 rfl rfl (store3 (HBX.out _ hk) _ _ _), HP.out.move (chg3 (HC0.out.trans hk sb_) (by omega) _ _ _)⟩
set_option maxHeartbeats 4000000 in
theorem addBint_gt_dle (dn en : Bool) (dc ec ds es m : Nat) (hdc : digs dc ≤ 19) (hec : digs ec ≤ 19) (hwd : Wd (dc : Int)) (hwe : Wd (ec : Int)) (hds : ds ≤ 19) (hes : es ≤ 19) (hm : m ≤ 19) (w : World) (he : EnvD w) (hlt : es < ds) (X : Nat) (hX : ec * 10 ^ (ds - es) = X) (hs : (dn == en) = false) (hg : ¬ dc < X) (C : Nat) (hC : dc - X = C) :
  Calls Tryz.prog 87 #[.agg #[.bool dn, .int .i8 ds, .int .u64 (dc : Int)], .agg #[.bool en, .int .i8 es, .int .u64 (ec : Int)], .int .i64 m] w (PDecN w dn (from19 (10 ^ 19) 2 C ds m)) := by
 have HWD := hid hwd
 have HWE := hid hwe
 clear hwd hwe
 have c1 : (es : Int) < (ds : Int) := by omega
 have hw : IntKind.i64.wrap ((ds : Int) - (es : Int)) = ((ds - es : Nat) : Int) := by rw [show (ds : Int) - (es : Int) = ((ds - es : Nat) : Int) by omega]; exact IntWalk.i64_in _ (by omega)
 have HL := hid (fun w0 w2 p q (h : Two w0 w2 q p (dc : Int) (ec : Int)) => two_lsh' (k := ds - es) h (Nat.le_trans hec (by omega)) (by omega))
 rw [hX] at HL
 have hXd : digs X ≤ 38 := by rw [← hX]; exact Nat.le_trans (digs_mul hec) (by omega)
 have hCd : digs C ≤ 39 := digs_add (Nat.le_trans hdc (by omega) : digs dc ≤ 38) hXd (by omega)
 have hcc : (if dc < X then X - dc else dc - X) = C := by rw [if_neg hg]; exact hC
 have HSB := hid (fun w0 w2 p q (h : Two w0 w2 p q (dc : Int) (X : Int)) => two_subAbs h (Nat.le_trans hdc (by omega)) (Nat.le_trans hXd (by omega)) hcc)
 obtain ⟨kk, hcm⟩ : ∃ kk : Int, cmpI (X : Int) (dc : Int) = kk := ⟨_, rfl⟩
 have hkp : ¬ (0 : Int) < kk := by rw [← hcm]; unfold cmpI; split <;> (try split) <;> omega
 have HCM := hid (fun w0 w2 p q (h : Two w0 w2 p q (dc : Int) (X : Int)) => two_cmp h hcm)
 clear hcc hcm hg
 have HF := hid (fun w0 w2 p q y (h : Two w0 w2 p q (C : Int) y) => two_nfb (s := ds) dn h (Nat.le_trans hCd (by omega)) (by omega) hm)
 generalize from19 (10 ^ 19) 2 C ds m = o at *
 clear hX hXd
 clear hC hCd hdc hec
 have HSD := hid (fun w => Scale_any dn (dc : Int) ds hds w)
 have HSE := hid (fun w => Scale_any en (ec : Int) es hes w)
 have HND := hid (fun w => IsNeg_any dn (dc : Int) ds w)
 have HNE := hid (fun w => IsNeg_any en (ec : Int) es w)
 have HBS := hid (Bx.start w dn ds (dc : Int) en es (ec : Int))
 have HB := hid (fun w1 (h : Chg (fun _ => False) (((w.alloc (.cells #[.bool dn, .int .i8 ds, .int .u64 (dc : Int)] 55)).alloc (.cells #[.bool en, .int .i8 es, .int .u64 (ec : Int)] 55)).alloc (.cells #[.bool false, .int .i8 0, .int .u64 0] 55)) w1) => (HBS.out.kept h).facts)
 have HBX := hid (fun w1 (h : Chg (fun _ => False) (((w.alloc (.cells #[.bool dn, .int .i8 ds, .int .u64 (dc : Int)] 55)).alloc (.cells #[.bool en, .int .i8 es, .int .u64 (ec : Int)] 55)).alloc (.cells #[.bool false, .int .i8 0, .int .u64 0] 55)) w1) => (HBS.out.kept h).h2)
 have HC0 := hid (start3 w (.cells #[.bool dn, .int .i8 ds, .int .u64 (dc : Int)] 55) (.cells #[.bool en, .int .i8 es, .int .u64 (ec : Int)] 55) (.cells #[.bool false, .int .i8 0, .int .u64 0] 55))
 have HE0 := hid (he.kept HC0.out)
 have hk := Chg.refl (fun _ => False) (((w.alloc (.cells #[.bool dn, .int .i8 ds, .int .u64 (dc : Int)] 55)).alloc (.cells #[.bool en, .int .i8 es, .int .u64 (ec : Int)] 55)).alloc (.cells #[.bool false, .int .i8 0, .int .u64 0] 55))
 obtain ⟨d0, d1, d2, e0, e1, e2, r0, r1, r2, q0, q1, q2⟩ := HB.out _ hk
 generalize ds - es = j at *
 clear he HBS
 go_enter_defers Tryz.func87, Tryz.ntmps87
 go_wp2_with (first | (go_at_call 98; refine (getBint_any _).mono ?_; intro e w1 h; obtain ⟨q, he1, hi2, hs2, hc2⟩ := h; subst he1; have HT := hid (Two.start HIP.out hsp hcp hi2 hs2 hc2 HE0.out); replace hk := hk.trans hc2 sb_; clear hi2 hs2 hc2; clear d0 d1 d2 e0 e1 e2 r0 r1 r2 q0 q1 q2; obtain ⟨d0, d1, d2, e0, e1, e2, r0, r1, r2, q0, q1, q2⟩ := HB.out _ hk) | (go_at_call 98; refine (getBint_any _).mono ?_; intro e w1 h; obtain ⟨p, he1, hip, hsp, hcp⟩ := h; subst he1; have HIP := hid hip; clear hip; replace hk := hk.trans hcp sb_; clear d0 d1 d2 e0 e1 e2 r0 r1 r2 q0 q1 q2; obtain ⟨d0, d1, d2, e0, e1, e2, r0, r1, r2, q0, q1, q2⟩ := HB.out _ hk) | (go_at_call 66; first | (refine (HSD.out _).mono ?_; intro e w1 h; obtain ⟨he1, hc1⟩ := h; subst he1; have HT := hid (HT.out.same hc1); replace hk := hk.trans hc1 sb_; clear hc1; clear d0 d1 d2 e0 e1 e2 r0 r1 r2 q0 q1 q2; obtain ⟨d0, d1, d2, e0, e1, e2, r0, r1, r2, q0, q1, q2⟩ := HB.out _ hk) | (refine (HSE.out _).mono ?_; intro e w1 h; obtain ⟨he1, hc1⟩ := h; subst he1; have HT := hid (HT.out.same hc1); replace hk := hk.trans hc1 sb_; clear hc1; clear d0 d1 d2 e0 e1 e2 r0 r1 r2 q0 q1 q2; obtain ⟨d0, d1, d2, e0, e1, e2, r0, r1, r2, q0, q1, q2⟩ := HB.out _ hk)) | (go_at_call 64; first | (refine (HND.out _).mono ?_; intro e w1 h; obtain ⟨he1, hc1⟩ := h; subst he1; have HT := hid (HT.out.same hc1); replace hk := hk.trans hc1 sb_; clear hc1; clear d0 d1 d2 e0 e1 e2 r0 r1 r2 q0 q1 q2; obtain ⟨d0, d1, d2, e0, e1, e2, r0, r1, r2, q0, q1, q2⟩ := HB.out _ hk) | (refine (HNE.out _).mono ?_; intro e w1 h; obtain ⟨he1, hc1⟩ := h; subst he1; have HT := hid (HT.out.same hc1); replace hk := hk.trans hc1 sb_; clear hc1; clear d0 d1 d2 e0 e1 e2 r0 r1 r2 q0 q1 q2; obtain ⟨d0, d1, d2, e0, e1, e2, r0, r1, r2, q0, q1, q2⟩ := HB.out _ hk)) | (go_at_call 100; first | (refine (two_setFint HT.out HWD.out).mono ?_; intro e w1 h; obtain ⟨he1, h⟩ := h; subst he1; have HT := hid h; clear h; replace hk := HT.out.chg; clear d0 d1 d2 e0 e1 e2 r0 r1 r2 q0 q1 q2; obtain ⟨d0, d1, d2, e0, e1, e2, r0, r1, r2, q0, q1, q2⟩ := HB.out _ hk) | (refine (two_setFint' HT.out HWE.out).mono ?_; intro e w1 h; obtain ⟨he1, h⟩ := h; subst he1; have HT := hid h; clear h; replace hk := HT.out.chg; clear d0 d1 d2 e0 e1 e2 r0 r1 r2 q0 q1 q2; obtain ⟨d0, d1, d2, e0, e1, e2, r0, r1, r2, q0, q1, q2⟩ := HB.out _ hk)) | (go_at_call 101; refine (HL.out _ _ _ _ HT.out).mono ?_; intro e w1 h; obtain ⟨he1, h⟩ := h; subst he1; have HT := hid h; clear h; replace hk := HT.out.chg; clear d0 d1 d2 e0 e1 e2 r0 r1 r2 q0 q1 q2; obtain ⟨d0, d1, d2, e0, e1, e2, r0, r1, r2, q0, q1, q2⟩ := HB.out _ hk) | (go_at_call 103; refine (HCM.out _ _ _ _ HT.out).mono ?_; intro e w1 h; obtain ⟨he1, h⟩ := h; subst he1; have HT := hid h; clear h; replace hk := HT.out.chg; clear d0 d1 d2 e0 e1 e2 r0 r1 r2 q0 q1 q2; obtain ⟨d0, d1, d2, e0, e1, e2, r0, r1, r2, q0, q1, q2⟩ := HB.out _ hk) | (go_at_call 104; refine (HSB.out _ _ _ _ HT.out).mono ?_; intro e w1 h; obtain ⟨he1, h⟩ := h; subst he1; have HT := hid h; clear h; replace hk := HT.out.chg; clear d0 d1 d2 e0 e1 e2 r0 r1 r2 q0 q1 q2; obtain ⟨d0, d1, d2, e0, e1, e2, r0, r1, r2, q0, q1, q2⟩ := HB.out _ hk) | (go_at_call 105; refine (HF.out _ _ _ _ _ HT.out).mono ?_; intro e w1 h; obtain ⟨na, nb, nc, nv, he1, hc1, hp⟩ := h.op; subst he1; replace hk := hc1; clear h hc1; clear d0 d1 d2 e0 e1 e2 r0 r1 r2 q0 q1 q2; obtain ⟨d0, d1, d2, e0, e1, e2, r0, r1, r2, q0, q1, q2⟩ := HB.out _ hk; have HP := hid hp; clear hp))
 refine leaves_cons (f := 99) (args := #[.pointer (some ⟨q, 0, none⟩)]) (by simp) (by simp [go_sem]) ?_
 refine (putBint_d _ .returning _).mono ?_
 rintro e u' w'' ⟨rfl, rfl, rfl⟩
 refine leaves_cons (f := 99) (args := #[.pointer (some ⟨p, 0, none⟩)]) (by simp [settle]) (by simp [go_sem]) ?_
 refine (putBint_d _ .returning _).mono ?_
 rintro e u' w'' ⟨rfl, rfl, rfl⟩
 exact ⟨.tuple #[.agg #[.bool na, .int .i8 nb, .int .u64 nc], nv], dec_result rfl _ _ (w.heap.size + 1 + 1) _ _ _ _ 55 rfl rfl (store3 (HBX.out _ hk) _ _ _), HP.out.move (chg3 (HC0.out.trans hk sb_) (by omega) _ _ _)⟩
end Go.Proofs.YtbjhnckboimliaaGreatDoor
