/- Part 21 of the proof. -/
import Derived.Test.YthdkandofddohaaGreatDoorP20
namespace Go.Proofs.YthdkandofddohaaGreatDoor
open Go.RowKit
set_option linter.unusedVariables false
set_option linter.unusedSimpArgs false
set_option maxRecDepth 20000
set_option maxHeartbeats 2000000 in
theorem addFint_gt_err (dn en : Bool) (dc ec : Int) (ds es m : Nat) (hdc : Fi dc) (hec : Fi ec) (hds : ds ≤ 19) (hes : es ≤ 19) (hm : m ≤ 19) (w : World) (he : EnvD w) (neg : Bool) (hlt : es < ds) (hX : ¬ ec * 10 ^ (ds - es) ≤ 9999999999999999999) :
  Calls Tryz.prog 67 #[.agg #[.bool dn, .int .i8 ds, .int .u64 dc], .agg #[.bool en, .int .i8 es, .int .u64 ec], .int .i64 m] w (PDec w neg none) := by
 have c1 : (es : Int) < (ds : Int) := by omega
 have hw : IntKind.i64.wrap ((ds : Int) - (es : Int)) = ((ds - es : Nat) : Int) := by rw [show (ds : Int) - (es : Int) = ((ds - es : Nat) : Int) by omega]; exact IntWalk.i64_in _ (by omega)
 have hl := fun w ht => fint_lsh ec (ds - es) hec (by omega) w ht
 have hX0 := Int.mul_nonneg hec.1 (Int.le_of_lt (p10_pos (ds - es)))
 simp only [if_neg hX, decide_eq_false hX] at hl
 clear hX
 have HL := hid hl
 clear hl
 have HSD := hid (fun w => Scale_any dn dc ds hds w)
 have HSE := hid (fun w => Scale_any en ec es hes w)
 have HND := hid (fun w => IsNeg_any dn dc ds w)
 have HNE := hid (fun w => IsNeg_any en ec es w)
 have HBS := hid (Bx.start w dn ds dc en es ec)
 have HB := hid (fun w1 (h : Chg (fun _ => False) (((w.alloc (.cells #[.bool dn, .int .i8 ds, .int .u64 dc] 54)).alloc (.cells #[.bool en, .int .i8 es, .int .u64 ec] 54)).alloc (.cells #[.bool false, .int .i8 0, .int .u64 0] 54)) w1) => (HBS.out.kept h).facts)
 have HBX := hid (fun w1 (h : Chg (fun _ => False) (((w.alloc (.cells #[.bool dn, .int .i8 ds, .int .u64 dc] 54)).alloc (.cells #[.bool en, .int .i8 es, .int .u64 ec] 54)).alloc (.cells #[.bool false, .int .i8 0, .int .u64 0] 54)) w1) => (HBS.out.kept h).h2)
 have HC0 := hid (start3 w (.cells #[.bool dn, .int .i8 ds, .int .u64 dc] 54) (.cells #[.bool en, .int .i8 es, .int .u64 ec] 54) (.cells #[.bool false, .int .i8 0, .int .u64 0] 54))
 have hk := Chg.refl (fun _ => False) (((w.alloc (.cells #[.bool dn, .int .i8 ds, .int .u64 dc] 54)).alloc (.cells #[.bool en, .int .i8 es, .int .u64 ec] 54)).alloc (.cells #[.bool false, .int .i8 0, .int .u64 0] 54))
 have HT := hid (fun w1 (h : Chg (fun _ => False) (((w.alloc (.cells #[.bool dn, .int .i8 ds, .int .u64 dc] 54)).alloc (.cells #[.bool en, .int .i8 es, .int .u64 ec] 54)).alloc (.cells #[.bool false, .int .i8 0, .int .u64 0] 54)) w1) => ((he.kept HC0.out).kept h))
 obtain ⟨t, v, HOV⟩ : ∃ t v, Hid (∀ w1, Chg (fun _ => False) (((w.alloc (.cells #[.bool dn, .int .i8 ds, .int .u64 dc] 54)).alloc (.cells #[.bool en, .int .i8 es, .int .u64 ec] 54)).alloc (.cells #[.bool false, .int .i8 0, .int .u64 0] 54)) w1 → w1.cell? ⟨2, 0, none⟩ = some (.iface t v)) := by
  obtain ⟨t, v, h⟩ := (he.kept HC0.out).ovf
  exact ⟨t, v, hid (fun w1 hc => cell_kept h hc (fun h => h))⟩
 have hgl_ : 2 < w.heap.size := by
  obtain ⟨_, _, h⟩ := he.ovf
  exact World.block_lt_of_cell? w _ h
 have gz0_ : ¬ w.heap.size = 0 := by omega
 have gz1_ : ¬ w.heap.size + 1 + 1 = 2 := by omega
 have gz2_ : ¬ 2 = w.heap.size + 1 + 1 := by omega
 clear hgl_
 obtain ⟨d0, d1, d2, e0, e1, e2, r0, r1, r2, q0, q1, q2⟩ := HB.out _ hk
 have ov := HOV.out _ hk
 generalize hj : ds - es = j at *
 clear hj
 obtain ⟨hdc0, hdc1⟩ := hdc
 obtain ⟨hec0, hec1⟩ := hec
 clear he HBS
 go_enter Tryz.func67, Tryz.ntmps67
 go_wp2_with (first | (go_at_call 48; first | (refine (HSD.out _).mono ?_; intro e w1 h; obtain ⟨he1, hc1⟩ := h; subst he1; replace hk := hk.trans hc1 sb_; clear hc1 d0 d1 d2 e0 e1 e2 r0 r1 r2 q0 q1 q2 ov; obtain ⟨d0, d1, d2, e0, e1, e2, r0, r1, r2, q0, q1, q2⟩ := HB.out _ hk; have ov := HOV.out _ hk) | (refine (HSE.out _).mono ?_; intro e w1 h; obtain ⟨he1, hc1⟩ := h; subst he1; replace hk := hk.trans hc1 sb_; clear hc1 d0 d1 d2 e0 e1 e2 r0 r1 r2 q0 q1 q2 ov; obtain ⟨d0, d1, d2, e0, e1, e2, r0, r1, r2, q0, q1, q2⟩ := HB.out _ hk; have ov := HOV.out _ hk)) | (go_at_call 46; first | (refine (HND.out _).mono ?_; intro e w1 h; obtain ⟨he1, hc1⟩ := h; subst he1; replace hk := hk.trans hc1 sb_; clear hc1 d0 d1 d2 e0 e1 e2 r0 r1 r2 q0 q1 q2 ov; obtain ⟨d0, d1, d2, e0, e1, e2, r0, r1, r2, q0, q1, q2⟩ := HB.out _ hk; have ov := HOV.out _ hk) | (refine (HNE.out _).mono ?_; intro e w1 h; obtain ⟨he1, hc1⟩ := h; subst he1; replace hk := hk.trans hc1 sb_; clear hc1 d0 d1 d2 e0 e1 e2 r0 r1 r2 q0 q1 q2 ov; obtain ⟨d0, d1, d2, e0, e1, e2, r0, r1, r2, q0, q1, q2⟩ := HB.out _ hk; have ov := HOV.out _ hk)) | (go_at_call 74; refine (HL.out _ (HT.out _ hk).env.tab).mono ?_; intro e w2 h; obtain ⟨he1, he2⟩ := h; subst he1; subst he2))
 go_region
 all_goals (go_wp2_with fail; refine bodyPost_ret (v := .tuple #[.agg #[.bool false, .int .i8 0, .int .u64 0], .iface t v]) (dec_result rfl _ _ (w.heap.size + 1 + 1) _ _ _ _ 54 rfl rfl (store3 (HBX.out _ hk) _ _ _)) rfl ⟨(chg3 (HC0.out.trans hk sb_) (by omega) _ _ _).drew, t, v, rfl⟩)
set_option maxHeartbeats 2000000 in
theorem addFint_gt_same (dn en : Bool) (dc ec : Int) (ds es m : Nat) (hdc : Fi dc) (hec : Fi ec) (hds : ds ≤ 19) (hes : es ≤ 19) (hm : m ≤ 19) (w : World) (he : EnvD w) (hlt : es < ds) (X : Int) (hX : ec * 10 ^ (ds - es) = X) (hXM : X ≤ 9999999999999999999) (hs : (dn == en) = true) (C : Int) (hC : dc + X = C) (hCM : C ≤ 9999999999999999999) :
  Calls Tryz.prog 67 #[.agg #[.bool dn, .int .i8 ds, .int .u64 dc], .agg #[.bool en, .int .i8 es, .int .u64 ec], .int .i64 m] w (PDec w dn (fromFint C ds m)) := by
 have c1 : (es : Int) < (ds : Int) := by omega
 have hw : IntKind.i64.wrap ((ds : Int) - (es : Int)) = ((ds - es : Nat) : Int) := by rw [show (ds : Int) - (es : Int) = ((ds - es : Nat) : Int) by omega]; exact IntWalk.i64_in _ (by omega)
 have hl := fun w ht => fint_lsh ec (ds - es) hec (by omega) w ht
 have hX0 := Int.mul_nonneg hec.1 (Int.le_of_lt (p10_pos (ds - es)))
 rw [hX] at hX0
 simp only [hX, if_pos hXM, decide_eq_true hXM] at hl
 have hXF : Fi X := ⟨hX0, hXM⟩
 clear hX
 have HL := hid hl
 clear hl
 have ha := fun w => fint_add dc X hdc hXF w
 simp only [hC, if_pos hCM, decide_eq_true hCM] at ha
 have hCF : Fi C := ⟨by rw [← hC]; exact Int.add_nonneg hdc.1 hXF.1, hCM⟩
 clear hC
 have HA := hid ha
 clear ha
 have hff := fun w he => newFromFint_any dn C ds m hCF hds hm w he
 have hS19 := hds
 generalize fromFint C ds m = o at *
 have HF := hid hff
 obtain ⟨hC0, hC1⟩ := hCF
 clear hff
 have HSD := hid (fun w => Scale_any dn dc ds hds w)
 have HSE := hid (fun w => Scale_any en ec es hes w)
 have HND := hid (fun w => IsNeg_any dn dc ds w)
 have HNE := hid (fun w => IsNeg_any en ec es w)
 have HBS := hid (Bx.start w dn ds dc en es ec)
 have HB := hid (fun w1 (h : Chg (fun _ => False) (((w.alloc (.cells #[.bool dn, .int .i8 ds, .int .u64 dc] 54)).alloc (.cells #[.bool en, .int .i8 es, .int .u64 ec] 54)).alloc (.cells #[.bool false, .int .i8 0, .int .u64 0] 54)) w1) => (HBS.out.kept h).facts)
 have HBX := hid (fun w1 (h : Chg (fun _ => False) (((w.alloc (.cells #[.bool dn, .int .i8 ds, .int .u64 dc] 54)).alloc (.cells #[.bool en, .int .i8 es, .int .u64 ec] 54)).alloc (.cells #[.bool false, .int .i8 0, .int .u64 0] 54)) w1) => (HBS.out.kept h).h2)
 have HC0 := hid (start3 w (.cells #[.bool dn, .int .i8 ds, .int .u64 dc] 54) (.cells #[.bool en, .int .i8 es, .int .u64 ec] 54) (.cells #[.bool false, .int .i8 0, .int .u64 0] 54))
 have hk := Chg.refl (fun _ => False) (((w.alloc (.cells #[.bool dn, .int .i8 ds, .int .u64 dc] 54)).alloc (.cells #[.bool en, .int .i8 es, .int .u64 ec] 54)).alloc (.cells #[.bool false, .int .i8 0, .int .u64 0] 54))
 have HT := hid (fun w1 (h : Chg (fun _ => False) (((w.alloc (.cells #[.bool dn, .int .i8 ds, .int .u64 dc] 54)).alloc (.cells #[.bool en, .int .i8 es, .int .u64 ec] 54)).alloc (.cells #[.bool false, .int .i8 0, .int .u64 0] 54)) w1) => ((he.kept HC0.out).kept h))
 obtain ⟨t, v, HOV⟩ : ∃ t v, Hid (∀ w1, Chg (fun _ => False) (((w.alloc (.cells #[.bool dn, .int .i8 ds, .int .u64 dc] 54)).alloc (.cells #[.bool en, .int .i8 es, .int .u64 ec] 54)).alloc (.cells #[.bool false, .int .i8 0, .int .u64 0] 54)) w1 → w1.cell? ⟨2, 0, none⟩ = some (.iface t v)) := by
  obtain ⟨t, v, h⟩ := (he.kept HC0.out).ovf
  exact ⟨t, v, hid (fun w1 hc => cell_kept h hc (fun h => h))⟩
 have hgl_ : 2 < w.heap.size := by
  obtain ⟨_, _, h⟩ := he.ovf
  exact World.block_lt_of_cell? w _ h
 have gz0_ : ¬ w.heap.size = 0 := by omega
 have gz1_ : ¬ w.heap.size + 1 + 1 = 2 := by omega
 have gz2_ : ¬ 2 = w.heap.size + 1 + 1 := by omega
 clear hgl_
 obtain ⟨d0, d1, d2, e0, e1, e2, r0, r1, r2, q0, q1, q2⟩ := HB.out _ hk
 have ov := HOV.out _ hk
 generalize hj : ds - es = j at *
 clear hj
 obtain ⟨hX0, hX1⟩ := hXF
 obtain ⟨hdc0, hdc1⟩ := hdc
 obtain ⟨hec0, hec1⟩ := hec
 clear he HBS
 go_enter Tryz.func67, Tryz.ntmps67
 go_wp2_with (first | (go_at_call 48; first | (refine (HSD.out _).mono ?_; intro e w1 h; obtain ⟨he1, hc1⟩ := h; subst he1; replace hk := hk.trans hc1 sb_; clear hc1 d0 d1 d2 e0 e1 e2 r0 r1 r2 q0 q1 q2 ov; obtain ⟨d0, d1, d2, e0, e1, e2, r0, r1, r2, q0, q1, q2⟩ := HB.out _ hk; have ov := HOV.out _ hk) | (refine (HSE.out _).mono ?_; intro e w1 h; obtain ⟨he1, hc1⟩ := h; subst he1; replace hk := hk.trans hc1 sb_; clear hc1 d0 d1 d2 e0 e1 e2 r0 r1 r2 q0 q1 q2 ov; obtain ⟨d0, d1, d2, e0, e1, e2, r0, r1, r2, q0, q1, q2⟩ := HB.out _ hk; have ov := HOV.out _ hk)) | (go_at_call 46; first | (refine (HND.out _).mono ?_; intro e w1 h; obtain ⟨he1, hc1⟩ := h; subst he1; replace hk := hk.trans hc1 sb_; clear hc1 d0 d1 d2 e0 e1 e2 r0 r1 r2 q0 q1 q2 ov; obtain ⟨d0, d1, d2, e0, e1, e2, r0, r1, r2, q0, q1, q2⟩ := HB.out _ hk; have ov := HOV.out _ hk) | (refine (HNE.out _).mono ?_; intro e w1 h; obtain ⟨he1, hc1⟩ := h; subst he1; replace hk := hk.trans hc1 sb_; clear hc1 d0 d1 d2 e0 e1 e2 r0 r1 r2 q0 q1 q2 ov; obtain ⟨d0, d1, d2, e0, e1, e2, r0, r1, r2, q0, q1, q2⟩ := HB.out _ hk; have ov := HOV.out _ hk)) | (go_at_call 74; refine (HL.out _ (HT.out _ hk).env.tab).mono ?_; intro e w2 h; obtain ⟨he1, he2⟩ := h; subst he1; subst he2) | (go_at_call 75; refine (HA.out _).mono ?_; intro e w2 h; obtain ⟨he1, he2⟩ := h; subst he1; subst he2) | (go_at_call 77; refine (HF.out _ (HT.out _ hk)).mono ?_; intro e w1 h; obtain ⟨na, nb, nc, nv, he1, hc1, hp⟩ := h.op; subst he1; replace hk := hk.trans hc1 sb_; clear h hc1 d0 d1 d2 e0 e1 e2 r0 r1 r2 q0 q1 q2 ov; obtain ⟨d0, d1, d2, e0, e1, e2, r0, r1, r2, q0, q1, q2⟩ := HB.out _ hk; have HP := hid hp; clear hp))
 refine bodyPost_ret (v := .tuple #[.agg #[.bool na, .int .i8 nb, .int .u64 nc], nv]) (dec_result rfl _ _ (w.heap.size + 1 + 1) _ _ _ _ 54 rfl rfl (store3 (HBX.out _ hk) _ _ _)) rfl (HP.out.move (chg3 (HC0.out.trans hk sb_) (by omega) _ _ _))
set_option maxHeartbeats 2000000 in
theorem addFint_gt_ovf (dn en : Bool) (dc ec : Int) (ds es m : Nat) (hdc : Fi dc) (hec : Fi ec) (hds : ds ≤ 19) (hes : es ≤ 19) (hm : m ≤ 19) (w : World) (he : EnvD w) (neg : Bool) (hlt : es < ds) (X : Int) (hX : ec * 10 ^ (ds - es) = X) (hXM : X ≤ 9999999999999999999) (hs : (dn == en) = true) (hC : ¬ dc + X ≤ 9999999999999999999) :
  Calls Tryz.prog 67 #[.agg #[.bool dn, .int .i8 ds, .int .u64 dc], .agg #[.bool en, .int .i8 es, .int .u64 ec], .int .i64 m] w (PDec w neg none) := by
 have c1 : (es : Int) < (ds : Int) := by omega
 have hw : IntKind.i64.wrap ((ds : Int) - (es : Int)) = ((ds - es : Nat) : Int) := by rw [show (ds : Int) - (es : Int) = ((ds - es : Nat) : Int) by omega]; exact IntWalk.i64_in _ (by omega)
 have hl := fun w ht => fint_lsh ec (ds - es) hec (by omega) w ht
 have hX0 := Int.mul_nonneg hec.1 (Int.le_of_lt (p10_pos (ds - es)))
 rw [hX] at hX0
 simp only [hX, if_pos hXM, decide_eq_true hXM] at hl
 have hXF : Fi X := ⟨hX0, hXM⟩
 clear hX
 have HL := hid hl
 clear hl
 have ha := fun w => fint_add dc X hdc hXF w
 simp only [if_neg hC, decide_eq_false hC] at ha
 clear hC
 have HA := hid ha
 clear ha
 have HSD := hid (fun w => Scale_any dn dc ds hds w)
 have HSE := hid (fun w => Scale_any en ec es hes w)
 have HND := hid (fun w => IsNeg_any dn dc ds w)
 have HNE := hid (fun w => IsNeg_any en ec es w)
 have HBS := hid (Bx.start w dn ds dc en es ec)
 have HB := hid (fun w1 (h : Chg (fun _ => False) (((w.alloc (.cells #[.bool dn, .int .i8 ds, .int .u64 dc] 54)).alloc (.cells #[.bool en, .int .i8 es, .int .u64 ec] 54)).alloc (.cells #[.bool false, .int .i8 0, .int .u64 0] 54)) w1) => (HBS.out.kept h).facts)
 have HBX := hid (fun w1 (h : Chg (fun _ => False) (((w.alloc (.cells #[.bool dn, .int .i8 ds, .int .u64 dc] 54)).alloc (.cells #[.bool en, .int .i8 es, .int .u64 ec] 54)).alloc (.cells #[.bool false, .int .i8 0, .int .u64 0] 54)) w1) => (HBS.out.kept h).h2)
 have HC0 := hid (start3 w (.cells #[.bool dn, .int .i8 ds, .int .u64 dc] 54) (.cells #[.bool en, .int .i8 es, .int .u64 ec] 54) (.cells #[.bool false, .int .i8 0, .int .u64 0] 54))
 have hk := Chg.refl (fun _ => False) (((w.alloc (.cells #[.bool dn, .int .i8 ds, .int .u64 dc] 54)).alloc (.cells #[.bool en, .int .i8 es, .int .u64 ec] 54)).alloc (.cells #[.bool false, .int .i8 0, .int .u64 0] 54))
 have HT := hid (fun w1 (h : Chg (fun _ => False) (((w.alloc (.cells #[.bool dn, .int .i8 ds, .int .u64 dc] 54)).alloc (.cells #[.bool en, .int .i8 es, .int .u64 ec] 54)).alloc (.cells #[.bool false, .int .i8 0, .int .u64 0] 54)) w1) => ((he.kept HC0.out).kept h))
 obtain ⟨t, v, HOV⟩ : ∃ t v, Hid (∀ w1, Chg (fun _ => False) (((w.alloc (.cells #[.bool dn, .int .i8 ds, .int .u64 dc] 54)).alloc (.cells #[.bool en, .int .i8 es, .int .u64 ec] 54)).alloc (.cells #[.bool false, .int .i8 0, .int .u64 0] 54)) w1 → w1.cell? ⟨2, 0, none⟩ = some (.iface t v)) := by
  obtain ⟨t, v, h⟩ := (he.kept HC0.out).ovf
  exact ⟨t, v, hid (fun w1 hc => cell_kept h hc (fun h => h))⟩
 have hgl_ : 2 < w.heap.size := by
  obtain ⟨_, _, h⟩ := he.ovf
  exact World.block_lt_of_cell? w _ h
 have gz0_ : ¬ w.heap.size = 0 := by omega
 have gz1_ : ¬ w.heap.size + 1 + 1 = 2 := by omega
 have gz2_ : ¬ 2 = w.heap.size + 1 + 1 := by omega
 clear hgl_
 obtain ⟨d0, d1, d2, e0, e1, e2, r0, r1, r2, q0, q1, q2⟩ := HB.out _ hk
 have ov := HOV.out _ hk
 generalize hj : ds - es = j at *
 clear hj
 obtain ⟨hX0, hX1⟩ := hXF
 obtain ⟨hdc0, hdc1⟩ := hdc
 obtain ⟨hec0, hec1⟩ := hec
 clear he HBS
 go_enter Tryz.func67, Tryz.ntmps67
 go_wp2_with (first | (go_at_call 48; first | (refine (HSD.out _).mono ?_; intro e w1 h; obtain ⟨he1, hc1⟩ := h; subst he1; replace hk := hk.trans hc1 sb_; clear hc1 d0 d1 d2 e0 e1 e2 r0 r1 r2 q0 q1 q2 ov; obtain ⟨d0, d1, d2, e0, e1, e2, r0, r1, r2, q0, q1, q2⟩ := HB.out _ hk; have ov := HOV.out _ hk) | (refine (HSE.out _).mono ?_; intro e w1 h; obtain ⟨he1, hc1⟩ := h; subst he1; replace hk := hk.trans hc1 sb_; clear hc1 d0 d1 d2 e0 e1 e2 r0 r1 r2 q0 q1 q2 ov; obtain ⟨d0, d1, d2, e0, e1, e2, r0, r1, r2, q0, q1, q2⟩ := HB.out _ hk; have ov := HOV.out _ hk)) | (go_at_call 46; first | (refine (HND.out _).mono ?_; intro e w1 h; obtain ⟨he1, hc1⟩ := h; subst he1; replace hk := hk.trans hc1 sb_; clear hc1 d0 d1 d2 e0 e1 e2 r0 r1 r2 q0 q1 q2 ov; obtain ⟨d0, d1, d2, e0, e1, e2, r0, r1, r2, q0, q1, q2⟩ := HB.out _ hk; have ov := HOV.out _ hk) | (refine (HNE.out _).mono ?_; intro e w1 h; obtain ⟨he1, hc1⟩ := h; subst he1; replace hk := hk.trans hc1 sb_; clear hc1 d0 d1 d2 e0 e1 e2 r0 r1 r2 q0 q1 q2 ov; obtain ⟨d0, d1, d2, e0, e1, e2, r0, r1, r2, q0, q1, q2⟩ := HB.out _ hk; have ov := HOV.out _ hk)) | (go_at_call 74; refine (HL.out _ (HT.out _ hk).env.tab).mono ?_; intro e w2 h; obtain ⟨he1, he2⟩ := h; subst he1; subst he2) | (go_at_call 75; refine (HA.out _).mono ?_; intro e w2 h; obtain ⟨he1, he2⟩ := h; subst he1; subst he2))
 go_region
 all_goals (go_wp2_with fail; refine bodyPost_ret (v := .tuple #[.agg #[.bool false, .int .i8 0, .int .u64 0], .iface t v]) (dec_result rfl _ _ (w.heap.size + 1 + 1) _ _ _ _ 54 rfl rfl (store3 (HBX.out _ hk) _ _ _)) rfl ⟨(chg3 (HC0.out.trans hk sb_) (by omega) _ _ _).drew, t, v, rfl⟩)
set_option maxHeartbeats 2000000 in
theorem addFint_gt_dgt (dn en : Bool) (dc ec : Int) (ds es m : Nat) (hdc : Fi dc) (hec : Fi ec) (hds : ds ≤ 19) (hes : es ≤ 19) (hm : m ≤ 19) (w : World) (he : EnvD w) (hlt : es < ds) (X : Int) (hX : ec * 10 ^ (ds - es) = X) (hXM : X ≤ 9999999999999999999) (hs : (dn == en) = false) (hg : dc < X) (C : Int) (hC : X - dc = C) :
  Calls Tryz.prog 67 #[.agg #[.bool dn, .int .i8 ds, .int .u64 dc], .agg #[.bool en, .int .i8 es, .int .u64 ec], .int .i64 m] w (PDec w en (fromFint C ds m)) := by
 have c1 : (es : Int) < (ds : Int) := by omega
 have hw : IntKind.i64.wrap ((ds : Int) - (es : Int)) = ((ds - es : Nat) : Int) := by rw [show (ds : Int) - (es : Int) = ((ds - es : Nat) : Int) by omega]; exact IntWalk.i64_in _ (by omega)
 have hl := fun w ht => fint_lsh ec (ds - es) hec (by omega) w ht
 have hX0 := Int.mul_nonneg hec.1 (Int.le_of_lt (p10_pos (ds - es)))
 rw [hX] at hX0
 simp only [hX, if_pos hXM, decide_eq_true hXM] at hl
 have hXF : Fi X := ⟨hX0, hXM⟩
 clear hX
 have HL := hid hl
 clear hl
 have hcm : (if X ≤ dc then dc - X else X - dc) = C := by rw [if_neg (by omega)]; exact hC
 have hCF : Fi C := ⟨by omega, by have := hdc.1; have := hdc.2; have := hXF.1; have := hXF.2; omega⟩
 have hsb := fun w => fint_subAbs dc X hdc hXF w
 rw [hcm] at hsb
 have HS := hid hsb
 clear hsb hcm hC
 have hff := fun w he => newFromFint_any en C ds m hCF hds hm w he
 have hS19 := hds
 generalize fromFint C ds m = o at *
 have HF := hid hff
 obtain ⟨hC0, hC1⟩ := hCF
 clear hff
 have HSD := hid (fun w => Scale_any dn dc ds hds w)
 have HSE := hid (fun w => Scale_any en ec es hes w)
 have HND := hid (fun w => IsNeg_any dn dc ds w)
 have HNE := hid (fun w => IsNeg_any en ec es w)
 have HBS := hid (Bx.start w dn ds dc en es ec)
 have HB := hid (fun w1 (h : Chg (fun _ => False) (((w.alloc (.cells #[.bool dn, .int .i8 ds, .int .u64 dc] 54)).alloc (.cells #[.bool en, .int .i8 es, .int .u64 ec] 54)).alloc (.cells #[.bool false, .int .i8 0, .int .u64 0] 54)) w1) => (HBS.out.kept h).facts)
 have HBX := hid (fun w1 (h : Chg (fun _ => False) (((w.alloc (.cells #[.bool dn, .int .i8 ds, .int .u64 dc] 54)).alloc (.cells #[.bool en, .int .i8 es, .int .u64 ec] 54)).alloc (.cells #[.bool false, .int .i8 0, .int .u64 0] 54)) w1) => (HBS.out.kept h).h2)
 have HC0 := hid (start3 w (.cells #[.bool dn, .int .i8 ds, .int .u64 dc] 54) (.cells #[.bool en, .int .i8 es, .int .u64 ec] 54) (.cells #[.bool false, .int .i8 0, .int .u64 0] 54))
 have hk := Chg.refl (fun _ => False) (((w.alloc (.cells #[.bool dn, .int .i8 ds, .int .u64 dc] 54)).alloc (.cells #[.bool en, .int .i8 es, .int .u64 ec] 54)).alloc (.cells #[.bool false, .int .i8 0, .int .u64 0] 54))
 have HT := hid (fun w1 (h : Chg (fun _ => False) (((w.alloc (.cells #[.bool dn, .int .i8 ds, .int .u64 dc] 54)).alloc (.cells #[.bool en, .int .i8 es, .int .u64 ec] 54)).alloc (.cells #[.bool false, .int .i8 0, .int .u64 0] 54)) w1) => ((he.kept HC0.out).kept h))
 obtain ⟨t, v, HOV⟩ : ∃ t v, Hid (∀ w1, Chg (fun _ => False) (((w.alloc (.cells #[.bool dn, .int .i8 ds, .int .u64 dc] 54)).alloc (.cells #[.bool en, .int .i8 es, .int .u64 ec] 54)).alloc (.cells #[.bool false, .int .i8 0, .int .u64 0] 54)) w1 → w1.cell? ⟨2, 0, none⟩ = some (.iface t v)) := by
  obtain ⟨t, v, h⟩ := (he.kept HC0.out).ovf
  exact ⟨t, v, hid (fun w1 hc => cell_kept h hc (fun h => h))⟩
 have hgl_ : 2 < w.heap.size := by
  obtain ⟨_, _, h⟩ := he.ovf
  exact World.block_lt_of_cell? w _ h
 have gz0_ : ¬ w.heap.size = 0 := by omega
 have gz1_ : ¬ w.heap.size + 1 + 1 = 2 := by omega
 have gz2_ : ¬ 2 = w.heap.size + 1 + 1 := by omega
 clear hgl_
 obtain ⟨d0, d1, d2, e0, e1, e2, r0, r1, r2, q0, q1, q2⟩ := HB.out _ hk
 have ov := HOV.out _ hk
 generalize hj : ds - es = j at *
 clear hj
 obtain ⟨hX0, hX1⟩ := hXF
 obtain ⟨hdc0, hdc1⟩ := hdc
 obtain ⟨hec0, hec1⟩ := hec
 clear he HBS
 go_enter Tryz.func67, Tryz.ntmps67
 go_wp2_with (first | (go_at_call 48; first | (refine (HSD.out _).mono ?_; intro e w1 h; obtain ⟨he1, hc1⟩ := h; subst he1; replace hk := hk.trans hc1 sb_; clear hc1 d0 d1 d2 e0 e1 e2 r0 r1 r2 q0 q1 q2 ov; obtain ⟨d0, d1, d2, e0, e1, e2, r0, r1, r2, q0, q1, q2⟩ := HB.out _ hk; have ov := HOV.out _ hk) | (refine (HSE.out _).mono ?_; intro e w1 h; obtain ⟨he1, hc1⟩ := h; subst he1; replace hk := hk.trans hc1 sb_; clear hc1 d0 d1 d2 e0 e1 e2 r0 r1 r2 q0 q1 q2 ov; obtain ⟨d0, d1, d2, e0, e1, e2, r0, r1, r2, q0, q1, q2⟩ := HB.out _ hk; have ov := HOV.out _ hk)) | (go_at_call 46; first | (refine (HND.out _).mono ?_; intro e w1 h; obtain ⟨he1, hc1⟩ := h; subst he1; replace hk := hk.trans hc1 sb_; clear hc1 d0 d1 d2 e0 e1 e2 r0 r1 r2 q0 q1 q2 ov; obtain ⟨d0, d1, d2, e0, e1, e2, r0, r1, r2, q0, q1, q2⟩ := HB.out _ hk; have ov := HOV.out _ hk) | (refine (HNE.out _).mono ?_; intro e w1 h; obtain ⟨he1, hc1⟩ := h; subst he1; replace hk := hk.trans hc1 sb_; clear hc1 d0 d1 d2 e0 e1 e2 r0 r1 r2 q0 q1 q2 ov; obtain ⟨d0, d1, d2, e0, e1, e2, r0, r1, r2, q0, q1, q2⟩ := HB.out _ hk; have ov := HOV.out _ hk)) | (go_at_call 74; refine (HL.out _ (HT.out _ hk).env.tab).mono ?_; intro e w2 h; obtain ⟨he1, he2⟩ := h; subst he1; subst he2) | (go_at_call 76; refine (HS.out _).mono ?_; intro e w2 h; obtain ⟨he1, he2⟩ := h; subst he1; subst he2) | (go_at_call 77; refine (HF.out _ (HT.out _ hk)).mono ?_; intro e w1 h; obtain ⟨na, nb, nc, nv, he1, hc1, hp⟩ := h.op; subst he1; replace hk := hk.trans hc1 sb_; clear h hc1 d0 d1 d2 e0 e1 e2 r0 r1 r2 q0 q1 q2 ov; obtain ⟨d0, d1, d2, e0, e1, e2, r0, r1, r2, q0, q1, q2⟩ := HB.out _ hk; have HP := hid hp; clear hp))
 refine bodyPost_ret (v := .tuple #[.agg #[.bool na, .int .i8 nb, .int .u64 nc], nv]) (dec_result rfl _ _ (w.heap.size + 1 + 1) _ _ _ _ 54 rfl rfl (store3 (HBX.out _ hk) _ _ _)) rfl (HP.out.move (chg3 (HC0.out.trans hk sb_) (by omega) _ _ _))
set_option maxHeartbeats 2000000 in
theorem addFint_gt_dle (dn en : Bool) (dc ec : Int) (ds es m : Nat) (hdc : Fi dc) (hec : Fi ec) (hds : ds ≤ 19) (hes : es ≤ 19) (hm : m ≤ 19) (w : World) (he : EnvD w) (hlt : es < ds) (X : Int) (hX : ec * 10 ^ (ds - es) = X) (hXM : X ≤ 9999999999999999999) (hs : (dn == en) = false) (hg : ¬ dc < X) (C : Int) (hC : dc - X = C) :
  Calls Tryz.prog 67 #[.agg #[.bool dn, .int .i8 ds, .int .u64 dc], .agg #[.bool en, .int .i8 es, .int .u64 ec], .int .i64 m] w (PDec w dn (fromFint C ds m)) := by
 have c1 : (es : Int) < (ds : Int) := by omega
 have hw : IntKind.i64.wrap ((ds : Int) - (es : Int)) = ((ds - es : Nat) : Int) := by rw [show (ds : Int) - (es : Int) = ((ds - es : Nat) : Int) by omega]; exact IntWalk.i64_in _ (by omega)
 have hl := fun w ht => fint_lsh ec (ds - es) hec (by omega) w ht
 have hX0 := Int.mul_nonneg hec.1 (Int.le_of_lt (p10_pos (ds - es)))
 rw [hX] at hX0
 simp only [hX, if_pos hXM, decide_eq_true hXM] at hl
 have hXF : Fi X := ⟨hX0, hXM⟩
 clear hX
 have HL := hid hl
 clear hl
 have hcm : (if X ≤ dc then dc - X else X - dc) = C := by rw [if_pos (by omega)]; exact hC
 have hCF : Fi C := ⟨by omega, by have := hdc.1; have := hdc.2; have := hXF.1; have := hXF.2; omega⟩
 have hsb := fun w => fint_subAbs dc X hdc hXF w
 rw [hcm] at hsb
 have HS := hid hsb
 clear hsb hcm hC
 have hff := fun w he => newFromFint_any dn C ds m hCF hds hm w he
 have hS19 := hds
 generalize fromFint C ds m = o at *
 have HF := hid hff
 obtain ⟨hC0, hC1⟩ := hCF
 clear hff
 have HSD := hid (fun w => Scale_any dn dc ds hds w)
 have HSE := hid (fun w => Scale_any en ec es hes w)
 have HND := hid (fun w => IsNeg_any dn dc ds w)
 have HNE := hid (fun w => IsNeg_any en ec es w)
 have HBS := hid (Bx.start w dn ds dc en es ec)
 have HB := hid (fun w1 (h : Chg (fun _ => False) (((w.alloc (.cells #[.bool dn, .int .i8 ds, .int .u64 dc] 54)).alloc (.cells #[.bool en, .int .i8 es, .int .u64 ec] 54)).alloc (.cells #[.bool false, .int .i8 0, .int .u64 0] 54)) w1) => (HBS.out.kept h).facts)
 have HBX := hid (fun w1 (h : Chg (fun _ => False) (((w.alloc (.cells #[.bool dn, .int .i8 ds, .int .u64 dc] 54)).alloc (.cells #[.bool en, .int .i8 es, .int .u64 ec] 54)).alloc (.cells #[.bool false, .int .i8 0, .int .u64 0] 54)) w1) => (HBS.out.kept h).h2)
 have HC0 := hid (start3 w (.cells #[.bool dn, .int .i8 ds, .int .u64 dc] 54) (.cells #[.bool en, .int .i8 es, .int .u64 ec] 54) (.cells #[.bool false, .int .i8 0, .int .u64 0] 54))
 have hk := Chg.refl (fun _ => False) (((w.alloc (.cells #[.bool dn, .int .i8 ds, .int .u64 dc] 54)).alloc (.cells #[.bool en, .int .i8 es, .int .u64 ec] 54)).alloc (.cells #[.bool false, .int .i8 0, .int .u64 0] 54))
 have HT := hid (fun w1 (h : Chg (fun _ => False) (((w.alloc (.cells #[.bool dn, .int .i8 ds, .int .u64 dc] 54)).alloc (.cells #[.bool en, .int .i8 es, .int .u64 ec] 54)).alloc (.cells #[.bool false, .int .i8 0, .int .u64 0] 54)) w1) => ((he.kept HC0.out).kept h))
 obtain ⟨t, v, HOV⟩ : ∃ t v, Hid (∀ w1, Chg (fun _ => False) (((w.alloc (.cells #[.bool dn, .int .i8 ds, .int .u64 dc] 54)).alloc (.cells #[.bool en, .int .i8 es, .int .u64 ec] 54)).alloc (.cells #[.bool false, .int .i8 0, .int .u64 0] 54)) w1 → w1.cell? ⟨2, 0, none⟩ = some (.iface t v)) := by
  obtain ⟨t, v, h⟩ := (he.kept HC0.out).ovf
  exact ⟨t, v, hid (fun w1 hc => cell_kept h hc (fun h => h))⟩
 have hgl_ : 2 < w.heap.size := by
  obtain ⟨_, _, h⟩ := he.ovf
  exact World.block_lt_of_cell? w _ h
 have gz0_ : ¬ w.heap.size = 0 := by omega
 have gz1_ : ¬ w.heap.size + 1 + 1 = 2 := by omega
 have gz2_ : ¬ 2 = w.heap.size + 1 + 1 := by omega
 clear hgl_
 obtain ⟨d0, d1, d2, e0, e1, e2, r0, r1, r2, q0, q1, q2⟩ := HB.out _ hk
 have ov := HOV.out _ hk
 generalize hj : ds - es = j at *
 clear hj
 obtain ⟨hX0, hX1⟩ := hXF
 obtain ⟨hdc0, hdc1⟩ := hdc
 obtain ⟨hec0, hec1⟩ := hec
 clear he HBS
 go_enter Tryz.func67, Tryz.ntmps67
 go_wp2_with (first | (go_at_call 48; first | (refine (HSD.out _).mono ?_; intro e w1 h; obtain ⟨he1, hc1⟩ := h; subst he1; replace hk := hk.trans hc1 sb_; clear hc1 d0 d1 d2 e0 e1 e2 r0 r1 r2 q0 q1 q2 ov; obtain ⟨d0, d1, d2, e0, e1, e2, r0, r1, r2, q0, q1, q2⟩ := HB.out _ hk; have ov := HOV.out _ hk) | (refine (HSE.out _).mono ?_; intro e w1 h; obtain ⟨he1, hc1⟩ := h; subst he1; replace hk := hk.trans hc1 sb_; clear hc1 d0 d1 d2 e0 e1 e2 r0 r1 r2 q0 q1 q2 ov; obtain ⟨d0, d1, d2, e0, e1, e2, r0, r1, r2, q0, q1, q2⟩ := HB.out _ hk; have ov := HOV.out _ hk)) | (go_at_call 46; first | (refine (HND.out _).mono ?_; intro e w1 h; obtain ⟨he1, hc1⟩ := h; subst he1; replace hk := hk.trans hc1 sb_; clear hc1 d0 d1 d2 e0 e1 e2 r0 r1 r2 q0 q1 q2 ov; obtain ⟨d0, d1, d2, e0, e1, e2, r0, r1, r2, q0, q1, q2⟩ := HB.out _ hk; have ov := HOV.out _ hk) | (refine (HNE.out _).mono ?_; intro e w1 h; obtain ⟨he1, hc1⟩ := h; subst he1; replace hk := hk.trans hc1 sb_; clear hc1 d0 d1 d2 e0 e1 e2 r0 r1 r2 q0 q1 q2 ov; obtain ⟨d0, d1, d2, e0, e1, e2, r0, r1, r2, q0, q1, q2⟩ := HB.out _ hk; have ov := HOV.out _ hk)) | (go_at_call 74; refine (HL.out _ (HT.out _ hk).env.tab).mono ?_; intro e w2 h; obtain ⟨he1, he2⟩ := h; subst he1; subst he2) | (go_at_call 76; refine (HS.out _).mono ?_; intro e w2 h; obtain ⟨he1, he2⟩ := h; subst he1; subst he2) | (go_at_call 77; refine (HF.out _ (HT.out _ hk)).mono ?_; intro e w1 h; obtain ⟨na, nb, nc, nv, he1, hc1, hp⟩ := h.op; subst he1; replace hk := hk.trans hc1 sb_; clear h hc1 d0 d1 d2 e0 e1 e2 r0 r1 r2 q0 q1 q2 ov; obtain ⟨d0, d1, d2, e0, e1, e2, r0, r1, r2, q0, q1, q2⟩ := HB.out _ hk; have HP := hid hp; clear hp))
 refine bodyPost_ret (v := .tuple #[.agg #[.bool na, .int .i8 nb, .int .u64 nc], nv]) (dec_result rfl _ _ (w.heap.size + 1 + 1) _ _ _ _ 54 rfl rfl (store3 (HBX.out _ hk) _ _ _)) rfl (HP.out.move (chg3 (HC0.out.trans hk sb_) (by omega) _ _ _))
set_option maxHeartbeats 2000000 in
theorem addFint_lt_err (dn en : Bool) (dc ec : Int) (ds es m : Nat) (hdc : Fi dc) (hec : Fi ec) (hds : ds ≤ 19) (hes : es ≤ 19) (hm : m ≤ 19) (w : World) (he : EnvD w) (neg : Bool) (hlt : ds < es) (hX : ¬ dc * 10 ^ (es - ds) ≤ 9999999999999999999) :
  Calls Tryz.prog 67 #[.agg #[.bool dn, .int .i8 ds, .int .u64 dc], .agg #[.bool en, .int .i8 es, .int .u64 ec], .int .i64 m] w (PDec w neg none) := by
 have c1 : ¬ (es : Int) < (ds : Int) := by omega
 have c2 : (ds : Int) < (es : Int) := by omega
 have hw : IntKind.i64.wrap ((es : Int) - (ds : Int)) = ((es - ds : Nat) : Int) := by rw [show (es : Int) - (ds : Int) = ((es - ds : Nat) : Int) by omega]; exact IntWalk.i64_in _ (by omega)
 have hl := fun w ht => fint_lsh dc (es - ds) hdc (by omega) w ht
 have hX0 := Int.mul_nonneg hdc.1 (Int.le_of_lt (p10_pos (es - ds)))
 simp only [if_neg hX, decide_eq_false hX] at hl
 clear hX
 have HL := hid hl
 clear hl
 have HSD := hid (fun w => Scale_any dn dc ds hds w)
 have HSE := hid (fun w => Scale_any en ec es hes w)
 have HND := hid (fun w => IsNeg_any dn dc ds w)
 have HNE := hid (fun w => IsNeg_any en ec es w)
 have HBS := hid (Bx.start w dn ds dc en es ec)
 have HB := hid (fun w1 (h : Chg (fun _ => False) (((w.alloc (.cells #[.bool dn, .int .i8 ds, .int .u64 dc] 54)).alloc (.cells #[.bool en, .int .i8 es, .int .u64 ec] 54)).alloc (.cells #[.bool false, .int .i8 0, .int .u64 0] 54)) w1) => (HBS.out.kept h).facts)
 have HBX := hid (fun w1 (h : Chg (fun _ => False) (((w.alloc (.cells #[.bool dn, .int .i8 ds, .int .u64 dc] 54)).alloc (.cells #[.bool en, .int .i8 es, .int .u64 ec] 54)).alloc (.cells #[.bool false, .int .i8 0, .int .u64 0] 54)) w1) => (HBS.out.kept h).h2)
 have HC0 := hid (start3 w (.cells #[.bool dn, .int .i8 ds, .int .u64 dc] 54) (.cells #[.bool en, .int .i8 es, .int .u64 ec] 54) (.cells #[.bool false, .int .i8 0, .int .u64 0] 54))
 have hk := Chg.refl (fun _ => False) (((w.alloc (.cells #[.bool dn, .int .i8 ds, .int .u64 dc] 54)).alloc (.cells #[.bool en, .int .i8 es, .int .u64 ec] 54)).alloc (.cells #[.bool false, .int .i8 0, .int .u64 0] 54))
 have HT := hid (fun w1 (h : Chg (fun _ => False) (((w.alloc (.cells #[.bool dn, .int .i8 ds, .int .u64 dc] 54)).alloc (.cells #[.bool en, .int .i8 es, .int .u64 ec] 54)).alloc (.cells #[.bool false, .int .i8 0, .int .u64 0] 54)) w1) => ((he.kept HC0.out).kept h))
 obtain ⟨t, v, HOV⟩ : ∃ t v, Hid (∀ w1, Chg (fun _ => False) (((w.alloc (.cells #[.bool dn, .int .i8 ds, .int .u64 dc] 54)).alloc (.cells #[.bool en, .int .i8 es, .int .u64 ec] 54)).alloc (.cells #[.bool false, .int .i8 0, .int .u64 0] 54)) w1 → w1.cell? ⟨2, 0, none⟩ = some (.iface t v)) := by
  obtain ⟨t, v, h⟩ := (he.kept HC0.out).ovf
  exact ⟨t, v, hid (fun w1 hc => cell_kept h hc (fun h => h))⟩
 have hgl_ : 2 < w.heap.size := by
  obtain ⟨_, _, h⟩ := he.ovf
  exact World.block_lt_of_cell? w _ h
 have gz0_ : ¬ w.heap.size = 0 := by omega
 have gz1_ : ¬ w.heap.size + 1 + 1 = 2 := by omega
 have gz2_ : ¬ 2 = w.heap.size + 1 + 1 := by omega
 clear hgl_
 obtain ⟨d0, d1, d2, e0, e1, e2, r0, r1, r2, q0, q1, q2⟩ := HB.out _ hk
 have ov := HOV.out _ hk
 generalize hj : es - ds = j at *
 clear hj
 obtain ⟨hdc0, hdc1⟩ := hdc
 obtain ⟨hec0, hec1⟩ := hec
 clear he HBS
 go_enter Tryz.func67, Tryz.ntmps67
 go_wp2_with (first | (go_at_call 48; first | (refine (HSD.out _).mono ?_; intro e w1 h; obtain ⟨he1, hc1⟩ := h; subst he1; replace hk := hk.trans hc1 sb_; clear hc1 d0 d1 d2 e0 e1 e2 r0 r1 r2 q0 q1 q2 ov; obtain ⟨d0, d1, d2, e0, e1, e2, r0, r1, r2, q0, q1, q2⟩ := HB.out _ hk; have ov := HOV.out _ hk) | (refine (HSE.out _).mono ?_; intro e w1 h; obtain ⟨he1, hc1⟩ := h; subst he1; replace hk := hk.trans hc1 sb_; clear hc1 d0 d1 d2 e0 e1 e2 r0 r1 r2 q0 q1 q2 ov; obtain ⟨d0, d1, d2, e0, e1, e2, r0, r1, r2, q0, q1, q2⟩ := HB.out _ hk; have ov := HOV.out _ hk)) | (go_at_call 46; first | (refine (HND.out _).mono ?_; intro e w1 h; obtain ⟨he1, hc1⟩ := h; subst he1; replace hk := hk.trans hc1 sb_; clear hc1 d0 d1 d2 e0 e1 e2 r0 r1 r2 q0 q1 q2 ov; obtain ⟨d0, d1, d2, e0, e1, e2, r0, r1, r2, q0, q1, q2⟩ := HB.out _ hk; have ov := HOV.out _ hk) | (refine (HNE.out _).mono ?_; intro e w1 h; obtain ⟨he1, hc1⟩ := h; subst he1; replace hk := hk.trans hc1 sb_; clear hc1 d0 d1 d2 e0 e1 e2 r0 r1 r2 q0 q1 q2 ov; obtain ⟨d0, d1, d2, e0, e1, e2, r0, r1, r2, q0, q1, q2⟩ := HB.out _ hk; have ov := HOV.out _ hk)) | (go_at_call 74; refine (HL.out _ (HT.out _ hk).env.tab).mono ?_; intro e w2 h; obtain ⟨he1, he2⟩ := h; subst he1; subst he2))
 go_region
 all_goals (go_wp2_with fail; refine bodyPost_ret (v := .tuple #[.agg #[.bool false, .int .i8 0, .int .u64 0], .iface t v]) (dec_result rfl _ _ (w.heap.size + 1 + 1) _ _ _ _ 54 rfl rfl (store3 (HBX.out _ hk) _ _ _)) rfl ⟨(chg3 (HC0.out.trans hk sb_) (by omega) _ _ _).drew, t, v, rfl⟩)
set_option maxHeartbeats 2000000 in
theorem addFint_lt_same (dn en : Bool) (dc ec : Int) (ds es m : Nat) (hdc : Fi dc) (hec : Fi ec) (hds : ds ≤ 19) (hes : es ≤ 19) (hm : m ≤ 19) (w : World) (he : EnvD w) (hlt : ds < es) (X : Int) (hX : dc * 10 ^ (es - ds) = X) (hXM : X ≤ 9999999999999999999) (hs : (dn == en) = true) (C : Int) (hC : X + ec = C) (hCM : C ≤ 9999999999999999999) :
  Calls Tryz.prog 67 #[.agg #[.bool dn, .int .i8 ds, .int .u64 dc], .agg #[.bool en, .int .i8 es, .int .u64 ec], .int .i64 m] w (PDec w dn (fromFint C es m)) := by
 have c1 : ¬ (es : Int) < (ds : Int) := by omega
 have c2 : (ds : Int) < (es : Int) := by omega
 have hw : IntKind.i64.wrap ((es : Int) - (ds : Int)) = ((es - ds : Nat) : Int) := by rw [show (es : Int) - (ds : Int) = ((es - ds : Nat) : Int) by omega]; exact IntWalk.i64_in _ (by omega)
 have hl := fun w ht => fint_lsh dc (es - ds) hdc (by omega) w ht
 have hX0 := Int.mul_nonneg hdc.1 (Int.le_of_lt (p10_pos (es - ds)))
 rw [hX] at hX0
 simp only [hX, if_pos hXM, decide_eq_true hXM] at hl
 have hXF : Fi X := ⟨hX0, hXM⟩
 clear hX
 have HL := hid hl
 clear hl
 have ha := fun w => fint_add X ec hXF hec w
 simp only [hC, if_pos hCM, decide_eq_true hCM] at ha
 have hCF : Fi C := ⟨by rw [← hC]; exact Int.add_nonneg hXF.1 hec.1, hCM⟩
 clear hC
 have HA := hid ha
 clear ha
 have hff := fun w he => newFromFint_any dn C es m hCF hes hm w he
 have hS19 := hds
 generalize fromFint C es m = o at *
 have HF := hid hff
 obtain ⟨hC0, hC1⟩ := hCF
 clear hff
 have HSD := hid (fun w => Scale_any dn dc ds hds w)
 have HSE := hid (fun w => Scale_any en ec es hes w)
 have HND := hid (fun w => IsNeg_any dn dc ds w)
 have HNE := hid (fun w => IsNeg_any en ec es w)
 have HBS := hid (Bx.start w dn ds dc en es ec)
 have HB := hid (fun w1 (h : Chg (fun _ => False) (((w.alloc (.cells #[.bool dn, .int .i8 ds, .int .u64 dc] 54)).alloc (.cells #[.bool en, .int .i8 es, .int .u64 ec] 54)).alloc (.cells #[.bool false, .int .i8 0, .int .u64 0] 54)) w1) => (HBS.out.kept h).facts)
 have HBX := hid (fun w1 (h : Chg (fun _ => False) (((w.alloc (.cells #[.bool dn, .int .i8 ds, .int .u64 dc] 54)).alloc (.cells #[.bool en, .int .i8 es, .int .u64 ec] 54)).alloc (.cells #[.bool false, .int .i8 0, .int .u64 0] 54)) w1) => (HBS.out.kept h).h2)
 have HC0 := hid (start3 w (.cells #[.bool dn, .int .i8 ds, .int .u64 dc] 54) (.cells #[.bool en, .int .i8 es, .int .u64 ec] 54) (.cells #[.bool false, .int .i8 0, .int .u64 0] 54))
 have hk := Chg.refl (fun _ => False) (((w.alloc (.cells #[.bool dn, .int .i8 ds, .int .u64 dc] 54)).alloc (.cells #[.bool en, .int .i8 es, .int .u64 ec] 54)).alloc (.cells #[.bool false, .int .i8 0, .int .u64 0] 54))
 have HT := hid (fun w1 (h : Chg (fun _ => False) (((w.alloc (.cells #[.bool dn, .int .i8 ds, .int .u64 dc] 54)).alloc (.cells #[.bool en, .int .i8 es, .int .u64 ec] 54)).alloc (.cells #[.bool false, .int .i8 0, .int .u64 0] 54)) w1) => ((he.kept HC0.out).kept h))
 obtain ⟨t, v, HOV⟩ : ∃ t v, Hid (∀ w1, Chg (fun _ => False) (((w.alloc (.cells #[.bool dn, .int .i8 ds, .int .u64 dc] 54)).alloc (.cells #[.bool en, .int .i8 es, .int .u64 ec] 54)).alloc (.cells #[.bool false, .int .i8 0, .int .u64 0] 54)) w1 → w1.cell? ⟨2, 0, none⟩ = some (.iface t v)) := by
  obtain ⟨t, v, h⟩ := (he.kept HC0.out).ovf
  exact ⟨t, v, hid (fun w1 hc => cell_kept h hc (fun h => h))⟩
 have hgl_ : 2 < w.heap.size := by
  obtain ⟨_, _, h⟩ := he.ovf
  exact World.block_lt_of_cell? w _ h
 have gz0_ : ¬ w.heap.size = 0 := by omega
 have gz1_ : ¬ w.heap.size + 1 + 1 = 2 := by omega
 have gz2_ : ¬ 2 = w.heap.size + 1 + 1 := by omega
 clear hgl_
 obtain ⟨d0, d1, d2, e0, e1, e2, r0, r1, r2, q0, q1, q2⟩ := HB.out _ hk
 have ov := HOV.out _ hk
 generalize hj : es - ds = j at *
 clear hj
 obtain ⟨hX0, hX1⟩ := hXF
 obtain ⟨hdc0, hdc1⟩ := hdc
 obtain ⟨hec0, hec1⟩ := hec
 clear he HBS
 go_enter Tryz.func67, Tryz.ntmps67
 go_wp2_with (first | (go_at_call 48; first | (refine (HSD.out _).mono ?_; intro e w1 h; obtain ⟨he1, hc1⟩ := h; subst he1; replace hk := hk.trans hc1 sb_; clear hc1 d0 d1 d2 e0 e1 e2 r0 r1 r2 q0 q1 q2 ov; obtain ⟨d0, d1, d2, e0, e1, e2, r0, r1, r2, q0, q1, q2⟩ := HB.out _ hk; have ov := HOV.out _ hk) | (refine (HSE.out _).mono ?_; intro e w1 h; obtain ⟨he1, hc1⟩ := h; subst he1; replace hk := hk.trans hc1 sb_; clear hc1 d0 d1 d2 e0 e1 e2 r0 r1 r2 q0 q1 q2 ov; obtain ⟨d0, d1, d2, e0, e1, e2, r0, r1, r2, q0, q1, q2⟩ := HB.out _ hk; have ov := HOV.out _ hk)) | (go_at_call 46; first | (refine (HND.out _).mono ?_; intro e w1 h; obtain ⟨he1, hc1⟩ := h; subst he1; replace hk := hk.trans hc1 sb_; clear hc1 d0 d1 d2 e0 e1 e2 r0 r1 r2 q0 q1 q2 ov; obtain ⟨d0, d1, d2, e0, e1, e2, r0, r1, r2, q0, q1, q2⟩ := HB.out _ hk; have ov := HOV.out _ hk) | (refine (HNE.out _).mono ?_; intro e w1 h; obtain ⟨he1, hc1⟩ := h; subst he1; replace hk := hk.trans hc1 sb_; clear hc1 d0 d1 d2 e0 e1 e2 r0 r1 r2 q0 q1 q2 ov; obtain ⟨d0, d1, d2, e0, e1, e2, r0, r1, r2, q0, q1, q2⟩ := HB.out _ hk; have ov := HOV.out _ hk)) | (go_at_call 74; refine (HL.out _ (HT.out _ hk).env.tab).mono ?_; intro e w2 h; obtain ⟨he1, he2⟩ := h; subst he1; subst he2) | (go_at_call 75; refine (HA.out _).mono ?_; intro e w2 h; obtain ⟨he1, he2⟩ := h; subst he1; subst he2) | (go_at_call 77; refine (HF.out _ (HT.out _ hk)).mono ?_; intro e w1 h; obtain ⟨na, nb, nc, nv, he1, hc1, hp⟩ := h.op; subst he1; replace hk := hk.trans hc1 sb_; clear h hc1 d0 d1 d2 e0 e1 e2 r0 r1 r2 q0 q1 q2 ov; obtain ⟨d0, d1, d2, e0, e1, e2, r0, r1, r2, q0, q1, q2⟩ := HB.out _ hk; have HP := hid hp; clear hp))
 refine bodyPost_ret (v := .tuple #[.agg #[.bool na, .int .i8 nb, .int .u64 nc], nv]) (dec_result rfl _ _ (w.heap.size + 1 + 1) _ _ _ _ 54 rfl rfl (store3 (HBX.out _ hk) _ _ _)) rfl (HP.out.move (chg3 (HC0.out.trans hk sb_) (by omega) _ _ _))
set_option maxHeartbeats 2000000 in
theorem addFint_lt_ovf (dn en : Bool) (dc ec : Int) (ds es m : Nat) (hdc : Fi dc) (hec : Fi ec) (hds : ds ≤ 19) (hes : es ≤ 19) (hm : m ≤ 19) (w : World) (he : EnvD w) (neg : Bool) (hlt : ds < es) (X : Int) (hX : dc * 10 ^ (es - ds) = X) (hXM : X ≤ 9999999999999999999) (hs : (dn == en) = true) (hC : ¬ X + ec ≤ 9999999999999999999) :
  Calls Tryz.prog 67 #[.agg #[.bool dn, .int .i8 ds, .int .u64 dc], .agg #[.bool en, .int .i8 es, .int .u64 ec], .int .i64 m] w (PDec w neg none) := by
 have c1 : ¬ (es : Int) < (ds : Int) := by omega
 have c2 : (ds : Int) < (es : Int) := by omega
 have hw : IntKind.i64.wrap ((es : Int) - (ds : Int)) = ((es - ds : Nat) : Int) := by rw [show (es : Int) - (ds : Int) = ((es - ds : Nat) : Int) by omega]; exact IntWalk.i64_in _ (by omega)
 have hl := fun w ht => fint_lsh dc (es - ds) hdc (by omega) w ht
 have hX0 := Int.mul_nonneg hdc.1 (Int.le_of_lt (p10_pos (es - ds)))
 rw [hX] at hX0
 simp only [hX, if_pos hXM, decide_eq_true hXM] at hl
 have hXF : Fi X := ⟨hX0, hXM⟩
 clear hX
 have HL := hid hl
 clear hl
 have ha := fun w => fint_add X ec hXF hec w
 simp only [if_neg hC, decide_eq_false hC] at ha
 clear hC
 have HA := hid ha
 clear ha
 have HSD := hid (fun w => Scale_any dn dc ds hds w)
 have HSE := hid (fun w => Scale_any en ec es hes w)
 have HND := hid (fun w => IsNeg_any dn dc ds w)
 have HNE := hid (fun w => IsNeg_any en ec es w)
 have HBS := hid (Bx.start w dn ds dc en es ec)
 have HB := hid (fun w1 (h : Chg (fun _ => False) (((w.alloc (.cells #[.bool dn, .int .i8 ds, .int .u64 dc] 54)).alloc (.cells #[.bool en, .int .i8 es, .int .u64 ec] 54)).alloc (.cells #[.bool false, .int .i8 0, .int .u64 0] 54)) w1) => (HBS.out.kept h).facts)
 have HBX := hid (fun w1 (h : Chg (fun _ => False) (((w.alloc (.cells #[.bool dn, .int .i8 ds, .int .u64 dc] 54)).alloc (.cells #[.bool en, .int .i8 es, .int .u64 ec] 54)).alloc (.cells #[.bool false, .int .i8 0, .int .u64 0] 54)) w1) => (HBS.out.kept h).h2)
 have HC0 := hid (start3 w (.cells #[.bool dn, .int .i8 ds, .int .u64 dc] 54) (.cells #[.bool en, .int .i8 es, .int .u64 ec] 54) (.cells #[.bool false, .int .i8 0, .int .u64 0] 54))
 have hk := Chg.refl (fun _ => False) (((w.alloc (.cells #[.bool dn, .int .i8 ds, .int .u64 dc] 54)).alloc (.cells #[.bool en, .int .i8 es, .int .u64 ec] 54)).alloc (.cells #[.bool false, .int .i8 0, .int .u64 0] 54))
 have HT := hid (fun w1 (h : Chg (fun _ => False) (((w.alloc (.cells #[.bool dn, .int .i8 ds, .int .u64 dc] 54)).alloc (.cells #[.bool en, .int .i8 es, .int .u64 ec] 54)).alloc (.cells #[.bool false, .int .i8 0, .int .u64 0] 54)) w1) => ((he.kept HC0.out).kept h))
 obtain ⟨t, v, HOV⟩ : ∃ t v, Hid (∀ w1, Chg (fun _ => False) (((w.alloc (.cells #[.bool dn, .int .i8 ds, .int .u64 dc] 54)).alloc (.cells #[.bool en, .int .i8 es, .int .u64 ec] 54)).alloc (.cells #[.bool false, .int .i8 0, .int .u64 0] 54)) w1 → w1.cell? ⟨2, 0, none⟩ = some (.iface t v)) := by
  obtain ⟨t, v, h⟩ := (he.kept HC0.out).ovf
  exact ⟨t, v, hid (fun w1 hc => cell_kept h hc (fun h => h))⟩
 have hgl_ : 2 < w.heap.size := by
  obtain ⟨_, _, h⟩ := he.ovf
  exact World.block_lt_of_cell? w _ h
 have gz0_ : ¬ w.heap.size = 0 := by omega
 have gz1_ : ¬ w.heap.size + 1 + 1 = 2 := by omega
 have gz2_ : ¬ 2 = w.heap.size + 1 + 1 := by omega
 clear hgl_
 obtain ⟨d0, d1, d2, e0, e1, e2, r0, r1, r2, q0, q1, q2⟩ := HB.out _ hk
 have ov := HOV.out _ hk
 generalize hj : es - ds = j at *
 clear hj
 obtain ⟨hX0, hX1⟩ := hXF
 obtain ⟨hdc0, hdc1⟩ := hdc
 obtain ⟨hec0, hec1⟩ := hec
 clear he HBS
 go_enter Tryz.func67, Tryz.ntmps67
 go_wp2_with (first | (go_at_call 48; first | (refine (HSD.out _).mono ?_; intro e w1 h; obtain ⟨he1, hc1⟩ := h; subst he1; replace hk := hk.trans hc1 sb_; clear hc1 d0 d1 d2 e0 e1 e2 r0 r1 r2 q0 q1 q2 ov; obtain ⟨d0, d1, d2, e0, e1, e2, r0, r1, r2, q0, q1, q2⟩ := HB.out _ hk; have ov := HOV.out _ hk) | (refine (HSE.out _).mono ?_; intro e w1 h; obtain ⟨he1, hc1⟩ := h; subst he1; replace hk := hk.trans hc1 sb_; clear hc1 d0 d1 d2 e0 e1 e2 r0 r1 r2 q0 q1 q2 ov; obtain ⟨d0, d1, d2, e0, e1, e2, r0, r1, r2, q0, q1, q2⟩ := HB.out _ hk; have ov := HOV.out _ hk)) | (go_at_call 46; first | (refine (HND.out _).mono ?_; intro e w1 h; obtain ⟨he1, hc1⟩ := h; subst he1; replace hk := hk.trans hc1 sb_; clear hc1 d0 d1 d2 e0 e1 e2 r0 r1 r2 q0 q1 q2 ov; obtain ⟨d0, d1, d2, e0, e1, e2, r0, r1, r2, q0, q1, q2⟩ := HB.out _ hk; have ov := HOV.out _ hk) | (refine (HNE.out _).mono ?_; intro e w1 h; obtain ⟨he1, hc1⟩ := h; subst he1; replace hk := hk.trans hc1 sb_; clear hc1 d0 d1 d2 e0 e1 e2 r0 r1 r2 q0 q1 q2 ov; obtain ⟨d0, d1, d2, e0, e1, e2, r0, r1, r2, q0, q1, q2⟩ := HB.out _ hk; have ov := HOV.out _ hk)) | (go_at_call 74; refine (HL.out _ (HT.out _ hk).env.tab).mono ?_; intro e w2 h; obtain ⟨he1, he2⟩ := h; subst he1; subst he2) | (go_at_call 75; refine (HA.out _).mono ?_; intro e w2 h; obtain ⟨he1, he2⟩ := h; subst he1; subst he2))
 go_region
 all_goals (go_wp2_with fail; refine bodyPost_ret (v := .tuple #[.agg #[.bool false, .int .i8 0, .int .u64 0], .iface t v]) (dec_result rfl _ _ (w.heap.size + 1 + 1) _ _ _ _ 54 rfl rfl (store3 (HBX.out _ hk) _ _ _)) rfl ⟨(chg3 (HC0.out.trans hk sb_) (by omega) _ _ _).drew, t, v, rfl⟩)
set_option maxHeartbeats 2000000 in
theorem addFint_lt_dgt (dn en : Bool) (dc ec : Int) (ds es m : Nat) (hdc : Fi dc) (hec : Fi ec) (hds : ds ≤ 19) (hes : es ≤ 19) (hm : m ≤ 19) (w : World) (he : EnvD w) (hlt : ds < es) (X : Int) (hX : dc * 10 ^ (es - ds) = X) (hXM : X ≤ 9999999999999999999) (hs : (dn == en) = false) (hg : X < ec) (C : Int) (hC : ec - X = C) :
  Calls Tryz.prog 67 #[.agg #[.bool dn, .int .i8 ds, .int .u64 dc], .agg #[.bool en, .int .i8 es, .int .u64 ec], .int .i64 m] w (PDec w en (fromFint C es m)) := by
 have c1 : ¬ (es : Int) < (ds : Int) := by omega
 have c2 : (ds : Int) < (es : Int) := by omega
 have hw : IntKind.i64.wrap ((es : Int) - (ds : Int)) = ((es - ds : Nat) : Int) := by rw [show (es : Int) - (ds : Int) = ((es - ds : Nat) : Int) by omega]; exact IntWalk.i64_in _ (by omega)
 have hl := fun w ht => fint_lsh dc (es - ds) hdc (by omega) w ht
 have hX0 := Int.mul_nonneg hdc.1 (Int.le_of_lt (p10_pos (es - ds)))
 rw [hX] at hX0
 simp only [hX, if_pos hXM, decide_eq_true hXM] at hl
 have hXF : Fi X := ⟨hX0, hXM⟩
 clear hX
 have HL := hid hl
 clear hl
 have hcm : (if ec ≤ X then X - ec else ec - X) = C := by rw [if_neg (by omega)]; exact hC
 have hCF : Fi C := ⟨by omega, by have := hXF.1; have := hXF.2; have := hec.1; have := hec.2; omega⟩
 have hsb := fun w => fint_subAbs X ec hXF hec w
 rw [hcm] at hsb
 have HS := hid hsb
 clear hsb hcm hC
 have hff := fun w he => newFromFint_any en C es m hCF hes hm w he
 have hS19 := hds
 generalize fromFint C es m = o at *
 have HF := hid hff
 obtain ⟨hC0, hC1⟩ := hCF
 clear hff
 have HSD := hid (fun w => Scale_any dn dc ds hds w)
 have HSE := hid (fun w => Scale_any en ec es hes w)
 have HND := hid (fun w => IsNeg_any dn dc ds w)
 have HNE := hid (fun w => IsNeg_any en ec es w)
 have HBS := hid (Bx.start w dn ds dc en es ec)
 have HB := hid (fun w1 (h : Chg (fun _ => False) (((w.alloc (.cells #[.bool dn, .int .i8 ds, .int .u64 dc] 54)).alloc (.cells #[.bool en, .int .i8 es, .int .u64 ec] 54)).alloc (.cells #[.bool false, .int .i8 0, .int .u64 0] 54)) w1) => (HBS.out.kept h).facts)
 have HBX := hid (fun w1 (h : Chg (fun _ => False) (((w.alloc (.cells #[.bool dn, .int .i8 ds, .int .u64 dc] 54)).alloc (.cells #[.bool en, .int .i8 es, .int .u64 ec] 54)).alloc (.cells #[.bool false, .int .i8 0, .int .u64 0] 54)) w1) => (HBS.out.kept h).h2)
 have HC0 := hid (start3 w (.cells #[.bool dn, .int .i8 ds, .int .u64 dc] 54) (.cells #[.bool en, .int .i8 es, .int .u64 ec] 54) (.cells #[.bool false, .int .i8 0, .int .u64 0] 54))
 have hk := Chg.refl (fun _ => False) (((w.alloc (.cells #[.bool dn, .int .i8 ds, .int .u64 dc] 54)).alloc (.cells #[.bool en, .int .i8 es, .int .u64 ec] 54)).alloc (.cells #[.bool false, .int .i8 0, .int .u64 0] 54))
 have HT := hid (fun w1 (h : Chg (fun _ => False) (((w.alloc (.cells #[.bool dn, .int .i8 ds, .int .u64 dc] 54)).alloc (.cells #[.bool en, .int .i8 es, .int .u64 ec] 54)).alloc (.cells #[.bool false, .int .i8 0, .int .u64 0] 54)) w1) => ((he.kept HC0.out).kept h))
 obtain ⟨t, v, HOV⟩ : ∃ t v, Hid (∀ w1, Chg (fun _ => False) (((w.alloc (.cells #[.bool dn, .int .i8 ds, .int .u64 dc] 54)).alloc (.cells #[.bool en, .int .i8 es, .int .u64 ec] 54)).alloc (.cells #[.bool false, .int .i8 0, .int .u64 0] 54)) w1 → w1.cell? ⟨2, 0, none⟩ = some (.iface t v)) := by
  obtain ⟨t, v, h⟩ := (he.kept HC0.out).ovf
  exact ⟨t, v, hid (fun w1 hc => cell_kept h hc (fun h => h))⟩
 have hgl_ : 2 < w.heap.size := by
  obtain ⟨_, _, h⟩ := he.ovf
  exact World.block_lt_of_cell? w _ h
 have gz0_ : ¬ w.heap.size = 0 := by omega
 have gz1_ : ¬ w.heap.size + 1 + 1 = 2 := by omega
 have gz2_ : ¬ 2 = w.heap.size + 1 + 1 := by omega
 clear hgl_
 obtain ⟨d0, d1, d2, e0, e1, e2, r0, r1, r2, q0, q1, q2⟩ := HB.out _ hk
 have ov := HOV.out _ hk
 generalize hj : es - ds = j at *
 clear hj
 obtain ⟨hX0, hX1⟩ := hXF
 obtain ⟨hdc0, hdc1⟩ := hdc
 obtain ⟨hec0, hec1⟩ := hec
 clear he HBS
 go_enter Tryz.func67, Tryz.ntmps67
 go_wp2_with (first | (go_at_call 48; first | (refine (HSD.out _).mono ?_; intro e w1 h; obtain ⟨he1, hc1⟩ := h; subst he1; replace hk := hk.trans hc1 sb_; clear hc1 d0 d1 d2 e0 e1 e2 r0 r1 r2 q0 q1 q2 ov; obtain ⟨d0, d1, d2, e0, e1, e2, r0, r1, r2, q0, q1, q2⟩ := HB.out _ hk; have ov := HOV.out _ hk) | (refine (HSE.out _).mono ?_; intro e w1 h; obtain ⟨he1, hc1⟩ := h; subst he1; replace hk := hk.trans hc1 sb_; clear hc1 d0 d1 d2 e0 e1 e2 r0 r1 r2 q0 q1 q2 ov; obtain ⟨d0, d1, d2, e0, e1, e2, r0, r1, r2, q0, q1, q2⟩ := HB.out _ hk; have ov := HOV.out _ hk)) | (go_at_call 46; first | (refine (HND.out _).mono ?_; intro e w1 h; obtain ⟨he1, hc1⟩ := h; subst he1; replace hk := hk.trans hc1 sb_; clear hc1 d0 d1 d2 e0 e1 e2 r0 r1 r2 q0 q1 q2 ov; obtain ⟨d0, d1, d2, e0, e1, e2, r0, r1, r2, q0, q1, q2⟩ := HB.out _ hk; have ov := HOV.out _ hk) | (refine (HNE.out _).mono ?_; intro e w1 h; obtain ⟨he1, hc1⟩ := h; subst he1; replace hk := hk.trans hc1 sb_; clear hc1 d0 d1 d2 e0 e1 e2 r0 r1 r2 q0 q1 q2 ov; obtain ⟨d0, d1, d2, e0, e1, e2, r0, r1, r2, q0, q1, q2⟩ := HB.out _ hk; have ov := HOV.out _ hk)) | (go_at_call 74; refine (HL.out _ (HT.out _ hk).env.tab).mono ?_; intro e w2 h; obtain ⟨he1, he2⟩ := h; subst he1; subst he2) | (go_at_call 76; refine (HS.out _).mono ?_; intro e w2 h; obtain ⟨he1, he2⟩ := h; subst he1; subst he2) | (go_at_call 77; refine (HF.out _ (HT.out _ hk)).mono ?_; intro e w1 h; obtain ⟨na, nb, nc, nv, he1, hc1, hp⟩ := h.op; subst he1; replace hk := hk.trans hc1 sb_; clear h hc1 d0 d1 d2 e0 e1 e2 r0 r1 r2 q0 q1 q2 ov; obtain ⟨d0, d1, d2, e0, e1, e2, r0, r1, r2, q0, q1, q2⟩ := HB.out _ hk; have HP := hid hp; clear hp))
 refine bodyPost_ret (v := .tuple #[.agg #[.bool na, .int .i8 nb, .int .u64 nc], nv]) (dec_result rfl _ _ (w.heap.size + 1 + 1) _ _ _ _ 54 rfl rfl (store3 (HBX.out _ hk) _ _ _)) rfl (HP.out.move (chg3 (HC0.out.trans hk sb_) (by omega) _ _ _))
set_option maxHeartbeats 2000000 in
theorem addFint_lt_dle (dn en : Bool) (dc ec : Int) (ds es m : Nat) (hdc : Fi dc) (hec : Fi ec) (hds : ds ≤ 19) (hes : es ≤ 19) (hm : m ≤ 19) (w : World) (he : EnvD w) (hlt : ds < es) (X : Int) (hX : dc * 10 ^ (es - ds) = X) (hXM : X ≤ 9999999999999999999) (hs : (dn == en) = false) (hg : ¬ X < ec) (C : Int) (hC : X - ec = C) :
  Calls Tryz.prog 67 #[.agg #[.bool dn, .int .i8 ds, .int .u64 dc], .agg #[.bool en, .int .i8 es, .int .u64 ec], .int .i64 m] w (PDec w dn (fromFint C es m)) := by
 have c1 : ¬ (es : Int) < (ds : Int) := by omega
 have c2 : (ds : Int) < (es : Int) := by omega
 have hw : IntKind.i64.wrap ((es : Int) - (ds : Int)) = ((es - ds : Nat) : Int) := by rw [show (es : Int) - (ds : Int) = ((es - ds : Nat) : Int) by omega]; exact IntWalk.i64_in _ (by omega)
 have hl := fun w ht => fint_lsh dc (es - ds) hdc (by omega) w ht
 have hX0 := Int.mul_nonneg hdc.1 (Int.le_of_lt (p10_pos (es - ds)))
 rw [hX] at hX0
 simp only [hX, if_pos hXM, decide_eq_true hXM] at hl
 have hXF : Fi X := ⟨hX0, hXM⟩
 clear hX
 have HL := hid hl
 clear hl
 have hcm : (if ec ≤ X then X - ec else ec - X) = C := by rw [if_pos (by omega)]; exact hC
 have hCF : Fi C := ⟨by omega, by have := hXF.1; have := hXF.2; have := hec.1; have := hec.2; omega⟩
 have hsb := fun w => fint_subAbs X ec hXF hec w
 rw [hcm] at hsb
 have HS := hid hsb
 clear hsb hcm hC
 have hff := fun w he => newFromFint_any dn C es m hCF hes hm w he
 have hS19 := hds
 generalize fromFint C es m = o at *
 have HF := hid hff
 obtain ⟨hC0, hC1⟩ := hCF
 clear hff
 have HSD := hid (fun w => Scale_any dn dc ds hds w)
 have HSE := hid (fun w => Scale_any en ec es hes w)
 have HND := hid (fun w => IsNeg_any dn dc ds w)
 have HNE := hid (fun w => IsNeg_any en ec es w)
 have HBS := hid (Bx.start w dn ds dc en es ec)
 have HB := hid (fun w1 (h : Chg (fun _ => False) (((w.alloc (.cells #[.bool dn, .int .i8 ds, .int .u64 dc] 54)).alloc (.cells #[.bool en, .int .i8 es, .int .u64 ec] 54)).alloc (.cells #[.bool false, .int .i8 0, .int .u64 0] 54)) w1) => (HBS.out.kept h).facts)
 have HBX := hid (fun w1 (h : Chg (fun _ => False) (((w.alloc (.cells #[.bool dn, .int .i8 ds, .int .u64 dc] 54)).alloc (.cells #[.bool en, .int .i8 es, .int .u64 ec] 54)).alloc (.cells #[.bool false, .int .i8 0, .int .u64 0] 54)) w1) => (HBS.out.kept h).h2)
 have HC0 := hid (start3 w (.cells #[.bool dn, .int .i8 ds, .int .u64 dc] 54) (.cells #[.bool en, .int .i8 es, .int .u64 ec] 54) (.cells #[.bool false, .int .i8 0, .int .u64 0] 54))
 have hk := Chg.refl (fun _ => False) (((w.alloc (.cells #[.bool dn, .int .i8 ds, .int .u64 dc] 54)).alloc (.cells #[.bool en, .int .i8 es, .int .u64 ec] 54)).alloc (.cells #[.bool false, .int .i8 0, .int .u64 0] 54))
 have HT := hid (fun w1 (h : Chg (fun _ => False) (((w.alloc (.cells #[.bool dn, .int .i8 ds, .int .u64 dc] 54)).alloc (.cells #[.bool en, .int .i8 es, .int .u64 ec] 54)).alloc (.cells #[.bool false, .int .i8 0, .int .u64 0] 54)) w1) => ((he.kept HC0.out).kept h))
 obtain ⟨t, v, HOV⟩ : ∃ t v, Hid (∀ w1, Chg (fun _ => False) (((w.alloc (.cells #[.bool dn, .int .i8 ds, .int .u64 dc] 54)).alloc (.cells #[.bool en, .int .i8 es, .int .u64 ec] 54)).alloc (.cells #[.bool false, .int .i8 0, .int .u64 0] 54)) w1 → w1.cell? ⟨2, 0, none⟩ = some (.iface t v)) := by
  obtain ⟨t, v, h⟩ := (he.kept HC0.out).ovf
  exact ⟨t, v, hid (fun w1 hc => cell_kept h hc (fun h => h))⟩
 have hgl_ : 2 < w.heap.size := by
  obtain ⟨_, _, h⟩ := he.ovf
  exact World.block_lt_of_cell? w _ h
 have gz0_ : ¬ w.heap.size = 0 := by omega
 have gz1_ : ¬ w.heap.size + 1 + 1 = 2 := by omega
 have gz2_ : ¬ 2 = w.heap.size + 1 + 1 := by omega
 clear hgl_
 obtain ⟨d0, d1, d2, e0, e1, e2, r0, r1, r2, q0, q1, q2⟩ := HB.out _ hk
 have ov := HOV.out _ hk
 generalize hj : es - ds = j at *
 clear hj
 obtain ⟨hX0, hX1⟩ := hXF
 obtain ⟨hdc0, hdc1⟩ := hdc
 obtain ⟨hec0, hec1⟩ := hec
 clear he HBS
 go_enter Tryz.func67, Tryz.ntmps67
 go_wp2_with (first | (go_at_call 48; first | (refine (HSD.out _).mono ?_; intro e w1 h; obtain ⟨he1, hc1⟩ := h; subst he1; replace hk := hk.trans hc1 sb_; clear hc1 d0 d1 d2 e0 e1 e2 r0 r1 r2 q0 q1 q2 ov; obtain ⟨d0, d1, d2, e0, e1, e2, r0, r1, r2, q0, q1, q2⟩ := HB.out _ hk; have ov := HOV.out _ hk) | (refine (HSE.out _).mono ?_; intro e w1 h; obtain ⟨he1, hc1⟩ := h; subst he1; replace hk := hk.trans hc1 sb_; clear hc1 d0 d1 d2 e0 e1 e2 r0 r1 r2 q0 q1 q2 ov; obtain ⟨d0, d1, d2, e0, e1, e2, r0, r1, r2, q0, q1, q2⟩ := HB.out _ hk; have ov := HOV.out _ hk)) | (go_at_call 46; first | (refine (HND.out _).mono ?_; intro e w1 h; obtain ⟨he1, hc1⟩ := h; subst he1; replace hk := hk.trans hc1 sb_; clear hc1 d0 d1 d2 e0 e1 e2 r0 r1 r2 q0 q1 q2 ov; obtain ⟨d0, d1, d2, e0, e1, e2, r0, r1, r2, q0, q1, q2⟩ := HB.out _ hk; have ov := HOV.out _ hk) | (refine (HNE.out _).mono ?_; intro e w1 h; obtain ⟨he1, hc1⟩ := h; subst he1; replace hk := hk.trans hc1 sb_; clear hc1 d0 d1 d2 e0 e1 e2 r0 r1 r2 q0 q1 q2 ov; obtain ⟨d0, d1, d2, e0, e1, e2, r0, r1, r2, q0, q1, q2⟩ := HB.out _ hk; have ov := HOV.out _ hk)) | (go_at_call 74; refine (HL.out _ (HT.out _ hk).env.tab).mono ?_; intro e w2 h; obtain ⟨he1, he2⟩ := h; subst he1; subst he2) | (go_at_call 76; refine (HS.out _).mono ?_; intro e w2 h; obtain ⟨he1, he2⟩ := h; subst he1; subst he2) | (go_at_call 77; refine (HF.out _ (HT.out _ hk)).mono ?_; intro e w1 h; obtain ⟨na, nb, nc, nv, he1, hc1, hp⟩ := h.op; subst he1; replace hk := hk.trans hc1 sb_; clear h hc1 d0 d1 d2 e0 e1 e2 r0 r1 r2 q0 q1 q2 ov; obtain ⟨d0, d1, d2, e0, e1, e2, r0, r1, r2, q0, q1, q2⟩ := HB.out _ hk; have HP := hid hp; clear hp))
 refine bodyPost_ret (v := .tuple #[.agg #[.bool na, .int .i8 nb, .int .u64 nc], nv]) (dec_result rfl _ _ (w.heap.size + 1 + 1) _ _ _ _ 54 rfl rfl (store3 (HBX.out _ hk) _ _ _)) rfl (HP.out.move (chg3 (HC0.out.trans hk sb_) (by omega) _ _ _))
set_option maxHeartbeats 2000000 in
theorem addFint_eq_same (dn en : Bool) (dc ec : Int) (ds es m : Nat) (hdc : Fi dc) (hec : Fi ec) (hds : ds ≤ 19) (hes : es ≤ 19) (hm : m ≤ 19) (w : World) (he : EnvD w) (hlt : es = ds) (hs : (dn == en) = true) (C : Int) (hC : dc + ec = C) (hCM : C ≤ 9999999999999999999) :
  Calls Tryz.prog 67 #[.agg #[.bool dn, .int .i8 ds, .int .u64 dc], .agg #[.bool en, .int .i8 es, .int .u64 ec], .int .i64 m] w (PDec w dn (fromFint C ds m)) := by
 subst hlt
 have c1 : ¬ (es : Int) < (es : Int) := by omega
 have ha := fun w => fint_add dc ec hdc hec w
 simp only [hC, if_pos hCM, decide_eq_true hCM] at ha
 have hCF : Fi C := ⟨by rw [← hC]; exact Int.add_nonneg hdc.1 hec.1, hCM⟩
 clear hC
 have HA := hid ha
 clear ha
 have hff := fun w he => newFromFint_any dn C es m hCF hes hm w he
 have hS19 := hds
 generalize fromFint C es m = o at *
 have HF := hid hff
 obtain ⟨hC0, hC1⟩ := hCF
 clear hff
 have HSD := hid (fun w => Scale_any dn dc es hes w)
 have HSE := hid (fun w => Scale_any en ec es hes w)
 have HND := hid (fun w => IsNeg_any dn dc es w)
 have HNE := hid (fun w => IsNeg_any en ec es w)
 have HBS := hid (Bx.start w dn es dc en es ec)
 have HB := hid (fun w1 (h : Chg (fun _ => False) (((w.alloc (.cells #[.bool dn, .int .i8 es, .int .u64 dc] 54)).alloc (.cells #[.bool en, .int .i8 es, .int .u64 ec] 54)).alloc (.cells #[.bool false, .int .i8 0, .int .u64 0] 54)) w1) => (HBS.out.kept h).facts)
 have HBX := hid (fun w1 (h : Chg (fun _ => False) (((w.alloc (.cells #[.bool dn, .int .i8 es, .int .u64 dc] 54)).alloc (.cells #[.bool en, .int .i8 es, .int .u64 ec] 54)).alloc (.cells #[.bool false, .int .i8 0, .int .u64 0] 54)) w1) => (HBS.out.kept h).h2)
 have HC0 := hid (start3 w (.cells #[.bool dn, .int .i8 es, .int .u64 dc] 54) (.cells #[.bool en, .int .i8 es, .int .u64 ec] 54) (.cells #[.bool false, .int .i8 0, .int .u64 0] 54))
 have hk := Chg.refl (fun _ => False) (((w.alloc (.cells #[.bool dn, .int .i8 es, .int .u64 dc] 54)).alloc (.cells #[.bool en, .int .i8 es, .int .u64 ec] 54)).alloc (.cells #[.bool false, .int .i8 0, .int .u64 0] 54))
 have HT := hid (fun w1 (h : Chg (fun _ => False) (((w.alloc (.cells #[.bool dn, .int .i8 es, .int .u64 dc] 54)).alloc (.cells #[.bool en, .int .i8 es, .int .u64 ec] 54)).alloc (.cells #[.bool false, .int .i8 0, .int .u64 0] 54)) w1) => ((he.kept HC0.out).kept h))
 obtain ⟨t, v, HOV⟩ : ∃ t v, Hid (∀ w1, Chg (fun _ => False) (((w.alloc (.cells #[.bool dn, .int .i8 es, .int .u64 dc] 54)).alloc (.cells #[.bool en, .int .i8 es, .int .u64 ec] 54)).alloc (.cells #[.bool false, .int .i8 0, .int .u64 0] 54)) w1 → w1.cell? ⟨2, 0, none⟩ = some (.iface t v)) := by
  obtain ⟨t, v, h⟩ := (he.kept HC0.out).ovf
  exact ⟨t, v, hid (fun w1 hc => cell_kept h hc (fun h => h))⟩
 have hgl_ : 2 < w.heap.size := by
  obtain ⟨_, _, h⟩ := he.ovf
  exact World.block_lt_of_cell? w _ h
 have gz0_ : ¬ w.heap.size = 0 := by omega
 have gz1_ : ¬ w.heap.size + 1 + 1 = 2 := by omega
 have gz2_ : ¬ 2 = w.heap.size + 1 + 1 := by omega
 clear hgl_
 obtain ⟨d0, d1, d2, e0, e1, e2, r0, r1, r2, q0, q1, q2⟩ := HB.out _ hk
 have ov := HOV.out _ hk
 obtain ⟨hdc0, hdc1⟩ := hdc
 obtain ⟨hec0, hec1⟩ := hec
 clear he HBS
 go_enter Tryz.func67, Tryz.ntmps67
 go_wp2_with (first | (go_at_call 48; first | (refine (HSD.out _).mono ?_; intro e w1 h; obtain ⟨he1, hc1⟩ := h; subst he1; replace hk := hk.trans hc1 sb_; clear hc1 d0 d1 d2 e0 e1 e2 r0 r1 r2 q0 q1 q2 ov; obtain ⟨d0, d1, d2, e0, e1, e2, r0, r1, r2, q0, q1, q2⟩ := HB.out _ hk; have ov := HOV.out _ hk) | (refine (HSE.out _).mono ?_; intro e w1 h; obtain ⟨he1, hc1⟩ := h; subst he1; replace hk := hk.trans hc1 sb_; clear hc1 d0 d1 d2 e0 e1 e2 r0 r1 r2 q0 q1 q2 ov; obtain ⟨d0, d1, d2, e0, e1, e2, r0, r1, r2, q0, q1, q2⟩ := HB.out _ hk; have ov := HOV.out _ hk)) | (go_at_call 46; first | (refine (HND.out _).mono ?_; intro e w1 h; obtain ⟨he1, hc1⟩ := h; subst he1; replace hk := hk.trans hc1 sb_; clear hc1 d0 d1 d2 e0 e1 e2 r0 r1 r2 q0 q1 q2 ov; obtain ⟨d0, d1, d2, e0, e1, e2, r0, r1, r2, q0, q1, q2⟩ := HB.out _ hk; have ov := HOV.out _ hk) | (refine (HNE.out _).mono ?_; intro e w1 h; obtain ⟨he1, hc1⟩ := h; subst he1; replace hk := hk.trans hc1 sb_; clear hc1 d0 d1 d2 e0 e1 e2 r0 r1 r2 q0 q1 q2 ov; obtain ⟨d0, d1, d2, e0, e1, e2, r0, r1, r2, q0, q1, q2⟩ := HB.out _ hk; have ov := HOV.out _ hk)) | (go_at_call 75; refine (HA.out _).mono ?_; intro e w2 h; obtain ⟨he1, he2⟩ := h; subst he1; subst he2) | (go_at_call 77; refine (HF.out _ (HT.out _ hk)).mono ?_; intro e w1 h; obtain ⟨na, nb, nc, nv, he1, hc1, hp⟩ := h.op; subst he1; replace hk := hk.trans hc1 sb_; clear h hc1 d0 d1 d2 e0 e1 e2 r0 r1 r2 q0 q1 q2 ov; obtain ⟨d0, d1, d2, e0, e1, e2, r0, r1, r2, q0, q1, q2⟩ := HB.out _ hk; have HP := hid hp; clear hp))
 refine bodyPost_ret (v := .tuple #[.agg #[.bool na, .int .i8 nb, .int .u64 nc], nv]) (dec_result rfl _ _ (w.heap.size + 1 + 1) _ _ _ _ 54 rfl rfl (store3 (HBX.out _ hk) _ _ _)) rfl (HP.out.move (chg3 (HC0.out.trans hk sb_) (by omega) _ _ _))
set_option maxHeartbeats 2000000 in
theorem addFint_eq_ovf (dn en : Bool) (dc ec : Int) (ds es m : Nat) (hdc : Fi dc) (hec : Fi ec) (hds : ds ≤ 19) (hes : es ≤ 19) (hm : m ≤ 19) (w : World) (he : EnvD w) (neg : Bool) (hlt : es = ds) (hs : (dn == en) = true) (hC : ¬ dc + ec ≤ 9999999999999999999) :
  Calls Tryz.prog 67 #[.agg #[.bool dn, .int .i8 ds, .int .u64 dc], .agg #[.bool en, .int .i8 es, .int .u64 ec], .int .i64 m] w (PDec w neg none) := by
 subst hlt
 have c1 : ¬ (es : Int) < (es : Int) := by omega
 have ha := fun w => fint_add dc ec hdc hec w
 simp only [if_neg hC, decide_eq_false hC] at ha
 clear hC
 have HA := hid ha
 clear ha
 have HSD := hid (fun w => Scale_any dn dc es hes w)
 have HSE := hid (fun w => Scale_any en ec es hes w)
 have HND := hid (fun w => IsNeg_any dn dc es w)
 have HNE := hid (fun w => IsNeg_any en ec es w)
 have HBS := hid (Bx.start w dn es dc en es ec)
 have HB := hid (fun w1 (h : Chg (fun _ => False) (((w.alloc (.cells #[.bool dn, .int .i8 es, .int .u64 dc] 54)).alloc (.cells #[.bool en, .int .i8 es, .int .u64 ec] 54)).alloc (.cells #[.bool false, .int .i8 0, .int .u64 0] 54)) w1) => (HBS.out.kept h).facts)
 have HBX := hid (fun w1 (h : Chg (fun _ => False) (((w.alloc (.cells #[.bool dn, .int .i8 es, .int .u64 dc] 54)).alloc (.cells #[.bool en, .int .i8 es, .int .u64 ec] 54)).alloc (.cells #[.bool false, .int .i8 0, .int .u64 0] 54)) w1) => (HBS.out.kept h).h2)
 have HC0 := hid (start3 w (.cells #[.bool dn, .int .i8 es, .int .u64 dc] 54) (.cells #[.bool en, .int .i8 es, .int .u64 ec] 54) (.cells #[.bool false, .int .i8 0, .int .u64 0] 54))
 have hk := Chg.refl (fun _ => False) (((w.alloc (.cells #[.bool dn, .int .i8 es, .int .u64 dc] 54)).alloc (.cells #[.bool en, .int .i8 es, .int .u64 ec] 54)).alloc (.cells #[.bool false, .int .i8 0, .int .u64 0] 54))
 have HT := hid (fun w1 (h : Chg (fun _ => False) (((w.alloc (.cells #[.bool dn, .int .i8 es, .int .u64 dc] 54)).alloc (.cells #[.bool en, .int .i8 es, .int .u64 ec] 54)).alloc (.cells #[.bool false, .int .i8 0, .int .u64 0] 54)) w1) => ((he.kept HC0.out).kept h))
 obtain ⟨t, v, HOV⟩ : ∃ t v, Hid (∀ w1, Chg (fun _ => False) (((w.alloc (.cells #[.bool dn, .int .i8 es, .int .u64 dc] 54)).alloc (.cells #[.bool en, .int .i8 es, .int .u64 ec] 54)).alloc (.cells #[.bool false, .int .i8 0, .int .u64 0] 54)) w1 → w1.cell? ⟨2, 0, none⟩ = some (.iface t v)) := by
  obtain ⟨t, v, h⟩ := (he.kept HC0.out).ovf
  exact ⟨t, v, hid (fun w1 hc => cell_kept h hc (fun h => h))⟩
 have hgl_ : 2 < w.heap.size := by
  obtain ⟨_, _, h⟩ := he.ovf
  exact World.block_lt_of_cell? w _ h
 have gz0_ : ¬ w.heap.size = 0 := by omega
 have gz1_ : ¬ w.heap.size + 1 + 1 = 2 := by omega
 have gz2_ : ¬ 2 = w.heap.size + 1 + 1 := by omega
 clear hgl_
 obtain ⟨d0, d1, d2, e0, e1, e2, r0, r1, r2, q0, q1, q2⟩ := HB.out _ hk
 have ov := HOV.out _ hk
 obtain ⟨hdc0, hdc1⟩ := hdc
 obtain ⟨hec0, hec1⟩ := hec
 clear he HBS
 go_enter Tryz.func67, Tryz.ntmps67
 go_wp2_with (first | (go_at_call 48; first | (refine (HSD.out _).mono ?_; intro e w1 h; obtain ⟨he1, hc1⟩ := h; subst he1; replace hk := hk.trans hc1 sb_; clear hc1 d0 d1 d2 e0 e1 e2 r0 r1 r2 q0 q1 q2 ov; obtain ⟨d0, d1, d2, e0, e1, e2, r0, r1, r2, q0, q1, q2⟩ := HB.out _ hk; have ov := HOV.out _ hk) | (refine (HSE.out _).mono ?_; intro e w1 h; obtain ⟨he1, hc1⟩ := h; subst he1; replace hk := hk.trans hc1 sb_; clear hc1 d0 d1 d2 e0 e1 e2 r0 r1 r2 q0 q1 q2 ov; obtain ⟨d0, d1, d2, e0, e1, e2, r0, r1, r2, q0, q1, q2⟩ := HB.out _ hk; have ov := HOV.out _ hk)) | (go_at_call 46; first | (refine (HND.out _).mono ?_; intro e w1 h; obtain ⟨he1, hc1⟩ := h; subst he1; replace hk := hk.trans hc1 sb_; clear hc1 d0 d1 d2 e0 e1 e2 r0 r1 r2 q0 q1 q2 ov; obtain ⟨d0, d1, d2, e0, e1, e2, r0, r1, r2, q0, q1, q2⟩ := HB.out _ hk; have ov := HOV.out _ hk) | (refine (HNE.out _).mono ?_; intro e w1 h; obtain ⟨he1, hc1⟩ := h; subst he1; replace hk := hk.trans hc1 sb_; clear hc1 d0 d1 d2 e0 e1 e2 r0 r1 r2 q0 q1 q2 ov; obtain ⟨d0, d1, d2, e0, e1, e2, r0, r1, r2, q0, q1, q2⟩ := HB.out _ hk; have ov := HOV.out _ hk)) | (go_at_call 75; refine (HA.out _).mono ?_; intro e w2 h; obtain ⟨he1, he2⟩ := h; subst he1; subst he2))
 go_region
 all_goals (go_wp2_with fail; refine bodyPost_ret (v := .tuple #[.agg #[.bool false, .int .i8 0, .int .u64 0], .iface t v]) (dec_result rfl _ _ (w.heap.size + 1 + 1) _ _ _ _ 54 rfl rfl (store3 (HBX.out _ hk) _ _ _)) rfl ⟨(chg3 (HC0.out.trans hk sb_) (by omega) _ _ _).drew, t, v, rfl⟩)
set_option maxHeartbeats 2000000 in
theorem addFint_eq_dgt (dn en : Bool) (dc ec : Int) (ds es m : Nat) (hdc : Fi dc) (hec : Fi ec) (hds : ds ≤ 19) (hes : es ≤ 19) (hm : m ≤ 19) (w : World) (he : EnvD w) (hlt : es = ds) (hs : (dn == en) = false) (hg : dc < ec) (C : Int) (hC : ec - dc = C) :
  Calls Tryz.prog 67 #[.agg #[.bool dn, .int .i8 ds, .int .u64 dc], .agg #[.bool en, .int .i8 es, .int .u64 ec], .int .i64 m] w (PDec w en (fromFint C ds m)) := by
 subst hlt
 have c1 : ¬ (es : Int) < (es : Int) := by omega
 have hcm : (if ec ≤ dc then dc - ec else ec - dc) = C := by rw [if_neg (by omega)]; exact hC
 have hCF : Fi C := ⟨by omega, by have := hdc.1; have := hdc.2; have := hec.1; have := hec.2; omega⟩
 have hsb := fun w => fint_subAbs dc ec hdc hec w
 rw [hcm] at hsb
 have HS := hid hsb
 clear hsb hcm hC
 have hff := fun w he => newFromFint_any en C es m hCF hes hm w he
 have hS19 := hds
 generalize fromFint C es m = o at *
 have HF := hid hff
 obtain ⟨hC0, hC1⟩ := hCF
 clear hff
 have HSD := hid (fun w => Scale_any dn dc es hes w)
 have HSE := hid (fun w => Scale_any en ec es hes w)
 have HND := hid (fun w => IsNeg_any dn dc es w)
 have HNE := hid (fun w => IsNeg_any en ec es w)
 have HBS := hid (Bx.start w dn es dc en es ec)
 have HB := hid (fun w1 (h : Chg (fun _ => False) (((w.alloc (.cells #[.bool dn, .int .i8 es, .int .u64 dc] 54)).alloc (.cells #[.bool en, .int .i8 es, .int .u64 ec] 54)).alloc (.cells #[.bool false, .int .i8 0, .int .u64 0] 54)) w1) => (HBS.out.kept h).facts)
 have HBX := hid (fun w1 (h : Chg (fun _ => False) (((w.alloc (.cells #[.bool dn, .int .i8 es, .int .u64 dc] 54)).alloc (.cells #[.bool en, .int .i8 es, .int .u64 ec] 54)).alloc (.cells #[.bool false, .int .i8 0, .int .u64 0] 54)) w1) => (HBS.out.kept h).h2)
 have HC0 := hid (start3 w (.cells #[.bool dn, .int .i8 es, .int .u64 dc] 54) (.cells #[.bool en, .int .i8 es, .int .u64 ec] 54) (.cells #[.bool false, .int .i8 0, .int .u64 0] 54))
 have hk := Chg.refl (fun _ => False) (((w.alloc (.cells #[.bool dn, .int .i8 es, .int .u64 dc] 54)).alloc (.cells #[.bool en, .int .i8 es, .int .u64 ec] 54)).alloc (.cells #[.bool false, .int .i8 0, .int .u64 0] 54))
 have HT := hid (fun w1 (h : Chg (fun _ => False) (((w.alloc (.cells #[.bool dn, .int .i8 es, .int .u64 dc] 54)).alloc (.cells #[.bool en, .int .i8 es, .int .u64 ec] 54)).alloc (.cells #[.bool false, .int .i8 0, .int .u64 0] 54)) w1) => ((he.kept HC0.out).kept h))
 obtain ⟨t, v, HOV⟩ : ∃ t v, Hid (∀ w1, Chg (fun _ => False) (((w.alloc (.cells #[.bool dn, .int .i8 es, .int .u64 dc] 54)).alloc (.cells #[.bool en, .int .i8 es, .int .u64 ec] 54)).alloc (.cells #[.bool false, .int .i8 0, .int .u64 0] 54)) w1 → w1.cell? ⟨2, 0, none⟩ = some (.iface t v)) := by
  obtain ⟨t, v, h⟩ := (he.kept HC0.out).ovf
  exact ⟨t, v, hid (fun w1 hc => cell_kept h hc (fun h => h))⟩
 have hgl_ : 2 < w.heap.size := by
  obtain ⟨_, _, h⟩ := he.ovf
  exact World.block_lt_of_cell? w _ h
 have gz0_ : ¬ w.heap.size = 0 := by omega
 have gz1_ : ¬ w.heap.size + 1 + 1 = 2 := by omega
 have gz2_ : ¬ 2 = w.heap.size + 1 + 1 := by omega
 clear hgl_
 obtain ⟨d0, d1, d2, e0, e1, e2, r0, r1, r2, q0, q1, q2⟩ := HB.out _ hk
 have ov := HOV.out _ hk
 obtain ⟨hdc0, hdc1⟩ := hdc
 obtain ⟨hec0, hec1⟩ := hec
 clear he HBS
 go_enter Tryz.func67, Tryz.ntmps67
 go_wp2_with (first | (go_at_call 48; first | (refine (HSD.out _).mono ?_; intro e w1 h; obtain ⟨he1, hc1⟩ := h; subst he1; replace hk := hk.trans hc1 sb_; clear hc1 d0 d1 d2 e0 e1 e2 r0 r1 r2 q0 q1 q2 ov; obtain ⟨d0, d1, d2, e0, e1, e2, r0, r1, r2, q0, q1, q2⟩ := HB.out _ hk; have ov := HOV.out _ hk) | (refine (HSE.out _).mono ?_; intro e w1 h; obtain ⟨he1, hc1⟩ := h; subst he1; replace hk := hk.trans hc1 sb_; clear hc1 d0 d1 d2 e0 e1 e2 r0 r1 r2 q0 q1 q2 ov; obtain ⟨d0, d1, d2, e0, e1, e2, r0, r1, r2, q0, q1, q2⟩ := HB.out _ hk; have ov := HOV.out _ hk)) | (go_at_call 46; first | (refine (HND.out _).mono ?_; intro e w1 h; obtain ⟨he1, hc1⟩ := h; subst he1; replace hk := hk.trans hc1 sb_; clear hc1 d0 d1 d2 e0 e1 e2 r0 r1 r2 q0 q1 q2 ov; obtain ⟨d0, d1, d2, e0, e1, e2, r0, r1, r2, q0, q1, q2⟩ := HB.out _ hk; have ov := HOV.out _ hk) | (refine (HNE.out _).mono ?_; intro e w1 h; obtain ⟨he1, hc1⟩ := h; subst he1; replace hk := hk.trans hc1 sb_; clear hc1 d0 d1 d2 e0 e1 e2 r0 r1 r2 q0 q1 q2 ov; obtain ⟨d0, d1, d2, e0, e1, e2, r0, r1, r2, q0, q1, q2⟩ := HB.out _ hk; have ov := HOV.out _ hk)) | (go_at_call 76; refine (HS.out _).mono ?_; intro e w2 h; obtain ⟨he1, he2⟩ := h; subst he1; subst he2) | (go_at_call 77; refine (HF.out _ (HT.out _ hk)).mono ?_; intro e w1 h; obtain ⟨na, nb, nc, nv, he1, hc1, hp⟩ := h.op; subst he1; replace hk := hk.trans hc1 sb_; clear h hc1 d0 d1 d2 e0 e1 e2 r0 r1 r2 q0 q1 q2 ov; obtain ⟨d0, d1, d2, e0, e1, e2, r0, r1, r2, q0, q1, q2⟩ := HB.out _ hk; have HP := hid hp; clear hp))
 refine bodyPost_ret (v := .tuple #[.agg #[.bool na, .int .i8 nb, .int .u64 nc], nv]) (dec_result rfl _ _ (w.heap.size + 1 + 1) _ _ _ _ 54 rfl rfl (store3 (HBX.out _ hk) _ _ _)) rfl (HP.out.move (chg3 (HC0.out.trans hk sb_) (by omega) _ _ _))
set_option maxHeartbeats 2000000 in
theorem addFint_eq_dle (dn en : Bool) (dc ec : Int) (ds es m : Nat) (hdc : Fi dc) (hec : Fi ec) (hds : ds ≤ 19) (hes : es ≤ 19) (hm : m ≤ 19) (w : World) (he : EnvD w) (hlt : es = ds) (hs : (dn == en) = false) (hg : ¬ dc < ec) (C : Int) (hC : dc - ec = C) :
  Calls Tryz.prog 67 #[.agg #[.bool dn, .int .i8 ds, .int .u64 dc], .agg #[.bool en, .int .i8 es, .int .u64 ec], .int .i64 m] w (PDec w dn (fromFint C ds m)) := by
 subst hlt
 have c1 : ¬ (es : Int) < (es : Int) := by omega
 have hcm : (if ec ≤ dc then dc - ec else ec - dc) = C := by rw [if_pos (by omega)]; exact hC
 have hCF : Fi C := ⟨by omega, by have := hdc.1; have := hdc.2; have := hec.1; have := hec.2; omega⟩
 have hsb := fun w => fint_subAbs dc ec hdc hec w
 rw [hcm] at hsb
 have HS := hid hsb
 clear hsb hcm hC
 have hff := fun w he => newFromFint_any dn C es m hCF hes hm w he
 have hS19 := hds
 generalize fromFint C es m = o at *
 have HF := hid hff
 obtain ⟨hC0, hC1⟩ := hCF
 clear hff
 have HSD := hid (fun w => Scale_any dn dc es hes w)
 have HSE := hid (fun w => Scale_any en ec es hes w)
 have HND := hid (fun w => IsNeg_any dn dc es w)
 have HNE := hid (fun w => IsNeg_any en ec es w)
 have HBS := hid (Bx.start w dn es dc en es ec)
 have HB := hid (fun w1 (h : Chg (fun _ => False) (((w.alloc (.cells #[.bool dn, .int .i8 es, .int .u64 dc] 54)).alloc (.cells #[.bool en, .int .i8 es, .int .u64 ec] 54)).alloc (.cells #[.bool false, .int .i8 0, .int .u64 0] 54)) w1) => (HBS.out.kept h).facts)
 have HBX := hid (fun w1 (h : Chg (fun _ => False) (((w.alloc (.cells #[.bool dn, .int .i8 es, .int .u64 dc] 54)).alloc (.cells #[.bool en, .int .i8 es, .int .u64 ec] 54)).alloc (.cells #[.bool false, .int .i8 0, .int .u64 0] 54)) w1) => (HBS.out.kept h).h2)
 have HC0 := hid (start3 w (.cells #[.bool dn, .int .i8 es, .int .u64 dc] 54) (.cells #[.bool en, .int .i8 es, .int .u64 ec] 54) (.cells #[.bool false, .int .i8 0, .int .u64 0] 54))
 have hk := Chg.refl (fun _ => False) (((w.alloc (.cells #[.bool dn, .int .i8 es, .int .u64 dc] 54)).alloc (.cells #[.bool en, .int .i8 es, .int .u64 ec] 54)).alloc (.cells #[.bool false, .int .i8 0, .int .u64 0] 54))
 have HT := hid (fun w1 (h : Chg (fun _ => False) (((w.alloc (.cells #[.bool dn, .int .i8 es, .int .u64 dc] 54)).alloc (.cells #[.bool en, .int .i8 es, .int .u64 ec] 54)).alloc (.cells #[.bool false, .int .i8 0, .int .u64 0] 54)) w1) => ((he.kept HC0.out).kept h))
 obtain ⟨t, v, HOV⟩ : ∃ t v, Hid (∀ w1, Chg (fun _ => False) (((w.alloc (.cells #[.bool dn, .int .i8 es, .int .u64 dc] 54)).alloc (.cells #[.bool en, .int .i8 es, .int .u64 ec] 54)).alloc (.cells #[.bool false, .int .i8 0, .int .u64 0] 54)) w1 → w1.cell? ⟨2, 0, none⟩ = some (.iface t v)) := by
  obtain ⟨t, v, h⟩ := (he.kept HC0.out).ovf
  exact ⟨t, v, hid (fun w1 hc => cell_kept h hc (fun h => h))⟩
 have hgl_ : 2 < w.heap.size := by
  obtain ⟨_, _, h⟩ := he.ovf
  exact World.block_lt_of_cell? w _ h
 have gz0_ : ¬ w.heap.size = 0 := by omega
 have gz1_ : ¬ w.heap.size + 1 + 1 = 2 := by omega
 have gz2_ : ¬ 2 = w.heap.size + 1 + 1 := by omega
 clear hgl_
 obtain ⟨d0, d1, d2, e0, e1, e2, r0, r1, r2, q0, q1, q2⟩ := HB.out _ hk
 have ov := HOV.out _ hk
 obtain ⟨hdc0, hdc1⟩ := hdc
 obtain ⟨hec0, hec1⟩ := hec
 clear he HBS
 go_enter Tryz.func67, Tryz.ntmps67
 go_wp2_with (first | (go_at_call 48; first | (refine (HSD.out _).mono ?_; intro e w1 h; obtain ⟨he1, hc1⟩ := h; subst he1; replace hk := hk.trans hc1 sb_; clear hc1 d0 d1 d2 e0 e1 e2 r0 r1 r2 q0 q1 q2 ov; obtain ⟨d0, d1, d2, e0, e1, e2, r0, r1, r2, q0, q1, q2⟩ := HB.out _ hk; have ov := HOV.out _ hk) | (refine (HSE.out _).mono ?_; intro e w1 h; obtain ⟨he1, hc1⟩ := h; subst he1; replace hk := hk.trans hc1 sb_; clear hc1 d0 d1 d2 e0 e1 e2 r0 r1 r2 q0 q1 q2 ov; obtain ⟨d0, d1, d2, e0, e1, e2, r0, r1, r2, q0, q1, q2⟩ := HB.out _ hk; have ov := HOV.out _ hk)) | (go_at_call 46; first | (refine (HND.out _).mono ?_; intro e w1 h; obtain ⟨he1, hc1⟩ := h; subst he1; replace hk := hk.trans hc1 sb_; clear hc1 d0 d1 d2 e0 e1 e2 r0 r1 r2 q0 q1 q2 ov; obtain ⟨d0, d1, d2, e0, e1, e2, r0, r1, r2, q0, q1, q2⟩ := HB.out _ hk; have ov := HOV.out _ hk) | (refine (HNE.out _).mono ?_; intro e w1 h; obtain ⟨he1, hc1⟩ := h; subst he1; replace hk := hk.trans hc1 sb_; clear hc1 d0 d1 d2 e0 e1 e2 r0 r1 r2 q0 q1 q2 ov; obtain ⟨d0, d1, d2, e0, e1, e2, r0, r1, r2, q0, q1, q2⟩ := HB.out _ hk; have ov := HOV.out _ hk)) | (go_at_call 76; refine (HS.out _).mono ?_; intro e w2 h; obtain ⟨he1, he2⟩ := h; subst he1; subst he2) | (go_at_call 77; refine (HF.out _ (HT.out _ hk)).mono ?_; intro e w1 h; obtain ⟨na, nb, nc, nv, he1, hc1, hp⟩ := h.op; subst he1; replace hk := hk.trans hc1 sb_; clear h hc1 d0 d1 d2 e0 e1 e2 r0 r1 r2 q0 q1 q2 ov; obtain ⟨d0, d1, d2, e0, e1, e2, r0, r1, r2, q0, q1, q2⟩ := HB.out _ hk; have HP := hid hp; clear hp))
 refine bodyPost_ret (v := .tuple #[.agg #[.bool na, .int .i8 nb, .int .u64 nc], nv]) (dec_result rfl _ _ (w.heap.size + 1 + 1) _ _ _ _ 54 rfl rfl (store3 (HBX.out _ hk) _ _ _)) rfl (HP.out.move (chg3 (HC0.out.trans hk sb_) (by omega) _ _ _))
end Go.Proofs.YthdkandofddohaaGreatDoor
