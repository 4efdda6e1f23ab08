/- Part 31 of the proof. -/
import Derived.Test.YtmpkgkjnoanlhaaGreatDoorP24
namespace Go.Proofs.YtmpkgkjnoanlhaaGreatDoor
open Go.RowKit
set_option linter.unusedVariables false
set_option linter.unusedSimpArgs false
set_option maxRecDepth 20000
theorem rheI_zero {Y : Int} (h : 0 < Y) : rheI 0 Y = 0 := by
 unfold rheI
 rw [Int.zero_emod, Int.zero_ediv]
 exact if_neg (by omega)
theorem fint_rsh_any (x : Int) (n : Nat) (hx : Fi x) (hn1 : 1 ≤ n) (hn : n ≤ 19) (w : World) (ht : Tab w) :
  Calls Tryz.prog 101 #[.int .u64 x, .int .i64 n] w (fun e w' => e = .returned (.int .u64 (rheI x (10 ^ n))) ∧ w = w') := by
 by_cases h : x = 0
 ·subst h
  rw [rheI_zero (p10_pos n)]
  have hb0 : ((0 : Int) == 0) = true := rfl
  go_enter Tryz.func101, Tryz.ntmps101
  go_wp2_with fail
  go_ret
  exact ⟨rfl, rfl⟩
 ·exact fint_rsh_pos x n hx h hn1 hn w ht
theorem fint_lsh_far (x : Int) (s : Nat) (hs1 : 20 ≤ s) (hs : s ≤ 38) (w : World) :
  Calls Tryz.prog 81 #[.int .u64 x, .int .i64 s] w (fun e w' => e = .returned (.tuple #[.int .u64 0, .bool false]) ∧ w = w') := by
 have h0 : ¬ (s : Int) ≤ 0 := by omega
 have h1 : ((s : Int) == 1) = false := beq_eq_false_iff_ne.2 (by omega)
 have h2 : (20 : Int) ≤ (s : Int) := by omega
 go_enter Tryz.func81, Tryz.ntmps81
 go_wp2_with fail
 first | (go_quiet (fail); go_wp2_with fail) | skip
 go_ret2
 exact ⟨rfl, rfl⟩
def fromFint2 (c : Int) (s m : Nat) : Option (Int × Nat) := if 19 < s then some (rheI c (10 ^ (s - 19)), 19) else fromFint c s m
theorem rheI_fi {c : Int} {k : Nat} (hc : Fi c) (hk : 1 ≤ k) : Fi (rheI c (10 ^ k)) := by
 obtain ⟨h0, h1⟩ := hc
 obtain ⟨j, rfl⟩ : ∃ j, k = j + 1 := ⟨k - 1, by omega⟩
 have hp := p10_pos j
 have e : (10 : Int) ^ (j + 1) = 10 * 10 ^ j := by rw [Int.pow_succ, Int.mul_comm]
 generalize (10 : Int) ^ j = P at *
 rw [e]
 have hq0 : 0 ≤ c / (10 * P) := Int.ediv_nonneg h0 (by omega)
 have hq1 : c / (10 * P) ≤ c / 10 := by
  rw [← Int.ediv_ediv_of_nonneg (by omega : (0 : Int) ≤ 10)]
  exact Int.ediv_le_self _ (Int.ediv_nonneg h0 (by omega))
 unfold rheI
 split
 ·exact ⟨by omega, by omega⟩
 ·exact ⟨by omega, by omega⟩
set_option maxHeartbeats 1000000 in
theorem newFromFint_all (neg : Bool) (c : Int) (s m : Nat) (hc : Fi c) (hs : s ≤ 38) (hm : m ≤ 19) (w : World) (he : EnvD w) :
  Calls Tryz.prog 84 #[.bool neg, .int .u64 c, .int .i64 s, .int .i64 m] w (PDec w neg (fromFint2 c s m)) := by
 unfold fromFint2
 by_cases h : 19 < s
 ·rw [if_pos h]
  have hlt : ¬ (s : Int) < (m : Int) := by omega
  have h19 : (19 : Int) < (s : Int) := by omega
  have hw : IntKind.i64.wrap ((s : Int) - 19) = ((s - 19 : Nat) : Int) := by rw [show (s : Int) - 19 = ((s - 19 : Nat) : Int) by omega]; exact IntWalk.i64_in _ (by omega)
  have hfi := rheI_fi (k := s - 19) hc (by omega)
  obtain ⟨HC0, HD, hB0⟩ := box1 w #[.bool false, .int .i8 0, .int .u64 0] 46
  have HZ := hid hB0
  have HR := hid (fint_rsh_any c (s - 19) hc (by omega) (by omega) _ (he.kept HC0.out).env.tab)
  obtain ⟨nb, hnb⟩ : ∃ nb, (neg && rheI c (10 ^ (s - 19)) != 0) = nb := ⟨_, rfl⟩
  have HNS := hid (fun w => newSafe_flat neg nb (rheI c (10 ^ (s - 19))) 19 hfi (by omega) hnb w)
  have HNB := hid hnb
  generalize rheI c (10 ^ (s - 19)) = R at *
  obtain ⟨q0, q1⟩ := hfi
  generalize s - 19 = j at *
  have e19 : ((19 : Nat) : Int) = 19 := rfl
  rw [e19] at HNS
  clear hc hs hm he hnb hB0 HD h e19
  go_enter Tryz.func84, Tryz.ntmps84
  go_wp2_with (first | (go_at_call 101; refine HR.out.mono ?_; intro e w' h; obtain ⟨he1, he2⟩ := h; subst he1; subst he2) | (go_at_call 63; refine (HNS.out _).mono ?_; intro e w1 h; obtain ⟨he3, hc1⟩ := h; subst he3; have HK := hid hc1; clear hc1; obtain ⟨k0, k1, k2, f0, f1, f2⟩ := cell3 (kept_heap HK.out HZ.out)))
  refine bodyPost_ret (v := .tuple #[.agg #[.bool nb, .int .i8 19, .int .u64 R], .nilIface]) (dec_result rfl _ _ w.heap.size _ _ _ _ _ rfl rfl (store3 (kept_heap HK.out HZ.out) _ _ _)) rfl ⟨chg3 (HC0.out.trans HK.out sb_) (Nat.le_refl _) _ _ _, ?_⟩
  show _ = Ending.returned (.tuple #[decV (neg && R != 0) R 19, .nilIface])
  rw [HNB.out]
  rfl
 ·rw [if_neg h]
  exact newFromFint_any neg c s m hc (by omega) hm w he
theorem fromFint2_from19 {c s m : Nat} (hc : c < 10 ^ 19) (hm : m ≤ 19) {k : Int} {t : Nat} (h : fromFint2 (c : Int) s m = some (k, t)) : ∃ k' : Nat, k = k' ∧ from19 (10 ^ 19) 2 c s m = some (k', t) := by
 unfold fromFint2 at h
 by_cases h1 : 19 < s
 ·rw [if_pos h1] at h
  simp only [Option.some.injEq, Prod.mk.injEq] at h
  obtain ⟨rfl, rfl⟩ := h
  have hd : digs c ≤ 19 := digs_le.2 hc
  have e : rheI (c : Int) (10 ^ (s - 19)) = ((rhe c (10 ^ (s - 19)) : Nat) : Int) := by rw [← pow_cast, rheI_nat]
  have e1 : (10 : Nat) ^ 19 = 10000000000000000000 := by decide
  have hf := rheI_fi (c := (c : Int)) (k := s - 19) ⟨by omega, by omega⟩ (by omega)
  rw [e] at hf
  refine ⟨_, e, from19_one (by omega) (by unfold step19; rw [if_neg (by omega), if_pos ⟨by omega, h1⟩]) ?_⟩
  have h2 := hf.2
  omega
 ·rw [if_neg h1] at h
  exact fromFint_from19 hc (by omega) hm h
def PFE (w : World) (neg : Bool) (C S m : Nat) (e : Ending) (w' : World) : Prop :=
 Chg (fun _ => False) w w' ∧ ((∃ t v, e = .returned (.tuple #[decV false 0 0, .iface t v])) ∨ ∃ k t : Nat, from19 (10 ^ 19) 2 C S m = some (k, t) ∧ e = .returned (.tuple #[decV (neg && (k : Int) != 0) k t, .nilIface]))
theorem PFE.none {w w' : World} {neg n2 : Bool} {C S m : Nat} {e : Ending} (h : PDec w n2 none e w') : PFE w neg C S m e w' := ⟨h.1, .inl h.2⟩
theorem PFE.of {w w' : World} {neg : Bool} {C S m : Nat} {e : Ending} (hC : C < 10 ^ 19) (hm : m ≤ 19) (h : PDec w neg (fromFint2 (C : Int) S m) e w') : PFE w neg C S m e w' := by
 cases hf : fromFint2 (C : Int) S m with
 | none => rw [hf] at h; exact .none h
 | some kt =>
  obtain ⟨k, t⟩ := kt
  obtain ⟨k', rfl, h2⟩ := fromFint2_from19 hC hm hf
  rw [hf] at h
  exact ⟨h.1, .inr ⟨k', t, h2, h.2⟩⟩
theorem ovf_far {w W0 : World} (he : EnvD w) (hc : Chg (fun _ => False) w W0) : ∃ t v, Hid (∀ w1, Chg (fun _ => False) W0 w1 → w1.cell? ⟨0, 0, none⟩ = some (.iface t v)) := by
 obtain ⟨t, v, h⟩ := (he.kept hc).ovf
 exact ⟨t, v, hid (fun w1 hc => cell_kept h hc (fun h => h))⟩
set_option maxHeartbeats 2000000 in
theorem amf_mul (dn en fn xn : Bool) (dc ec fc : Int) (ds es fs m S : Nat) (Y : Int) (hdc : Fi dc) (hec : Fi ec) (hfc : Fi fc) (hds : ds ≤ 19) (hes : es ≤ 19) (hfs : fs ≤ 19) (hm : m ≤ 19) (hY : ec * fc = Y) (hS : es + fs = S) (hx : (!(en == fn)) = xn) (w : World) (he : EnvD w) (neg : Bool) (hYM : ¬ Y ≤ 9999999999999999999) :
  Calls Tryz.prog 62 #[.agg #[.bool dn, .int .i8 ds, .int .u64 dc], .agg #[.bool en, .int .i8 es, .int .u64 ec], .agg #[.bool fn, .int .i8 fs, .int .u64 fc], .int .i64 m] w (PDec w neg none) := by
 have hmm := hm
 clear hm
 have hm := fun w => fint_mul ec fc hec hfc.wd w
 rw [hY] at hm
 simp only [if_neg hYM, decide_eq_false hYM] at hm
 have HMU := hid hm
 clear hm
 have hwa : IntKind.i64.wrap ((es : Int) + (fs : Int)) = (S : Int) := by rw [show (es : Int) + (fs : Int) = (S : Int) by omega]; exact IntWalk.i64_in _ (by omega)
 have HSD := hid (fun w => Scale_any dn dc ds hds w)
 have HSE := hid (fun w => Scale_any en ec es hes w)
 have HSF := hid (fun w => Scale_any fn fc fs hfs w)
 have HND := hid (fun w => IsNeg_any dn dc ds w)
 have HNE := hid (fun w => IsNeg_any en ec es w)
 have HNF := hid (fun w => IsNeg_any fn fc fs w)
 obtain ⟨HB, HBX, HC0, hk⟩ := bx4 w dn ds dc en es ec fn fs fc
 have HT := hid (fun w1 h => (he.kept HC0.out).kept (w' := w1) h)
 obtain ⟨t, v, HOV⟩ := ovf_far he HC0.out
 obtain ⟨d0, d1, d2, e0, e1, e2, f0, f1, f2, r0, r1, r2, q0, q1, q2⟩ := HB.out _ hk
 have ov := HOV.out _ hk
 obtain ⟨hdc0, hdc1⟩ := hdc
 obtain ⟨hec0, hec1⟩ := hec
 obtain ⟨hfc0, hfc1⟩ := hfc
 clear he hY hS hds hes hfs
 go_enter Tryz.func62, Tryz.ntmps62
 go_wp2_with (first | (go_at_call 44; (first | refine (HSD.out _).mono ?_ | refine (HSE.out _).mono ?_ | refine (HSF.out _).mono ?_); intro e w1 h; obtain ⟨he1, hc1⟩ := h; subst he1; replace hk := hk.trans hc1 sb_; clear hc1; clear d0 d1 d2 e0 e1 e2 f0 f1 f2 r0 r1 r2 q0 q1 q2 ov; obtain ⟨d0, d1, d2, e0, e1, e2, f0, f1, f2, r0, r1, r2, q0, q1, q2⟩ := HB.out _ hk; have ov := HOV.out _ hk) | (go_at_call 42; (first | refine (HND.out _).mono ?_ | refine (HNE.out _).mono ?_ | refine (HNF.out _).mono ?_); intro e w1 h; obtain ⟨he1, hc1⟩ := h; subst he1; replace hk := hk.trans hc1 sb_; clear hc1; clear d0 d1 d2 e0 e1 e2 f0 f1 f2 r0 r1 r2 q0 q1 q2 ov; obtain ⟨d0, d1, d2, e0, e1, e2, f0, f1, f2, r0, r1, r2, q0, q1, q2⟩ := HB.out _ hk; have ov := HOV.out _ hk) | (go_at_call 80; refine (HMU.out _).mono ?_; intro e w2 h; obtain ⟨he1, he2⟩ := h; subst he1; subst he2))
 go_region
 all_goals (go_wp2_with fail; refine bodyPost_ret (v := .tuple #[.agg #[.bool false, .int .i8 0, .int .u64 0], .iface t v]) (dec_result rfl _ _ (w.heap.size + 1 + 1 + 1) _ _ _ _ 46 rfl rfl (store3 (HBX.out _ hk) _ _ _)) rfl ⟨(chg3 (HC0.out.trans hk sb_) (by omega) _ _ _).drew, t, v, rfl⟩)
set_option maxHeartbeats 2000000 in
theorem amf_gt_err (dn en fn xn : Bool) (dc ec fc : Int) (ds es fs m S : Nat) (Y : Int) (hdc : Fi dc) (hec : Fi ec) (hfc : Fi fc) (hds : ds ≤ 19) (hes : es ≤ 19) (hfs : fs ≤ 19) (hm : m ≤ 19) (hY : ec * fc = Y) (hS : es + fs = S) (hx : (!(en == fn)) = xn) (w : World) (he : EnvD w) (neg : Bool) (hYM : Y ≤ 9999999999999999999) (hlt : S < ds) (hX : ¬ Y * 10 ^ (ds - S) ≤ 9999999999999999999) :
  Calls Tryz.prog 62 #[.agg #[.bool dn, .int .i8 ds, .int .u64 dc], .agg #[.bool en, .int .i8 es, .int .u64 ec], .agg #[.bool fn, .int .i8 fs, .int .u64 fc], .int .i64 m] w (PDec w neg none) := by
 have hmm := hm
 clear hm
 have hm := fun w => fint_mul ec fc hec hfc.wd w
 rw [hY] at hm
 simp only [if_pos hYM, decide_eq_true hYM] at hm
 have hYF : Fi Y := ⟨by rw [← hY]; exact Int.mul_nonneg hec.1 hfc.1, hYM⟩
 have HMU := hid hm
 clear hm
 have hwa : IntKind.i64.wrap ((es : Int) + (fs : Int)) = (S : Int) := by rw [show (es : Int) + (fs : Int) = (S : Int) by omega]; exact IntWalk.i64_in _ (by omega)
 have c1 : (S : Int) < (ds : Int) := by omega
 have hw : IntKind.i64.wrap ((ds : Int) - (S : Int)) = ((ds - S : Nat) : Int) := by rw [show (ds : Int) - (S : Int) = ((ds - S : Nat) : Int) by omega]; exact IntWalk.i64_in _ (by omega)
 have hl := fun w ht => fint_lsh Y (ds - S) hYF (by omega) w ht
 simp only [if_neg hX, decide_eq_false hX] at hl
 have HL := hid hl
 clear hl hX
 have HSD := hid (fun w => Scale_any dn dc ds hds w)
 have HSE := hid (fun w => Scale_any en ec es hes w)
 have HSF := hid (fun w => Scale_any fn fc fs hfs w)
 have HND := hid (fun w => IsNeg_any dn dc ds w)
 have HNE := hid (fun w => IsNeg_any en ec es w)
 have HNF := hid (fun w => IsNeg_any fn fc fs w)
 obtain ⟨HB, HBX, HC0, hk⟩ := bx4 w dn ds dc en es ec fn fs fc
 have HT := hid (fun w1 h => (he.kept HC0.out).kept (w' := w1) h)
 obtain ⟨t, v, HOV⟩ := ovf_far he HC0.out
 obtain ⟨d0, d1, d2, e0, e1, e2, f0, f1, f2, r0, r1, r2, q0, q1, q2⟩ := HB.out _ hk
 have ov := HOV.out _ hk
 obtain ⟨hdc0, hdc1⟩ := hdc
 obtain ⟨hec0, hec1⟩ := hec
 obtain ⟨hfc0, hfc1⟩ := hfc
 obtain ⟨hY0, hY1⟩ := hYF
 clear he hY hS hds hes hfs
 generalize ds - S = j at *
 go_enter Tryz.func62, Tryz.ntmps62
 go_wp2_with (first | (go_at_call 44; (first | refine (HSD.out _).mono ?_ | refine (HSE.out _).mono ?_ | refine (HSF.out _).mono ?_); intro e w1 h; obtain ⟨he1, hc1⟩ := h; subst he1; replace hk := hk.trans hc1 sb_; clear hc1; clear d0 d1 d2 e0 e1 e2 f0 f1 f2 r0 r1 r2 q0 q1 q2 ov; obtain ⟨d0, d1, d2, e0, e1, e2, f0, f1, f2, r0, r1, r2, q0, q1, q2⟩ := HB.out _ hk; have ov := HOV.out _ hk) | (go_at_call 42; (first | refine (HND.out _).mono ?_ | refine (HNE.out _).mono ?_ | refine (HNF.out _).mono ?_); intro e w1 h; obtain ⟨he1, hc1⟩ := h; subst he1; replace hk := hk.trans hc1 sb_; clear hc1; clear d0 d1 d2 e0 e1 e2 f0 f1 f2 r0 r1 r2 q0 q1 q2 ov; obtain ⟨d0, d1, d2, e0, e1, e2, f0, f1, f2, r0, r1, r2, q0, q1, q2⟩ := HB.out _ hk; have ov := HOV.out _ hk) | (go_at_call 80; refine (HMU.out _).mono ?_; intro e w2 h; obtain ⟨he1, he2⟩ := h; subst he1; subst he2) | (go_at_call 81; refine (HL.out _ (HT.out _ hk).env.tab).mono ?_; intro e w2 h; obtain ⟨he1, he2⟩ := h; subst he1; subst he2))
 go_region
 all_goals (go_wp2_with fail; refine bodyPost_ret (v := .tuple #[.agg #[.bool false, .int .i8 0, .int .u64 0], .iface t v]) (dec_result rfl _ _ (w.heap.size + 1 + 1 + 1) _ _ _ _ 46 rfl rfl (store3 (HBX.out _ hk) _ _ _)) rfl ⟨(chg3 (HC0.out.trans hk sb_) (by omega) _ _ _).drew, t, v, rfl⟩)
set_option maxHeartbeats 2000000 in
theorem amf_gt_same (dn en fn xn : Bool) (dc ec fc : Int) (ds es fs m S : Nat) (Y : Int) (hdc : Fi dc) (hec : Fi ec) (hfc : Fi fc) (hds : ds ≤ 19) (hes : es ≤ 19) (hfs : fs ≤ 19) (hm : m ≤ 19) (hY : ec * fc = Y) (hS : es + fs = S) (hx : (!(en == fn)) = xn) (w : World) (he : EnvD w) (hYM : Y ≤ 9999999999999999999) (hlt : S < ds) (X : Int) (hX : Y * 10 ^ (ds - S) = X) (hXM : X ≤ 9999999999999999999) (hs : (dn == xn) = true) (C : Int) (hC : dc + X = C) (hCM : C ≤ 9999999999999999999) :
  Calls Tryz.prog 62 #[.agg #[.bool dn, .int .i8 ds, .int .u64 dc], .agg #[.bool en, .int .i8 es, .int .u64 ec], .agg #[.bool fn, .int .i8 fs, .int .u64 fc], .int .i64 m] w (PDec w dn (fromFint2 C ds m)) := by
 have hmm := hm
 clear hm
 have hm := fun w => fint_mul ec fc hec hfc.wd w
 rw [hY] at hm
 simp only [if_pos hYM, decide_eq_true hYM] at hm
 have hYF : Fi Y := ⟨by rw [← hY]; exact Int.mul_nonneg hec.1 hfc.1, hYM⟩
 have HMU := hid hm
 clear hm
 have hwa : IntKind.i64.wrap ((es : Int) + (fs : Int)) = (S : Int) := by rw [show (es : Int) + (fs : Int) = (S : Int) by omega]; exact IntWalk.i64_in _ (by omega)
 have c1 : (S : Int) < (ds : Int) := by omega
 have hw : IntKind.i64.wrap ((ds : Int) - (S : Int)) = ((ds - S : Nat) : Int) := by rw [show (ds : Int) - (S : Int) = ((ds - S : Nat) : Int) by omega]; exact IntWalk.i64_in _ (by omega)
 have hl := fun w ht => fint_lsh Y (ds - S) hYF (by omega) w ht
 have hX0 := Int.mul_nonneg hYF.1 (Int.le_of_lt (p10_pos (ds - S)))
 rw [hX] at hX0
 simp only [hX, if_pos hXM, decide_eq_true hXM] at hl
 have hXF : Fi X := ⟨hX0, hXM⟩
 have HL := hid hl
 clear hl hX
 have ha := fun w => fint_add dc X hdc hXF w
 simp only [hC, if_pos hCM, decide_eq_true hCM] at ha
 have hCF : Fi C := ⟨by rw [← hC]; exact Int.add_nonneg hdc.1 hXF.1, hCM⟩
 clear hC
 have HA := hid ha
 clear ha
 have hff := fun w he => newFromFint_all dn C ds m hCF (by omega) hmm w he
 generalize fromFint2 C ds m = o at *
 have HF := hid hff
 obtain ⟨hC0, hC1⟩ := hCF
 clear hff
 obtain ⟨hX0, hX1⟩ := hXF
 have HSD := hid (fun w => Scale_any dn dc ds hds w)
 have HSE := hid (fun w => Scale_any en ec es hes w)
 have HSF := hid (fun w => Scale_any fn fc fs hfs w)
 have HND := hid (fun w => IsNeg_any dn dc ds w)
 have HNE := hid (fun w => IsNeg_any en ec es w)
 have HNF := hid (fun w => IsNeg_any fn fc fs w)
 obtain ⟨HB, HBX, HC0, hk⟩ := bx4 w dn ds dc en es ec fn fs fc
 have HT := hid (fun w1 h => (he.kept HC0.out).kept (w' := w1) h)
 obtain ⟨t, v, HOV⟩ := ovf_far he HC0.out
 obtain ⟨d0, d1, d2, e0, e1, e2, f0, f1, f2, r0, r1, r2, q0, q1, q2⟩ := HB.out _ hk
 have ov := HOV.out _ hk
 obtain ⟨hdc0, hdc1⟩ := hdc
 obtain ⟨hec0, hec1⟩ := hec
 obtain ⟨hfc0, hfc1⟩ := hfc
 obtain ⟨hY0, hY1⟩ := hYF
 clear he hY hS hds hes hfs
 generalize ds - S = j at *
 go_enter Tryz.func62, Tryz.ntmps62
 go_wp2_with (first | (go_at_call 44; (first | refine (HSD.out _).mono ?_ | refine (HSE.out _).mono ?_ | refine (HSF.out _).mono ?_); intro e w1 h; obtain ⟨he1, hc1⟩ := h; subst he1; replace hk := hk.trans hc1 sb_; clear hc1; clear d0 d1 d2 e0 e1 e2 f0 f1 f2 r0 r1 r2 q0 q1 q2 ov; obtain ⟨d0, d1, d2, e0, e1, e2, f0, f1, f2, r0, r1, r2, q0, q1, q2⟩ := HB.out _ hk; have ov := HOV.out _ hk) | (go_at_call 42; (first | refine (HND.out _).mono ?_ | refine (HNE.out _).mono ?_ | refine (HNF.out _).mono ?_); intro e w1 h; obtain ⟨he1, hc1⟩ := h; subst he1; replace hk := hk.trans hc1 sb_; clear hc1; clear d0 d1 d2 e0 e1 e2 f0 f1 f2 r0 r1 r2 q0 q1 q2 ov; obtain ⟨d0, d1, d2, e0, e1, e2, f0, f1, f2, r0, r1, r2, q0, q1, q2⟩ := HB.out _ hk; have ov := HOV.out _ hk) | (go_at_call 80; refine (HMU.out _).mono ?_; intro e w2 h; obtain ⟨he1, he2⟩ := h; subst he1; subst he2) | (go_at_call 81; refine (HL.out _ (HT.out _ hk).env.tab).mono ?_; intro e w2 h; obtain ⟨he1, he2⟩ := h; subst he1; subst he2) | (go_at_call 82; refine (HA.out _).mono ?_; intro e w2 h; obtain ⟨he1, he2⟩ := h; subst he1; subst he2) | (go_at_call 84; refine (HF.out _ (HT.out _ hk)).mono ?_; intro e w1 h; obtain ⟨na, nb, nc, nv, he1, hc1, hp⟩ := h.op; subst he1; replace hk := hk.trans hc1 sb_; clear h hc1; clear d0 d1 d2 e0 e1 e2 f0 f1 f2 r0 r1 r2 q0 q1 q2 ov; obtain ⟨d0, d1, d2, e0, e1, e2, f0, f1, f2, r0, r1, r2, q0, q1, q2⟩ := HB.out _ hk; have ov := HOV.out _ hk; have HP := hid hp; clear hp))
 refine bodyPost_ret (v := .tuple #[.agg #[.bool na, .int .i8 nb, .int .u64 nc], nv]) (dec_result rfl _ _ (w.heap.size + 1 + 1 + 1) _ _ _ _ 46 rfl rfl (store3 (HBX.out _ hk) _ _ _)) rfl (HP.out.move (chg3 (HC0.out.trans hk sb_) (by omega) _ _ _))
set_option maxHeartbeats 2000000 in
theorem amf_gt_ovf (dn en fn xn : Bool) (dc ec fc : Int) (ds es fs m S : Nat) (Y : Int) (hdc : Fi dc) (hec : Fi ec) (hfc : Fi fc) (hds : ds ≤ 19) (hes : es ≤ 19) (hfs : fs ≤ 19) (hm : m ≤ 19) (hY : ec * fc = Y) (hS : es + fs = S) (hx : (!(en == fn)) = xn) (w : World) (he : EnvD w) (neg : Bool) (hYM : Y ≤ 9999999999999999999) (hlt : S < ds) (X : Int) (hX : Y * 10 ^ (ds - S) = X) (hXM : X ≤ 9999999999999999999) (hs : (dn == xn) = true) (hC : ¬ dc + X ≤ 9999999999999999999) :
  Calls Tryz.prog 62 #[.agg #[.bool dn, .int .i8 ds, .int .u64 dc], .agg #[.bool en, .int .i8 es, .int .u64 ec], .agg #[.bool fn, .int .i8 fs, .int .u64 fc], .int .i64 m] w (PDec w neg none) := by
 have hmm := hm
 clear hm
 have hm := fun w => fint_mul ec fc hec hfc.wd w
 rw [hY] at hm
 simp only [if_pos hYM, decide_eq_true hYM] at hm
 have hYF : Fi Y := ⟨by rw [← hY]; exact Int.mul_nonneg hec.1 hfc.1, hYM⟩
 have HMU := hid hm
 clear hm
 have hwa : IntKind.i64.wrap ((es : Int) + (fs : Int)) = (S : Int) := by rw [show (es : Int) + (fs : Int) = (S : Int) by omega]; exact IntWalk.i64_in _ (by omega)
 have c1 : (S : Int) < (ds : Int) := by omega
 have hw : IntKind.i64.wrap ((ds : Int) - (S : Int)) = ((ds - S : Nat) : Int) := by rw [show (ds : Int) - (S : Int) = ((ds - S : Nat) : Int) by omega]; exact IntWalk.i64_in _ (by omega)
 have hl := fun w ht => fint_lsh Y (ds - S) hYF (by omega) w ht
 have hX0 := Int.mul_nonneg hYF.1 (Int.le_of_lt (p10_pos (ds - S)))
 rw [hX] at hX0
 simp only [hX, if_pos hXM, decide_eq_true hXM] at hl
 have hXF : Fi X := ⟨hX0, hXM⟩
 have HL := hid hl
 clear hl hX
 have ha := fun w => fint_add dc X hdc hXF w
 simp only [if_neg hC, decide_eq_false hC] at ha
 clear hC
 have HA := hid ha
 clear ha
 obtain ⟨hX0, hX1⟩ := hXF
 have HSD := hid (fun w => Scale_any dn dc ds hds w)
 have HSE := hid (fun w => Scale_any en ec es hes w)
 have HSF := hid (fun w => Scale_any fn fc fs hfs w)
 have HND := hid (fun w => IsNeg_any dn dc ds w)
 have HNE := hid (fun w => IsNeg_any en ec es w)
 have HNF := hid (fun w => IsNeg_any fn fc fs w)
 obtain ⟨HB, HBX, HC0, hk⟩ := bx4 w dn ds dc en es ec fn fs fc
 have HT := hid (fun w1 h => (he.kept HC0.out).kept (w' := w1) h)
 obtain ⟨t, v, HOV⟩ := ovf_far he HC0.out
 obtain ⟨d0, d1, d2, e0, e1, e2, f0, f1, f2, r0, r1, r2, q0, q1, q2⟩ := HB.out _ hk
 have ov := HOV.out _ hk
 obtain ⟨hdc0, hdc1⟩ := hdc
 obtain ⟨hec0, hec1⟩ := hec
 obtain ⟨hfc0, hfc1⟩ := hfc
 obtain ⟨hY0, hY1⟩ := hYF
 clear he hY hS hds hes hfs
 generalize ds - S = j at *
 go_enter Tryz.func62, Tryz.ntmps62
 go_wp2_with (first | (go_at_call 44; (first | refine (HSD.out _).mono ?_ | refine (HSE.out _).mono ?_ | refine (HSF.out _).mono ?_); intro e w1 h; obtain ⟨he1, hc1⟩ := h; subst he1; replace hk := hk.trans hc1 sb_; clear hc1; clear d0 d1 d2 e0 e1 e2 f0 f1 f2 r0 r1 r2 q0 q1 q2 ov; obtain ⟨d0, d1, d2, e0, e1, e2, f0, f1, f2, r0, r1, r2, q0, q1, q2⟩ := HB.out _ hk; have ov := HOV.out _ hk) | (go_at_call 42; (first | refine (HND.out _).mono ?_ | refine (HNE.out _).mono ?_ | refine (HNF.out _).mono ?_); intro e w1 h; obtain ⟨he1, hc1⟩ := h; subst he1; replace hk := hk.trans hc1 sb_; clear hc1; clear d0 d1 d2 e0 e1 e2 f0 f1 f2 r0 r1 r2 q0 q1 q2 ov; obtain ⟨d0, d1, d2, e0, e1, e2, f0, f1, f2, r0, r1, r2, q0, q1, q2⟩ := HB.out _ hk; have ov := HOV.out _ hk) | (go_at_call 80; refine (HMU.out _).mono ?_; intro e w2 h; obtain ⟨he1, he2⟩ := h; subst he1; subst he2) | (go_at_call 81; refine (HL.out _ (HT.out _ hk).env.tab).mono ?_; intro e w2 h; obtain ⟨he1, he2⟩ := h; subst he1; subst he2) | (go_at_call 82; refine (HA.out _).mono ?_; intro e w2 h; obtain ⟨he1, he2⟩ := h; subst he1; subst he2))
 go_region
 all_goals (go_wp2_with fail; refine bodyPost_ret (v := .tuple #[.agg #[.bool false, .int .i8 0, .int .u64 0], .iface t v]) (dec_result rfl _ _ (w.heap.size + 1 + 1 + 1) _ _ _ _ 46 rfl rfl (store3 (HBX.out _ hk) _ _ _)) rfl ⟨(chg3 (HC0.out.trans hk sb_) (by omega) _ _ _).drew, t, v, rfl⟩)
set_option maxHeartbeats 2000000 in
theorem amf_gt_dgt (dn en fn xn : Bool) (dc ec fc : Int) (ds es fs m S : Nat) (Y : Int) (hdc : Fi dc) (hec : Fi ec) (hfc : Fi fc) (hds : ds ≤ 19) (hes : es ≤ 19) (hfs : fs ≤ 19) (hm : m ≤ 19) (hY : ec * fc = Y) (hS : es + fs = S) (hx : (!(en == fn)) = xn) (w : World) (he : EnvD w) (hYM : Y ≤ 9999999999999999999) (hlt : S < ds) (X : Int) (hX : Y * 10 ^ (ds - S) = X) (hXM : X ≤ 9999999999999999999) (hs : (dn == xn) = false) (hg : dc < X) (C : Int) (hC : X - dc = C) :
  Calls Tryz.prog 62 #[.agg #[.bool dn, .int .i8 ds, .int .u64 dc], .agg #[.bool en, .int .i8 es, .int .u64 ec], .agg #[.bool fn, .int .i8 fs, .int .u64 fc], .int .i64 m] w (PDec w xn (fromFint2 C ds m)) := by
 have hmm := hm
 clear hm
 have hm := fun w => fint_mul ec fc hec hfc.wd w
 rw [hY] at hm
 simp only [if_pos hYM, decide_eq_true hYM] at hm
 have hYF : Fi Y := ⟨by rw [← hY]; exact Int.mul_nonneg hec.1 hfc.1, hYM⟩
 have HMU := hid hm
 clear hm
 have hwa : IntKind.i64.wrap ((es : Int) + (fs : Int)) = (S : Int) := by rw [show (es : Int) + (fs : Int) = (S : Int) by omega]; exact IntWalk.i64_in _ (by omega)
 have c1 : (S : Int) < (ds : Int) := by omega
 have hw : IntKind.i64.wrap ((ds : Int) - (S : Int)) = ((ds - S : Nat) : Int) := by rw [show (ds : Int) - (S : Int) = ((ds - S : Nat) : Int) by omega]; exact IntWalk.i64_in _ (by omega)
 have hl := fun w ht => fint_lsh Y (ds - S) hYF (by omega) w ht
 have hX0 := Int.mul_nonneg hYF.1 (Int.le_of_lt (p10_pos (ds - S)))
 rw [hX] at hX0
 simp only [hX, if_pos hXM, decide_eq_true hXM] at hl
 have hXF : Fi X := ⟨hX0, hXM⟩
 have HL := hid hl
 clear hl hX
 have ha := fun w => fint_subAbs dc X hdc hXF w
 have hCF : Fi C := by obtain ⟨u0, u1⟩ := hdc; obtain ⟨u2, u3⟩ := hXF; exact ⟨by omega, by omega⟩
 have hcm : (if X ≤ dc then dc - X else X - dc) = C := by rw [if_neg (by omega)]; exact hC
 rw [hcm] at ha
 clear hcm
 clear hC
 have HA := hid ha
 clear ha
 have hff := fun w he => newFromFint_all xn C ds m hCF (by omega) hmm w he
 generalize fromFint2 C ds m = o at *
 have HF := hid hff
 obtain ⟨hC0, hC1⟩ := hCF
 clear hff
 obtain ⟨hX0, hX1⟩ := hXF
 have HSD := hid (fun w => Scale_any dn dc ds hds w)
 have HSE := hid (fun w => Scale_any en ec es hes w)
 have HSF := hid (fun w => Scale_any fn fc fs hfs w)
 have HND := hid (fun w => IsNeg_any dn dc ds w)
 have HNE := hid (fun w => IsNeg_any en ec es w)
 have HNF := hid (fun w => IsNeg_any fn fc fs w)
 obtain ⟨HB, HBX, HC0, hk⟩ := bx4 w dn ds dc en es ec fn fs fc
 have HT := hid (fun w1 h => (he.kept HC0.out).kept (w' := w1) h)
 obtain ⟨t, v, HOV⟩ := ovf_far he HC0.out
 obtain ⟨d0, d1, d2, e0, e1, e2, f0, f1, f2, r0, r1, r2, q0, q1, q2⟩ := HB.out _ hk
 have ov := HOV.out _ hk
 obtain ⟨hdc0, hdc1⟩ := hdc
 obtain ⟨hec0, hec1⟩ := hec
 obtain ⟨hfc0, hfc1⟩ := hfc
 obtain ⟨hY0, hY1⟩ := hYF
 clear he hY hS hds hes hfs
 generalize ds - S = j at *
 go_enter Tryz.func62, Tryz.ntmps62
 go_wp2_with (first | (go_at_call 44; (first | refine (HSD.out _).mono ?_ | refine (HSE.out _).mono ?_ | refine (HSF.out _).mono ?_); intro e w1 h; obtain ⟨he1, hc1⟩ := h; subst he1; replace hk := hk.trans hc1 sb_; clear hc1; clear d0 d1 d2 e0 e1 e2 f0 f1 f2 r0 r1 r2 q0 q1 q2 ov; obtain ⟨d0, d1, d2, e0, e1, e2, f0, f1, f2, r0, r1, r2, q0, q1, q2⟩ := HB.out _ hk; have ov := HOV.out _ hk) | (go_at_call 42; (first | refine (HND.out _).mono ?_ | refine (HNE.out _).mono ?_ | refine (HNF.out _).mono ?_); intro e w1 h; obtain ⟨he1, hc1⟩ := h; subst he1; replace hk := hk.trans hc1 sb_; clear hc1; clear d0 d1 d2 e0 e1 e2 f0 f1 f2 r0 r1 r2 q0 q1 q2 ov; obtain ⟨d0, d1, d2, e0, e1, e2, f0, f1, f2, r0, r1, r2, q0, q1, q2⟩ := HB.out _ hk; have ov := HOV.out _ hk) | (go_at_call 80; refine (HMU.out _).mono ?_; intro e w2 h; obtain ⟨he1, he2⟩ := h; subst he1; subst he2) | (go_at_call 81; refine (HL.out _ (HT.out _ hk).env.tab).mono ?_; intro e w2 h; obtain ⟨he1, he2⟩ := h; subst he1; subst he2) | (go_at_call 83; refine (HA.out _).mono ?_; intro e w2 h; obtain ⟨he1, he2⟩ := h; subst he1; subst he2) | (go_at_call 84; refine (HF.out _ (HT.out _ hk)).mono ?_; intro e w1 h; obtain ⟨na, nb, nc, nv, he1, hc1, hp⟩ := h.op; subst he1; replace hk := hk.trans hc1 sb_; clear h hc1; clear d0 d1 d2 e0 e1 e2 f0 f1 f2 r0 r1 r2 q0 q1 q2 ov; obtain ⟨d0, d1, d2, e0, e1, e2, f0, f1, f2, r0, r1, r2, q0, q1, q2⟩ := HB.out _ hk; have ov := HOV.out _ hk; have HP := hid hp; clear hp))
 refine bodyPost_ret (v := .tuple #[.agg #[.bool na, .int .i8 nb, .int .u64 nc], nv]) (dec_result rfl _ _ (w.heap.size + 1 + 1 + 1) _ _ _ _ 46 rfl rfl (store3 (HBX.out _ hk) _ _ _)) rfl (HP.out.move (chg3 (HC0.out.trans hk sb_) (by omega) _ _ _))
set_option maxHeartbeats 2000000 in
theorem amf_gt_dle (dn en fn xn : Bool) (dc ec fc : Int) (ds es fs m S : Nat) (Y : Int) (hdc : Fi dc) (hec : Fi ec) (hfc : Fi fc) (hds : ds ≤ 19) (hes : es ≤ 19) (hfs : fs ≤ 19) (hm : m ≤ 19) (hY : ec * fc = Y) (hS : es + fs = S) (hx : (!(en == fn)) = xn) (w : World) (he : EnvD w) (hYM : Y ≤ 9999999999999999999) (hlt : S < ds) (X : Int) (hX : Y * 10 ^ (ds - S) = X) (hXM : X ≤ 9999999999999999999) (hs : (dn == xn) = false) (hg : ¬ dc < X) (C : Int) (hC : dc - X = C) :
  Calls Tryz.prog 62 #[.agg #[.bool dn, .int .i8 ds, .int .u64 dc], .agg #[.bool en, .int .i8 es, .int .u64 ec], .agg #[.bool fn, .int .i8 fs, .int .u64 fc], .int .i64 m] w (PDec w dn (fromFint2 C ds m)) := by
 have hmm := hm
 clear hm
 have hm := fun w => fint_mul ec fc hec hfc.wd w
 rw [hY] at hm
 simp only [if_pos hYM, decide_eq_true hYM] at hm
 have hYF : Fi Y := ⟨by rw [← hY]; exact Int.mul_nonneg hec.1 hfc.1, hYM⟩
 have HMU := hid hm
 clear hm
 have hwa : IntKind.i64.wrap ((es : Int) + (fs : Int)) = (S : Int) := by rw [show (es : Int) + (fs : Int) = (S : Int) by omega]; exact IntWalk.i64_in _ (by omega)
 have c1 : (S : Int) < (ds : Int) := by omega
 have hw : IntKind.i64.wrap ((ds : Int) - (S : Int)) = ((ds - S : Nat) : Int) := by rw [show (ds : Int) - (S : Int) = ((ds - S : Nat) : Int) by omega]; exact IntWalk.i64_in _ (by omega)
 have hl := fun w ht => fint_lsh Y (ds - S) hYF (by omega) w ht
 have hX0 := Int.mul_nonneg hYF.1 (Int.le_of_lt (p10_pos (ds - S)))
 rw [hX] at hX0
 simp only [hX, if_pos hXM, decide_eq_true hXM] at hl
 have hXF : Fi X := ⟨hX0, hXM⟩
 have HL := hid hl
 clear hl hX
 have ha := fun w => fint_subAbs dc X hdc hXF w
 have hCF : Fi C := by obtain ⟨u0, u1⟩ := hdc; obtain ⟨u2, u3⟩ := hXF; exact ⟨by omega, by omega⟩
 have hcm : (if X ≤ dc then dc - X else X - dc) = C := by rw [if_pos (by omega)]; exact hC
 rw [hcm] at ha
 clear hcm
 clear hC
 have HA := hid ha
 clear ha
 have hff := fun w he => newFromFint_all dn C ds m hCF (by omega) hmm w he
 generalize fromFint2 C ds m = o at *
 have HF := hid hff
 obtain ⟨hC0, hC1⟩ := hCF
 clear hff
 obtain ⟨hX0, hX1⟩ := hXF
 have HSD := hid (fun w => Scale_any dn dc ds hds w)
 have HSE := hid (fun w => Scale_any en ec es hes w)
 have HSF := hid (fun w => Scale_any fn fc fs hfs w)
 have HND := hid (fun w => IsNeg_any dn dc ds w)
 have HNE := hid (fun w => IsNeg_any en ec es w)
 have HNF := hid (fun w => IsNeg_any fn fc fs w)
 obtain ⟨HB, HBX, HC0, hk⟩ := bx4 w dn ds dc en es ec fn fs fc
 have HT := hid (fun w1 h => (he.kept HC0.out).kept (w' := w1) h)
 obtain ⟨t, v, HOV⟩ := ovf_far he HC0.out
 obtain ⟨d0, d1, d2, e0, e1, e2, f0, f1, f2, r0, r1, r2, q0, q1, q2⟩ := HB.out _ hk
 have ov := HOV.out _ hk
 obtain ⟨hdc0, hdc1⟩ := hdc
 obtain ⟨hec0, hec1⟩ := hec
 obtain ⟨hfc0, hfc1⟩ := hfc
 obtain ⟨hY0, hY1⟩ := hYF
 clear he hY hS hds hes hfs
 generalize ds - S = j at *
 go_enter Tryz.func62, Tryz.ntmps62
 go_wp2_with (first | (go_at_call 44; (first | refine (HSD.out _).mono ?_ | refine (HSE.out _).mono ?_ | refine (HSF.out _).mono ?_); intro e w1 h; obtain ⟨he1, hc1⟩ := h; subst he1; replace hk := hk.trans hc1 sb_; clear hc1; clear d0 d1 d2 e0 e1 e2 f0 f1 f2 r0 r1 r2 q0 q1 q2 ov; obtain ⟨d0, d1, d2, e0, e1, e2, f0, f1, f2, r0, r1, r2, q0, q1, q2⟩ := HB.out _ hk; have ov := HOV.out _ hk) | (go_at_call 42; (first | refine (HND.out _).mono ?_ | refine (HNE.out _).mono ?_ | refine (HNF.out _).mono ?_); intro e w1 h; obtain ⟨he1, hc1⟩ := h; subst he1; replace hk := hk.trans hc1 sb_; clear hc1; clear d0 d1 d2 e0 e1 e2 f0 f1 f2 r0 r1 r2 q0 q1 q2 ov; obtain ⟨d0, d1, d2, e0, e1, e2, f0, f1, f2, r0, r1, r2, q0, q1, q2⟩ := HB.out _ hk; have ov := HOV.out _ hk) | (go_at_call 80; refine (HMU.out _).mono ?_; intro e w2 h; obtain ⟨he1, he2⟩ := h; subst he1; subst he2) | (go_at_call 81; refine (HL.out _ (HT.out _ hk).env.tab).mono ?_; intro e w2 h; obtain ⟨he1, he2⟩ := h; subst he1; subst he2) | (go_at_call 83; refine (HA.out _).mono ?_; intro e w2 h; obtain ⟨he1, he2⟩ := h; subst he1; subst he2) | (go_at_call 84; refine (HF.out _ (HT.out _ hk)).mono ?_; intro e w1 h; obtain ⟨na, nb, nc, nv, he1, hc1, hp⟩ := h.op; subst he1; replace hk := hk.trans hc1 sb_; clear h hc1; clear d0 d1 d2 e0 e1 e2 f0 f1 f2 r0 r1 r2 q0 q1 q2 ov; obtain ⟨d0, d1, d2, e0, e1, e2, f0, f1, f2, r0, r1, r2, q0, q1, q2⟩ := HB.out _ hk; have ov := HOV.out _ hk; have HP := hid hp; clear hp))
 refine bodyPost_ret (v := .tuple #[.agg #[.bool na, .int .i8 nb, .int .u64 nc], nv]) (dec_result rfl _ _ (w.heap.size + 1 + 1 + 1) _ _ _ _ 46 rfl rfl (store3 (HBX.out _ hk) _ _ _)) rfl (HP.out.move (chg3 (HC0.out.trans hk sb_) (by omega) _ _ _))
set_option maxHeartbeats 2000000 in
theorem amf_lt_err (dn en fn xn : Bool) (dc ec fc : Int) (ds es fs m S : Nat) (Y : Int) (hdc : Fi dc) (hec : Fi ec) (hfc : Fi fc) (hds : ds ≤ 19) (hes : es ≤ 19) (hfs : fs ≤ 19) (hm : m ≤ 19) (hY : ec * fc = Y) (hS : es + fs = S) (hx : (!(en == fn)) = xn) (w : World) (he : EnvD w) (neg : Bool) (hYM : Y ≤ 9999999999999999999) (hlt : ds < S) (hn : S - ds ≤ 19) (hX : ¬ dc * 10 ^ (S - ds) ≤ 9999999999999999999) :
  Calls Tryz.prog 62 #[.agg #[.bool dn, .int .i8 ds, .int .u64 dc], .agg #[.bool en, .int .i8 es, .int .u64 ec], .agg #[.bool fn, .int .i8 fs, .int .u64 fc], .int .i64 m] w (PDec w neg none) := by
 have hmm := hm
 clear hm
 have hm := fun w => fint_mul ec fc hec hfc.wd w
 rw [hY] at hm
 simp only [if_pos hYM, decide_eq_true hYM] at hm
 have hYF : Fi Y := ⟨by rw [← hY]; exact Int.mul_nonneg hec.1 hfc.1, hYM⟩
 have HMU := hid hm
 clear hm
 have hwa : IntKind.i64.wrap ((es : Int) + (fs : Int)) = (S : Int) := by rw [show (es : Int) + (fs : Int) = (S : Int) by omega]; exact IntWalk.i64_in _ (by omega)
 have c1 : ¬ (S : Int) < (ds : Int) := by omega
 have c2 : (ds : Int) < (S : Int) := by omega
 have hw : IntKind.i64.wrap ((S : Int) - (ds : Int)) = ((S - ds : Nat) : Int) := by rw [show (S : Int) - (ds : Int) = ((S - ds : Nat) : Int) by omega]; exact IntWalk.i64_in _ (by omega)
 have hl := fun w ht => fint_lsh dc (S - ds) hdc (by omega) w ht
 simp only [if_neg hX, decide_eq_false hX] at hl
 have HL := hid hl
 clear hl hX
 have HSD := hid (fun w => Scale_any dn dc ds hds w)
 have HSE := hid (fun w => Scale_any en ec es hes w)
 have HSF := hid (fun w => Scale_any fn fc fs hfs w)
 have HND := hid (fun w => IsNeg_any dn dc ds w)
 have HNE := hid (fun w => IsNeg_any en ec es w)
 have HNF := hid (fun w => IsNeg_any fn fc fs w)
 obtain ⟨HB, HBX, HC0, hk⟩ := bx4 w dn ds dc en es ec fn fs fc
 have HT := hid (fun w1 h => (he.kept HC0.out).kept (w' := w1) h)
 obtain ⟨t, v, HOV⟩ := ovf_far he HC0.out
 obtain ⟨d0, d1, d2, e0, e1, e2, f0, f1, f2, r0, r1, r2, q0, q1, q2⟩ := HB.out _ hk
 have ov := HOV.out _ hk
 obtain ⟨hdc0, hdc1⟩ := hdc
 obtain ⟨hec0, hec1⟩ := hec
 obtain ⟨hfc0, hfc1⟩ := hfc
 obtain ⟨hY0, hY1⟩ := hYF
 clear he hY hS hds hes hfs
 generalize S - ds = j at *
 go_enter Tryz.func62, Tryz.ntmps62
 go_wp2_with (first | (go_at_call 44; (first | refine (HSD.out _).mono ?_ | refine (HSE.out _).mono ?_ | refine (HSF.out _).mono ?_); intro e w1 h; obtain ⟨he1, hc1⟩ := h; subst he1; replace hk := hk.trans hc1 sb_; clear hc1; clear d0 d1 d2 e0 e1 e2 f0 f1 f2 r0 r1 r2 q0 q1 q2 ov; obtain ⟨d0, d1, d2, e0, e1, e2, f0, f1, f2, r0, r1, r2, q0, q1, q2⟩ := HB.out _ hk; have ov := HOV.out _ hk) | (go_at_call 42; (first | refine (HND.out _).mono ?_ | refine (HNE.out _).mono ?_ | refine (HNF.out _).mono ?_); intro e w1 h; obtain ⟨he1, hc1⟩ := h; subst he1; replace hk := hk.trans hc1 sb_; clear hc1; clear d0 d1 d2 e0 e1 e2 f0 f1 f2 r0 r1 r2 q0 q1 q2 ov; obtain ⟨d0, d1, d2, e0, e1, e2, f0, f1, f2, r0, r1, r2, q0, q1, q2⟩ := HB.out _ hk; have ov := HOV.out _ hk) | (go_at_call 80; refine (HMU.out _).mono ?_; intro e w2 h; obtain ⟨he1, he2⟩ := h; subst he1; subst he2) | (go_at_call 81; refine (HL.out _ (HT.out _ hk).env.tab).mono ?_; intro e w2 h; obtain ⟨he1, he2⟩ := h; subst he1; subst he2))
 go_region
 all_goals (go_wp2_with fail; refine bodyPost_ret (v := .tuple #[.agg #[.bool false, .int .i8 0, .int .u64 0], .iface t v]) (dec_result rfl _ _ (w.heap.size + 1 + 1 + 1) _ _ _ _ 46 rfl rfl (store3 (HBX.out _ hk) _ _ _)) rfl ⟨(chg3 (HC0.out.trans hk sb_) (by omega) _ _ _).drew, t, v, rfl⟩)
set_option maxHeartbeats 2000000 in
theorem amf_lt_far (dn en fn xn : Bool) (dc ec fc : Int) (ds es fs m S : Nat) (Y : Int) (hdc : Fi dc) (hec : Fi ec) (hfc : Fi fc) (hds : ds ≤ 19) (hes : es ≤ 19) (hfs : fs ≤ 19) (hm : m ≤ 19) (hY : ec * fc = Y) (hS : es + fs = S) (hx : (!(en == fn)) = xn) (w : World) (he : EnvD w) (neg : Bool) (hYM : Y ≤ 9999999999999999999) (hlt : ds < S) (hfar : 20 ≤ S - ds) :
  Calls Tryz.prog 62 #[.agg #[.bool dn, .int .i8 ds, .int .u64 dc], .agg #[.bool en, .int .i8 es, .int .u64 ec], .agg #[.bool fn, .int .i8 fs, .int .u64 fc], .int .i64 m] w (PDec w neg none) := by
 have hmm := hm
 clear hm
 have hm := fun w => fint_mul ec fc hec hfc.wd w
 rw [hY] at hm
 simp only [if_pos hYM, decide_eq_true hYM] at hm
 have hYF : Fi Y := ⟨by rw [← hY]; exact Int.mul_nonneg hec.1 hfc.1, hYM⟩
 have HMU := hid hm
 clear hm
 have hwa : IntKind.i64.wrap ((es : Int) + (fs : Int)) = (S : Int) := by rw [show (es : Int) + (fs : Int) = (S : Int) by omega]; exact IntWalk.i64_in _ (by omega)
 have c1 : ¬ (S : Int) < (ds : Int) := by omega
 have c2 : (ds : Int) < (S : Int) := by omega
 have hw : IntKind.i64.wrap ((S : Int) - (ds : Int)) = ((S - ds : Nat) : Int) := by rw [show (S : Int) - (ds : Int) = ((S - ds : Nat) : Int) by omega]; exact IntWalk.i64_in _ (by omega)
 have HL := hid (fun (w : World) (_ : Tab w) => fint_lsh_far dc (S - ds) hfar (by omega) w)
 have HSD := hid (fun w => Scale_any dn dc ds hds w)
 have HSE := hid (fun w => Scale_any en ec es hes w)
 have HSF := hid (fun w => Scale_any fn fc fs hfs w)
 have HND := hid (fun w => IsNeg_any dn dc ds w)
 have HNE := hid (fun w => IsNeg_any en ec es w)
 have HNF := hid (fun w => IsNeg_any fn fc fs w)
 obtain ⟨HB, HBX, HC0, hk⟩ := bx4 w dn ds dc en es ec fn fs fc
 have HT := hid (fun w1 h => (he.kept HC0.out).kept (w' := w1) h)
 obtain ⟨t, v, HOV⟩ := ovf_far he HC0.out
 obtain ⟨d0, d1, d2, e0, e1, e2, f0, f1, f2, r0, r1, r2, q0, q1, q2⟩ := HB.out _ hk
 have ov := HOV.out _ hk
 obtain ⟨hdc0, hdc1⟩ := hdc
 obtain ⟨hec0, hec1⟩ := hec
 obtain ⟨hfc0, hfc1⟩ := hfc
 obtain ⟨hY0, hY1⟩ := hYF
 clear he hY hS hds hes hfs
 generalize S - ds = j at *
 go_enter Tryz.func62, Tryz.ntmps62
 go_wp2_with (first | (go_at_call 44; (first | refine (HSD.out _).mono ?_ | refine (HSE.out _).mono ?_ | refine (HSF.out _).mono ?_); intro e w1 h; obtain ⟨he1, hc1⟩ := h; subst he1; replace hk := hk.trans hc1 sb_; clear hc1; clear d0 d1 d2 e0 e1 e2 f0 f1 f2 r0 r1 r2 q0 q1 q2 ov; obtain ⟨d0, d1, d2, e0, e1, e2, f0, f1, f2, r0, r1, r2, q0, q1, q2⟩ := HB.out _ hk; have ov := HOV.out _ hk) | (go_at_call 42; (first | refine (HND.out _).mono ?_ | refine (HNE.out _).mono ?_ | refine (HNF.out _).mono ?_); intro e w1 h; obtain ⟨he1, hc1⟩ := h; subst he1; replace hk := hk.trans hc1 sb_; clear hc1; clear d0 d1 d2 e0 e1 e2 f0 f1 f2 r0 r1 r2 q0 q1 q2 ov; obtain ⟨d0, d1, d2, e0, e1, e2, f0, f1, f2, r0, r1, r2, q0, q1, q2⟩ := HB.out _ hk; have ov := HOV.out _ hk) | (go_at_call 80; refine (HMU.out _).mono ?_; intro e w2 h; obtain ⟨he1, he2⟩ := h; subst he1; subst he2) | (go_at_call 81; refine (HL.out _ (HT.out _ hk).env.tab).mono ?_; intro e w2 h; obtain ⟨he1, he2⟩ := h; subst he1; subst he2))
 go_region
 all_goals (go_wp2_with fail; refine bodyPost_ret (v := .tuple #[.agg #[.bool false, .int .i8 0, .int .u64 0], .iface t v]) (dec_result rfl _ _ (w.heap.size + 1 + 1 + 1) _ _ _ _ 46 rfl rfl (store3 (HBX.out _ hk) _ _ _)) rfl ⟨(chg3 (HC0.out.trans hk sb_) (by omega) _ _ _).drew, t, v, rfl⟩)
set_option maxHeartbeats 2000000 in
theorem amf_lt_same (dn en fn xn : Bool) (dc ec fc : Int) (ds es fs m S : Nat) (Y : Int) (hdc : Fi dc) (hec : Fi ec) (hfc : Fi fc) (hds : ds ≤ 19) (hes : es ≤ 19) (hfs : fs ≤ 19) (hm : m ≤ 19) (hY : ec * fc = Y) (hS : es + fs = S) (hx : (!(en == fn)) = xn) (w : World) (he : EnvD w) (hYM : Y ≤ 9999999999999999999) (hlt : ds < S) (hn : S - ds ≤ 19) (X : Int) (hX : dc * 10 ^ (S - ds) = X) (hXM : X ≤ 9999999999999999999) (hs : (dn == xn) = true) (C : Int) (hC : X + Y = C) (hCM : C ≤ 9999999999999999999) :
  Calls Tryz.prog 62 #[.agg #[.bool dn, .int .i8 ds, .int .u64 dc], .agg #[.bool en, .int .i8 es, .int .u64 ec], .agg #[.bool fn, .int .i8 fs, .int .u64 fc], .int .i64 m] w (PDec w dn (fromFint2 C S m)) := by
 have hmm := hm
 clear hm
 have hm := fun w => fint_mul ec fc hec hfc.wd w
 rw [hY] at hm
 simp only [if_pos hYM, decide_eq_true hYM] at hm
 have hYF : Fi Y := ⟨by rw [← hY]; exact Int.mul_nonneg hec.1 hfc.1, hYM⟩
 have HMU := hid hm
 clear hm
 have hwa : IntKind.i64.wrap ((es : Int) + (fs : Int)) = (S : Int) := by rw [show (es : Int) + (fs : Int) = (S : Int) by omega]; exact IntWalk.i64_in _ (by omega)
 have c1 : ¬ (S : Int) < (ds : Int) := by omega
 have c2 : (ds : Int) < (S : Int) := by omega
 have hw : IntKind.i64.wrap ((S : Int) - (ds : Int)) = ((S - ds : Nat) : Int) := by rw [show (S : Int) - (ds : Int) = ((S - ds : Nat) : Int) by omega]; exact IntWalk.i64_in _ (by omega)
 have hl := fun w ht => fint_lsh dc (S - ds) hdc (by omega) w ht
 have hX0 := Int.mul_nonneg hdc.1 (Int.le_of_lt (p10_pos (S - ds)))
 rw [hX] at hX0
 simp only [hX, if_pos hXM, decide_eq_true hXM] at hl
 have hXF : Fi X := ⟨hX0, hXM⟩
 have HL := hid hl
 clear hl hX
 have ha := fun w => fint_add X Y hXF hYF w
 simp only [hC, if_pos hCM, decide_eq_true hCM] at ha
 have hCF : Fi C := ⟨by rw [← hC]; exact Int.add_nonneg hXF.1 hYF.1, hCM⟩
 clear hC
 have HA := hid ha
 clear ha
 have hff := fun w he => newFromFint_all dn C S m hCF (by omega) hmm w he
 generalize fromFint2 C S m = o at *
 have HF := hid hff
 obtain ⟨hC0, hC1⟩ := hCF
 clear hff
 obtain ⟨hX0, hX1⟩ := hXF
 have HSD := hid (fun w => Scale_any dn dc ds hds w)
 have HSE := hid (fun w => Scale_any en ec es hes w)
 have HSF := hid (fun w => Scale_any fn fc fs hfs w)
 have HND := hid (fun w => IsNeg_any dn dc ds w)
 have HNE := hid (fun w => IsNeg_any en ec es w)
 have HNF := hid (fun w => IsNeg_any fn fc fs w)
 obtain ⟨HB, HBX, HC0, hk⟩ := bx4 w dn ds dc en es ec fn fs fc
 have HT := hid (fun w1 h => (he.kept HC0.out).kept (w' := w1) h)
 obtain ⟨t, v, HOV⟩ := ovf_far he HC0.out
 obtain ⟨d0, d1, d2, e0, e1, e2, f0, f1, f2, r0, r1, r2, q0, q1, q2⟩ := HB.out _ hk
 have ov := HOV.out _ hk
 obtain ⟨hdc0, hdc1⟩ := hdc
 obtain ⟨hec0, hec1⟩ := hec
 obtain ⟨hfc0, hfc1⟩ := hfc
 obtain ⟨hY0, hY1⟩ := hYF
 clear he hY hS hds hes hfs
 generalize S - ds = j at *
 go_enter Tryz.func62, Tryz.ntmps62
 go_wp2_with (first | (go_at_call 44; (first | refine (HSD.out _).mono ?_ | refine (HSE.out _).mono ?_ | refine (HSF.out _).mono ?_); intro e w1 h; obtain ⟨he1, hc1⟩ := h; subst he1; replace hk := hk.trans hc1 sb_; clear hc1; clear d0 d1 d2 e0 e1 e2 f0 f1 f2 r0 r1 r2 q0 q1 q2 ov; obtain ⟨d0, d1, d2, e0, e1, e2, f0, f1, f2, r0, r1, r2, q0, q1, q2⟩ := HB.out _ hk; have ov := HOV.out _ hk) | (go_at_call 42; (first | refine (HND.out _).mono ?_ | refine (HNE.out _).mono ?_ | refine (HNF.out _).mono ?_); intro e w1 h; obtain ⟨he1, hc1⟩ := h; subst he1; replace hk := hk.trans hc1 sb_; clear hc1; clear d0 d1 d2 e0 e1 e2 f0 f1 f2 r0 r1 r2 q0 q1 q2 ov; obtain ⟨d0, d1, d2, e0, e1, e2, f0, f1, f2, r0, r1, r2, q0, q1, q2⟩ := HB.out _ hk; have ov := HOV.out _ hk) | (go_at_call 80; refine (HMU.out _).mono ?_; intro e w2 h; obtain ⟨he1, he2⟩ := h; subst he1; subst he2) | (go_at_call 81; refine (HL.out _ (HT.out _ hk).env.tab).mono ?_; intro e w2 h; obtain ⟨he1, he2⟩ := h; subst he1; subst he2) | (go_at_call 82; refine (HA.out _).mono ?_; intro e w2 h; obtain ⟨he1, he2⟩ := h; subst he1; subst he2) | (go_at_call 84; refine (HF.out _ (HT.out _ hk)).mono ?_; intro e w1 h; obtain ⟨na, nb, nc, nv, he1, hc1, hp⟩ := h.op; subst he1; replace hk := hk.trans hc1 sb_; clear h hc1; clear d0 d1 d2 e0 e1 e2 f0 f1 f2 r0 r1 r2 q0 q1 q2 ov; obtain ⟨d0, d1, d2, e0, e1, e2, f0, f1, f2, r0, r1, r2, q0, q1, q2⟩ := HB.out _ hk; have ov := HOV.out _ hk; have HP := hid hp; clear hp))
 refine bodyPost_ret (v := .tuple #[.agg #[.bool na, .int .i8 nb, .int .u64 nc], nv]) (dec_result rfl _ _ (w.heap.size + 1 + 1 + 1) _ _ _ _ 46 rfl rfl (store3 (HBX.out _ hk) _ _ _)) rfl (HP.out.move (chg3 (HC0.out.trans hk sb_) (by omega) _ _ _))
set_option maxHeartbeats 2000000 in
theorem amf_lt_ovf (dn en fn xn : Bool) (dc ec fc : Int) (ds es fs m S : Nat) (Y : Int) (hdc : Fi dc) (hec : Fi ec) (hfc : Fi fc) (hds : ds ≤ 19) (hes : es ≤ 19) (hfs : fs ≤ 19) (hm : m ≤ 19) (hY : ec * fc = Y) (hS : es + fs = S) (hx : (!(en == fn)) = xn) (w : World) (he : EnvD w) (neg : Bool) (hYM : Y ≤ 9999999999999999999) (hlt : ds < S) (hn : S - ds ≤ 19) (X : Int) (hX : dc * 10 ^ (S - ds) = X) (hXM : X ≤ 9999999999999999999) (hs : (dn == xn) = true) (hC : ¬ X + Y ≤ 9999999999999999999) :
  Calls Tryz.prog 62 #[.agg #[.bool dn, .int .i8 ds, .int .u64 dc], .agg #[.bool en, .int .i8 es, .int .u64 ec], .agg #[.bool fn, .int .i8 fs, .int .u64 fc], .int .i64 m] w (PDec w neg none) := by
 have hmm := hm
 clear hm
 have hm := fun w => fint_mul ec fc hec hfc.wd w
 rw [hY] at hm
 simp only [if_pos hYM, decide_eq_true hYM] at hm
 have hYF : Fi Y := ⟨by rw [← hY]; exact Int.mul_nonneg hec.1 hfc.1, hYM⟩
 have HMU := hid hm
 clear hm
 have hwa : IntKind.i64.wrap ((es : Int) + (fs : Int)) = (S : Int) := by rw [show (es : Int) + (fs : Int) = (S : Int) by omega]; exact IntWalk.i64_in _ (by omega)
 have c1 : ¬ (S : Int) < (ds : Int) := by omega
 have c2 : (ds : Int) < (S : Int) := by omega
 have hw : IntKind.i64.wrap ((S : Int) - (ds : Int)) = ((S - ds : Nat) : Int) := by rw [show (S : Int) - (ds : Int) = ((S - ds : Nat) : Int) by omega]; exact IntWalk.i64_in _ (by omega)
 have hl := fun w ht => fint_lsh dc (S - ds) hdc (by omega) w ht
 have hX0 := Int.mul_nonneg hdc.1 (Int.le_of_lt (p10_pos (S - ds)))
 rw [hX] at hX0
 simp only [hX, if_pos hXM, decide_eq_true hXM] at hl
 have hXF : Fi X := ⟨hX0, hXM⟩
 have HL := hid hl
 clear hl hX
 have ha := fun w => fint_add X Y hXF hYF w
 simp only [if_neg hC, decide_eq_false hC] at ha
 clear hC
 have HA := hid ha
 clear ha
 obtain ⟨hX0, hX1⟩ := hXF
 have HSD := hid (fun w => Scale_any dn dc ds hds w)
 have HSE := hid (fun w => Scale_any en ec es hes w)
 have HSF := hid (fun w => Scale_any fn fc fs hfs w)
 have HND := hid (fun w => IsNeg_any dn dc ds w)
 have HNE := hid (fun w => IsNeg_any en ec es w)
 have HNF := hid (fun w => IsNeg_any fn fc fs w)
 obtain ⟨HB, HBX, HC0, hk⟩ := bx4 w dn ds dc en es ec fn fs fc
 have HT := hid (fun w1 h => (he.kept HC0.out).kept (w' := w1) h)
 obtain ⟨t, v, HOV⟩ := ovf_far he HC0.out
 obtain ⟨d0, d1, d2, e0, e1, e2, f0, f1, f2, r0, r1, r2, q0, q1, q2⟩ := HB.out _ hk
 have ov := HOV.out _ hk
 obtain ⟨hdc0, hdc1⟩ := hdc
 obtain ⟨hec0, hec1⟩ := hec
 obtain ⟨hfc0, hfc1⟩ := hfc
 obtain ⟨hY0, hY1⟩ := hYF
 clear he hY hS hds hes hfs
 generalize S - ds = j at *
 go_enter Tryz.func62, Tryz.ntmps62
 go_wp2_with (first | (go_at_call 44; (first | refine (HSD.out _).mono ?_ | refine (HSE.out _).mono ?_ | refine (HSF.out _).mono ?_); intro e w1 h; obtain ⟨he1, hc1⟩ := h; subst he1; replace hk := hk.trans hc1 sb_; clear hc1; clear d0 d1 d2 e0 e1 e2 f0 f1 f2 r0 r1 r2 q0 q1 q2 ov; obtain ⟨d0, d1, d2, e0, e1, e2, f0, f1, f2, r0, r1, r2, q0, q1, q2⟩ := HB.out _ hk; have ov := HOV.out _ hk) | (go_at_call 42; (first | refine (HND.out _).mono ?_ | refine (HNE.out _).mono ?_ | refine (HNF.out _).mono ?_); intro e w1 h; obtain ⟨he1, hc1⟩ := h; subst he1; replace hk := hk.trans hc1 sb_; clear hc1; clear d0 d1 d2 e0 e1 e2 f0 f1 f2 r0 r1 r2 q0 q1 q2 ov; obtain ⟨d0, d1, d2, e0, e1, e2, f0, f1, f2, r0, r1, r2, q0, q1, q2⟩ := HB.out _ hk; have ov := HOV.out _ hk) | (go_at_call 80; refine (HMU.out _).mono ?_; intro e w2 h; obtain ⟨he1, he2⟩ := h; subst he1; subst he2) | (go_at_call 81; refine (HL.out _ (HT.out _ hk).env.tab).mono ?_; intro e w2 h; obtain ⟨he1, he2⟩ := h; subst he1; subst he2) | (go_at_call 82; refine (HA.out _).mono ?_; intro e w2 h; obtain ⟨he1, he2⟩ := h; subst he1; subst he2))
 go_region
 all_goals (go_wp2_with fail; refine bodyPost_ret (v := .tuple #[.agg #[.bool false, .int .i8 0, .int .u64 0], .iface t v]) (dec_result rfl _ _ (w.heap.size + 1 + 1 + 1) _ _ _ _ 46 rfl rfl (store3 (HBX.out _ hk) _ _ _)) rfl ⟨(chg3 (HC0.out.trans hk sb_) (by omega) _ _ _).drew, t, v, rfl⟩)
set_option maxHeartbeats 2000000 in
theorem amf_lt_dgt (dn en fn xn : Bool) (dc ec fc : Int) (ds es fs m S : Nat) (Y : Int) (hdc : Fi dc) (hec : Fi ec) (hfc : Fi fc) (hds : ds ≤ 19) (hes : es ≤ 19) (hfs : fs ≤ 19) (hm : m ≤ 19) (hY : ec * fc = Y) (hS : es + fs = S) (hx : (!(en == fn)) = xn) (w : World) (he : EnvD w) (hYM : Y ≤ 9999999999999999999) (hlt : ds < S) (hn : S - ds ≤ 19) (X : Int) (hX : dc * 10 ^ (S - ds) = X) (hXM : X ≤ 9999999999999999999) (hs : (dn == xn) = false) (hg : X < Y) (C : Int) (hC : Y - X = C) :
  Calls Tryz.prog 62 #[.agg #[.bool dn, .int .i8 ds, .int .u64 dc], .agg #[.bool en, .int .i8 es, .int .u64 ec], .agg #[.bool fn, .int .i8 fs, .int .u64 fc], .int .i64 m] w (PDec w xn (fromFint2 C S m)) := by
 have hmm := hm
 clear hm
 have hm := fun w => fint_mul ec fc hec hfc.wd w
 rw [hY] at hm
 simp only [if_pos hYM, decide_eq_true hYM] at hm
 have hYF : Fi Y := ⟨by rw [← hY]; exact Int.mul_nonneg hec.1 hfc.1, hYM⟩
 have HMU := hid hm
 clear hm
 have hwa : IntKind.i64.wrap ((es : Int) + (fs : Int)) = (S : Int) := by rw [show (es : Int) + (fs : Int) = (S : Int) by omega]; exact IntWalk.i64_in _ (by omega)
 have c1 : ¬ (S : Int) < (ds : Int) := by omega
 have c2 : (ds : Int) < (S : Int) := by omega
 have hw : IntKind.i64.wrap ((S : Int) - (ds : Int)) = ((S - ds : Nat) : Int) := by rw [show (S : Int) - (ds : Int) = ((S - ds : Nat) : Int) by omega]; exact IntWalk.i64_in _ (by omega)
 have hl := fun w ht => fint_lsh dc (S - ds) hdc (by omega) w ht
 have hX0 := Int.mul_nonneg hdc.1 (Int.le_of_lt (p10_pos (S - ds)))
 rw [hX] at hX0
 simp only [hX, if_pos hXM, decide_eq_true hXM] at hl
 have hXF : Fi X := ⟨hX0, hXM⟩
 have HL := hid hl
 clear hl hX
 have ha := fun w => fint_subAbs X Y hXF hYF w
 have hCF : Fi C := by obtain ⟨u0, u1⟩ := hXF; obtain ⟨u2, u3⟩ := hYF; exact ⟨by omega, by omega⟩
 have hcm : (if Y ≤ X then X - Y else Y - X) = C := by rw [if_neg (by omega)]; exact hC
 rw [hcm] at ha
 clear hcm
 clear hC
 have HA := hid ha
 clear ha
 have hff := fun w he => newFromFint_all xn C S m hCF (by omega) hmm w he
 generalize fromFint2 C S m = o at *
 have HF := hid hff
 obtain ⟨hC0, hC1⟩ := hCF
 clear hff
 obtain ⟨hX0, hX1⟩ := hXF
 have HSD := hid (fun w => Scale_any dn dc ds hds w)
 have HSE := hid (fun w => Scale_any en ec es hes w)
 have HSF := hid (fun w => Scale_any fn fc fs hfs w)
 have HND := hid (fun w => IsNeg_any dn dc ds w)
 have HNE := hid (fun w => IsNeg_any en ec es w)
 have HNF := hid (fun w => IsNeg_any fn fc fs w)
 obtain ⟨HB, HBX, HC0, hk⟩ := bx4 w dn ds dc en es ec fn fs fc
 have HT := hid (fun w1 h => (he.kept HC0.out).kept (w' := w1) h)
 obtain ⟨t, v, HOV⟩ := ovf_far he HC0.out
 obtain ⟨d0, d1, d2, e0, e1, e2, f0, f1, f2, r0, r1, r2, q0, q1, q2⟩ := HB.out _ hk
 have ov := HOV.out _ hk
 obtain ⟨hdc0, hdc1⟩ := hdc
 obtain ⟨hec0, hec1⟩ := hec
 obtain ⟨hfc0, hfc1⟩ := hfc
 obtain ⟨hY0, hY1⟩ := hYF
 clear he hY hS hds hes hfs
 generalize S - ds = j at *
 go_enter Tryz.func62, Tryz.ntmps62
 go_wp2_with (first | (go_at_call 44; (first | refine (HSD.out _).mono ?_ | refine (HSE.out _).mono ?_ | refine (HSF.out _).mono ?_); intro e w1 h; obtain ⟨he1, hc1⟩ := h; subst he1; replace hk := hk.trans hc1 sb_; clear hc1; clear d0 d1 d2 e0 e1 e2 f0 f1 f2 r0 r1 r2 q0 q1 q2 ov; obtain ⟨d0, d1, d2, e0, e1, e2, f0, f1, f2, r0, r1, r2, q0, q1, q2⟩ := HB.out _ hk; have ov := HOV.out _ hk) | (go_at_call 42; (first | refine (HND.out _).mono ?_ | refine (HNE.out _).mono ?_ | refine (HNF.out _).mono ?_); intro e w1 h; obtain ⟨he1, hc1⟩ := h; subst he1; replace hk := hk.trans hc1 sb_; clear hc1; clear d0 d1 d2 e0 e1 e2 f0 f1 f2 r0 r1 r2 q0 q1 q2 ov; obtain ⟨d0, d1, d2, e0, e1, e2, f0, f1, f2, r0, r1, r2, q0, q1, q2⟩ := HB.out _ hk; have ov := HOV.out _ hk) | (go_at_call 80; refine (HMU.out _).mono ?_; intro e w2 h; obtain ⟨he1, he2⟩ := h; subst he1; subst he2) | (go_at_call 81; refine (HL.out _ (HT.out _ hk).env.tab).mono ?_; intro e w2 h; obtain ⟨he1, he2⟩ := h; subst he1; subst he2) | (go_at_call 83; refine (HA.out _).mono ?_; intro e w2 h; obtain ⟨he1, he2⟩ := h; subst he1; subst he2) | (go_at_call 84; refine (HF.out _ (HT.out _ hk)).mono ?_; intro e w1 h; obtain ⟨na, nb, nc, nv, he1, hc1, hp⟩ := h.op; subst he1; replace hk := hk.trans hc1 sb_; clear h hc1; clear d0 d1 d2 e0 e1 e2 f0 f1 f2 r0 r1 r2 q0 q1 q2 ov; obtain ⟨d0, d1, d2, e0, e1, e2, f0, f1, f2, r0, r1, r2, q0, q1, q2⟩ := HB.out _ hk; have ov := HOV.out _ hk; have HP := hid hp; clear hp))
 refine bodyPost_ret (v := .tuple #[.agg #[.bool na, .int .i8 nb, .int .u64 nc], nv]) (dec_result rfl _ _ (w.heap.size + 1 + 1 + 1) _ _ _ _ 46 rfl rfl (store3 (HBX.out _ hk) _ _ _)) rfl (HP.out.move (chg3 (HC0.out.trans hk sb_) (by omega) _ _ _))
set_option maxHeartbeats 2000000 in
theorem amf_lt_dle (dn en fn xn : Bool) (dc ec fc : Int) (ds es fs m S : Nat) (Y : Int) (hdc : Fi dc) (hec : Fi ec) (hfc : Fi fc) (hds : ds ≤ 19) (hes : es ≤ 19) (hfs : fs ≤ 19) (hm : m ≤ 19) (hY : ec * fc = Y) (hS : es + fs = S) (hx : (!(en == fn)) = xn) (w : World) (he : EnvD w) (hYM : Y ≤ 9999999999999999999) (hlt : ds < S) (hn : S - ds ≤ 19) (X : Int) (hX : dc * 10 ^ (S - ds) = X) (hXM : X ≤ 9999999999999999999) (hs : (dn == xn) = false) (hg : ¬ X < Y) (C : Int) (hC : X - Y = C) :
  Calls Tryz.prog 62 #[.agg #[.bool dn, .int .i8 ds, .int .u64 dc], .agg #[.bool en, .int .i8 es, .int .u64 ec], .agg #[.bool fn, .int .i8 fs, .int .u64 fc], .int .i64 m] w (PDec w dn (fromFint2 C S m)) := by
 have hmm := hm
 clear hm
 have hm := fun w => fint_mul ec fc hec hfc.wd w
 rw [hY] at hm
 simp only [if_pos hYM, decide_eq_true hYM] at hm
 have hYF : Fi Y := ⟨by rw [← hY]; exact Int.mul_nonneg hec.1 hfc.1, hYM⟩
 have HMU := hid hm
 clear hm
 have hwa : IntKind.i64.wrap ((es : Int) + (fs : Int)) = (S : Int) := by rw [show (es : Int) + (fs : Int) = (S : Int) by omega]; exact IntWalk.i64_in _ (by omega)
 have c1 : ¬ (S : Int) < (ds : Int) := by omega
 have c2 : (ds : Int) < (S : Int) := by omega
 have hw : IntKind.i64.wrap ((S : Int) - (ds : Int)) = ((S - ds : Nat) : Int) := by rw [show (S : Int) - (ds : Int) = ((S - ds : Nat) : Int) by omega]; exact IntWalk.i64_in _ (by omega)
 have hl := fun w ht => fint_lsh dc (S - ds) hdc (by omega) w ht
 have hX0 := Int.mul_nonneg hdc.1 (Int.le_of_lt (p10_pos (S - ds)))
 rw [hX] at hX0
 simp only [hX, if_pos hXM, decide_eq_true hXM] at hl
 have hXF : Fi X := ⟨hX0, hXM⟩
 have HL := hid hl
 clear hl hX
 have ha := fun w => fint_subAbs X Y hXF hYF w
 have hCF : Fi C := by obtain ⟨u0, u1⟩ := hXF; obtain ⟨u2, u3⟩ := hYF; exact ⟨by omega, by omega⟩
 have hcm : (if Y ≤ X then X - Y else Y - X) = C := by rw [if_pos (by omega)]; exact hC
 rw [hcm] at ha
 clear hcm
 clear hC
 have HA := hid ha
 clear ha
 have hff := fun w he => newFromFint_all dn C S m hCF (by omega) hmm w he
 generalize fromFint2 C S m = o at *
 have HF := hid hff
 obtain ⟨hC0, hC1⟩ := hCF
 clear hff
 obtain ⟨hX0, hX1⟩ := hXF
 have HSD := hid (fun w => Scale_any dn dc ds hds w)
 have HSE := hid (fun w => Scale_any en ec es hes w)
 have HSF := hid (fun w => Scale_any fn fc fs hfs w)
 have HND := hid (fun w => IsNeg_any dn dc ds w)
 have HNE := hid (fun w => IsNeg_any en ec es w)
 have HNF := hid (fun w => IsNeg_any fn fc fs w)
 obtain ⟨HB, HBX, HC0, hk⟩ := bx4 w dn ds dc en es ec fn fs fc
 have HT := hid (fun w1 h => (he.kept HC0.out).kept (w' := w1) h)
 obtain ⟨t, v, HOV⟩ := ovf_far he HC0.out
 obtain ⟨d0, d1, d2, e0, e1, e2, f0, f1, f2, r0, r1, r2, q0, q1, q2⟩ := HB.out _ hk
 have ov := HOV.out _ hk
 obtain ⟨hdc0, hdc1⟩ := hdc
 obtain ⟨hec0, hec1⟩ := hec
 obtain ⟨hfc0, hfc1⟩ := hfc
 obtain ⟨hY0, hY1⟩ := hYF
 clear he hY hS hds hes hfs
 generalize S - ds = j at *
 go_enter Tryz.func62, Tryz.ntmps62
 go_wp2_with (first | (go_at_call 44; (first | refine (HSD.out _).mono ?_ | refine (HSE.out _).mono ?_ | refine (HSF.out _).mono ?_); intro e w1 h; obtain ⟨he1, hc1⟩ := h; subst he1; replace hk := hk.trans hc1 sb_; clear hc1; clear d0 d1 d2 e0 e1 e2 f0 f1 f2 r0 r1 r2 q0 q1 q2 ov; obtain ⟨d0, d1, d2, e0, e1, e2, f0, f1, f2, r0, r1, r2, q0, q1, q2⟩ := HB.out _ hk; have ov := HOV.out _ hk) | (go_at_call 42; (first | refine (HND.out _).mono ?_ | refine (HNE.out _).mono ?_ | refine (HNF.out _).mono ?_); intro e w1 h; obtain ⟨he1, hc1⟩ := h; subst he1; replace hk := hk.trans hc1 sb_; clear hc1; clear d0 d1 d2 e0 e1 e2 f0 f1 f2 r0 r1 r2 q0 q1 q2 ov; obtain ⟨d0, d1, d2, e0, e1, e2, f0, f1, f2, r0, r1, r2, q0, q1, q2⟩ := HB.out _ hk; have ov := HOV.out _ hk) | (go_at_call 80; refine (HMU.out _).mono ?_; intro e w2 h; obtain ⟨he1, he2⟩ := h; subst he1; subst he2) | (go_at_call 81; refine (HL.out _ (HT.out _ hk).env.tab).mono ?_; intro e w2 h; obtain ⟨he1, he2⟩ := h; subst he1; subst he2) | (go_at_call 83; refine (HA.out _).mono ?_; intro e w2 h; obtain ⟨he1, he2⟩ := h; subst he1; subst he2) | (go_at_call 84; refine (HF.out _ (HT.out _ hk)).mono ?_; intro e w1 h; obtain ⟨na, nb, nc, nv, he1, hc1, hp⟩ := h.op; subst he1; replace hk := hk.trans hc1 sb_; clear h hc1; clear d0 d1 d2 e0 e1 e2 f0 f1 f2 r0 r1 r2 q0 q1 q2 ov; obtain ⟨d0, d1, d2, e0, e1, e2, f0, f1, f2, r0, r1, r2, q0, q1, q2⟩ := HB.out _ hk; have ov := HOV.out _ hk; have HP := hid hp; clear hp))
 refine bodyPost_ret (v := .tuple #[.agg #[.bool na, .int .i8 nb, .int .u64 nc], nv]) (dec_result rfl _ _ (w.heap.size + 1 + 1 + 1) _ _ _ _ 46 rfl rfl (store3 (HBX.out _ hk) _ _ _)) rfl (HP.out.move (chg3 (HC0.out.trans hk sb_) (by omega) _ _ _))
set_option maxHeartbeats 2000000 in
theorem amf_eq_same (dn en fn xn : Bool) (dc ec fc : Int) (ds es fs m S : Nat) (Y : Int) (hdc : Fi dc) (hec : Fi ec) (hfc : Fi fc) (hds : ds ≤ 19) (hes : es ≤ 19) (hfs : fs ≤ 19) (hm : m ≤ 19) (hY : ec * fc = Y) (hS : es + fs = S) (hx : (!(en == fn)) = xn) (w : World) (he : EnvD w) (hYM : Y ≤ 9999999999999999999) (hlt : S = ds) (hs : (dn == xn) = true) (C : Int) (hC : dc + Y = C) (hCM : C ≤ 9999999999999999999) :
  Calls Tryz.prog 62 #[.agg #[.bool dn, .int .i8 ds, .int .u64 dc], .agg #[.bool en, .int .i8 es, .int .u64 ec], .agg #[.bool fn, .int .i8 fs, .int .u64 fc], .int .i64 m] w (PDec w dn (fromFint2 C ds m)) := by
 have hmm := hm
 clear hm
 have hm := fun w => fint_mul ec fc hec hfc.wd w
 rw [hY] at hm
 simp only [if_pos hYM, decide_eq_true hYM] at hm
 have hYF : Fi Y := ⟨by rw [← hY]; exact Int.mul_nonneg hec.1 hfc.1, hYM⟩
 have HMU := hid hm
 clear hm
 have hwa : IntKind.i64.wrap ((es : Int) + (fs : Int)) = (S : Int) := by rw [show (es : Int) + (fs : Int) = (S : Int) by omega]; exact IntWalk.i64_in _ (by omega)
 subst hlt
 have c1 : ¬ (S : Int) < (S : Int) := by omega
 have ha := fun w => fint_add dc Y hdc hYF w
 simp only [hC, if_pos hCM, decide_eq_true hCM] at ha
 have hCF : Fi C := ⟨by rw [← hC]; exact Int.add_nonneg hdc.1 hYF.1, hCM⟩
 clear hC
 have HA := hid ha
 clear ha
 have hff := fun w he => newFromFint_all dn C S m hCF (by omega) hmm w he
 generalize fromFint2 C S m = o at *
 have HF := hid hff
 obtain ⟨hC0, hC1⟩ := hCF
 clear hff
 have HSD := hid (fun w => Scale_any dn dc S hds w)
 have HSE := hid (fun w => Scale_any en ec es hes w)
 have HSF := hid (fun w => Scale_any fn fc fs hfs w)
 have HND := hid (fun w => IsNeg_any dn dc S w)
 have HNE := hid (fun w => IsNeg_any en ec es w)
 have HNF := hid (fun w => IsNeg_any fn fc fs w)
 obtain ⟨HB, HBX, HC0, hk⟩ := bx4 w dn S dc en es ec fn fs fc
 have HT := hid (fun w1 h => (he.kept HC0.out).kept (w' := w1) h)
 obtain ⟨t, v, HOV⟩ := ovf_far he HC0.out
 obtain ⟨d0, d1, d2, e0, e1, e2, f0, f1, f2, r0, r1, r2, q0, q1, q2⟩ := HB.out _ hk
 have ov := HOV.out _ hk
 obtain ⟨hdc0, hdc1⟩ := hdc
 obtain ⟨hec0, hec1⟩ := hec
 obtain ⟨hfc0, hfc1⟩ := hfc
 obtain ⟨hY0, hY1⟩ := hYF
 clear he hY hS hds hes hfs
 go_enter Tryz.func62, Tryz.ntmps62
 go_wp2_with (first | (go_at_call 44; (first | refine (HSD.out _).mono ?_ | refine (HSE.out _).mono ?_ | refine (HSF.out _).mono ?_); intro e w1 h; obtain ⟨he1, hc1⟩ := h; subst he1; replace hk := hk.trans hc1 sb_; clear hc1; clear d0 d1 d2 e0 e1 e2 f0 f1 f2 r0 r1 r2 q0 q1 q2 ov; obtain ⟨d0, d1, d2, e0, e1, e2, f0, f1, f2, r0, r1, r2, q0, q1, q2⟩ := HB.out _ hk; have ov := HOV.out _ hk) | (go_at_call 42; (first | refine (HND.out _).mono ?_ | refine (HNE.out _).mono ?_ | refine (HNF.out _).mono ?_); intro e w1 h; obtain ⟨he1, hc1⟩ := h; subst he1; replace hk := hk.trans hc1 sb_; clear hc1; clear d0 d1 d2 e0 e1 e2 f0 f1 f2 r0 r1 r2 q0 q1 q2 ov; obtain ⟨d0, d1, d2, e0, e1, e2, f0, f1, f2, r0, r1, r2, q0, q1, q2⟩ := HB.out _ hk; have ov := HOV.out _ hk) | (go_at_call 80; refine (HMU.out _).mono ?_; intro e w2 h; obtain ⟨he1, he2⟩ := h; subst he1; subst he2) | (go_at_call 82; refine (HA.out _).mono ?_; intro e w2 h; obtain ⟨he1, he2⟩ := h; subst he1; subst he2) | (go_at_call 84; refine (HF.out _ (HT.out _ hk)).mono ?_; intro e w1 h; obtain ⟨na, nb, nc, nv, he1, hc1, hp⟩ := h.op; subst he1; replace hk := hk.trans hc1 sb_; clear h hc1; clear d0 d1 d2 e0 e1 e2 f0 f1 f2 r0 r1 r2 q0 q1 q2 ov; obtain ⟨d0, d1, d2, e0, e1, e2, f0, f1, f2, r0, r1, r2, q0, q1, q2⟩ := HB.out _ hk; have ov := HOV.out _ hk; have HP := hid hp; clear hp))
 refine bodyPost_ret (v := .tuple #[.agg #[.bool na, .int .i8 nb, .int .u64 nc], nv]) (dec_result rfl _ _ (w.heap.size + 1 + 1 + 1) _ _ _ _ 46 rfl rfl (store3 (HBX.out _ hk) _ _ _)) rfl (HP.out.move (chg3 (HC0.out.trans hk sb_) (by omega) _ _ _))
set_option maxHeartbeats 2000000 in
theorem amf_eq_ovf (dn en fn xn : Bool) (dc ec fc : Int) (ds es fs m S : Nat) (Y : Int) (hdc : Fi dc) (hec : Fi ec) (hfc : Fi fc) (hds : ds ≤ 19) (hes : es ≤ 19) (hfs : fs ≤ 19) (hm : m ≤ 19) (hY : ec * fc = Y) (hS : es + fs = S) (hx : (!(en == fn)) = xn) (w : World) (he : EnvD w) (neg : Bool) (hYM : Y ≤ 9999999999999999999) (hlt : S = ds) (hs : (dn == xn) = true) (hC : ¬ dc + Y ≤ 9999999999999999999) :
  Calls Tryz.prog 62 #[.agg #[.bool dn, .int .i8 ds, .int .u64 dc], .agg #[.bool en, .int .i8 es, .int .u64 ec], .agg #[.bool fn, .int .i8 fs, .int .u64 fc], .int .i64 m] w (PDec w neg none) := by
 have hmm := hm
 clear hm
 have hm := fun w => fint_mul ec fc hec hfc.wd w
 rw [hY] at hm
 simp only [if_pos hYM, decide_eq_true hYM] at hm
 have hYF : Fi Y := ⟨by rw [← hY]; exact Int.mul_nonneg hec.1 hfc.1, hYM⟩
 have HMU := hid hm
 clear hm
 have hwa : IntKind.i64.wrap ((es : Int) + (fs : Int)) = (S : Int) := by rw [show (es : Int) + (fs : Int) = (S : Int) by omega]; exact IntWalk.i64_in _ (by omega)
 subst hlt
 have c1 : ¬ (S : Int) < (S : Int) := by omega
 have ha := fun w => fint_add dc Y hdc hYF w
 simp only [if_neg hC, decide_eq_false hC] at ha
 clear hC
 have HA := hid ha
 clear ha
 have HSD := hid (fun w => Scale_any dn dc S hds w)
 have HSE := hid (fun w => Scale_any en ec es hes w)
 have HSF := hid (fun w => Scale_any fn fc fs hfs w)
 have HND := hid (fun w => IsNeg_any dn dc S w)
 have HNE := hid (fun w => IsNeg_any en ec es w)
 have HNF := hid (fun w => IsNeg_any fn fc fs w)
 obtain ⟨HB, HBX, HC0, hk⟩ := bx4 w dn S dc en es ec fn fs fc
 have HT := hid (fun w1 h => (he.kept HC0.out).kept (w' := w1) h)
 obtain ⟨t, v, HOV⟩ := ovf_far he HC0.out
 obtain ⟨d0, d1, d2, e0, e1, e2, f0, f1, f2, r0, r1, r2, q0, q1, q2⟩ := HB.out _ hk
 have ov := HOV.out _ hk
 obtain ⟨hdc0, hdc1⟩ := hdc
 obtain ⟨hec0, hec1⟩ := hec
 obtain ⟨hfc0, hfc1⟩ := hfc
 obtain ⟨hY0, hY1⟩ := hYF
 clear he hY hS hds hes hfs
 go_enter Tryz.func62, Tryz.ntmps62
 go_wp2_with (first | (go_at_call 44; (first | refine (HSD.out _).mono ?_ | refine (HSE.out _).mono ?_ | refine (HSF.out _).mono ?_); intro e w1 h; obtain ⟨he1, hc1⟩ := h; subst he1; replace hk := hk.trans hc1 sb_; clear hc1; clear d0 d1 d2 e0 e1 e2 f0 f1 f2 r0 r1 r2 q0 q1 q2 ov; obtain ⟨d0, d1, d2, e0, e1, e2, f0, f1, f2, r0, r1, r2, q0, q1, q2⟩ := HB.out _ hk; have ov := HOV.out _ hk) | (go_at_call 42; (first | refine (HND.out _).mono ?_ | refine (HNE.out _).mono ?_ | refine (HNF.out _).mono ?_); intro e w1 h; obtain ⟨he1, hc1⟩ := h; subst he1; replace hk := hk.trans hc1 sb_; clear hc1; clear d0 d1 d2 e0 e1 e2 f0 f1 f2 r0 r1 r2 q0 q1 q2 ov; obtain ⟨d0, d1, d2, e0, e1, e2, f0, f1, f2, r0, r1, r2, q0, q1, q2⟩ := HB.out _ hk; have ov := HOV.out _ hk) | (go_at_call 80; refine (HMU.out _).mono ?_; intro e w2 h; obtain ⟨he1, he2⟩ := h; subst he1; subst he2) | (go_at_call 82; refine (HA.out _).mono ?_; intro e w2 h; obtain ⟨he1, he2⟩ := h; subst he1; subst he2))
 go_region
 all_goals (go_wp2_with fail; refine bodyPost_ret (v := .tuple #[.agg #[.bool false, .int .i8 0, .int .u64 0], .iface t v]) (dec_result rfl _ _ (w.heap.size + 1 + 1 + 1) _ _ _ _ 46 rfl rfl (store3 (HBX.out _ hk) _ _ _)) rfl ⟨(chg3 (HC0.out.trans hk sb_) (by omega) _ _ _).drew, t, v, rfl⟩)
set_option maxHeartbeats 2000000 in
theorem amf_eq_dgt (dn en fn xn : Bool) (dc ec fc : Int) (ds es fs m S : Nat) (Y : Int) (hdc : Fi dc) (hec : Fi ec) (hfc : Fi fc) (hds : ds ≤ 19) (hes : es ≤ 19) (hfs : fs ≤ 19) (hm : m ≤ 19) (hY : ec * fc = Y) (hS : es + fs = S) (hx : (!(en == fn)) = xn) (w : World) (he : EnvD w) (hYM : Y ≤ 9999999999999999999) (hlt : S = ds) (hs : (dn == xn) = false) (hg : dc < Y) (C : Int) (hC : Y - dc = C) :
  Calls Tryz.prog 62 #[.agg #[.bool dn, .int .i8 ds, .int .u64 dc], .agg #[.bool en, .int .i8 es, .int .u64 ec], .agg #[.bool fn, .int .i8 fs, .int .u64 fc], .int .i64 m] w (PDec w xn (fromFint2 C ds m)) := by
 have hmm := hm
 clear hm
 have hm := fun w => fint_mul ec fc hec hfc.wd w
 rw [hY] at hm
 simp only [if_pos hYM, decide_eq_true hYM] at hm
 have hYF : Fi Y := ⟨by rw [← hY]; exact Int.mul_nonneg hec.1 hfc.1, hYM⟩
 have HMU := hid hm
 clear hm
 have hwa : IntKind.i64.wrap ((es : Int) + (fs : Int)) = (S : Int) := by rw [show (es : Int) + (fs : Int) = (S : Int) by omega]; exact IntWalk.i64_in _ (by omega)
 subst hlt
 have c1 : ¬ (S : Int) < (S : Int) := by omega
 have ha := fun w => fint_subAbs dc Y hdc hYF w
 have hCF : Fi C := by obtain ⟨u0, u1⟩ := hdc; obtain ⟨u2, u3⟩ := hYF; exact ⟨by omega, by omega⟩
 have hcm : (if Y ≤ dc then dc - Y else Y - dc) = C := by rw [if_neg (by omega)]; exact hC
 rw [hcm] at ha
 clear hcm
 clear hC
 have HA := hid ha
 clear ha
 have hff := fun w he => newFromFint_all xn C S m hCF (by omega) hmm w he
 generalize fromFint2 C S m = o at *
 have HF := hid hff
 obtain ⟨hC0, hC1⟩ := hCF
 clear hff
 have HSD := hid (fun w => Scale_any dn dc S hds w)
 have HSE := hid (fun w => Scale_any en ec es hes w)
 have HSF := hid (fun w => Scale_any fn fc fs hfs w)
 have HND := hid (fun w => IsNeg_any dn dc S w)
 have HNE := hid (fun w => IsNeg_any en ec es w)
 have HNF := hid (fun w => IsNeg_any fn fc fs w)
 obtain ⟨HB, HBX, HC0, hk⟩ := bx4 w dn S dc en es ec fn fs fc
 have HT := hid (fun w1 h => (he.kept HC0.out).kept (w' := w1) h)
 obtain ⟨t, v, HOV⟩ := ovf_far he HC0.out
 obtain ⟨d0, d1, d2, e0, e1, e2, f0, f1, f2, r0, r1, r2, q0, q1, q2⟩ := HB.out _ hk
 have ov := HOV.out _ hk
 obtain ⟨hdc0, hdc1⟩ := hdc
 obtain ⟨hec0, hec1⟩ := hec
 obtain ⟨hfc0, hfc1⟩ := hfc
 obtain ⟨hY0, hY1⟩ := hYF
 clear he hY hS hds hes hfs
 go_enter Tryz.func62, Tryz.ntmps62
 go_wp2_with (first | (go_at_call 44; (first | refine (HSD.out _).mono ?_ | refine (HSE.out _).mono ?_ | refine (HSF.out _).mono ?_); intro e w1 h; obtain ⟨he1, hc1⟩ := h; subst he1; replace hk := hk.trans hc1 sb_; clear hc1; clear d0 d1 d2 e0 e1 e2 f0 f1 f2 r0 r1 r2 q0 q1 q2 ov; obtain ⟨d0, d1, d2, e0, e1, e2, f0, f1, f2, r0, r1, r2, q0, q1, q2⟩ := HB.out _ hk; have ov := HOV.out _ hk) | (go_at_call 42; (first | refine (HND.out _).mono ?_ | refine (HNE.out _).mono ?_ | refine (HNF.out _).mono ?_); intro e w1 h; obtain ⟨he1, hc1⟩ := h; subst he1; replace hk := hk.trans hc1 sb_; clear hc1; clear d0 d1 d2 e0 e1 e2 f0 f1 f2 r0 r1 r2 q0 q1 q2 ov; obtain ⟨d0, d1, d2, e0, e1, e2, f0, f1, f2, r0, r1, r2, q0, q1, q2⟩ := HB.out _ hk; have ov := HOV.out _ hk) | (go_at_call 80; refine (HMU.out _).mono ?_; intro e w2 h; obtain ⟨he1, he2⟩ := h; subst he1; subst he2) | (go_at_call 83; refine (HA.out _).mono ?_; intro e w2 h; obtain ⟨he1, he2⟩ := h; subst he1; subst he2) | (go_at_call 84; refine (HF.out _ (HT.out _ hk)).mono ?_; intro e w1 h; obtain ⟨na, nb, nc, nv, he1, hc1, hp⟩ := h.op; subst he1; replace hk := hk.trans hc1 sb_; clear h hc1; clear d0 d1 d2 e0 e1 e2 f0 f1 f2 r0 r1 r2 q0 q1 q2 ov; obtain ⟨d0, d1, d2, e0, e1, e2, f0, f1, f2, r0, r1, r2, q0, q1, q2⟩ := HB.out _ hk; have ov := HOV.out _ hk; have HP := hid hp; clear hp))
 refine bodyPost_ret (v := .tuple #[.agg #[.bool na, .int .i8 nb, .int .u64 nc], nv]) (dec_result rfl _ _ (w.heap.size + 1 + 1 + 1) _ _ _ _ 46 rfl rfl (store3 (HBX.out _ hk) _ _ _)) rfl (HP.out.move (chg3 (HC0.out.trans hk sb_) (by omega) _ _ _))
set_option maxHeartbeats 2000000 in
theorem amf_eq_dle (dn en fn xn : Bool) (dc ec fc : Int) (ds es fs m S : Nat) (Y : Int) (hdc : Fi dc) (hec : Fi ec) (hfc : Fi fc) (hds : ds ≤ 19) (hes : es ≤ 19) (hfs : fs ≤ 19) (hm : m ≤ 19) (hY : ec * fc = Y) (hS : es + fs = S) (hx : (!(en == fn)) = xn) (w : World) (he : EnvD w) (hYM : Y ≤ 9999999999999999999) (hlt : S = ds) (hs : (dn == xn) = false) (hg : ¬ dc < Y) (C : Int) (hC : dc - Y = C) :
  Calls Tryz.prog 62 #[.agg #[.bool dn, .int .i8 ds, .int .u64 dc], .agg #[.bool en, .int .i8 es, .int .u64 ec], .agg #[.bool fn, .int .i8 fs, .int .u64 fc], .int .i64 m] w (PDec w dn (fromFint2 C ds m)) := by
 have hmm := hm
 clear hm
 have hm := fun w => fint_mul ec fc hec hfc.wd w
 rw [hY] at hm
 simp only [if_pos hYM, decide_eq_true hYM] at hm
 have hYF : Fi Y := ⟨by rw [← hY]; exact Int.mul_nonneg hec.1 hfc.1, hYM⟩
 have HMU := hid hm
 clear hm
 have hwa : IntKind.i64.wrap ((es : Int) + (fs : Int)) = (S : Int) := by rw [show (es : Int) + (fs : Int) = (S : Int) by omega]; exact IntWalk.i64_in _ (by omega)
 subst hlt
 have c1 : ¬ (S : Int) < (S : Int) := by omega
 have ha := fun w => fint_subAbs dc Y hdc hYF w
 have hCF : Fi C := by obtain ⟨u0, u1⟩ := hdc; obtain ⟨u2, u3⟩ := hYF; exact ⟨by omega, by omega⟩
 have hcm : (if Y ≤ dc then dc - Y else Y - dc) = C := by rw [if_pos (by omega)]; exact hC
 rw [hcm] at ha
 clear hcm
 clear hC
 have HA := hid ha
 clear ha
 have hff := fun w he => newFromFint_all dn C S m hCF (by omega) hmm w he
 generalize fromFint2 C S m = o at *
 have HF := hid hff
 obtain ⟨hC0, hC1⟩ := hCF
 clear hff
 have HSD := hid (fun w => Scale_any dn dc S hds w)
 have HSE := hid (fun w => Scale_any en ec es hes w)
 have HSF := hid (fun w => Scale_any fn fc fs hfs w)
 have HND := hid (fun w => IsNeg_any dn dc S w)
 have HNE := hid (fun w => IsNeg_any en ec es w)
 have HNF := hid (fun w => IsNeg_any fn fc fs w)
 obtain ⟨HB, HBX, HC0, hk⟩ := bx4 w dn S dc en es ec fn fs fc
 have HT := hid (fun w1 h => (he.kept HC0.out).kept (w' := w1) h)
 obtain ⟨t, v, HOV⟩ := ovf_far he HC0.out
 obtain ⟨d0, d1, d2, e0, e1, e2, f0, f1, f2, r0, r1, r2, q0, q1, q2⟩ := HB.out _ hk
 have ov := HOV.out _ hk
 obtain ⟨hdc0, hdc1⟩ := hdc
 obtain ⟨hec0, hec1⟩ := hec
 obtain ⟨hfc0, hfc1⟩ := hfc
 obtain ⟨hY0, hY1⟩ := hYF
 clear he hY hS hds hes hfs
 go_enter Tryz.func62, Tryz.ntmps62
 go_wp2_with (first | (go_at_call 44; (first | refine (HSD.out _).mono ?_ | refine (HSE.out _).mono ?_ | refine (HSF.out _).mono ?_); intro e w1 h; obtain ⟨he1, hc1⟩ := h; subst he1; replace hk := hk.trans hc1 sb_; clear hc1; clear d0 d1 d2 e0 e1 e2 f0 f1 f2 r0 r1 r2 q0 q1 q2 ov; obtain ⟨d0, d1, d2, e0, e1, e2, f0, f1, f2, r0, r1, r2, q0, q1, q2⟩ := HB.out _ hk; have ov := HOV.out _ hk) | (go_at_call 42; (first | refine (HND.out _).mono ?_ | refine (HNE.out _).mono ?_ | refine (HNF.out _).mono ?_); intro e w1 h; obtain ⟨he1, hc1⟩ := h; subst he1; replace hk := hk.trans hc1 sb_; clear hc1; clear d0 d1 d2 e0 e1 e2 f0 f1 f2 r0 r1 r2 q0 q1 q2 ov; obtain ⟨d0, d1, d2, e0, e1, e2, f0, f1, f2, r0, r1, r2, q0, q1, q2⟩ := HB.out _ hk; have ov := HOV.out _ hk) | (go_at_call 80; refine (HMU.out _).mono ?_; intro e w2 h; obtain ⟨he1, he2⟩ := h; subst he1; subst he2) | (go_at_call 83; refine (HA.out _).mono ?_; intro e w2 h; obtain ⟨he1, he2⟩ := h; subst he1; subst he2) | (go_at_call 84; refine (HF.out _ (HT.out _ hk)).mono ?_; intro e w1 h; obtain ⟨na, nb, nc, nv, he1, hc1, hp⟩ := h.op; subst he1; replace hk := hk.trans hc1 sb_; clear h hc1; clear d0 d1 d2 e0 e1 e2 f0 f1 f2 r0 r1 r2 q0 q1 q2 ov; obtain ⟨d0, d1, d2, e0, e1, e2, f0, f1, f2, r0, r1, r2, q0, q1, q2⟩ := HB.out _ hk; have ov := HOV.out _ hk; have HP := hid hp; clear hp))
 refine bodyPost_ret (v := .tuple #[.agg #[.bool na, .int .i8 nb, .int .u64 nc], nv]) (dec_result rfl _ _ (w.heap.size + 1 + 1 + 1) _ _ _ _ 46 rfl rfl (store3 (HBX.out _ hk) _ _ _)) rfl (HP.out.move (chg3 (HC0.out.trans hk sb_) (by omega) _ _ _))
theorem addMulFint_any (dn en fn xn : Bool) (dc ec fc ds es fs m : Nat) (hdc : dc < 10 ^ 19) (hec : ec < 10 ^ 19) (hfc : fc < 10 ^ 19) (hds : ds ≤ 19) (hes : es ≤ 19) (hfs : fs ≤ 19) (hm : m ≤ 19) (hx : (!(en == fn)) = xn) (w : World) (he : EnvD w) :
  Calls Tryz.prog 62 #[.agg #[.bool dn, .int .i8 ds, .int .u64 (dc : Int)], .agg #[.bool en, .int .i8 es, .int .u64 (ec : Int)], .agg #[.bool fn, .int .i8 fs, .int .u64 (fc : Int)], .int .i64 m] w
   (PFE w (sumD dn dc ds xn (ec * fc) (es + fs)).1 (sumD dn dc ds xn (ec * fc) (es + fs)).2 (mxp ds (es + fs)) m) := by
 have hfd := fiN hdc
 have hfe := fiN hec
 have hff := fiN hfc
 obtain ⟨S, hS⟩ : ∃ S, es + fs = S := ⟨_, rfl⟩
 obtain ⟨Y, hY⟩ : ∃ Y, ec * fc = Y := ⟨_, rfl⟩
 have hYc : (ec : Int) * (fc : Int) = ((Y : Nat) : Int) := by rw [← hY, Int.natCast_mul]
 rw [hS, hY]
 have key : ∀ (A B T : Nat), mxp ds S = T → dc * 10 ^ (T - ds) = A → Y * 10 ^ (T - S) = B → mxp ds S = T ∧ sumD dn dc ds xn Y S = sumS dn A xn B := by
  rintro A B T rfl rfl rfl
  exact ⟨rfl, rfl⟩
 by_cases hYM : Y < 10 ^ 19
 case neg => exact (amf_mul dn en fn xn (dc : Int) (ec : Int) (fc : Int) ds es fs m S ((Y : Nat) : Int) hfd hfe hff hds hes hfs hm hYc hS hx w he dn (by rw [fiN_iff]; exact hYM)).mono (fun e w' h => .none h)
 case pos =>
 have hYI := fiN_iff.2 hYM
 rcases Nat.lt_trichotomy S ds with hlt | hlt | hlt
 ·obtain ⟨k1, k2⟩ := key dc (Y * 10 ^ (ds - S)) ds (by unfold mxp; rw [if_neg (by omega)]) (by rw [Nat.sub_self, Nat.pow_zero, Nat.mul_one]) rfl
  rw [k1, k2]
  have hcast : (Y : Int) * 10 ^ (ds - S) = ((Y * 10 ^ (ds - S) : Nat) : Int) := by rw [Int.natCast_mul, pow_cast]
  generalize Y * 10 ^ (ds - S) = X at *
  by_cases hX : X < 10 ^ 19
  case neg => exact (amf_gt_err dn en fn xn (dc : Int) (ec : Int) (fc : Int) ds es fs m S ((Y : Nat) : Int) hfd hfe hff hds hes hfs hm hYc hS hx w he dn hYI hlt (by rw [hcast, fiN_iff]; exact hX)).mono (fun e w' h => .none h)
  case pos =>
  have hXM := fiN_iff.2 hX
  by_cases hs : dn = xn
  ·rw [show sumS dn dc xn X = (dn, dc + X) by unfold sumS; rw [if_pos hs]]
   by_cases hC : dc + X < 10 ^ 19
   ·exact (amf_gt_same dn en fn xn (dc : Int) (ec : Int) (fc : Int) ds es fs m S ((Y : Nat) : Int) hfd hfe hff hds hes hfs hm hYc hS hx w he hYI hlt _ hcast hXM (by simpa using hs) ((dc + X : Nat) : Int) (Int.natCast_add _ _).symm (fiN_iff.2 hC)).mono (fun e w' h => .of hC hm h)
   ·exact (amf_gt_ovf dn en fn xn (dc : Int) (ec : Int) (fc : Int) ds es fs m S ((Y : Nat) : Int) hfd hfe hff hds hes hfs hm hYc hS hx w he dn hYI hlt _ hcast hXM (by simpa using hs) (by rw [← Int.natCast_add, fiN_iff]; exact hC)).mono (fun e w' h => .none h)
  ·by_cases hg : dc < X
   ·rw [show sumS dn dc xn X = (xn, X - dc) by unfold sumS; rw [if_neg hs, if_pos hg]]
    exact (amf_gt_dgt dn en fn xn (dc : Int) (ec : Int) (fc : Int) ds es fs m S ((Y : Nat) : Int) hfd hfe hff hds hes hfs hm hYc hS hx w he hYI hlt _ hcast hXM (by simpa using hs) (by omega) ((X - dc : Nat) : Int) (by omega)).mono (fun e w' h => .of (by omega) hm h)
   ·rw [show sumS dn dc xn X = (dn, dc - X) by unfold sumS; rw [if_neg hs, if_neg hg]]
    exact (amf_gt_dle dn en fn xn (dc : Int) (ec : Int) (fc : Int) ds es fs m S ((Y : Nat) : Int) hfd hfe hff hds hes hfs hm hYc hS hx w he hYI hlt _ hcast hXM (by simpa using hs) (by omega) ((dc - X : Nat) : Int) (by omega)).mono (fun e w' h => .of (by omega) hm h)
 ·obtain ⟨k1, k2⟩ := key dc Y ds (by unfold mxp; rw [if_neg (by omega)]) (by rw [Nat.sub_self, Nat.pow_zero, Nat.mul_one]) (by rw [hlt, Nat.sub_self, Nat.pow_zero, Nat.mul_one])
  rw [k1, k2]
  by_cases hs : dn = xn
  ·rw [show sumS dn dc xn Y = (dn, dc + Y) by unfold sumS; rw [if_pos hs]]
   by_cases hC : dc + Y < 10 ^ 19
   ·exact (amf_eq_same dn en fn xn (dc : Int) (ec : Int) (fc : Int) ds es fs m S ((Y : Nat) : Int) hfd hfe hff hds hes hfs hm hYc hS hx w he hYI hlt (by simpa using hs) ((dc + Y : Nat) : Int) (Int.natCast_add _ _).symm (fiN_iff.2 hC)).mono (fun e w' h => .of hC hm h)
   ·exact (amf_eq_ovf dn en fn xn (dc : Int) (ec : Int) (fc : Int) ds es fs m S ((Y : Nat) : Int) hfd hfe hff hds hes hfs hm hYc hS hx w he dn hYI hlt (by simpa using hs) (by rw [← Int.natCast_add, fiN_iff]; exact hC)).mono (fun e w' h => .none h)
  ·by_cases hg : dc < Y
   ·rw [show sumS dn dc xn Y = (xn, Y - dc) by unfold sumS; rw [if_neg hs, if_pos hg]]
    exact (amf_eq_dgt dn en fn xn (dc : Int) (ec : Int) (fc : Int) ds es fs m S ((Y : Nat) : Int) hfd hfe hff hds hes hfs hm hYc hS hx w he hYI hlt (by simpa using hs) (by omega) ((Y - dc : Nat) : Int) (by omega)).mono (fun e w' h => .of (by omega) hm h)
   ·rw [show sumS dn dc xn Y = (dn, dc - Y) by unfold sumS; rw [if_neg hs, if_neg hg]]
    exact (amf_eq_dle dn en fn xn (dc : Int) (ec : Int) (fc : Int) ds es fs m S ((Y : Nat) : Int) hfd hfe hff hds hes hfs hm hYc hS hx w he hYI hlt (by simpa using hs) (by omega) ((dc - Y : Nat) : Int) (by omega)).mono (fun e w' h => .of (by omega) hm h)
 ·obtain ⟨k1, k2⟩ := key (dc * 10 ^ (S - ds)) Y S (by unfold mxp; rw [if_pos hlt]) rfl (by rw [Nat.sub_self, Nat.pow_zero, Nat.mul_one])
  rw [k1, k2]
  by_cases hfar : 20 ≤ S - ds
  case pos => exact (amf_lt_far dn en fn xn (dc : Int) (ec : Int) (fc : Int) ds es fs m S ((Y : Nat) : Int) hfd hfe hff hds hes hfs hm hYc hS hx w he dn hYI hlt hfar).mono (fun e w' h => .none h)
  case neg =>
  have hn : S - ds ≤ 19 := by omega
  have hcast : (dc : Int) * 10 ^ (S - ds) = ((dc * 10 ^ (S - ds) : Nat) : Int) := by rw [Int.natCast_mul, pow_cast]
  generalize dc * 10 ^ (S - ds) = X at *
  by_cases hX : X < 10 ^ 19
  case neg => exact (amf_lt_err dn en fn xn (dc : Int) (ec : Int) (fc : Int) ds es fs m S ((Y : Nat) : Int) hfd hfe hff hds hes hfs hm hYc hS hx w he dn hYI hlt hn (by rw [hcast, fiN_iff]; exact hX)).mono (fun e w' h => .none h)
  case pos =>
  have hXM := fiN_iff.2 hX
  by_cases hs : dn = xn
  ·rw [show sumS dn X xn Y = (dn, X + Y) by unfold sumS; rw [if_pos hs]]
   by_cases hC : X + Y < 10 ^ 19
   ·exact (amf_lt_same dn en fn xn (dc : Int) (ec : Int) (fc : Int) ds es fs m S ((Y : Nat) : Int) hfd hfe hff hds hes hfs hm hYc hS hx w he hYI hlt hn _ hcast hXM (by simpa using hs) ((X + Y : Nat) : Int) (Int.natCast_add _ _).symm (fiN_iff.2 hC)).mono (fun e w' h => .of hC hm h)
   ·exact (amf_lt_ovf dn en fn xn (dc : Int) (ec : Int) (fc : Int) ds es fs m S ((Y : Nat) : Int) hfd hfe hff hds hes hfs hm hYc hS hx w he dn hYI hlt hn _ hcast hXM (by simpa using hs) (by rw [← Int.natCast_add, fiN_iff]; exact hC)).mono (fun e w' h => .none h)
  ·by_cases hg : X < Y
   ·rw [show sumS dn X xn Y = (xn, Y - X) by unfold sumS; rw [if_neg hs, if_pos hg]]
    exact (amf_lt_dgt dn en fn xn (dc : Int) (ec : Int) (fc : Int) ds es fs m S ((Y : Nat) : Int) hfd hfe hff hds hes hfs hm hYc hS hx w he hYI hlt hn _ hcast hXM (by simpa using hs) (by omega) ((Y - X : Nat) : Int) (by omega)).mono (fun e w' h => .of (by omega) hm h)
   ·rw [show sumS dn X xn Y = (dn, X - Y) by unfold sumS; rw [if_neg hs, if_neg hg]]
    exact (amf_lt_dle dn en fn xn (dc : Int) (ec : Int) (fc : Int) ds es fs m S ((Y : Nat) : Int) hfd hfe hff hds hes hfs hm hYc hS hx w he hYI hlt hn _ hcast hXM (by simpa using hs) (by omega) ((X - Y : Nat) : Int) (by omega)).mono (fun e w' h => .of (by omega) hm h)
end Go.Proofs.YtmpkgkjnoanlhaaGreatDoor
