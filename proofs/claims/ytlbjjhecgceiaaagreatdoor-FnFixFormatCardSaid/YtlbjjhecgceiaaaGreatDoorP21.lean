/- Part 21 of the proof. -/
import Derived.Test.YtlbjjhecgceiaaaGreatDoorP09
import Derived.Test.YtlbjjhecgceiaaaGreatDoorP20
namespace Go.Proofs.YtlbjjhecgceiaaaGreatDoor
open Go.RowKit
set_option linter.unusedVariables false
set_option linter.unusedSimpArgs false
set_option maxRecDepth 20000
set_option maxHeartbeats 16000000 in
theorem Format_any (neg : Bool) (c s : Nat) (hc : c < 10 ^ 19) (hs : s ≤ 19) (hnn : (neg && c != 0) = neg) (vb : Int) (F : Bool) (hv : (vb = 102 ∧ F = true) ∨ ((vb = 115 ∨ vb = 118) ∧ F = false))
    {w : World} {b : Nat} {hp hw : Bool} {p wd : Int} {fl : List Int} (hz : Zz w b hp hw p wd fl (.slice none 0 0)) (hf : Bys fl) (hl : fl.length ≤ 10000) (o : Option Nat) (hpo : o = if F = true ∧ hp = true then some p.toNat else none)
    (hp4 : hp = true → 0 ≤ p ∧ p ≤ 400) (hwd : hw = true → 0 ≤ wd ∧ wd ≤ 400) (hfl : ¬ ((43 : Int) ∈ fl ∧ (32 : Int) ∈ fl)) (hww : hw = true ∨ wd ≤ 0) (he : EnvD w) (T : List Int)
    (hT : fillT fl wd (sgT fl (neg && (fmA c s o).1 != 0)) (plainT (fmA c s o).1 (fmA c s o).2) = T) :
    Calls Tryz.prog 76 #[.agg #[.bool neg, .int .i8 s, .int .u64 (c : Int)], .pointer (some ⟨b, 0, none⟩), .int .i32 vb] w (PFm b T w) := by
  have HZ := hid (fun n2 c2 s2 w1 (h : Fm0 w n2 c2 s2 w1) => hz.kept h.2 (fun h => h))
  have HE := hid (fun n2 c2 s2 w1 (h : Fm0 w n2 c2 s2 w1) => he.kept h.2)
  have HPR := hid (fun n2 c2 s2 w1 (h : Fm0 w n2 c2 s2 w1) => Precision_any (HZ.out n2 c2 s2 w1 h))
  have HWD := hid (fun n2 c2 s2 w1 (h : Fm0 w n2 c2 s2 w1) => Width_any (HZ.out n2 c2 s2 w1 h))
  have HF0 := hid (fun n2 c2 s2 w1 (h : Fm0 w n2 c2 s2 w1) (ch : Int) => Flag_any (HZ.out n2 c2 s2 w1 h) hf (by omega) ch)
  have HSC := hid (fun w1 => Scale_any neg (c : Int) s hs w1)
  have HRD := hid (fun pn (hlt : pn < s) w1 (h : Fm0 w neg c s w1) => DRound_nat neg c s pn hc hs hlt w1 (HE.out _ _ _ _ h))
  have HR0 := hid (fmR_none hc hs hnn)
  have HR1 := hid (fun pn (h : pn < s) => fmR_less (nb := neg) hc hs h)
  have HR2 := hid (fun pn (h : s ≤ pn) (h4 : pn ≤ 400) => fmR_more hc hs hnn h h4)
  have hb0 : (vb == 102) = F := by rcases hv with ⟨rfl, rfl⟩ | ⟨rfl | rfl, rfl⟩ <;> rfl
  have hb1 : (vb == 107) = false := by rcases hv with ⟨rfl, rfl⟩ | ⟨rfl | rfl, rfl⟩ <;> rfl
  have hb2 : (vb == 75) = false := by rcases hv with ⟨rfl, rfl⟩ | ⟨rfl | rfl, rfl⟩ <;> rfl
  have hb3 : (vb == 70) = false := by rcases hv with ⟨rfl, rfl⟩ | ⟨rfl | rfl, rfl⟩ <;> rfl
  have hb4 : (vb == 113) = false := by rcases hv with ⟨rfl, rfl⟩ | ⟨rfl | rfl, rfl⟩ <;> rfl
  have hb5 : (vb == 81) = false := by rcases hv with ⟨rfl, rfl⟩ | ⟨rfl | rfl, rfl⟩ <;> rfl
  have HV := hid hv
  have HPO := hid hpo
  have HP4 := hid hp4
  have HW4 := hid hwd
  have HFX := hid hfl
  have HWW := hid hww
  have HT := hid hT
  obtain ⟨HC0, HD, hB0⟩ := box1 w #[.bool neg, .int .i8 s, .int .u64 (c : Int)] 65
  have hk : Fm0 w neg c s (w.alloc (.cells #[.bool neg, .int .i8 s, .int .u64 (c : Int)] 65)) := ⟨hB0, HC0.out⟩
  have HS19 := hid hs
  clear hz he hf hl hc hs hnn hv hpo hp4 hwd hfl hww hT HC0 HD hB0
  obtain ⟨d0, d1, d2, f0, f1, f2⟩ := hk.cells
  go_enter Tryz.func76, Tryz.ntmps76
  go_upto_region 7 with fail
  go_cut [56] from 28 to 55 (fun q wx => q = .bool F ∧ Hid (Fm0 w neg c s wx))
  case first =>
    cases F with
    | false => go_wp2_with fail; go_meet; exact ⟨rfl, hk⟩
    | true => go_wp2_with fail; go_meet; exact ⟨rfl, hk⟩
  obtain ⟨hq, hk1⟩ := hcut
  subst hq
  clear hk d0 d1 d2 f0 f1 f2
  have hk := hk1.out
  clear hk1
  obtain ⟨d0, d1, d2, f0, f1, f2⟩ := hk.cells
  go_step
  go_cut [7, 8, 9, 10] from 56 to 102 (fun t _ _ _ wx => ∃ (n2 : Bool) (c2 s2 tz : Nat), t = .int .i64 tz ∧ Hid (FmtR neg c s o n2 c2 s2 tz) ∧ Hid (Fm0 w n2 c2 s2 wx))
  case first =>
    cases F with
    | false =>
      go_wp2_with fail
      go_meet
      exact ⟨neg, c, s, 0, rfl, hid (by rw [show o = none by rw [HPO.out]; simp]; exact HR0.out), hk⟩
    | true =>
      cases hp with
      | false =>
        have hmx : max (s : Int) 0 = (s : Int) := by omega
        have c1 : ¬ (s : Int) < (s : Int) := by omega
        go_wp2_with (first | (go_at_call 93; refine (HPR.out _ _ _ _ hk).mono ?_; intro e w1 h; obtain ⟨he1, hc1⟩ := h; subst he1; replace hk := hk.same hc1; clear hc1 d0 d1 d2 f0 f1 f2; obtain ⟨d0, d1, d2, f0, f1, f2⟩ := hk.cells) | (go_at_call 60; refine (HSC.out _).mono ?_; intro e w1 h; obtain ⟨he1, hc1⟩ := h; subst he1; replace hk := hk.same hc1; clear hc1 d0 d1 d2 f0 f1 f2; obtain ⟨d0, d1, d2, f0, f1, f2⟩ := hk.cells))
        go_meet
        exact ⟨neg, c, s, 0, rfl, hid (by rw [show o = none by rw [HPO.out]; simp]; exact HR0.out), hk⟩
      | true =>
        obtain ⟨pn, hpn⟩ : ∃ pn : Nat, p = (pn : Int) := ⟨p.toNat, by have := (HP4.out rfl).1; omega⟩
        subst hpn
        have HON := hid (show o = some pn by rw [HPO.out]; simp)
        have HP5 := hid (show pn ≤ 400 by have := (HP4.out rfl).2; omega)
        have hmx : max (pn : Int) 0 = (pn : Int) := by omega
        by_cases hlt : pn < s
        · have c1 : (pn : Int) < (s : Int) := by omega
          go_wp2_with (first | (go_at_call 93; refine (HPR.out _ _ _ _ hk).mono ?_; intro e w1 h; obtain ⟨he1, hc1⟩ := h; subst he1; replace hk := hk.same hc1; clear hc1 d0 d1 d2 f0 f1 f2; obtain ⟨d0, d1, d2, f0, f1, f2⟩ := hk.cells) | (go_at_call 60; refine (HSC.out _).mono ?_; intro e w1 h; obtain ⟨he1, hc1⟩ := h; subst he1; replace hk := hk.same hc1; clear hc1 d0 d1 d2 f0 f1 f2; obtain ⟨d0, d1, d2, f0, f1, f2⟩ := hk.cells) | (go_at_call 94; refine (HRD.out _ hlt _ hk).mono ?_; intro e w1 h; obtain ⟨he1, hc1⟩ := h; subst he1; replace hk := hk.same hc1; clear hc1 d0 d1 d2 f0 f1 f2; obtain ⟨d0, d1, d2, f0, f1, f2⟩ := hk.cells))
          go_meet
          exact ⟨_, _, pn, 0, rfl, hid (by rw [HON.out]; exact HR1.out pn hlt), hk.store⟩
        · have c1 : ¬ (pn : Int) < (s : Int) := by omega
          have HX := hid (HR2.out pn (by omega) HP5.out)
          by_cases hgt : s < pn
          · have c2 : (s : Int) < (pn : Int) := by omega
            have hw : IntKind.i64.wrap ((pn : Int) - (s : Int)) = ((pn - s : Nat) : Int) := by rw [IntWalk.i64_in _ (by have := HP5.out; have := HS19.out; omega)]; omega
            go_wp2_with (first | (go_at_call 93; refine (HPR.out _ _ _ _ hk).mono ?_; intro e w1 h; obtain ⟨he1, hc1⟩ := h; subst he1; replace hk := hk.same hc1; clear hc1 d0 d1 d2 f0 f1 f2; obtain ⟨d0, d1, d2, f0, f1, f2⟩ := hk.cells) | (go_at_call 60; refine (HSC.out _).mono ?_; intro e w1 h; obtain ⟨he1, hc1⟩ := h; subst he1; replace hk := hk.same hc1; clear hc1 d0 d1 d2 f0 f1 f2; obtain ⟨d0, d1, d2, f0, f1, f2⟩ := hk.cells))
            go_meet
            exact ⟨neg, c, s, pn - s, rfl, hid (by rw [HON.out]; exact HX.out), hk⟩
          · have c2 : ¬ (s : Int) < (pn : Int) := by omega
            go_wp2_with (first | (go_at_call 93; refine (HPR.out _ _ _ _ hk).mono ?_; intro e w1 h; obtain ⟨he1, hc1⟩ := h; subst he1; replace hk := hk.same hc1; clear hc1 d0 d1 d2 f0 f1 f2; obtain ⟨d0, d1, d2, f0, f1, f2⟩ := hk.cells) | (go_at_call 60; refine (HSC.out _).mono ?_; intro e w1 h; obtain ⟨he1, hc1⟩ := h; subst he1; replace hk := hk.same hc1; clear hc1 d0 d1 d2 f0 f1 f2; obtain ⟨d0, d1, d2, f0, f1, f2⟩ := hk.cells))
            go_meet
            exact ⟨neg, c, s, 0, rfl, hid (by rw [HON.out]; have e : pn - s = 0 := by omega
                                              have := HX.out
                                              rw [e] at this
                                              exact this), hk⟩
  obtain ⟨n2, c2, s2, tz, ht, hR, hk1⟩ := hcut
  subst ht
  clear HSC HRD HR0 HR1 HR2 HPR HPO HP4 HS19 hb0 hb3
  clear hk d0 d1 d2 f0 f1 f2
  have hk := hk1.out
  clear hk1
  obtain ⟨d0, d1, d2, f0, f1, f2⟩ := hk.cells
  have hs2 : s2 ≤ 19 := hR.out.1
  have htz : tz ≤ 400 := hR.out.2.2.1
  obtain ⟨D, hD⟩ : ∃ D, digs c2 = D := ⟨_, rfl⟩
  have hDl : D ≤ 19 := by rw [← hD]; exact digs_le.2 hR.out.2.1
  have HSC2 := hid (fun w1 => Scale_any n2 (c2 : Int) s2 hs2 w1)
  have HNG := hid (fun w1 => IsNeg_any n2 (c2 : Int) s2 w1)
  have HCO := hid (fun w1 => Coef_any n2 (c2 : Int) s2 w1)
  have HPC := hid (fun w1 (h : Fm0 w n2 c2 s2 w1) => Prec_any n2 c2 s2 hR.out.2.1 w1 (HE.out _ _ _ _ h))
  have HWI := hid (fun w1 (h : Fm0 w n2 c2 s2 w1) => Within_nat n2 c2 s2 hs2 w1 (HE.out _ _ _ _ h))
  obtain ⟨wi, hwi⟩ : ∃ x, decide (c2 < 10 ^ s2) = x := ⟨_, rfl⟩
  rw [hD] at HPC
  rw [hwi] at HWI
  obtain ⟨I0, hI0⟩ : ∃ I0 : Nat, (if s2 < D then D - s2 else 0) = I0 := ⟨_, rfl⟩
  obtain ⟨IG, hIG⟩ : ∃ IG : Nat, idg c2 s2 = IG := ⟨_, rfl⟩
  have HIT := hid (show wi = true → IG = 1 ∧ I0 = 0 by
    intro h
    have h1 : c2 < 10 ^ s2 := of_decide_eq_true (hwi.trans h)
    have h2 := digs_le.2 h1
    rw [hD] at h2
    have h3 : ¬ s2 < D := by omega
    rw [← hIG, ← hI0]
    unfold idg
    rw [hD, if_neg h3, if_neg h3]
    exact ⟨rfl, rfl⟩)
  have HIF := hid (show wi = false → IG = I0 by
    intro h
    have h1 : ¬ c2 < 10 ^ s2 := of_decide_eq_false (hwi.trans h)
    have h3 : s2 < D := by
      rcases Nat.lt_or_ge s2 D with h | h
      · exact h
      · rw [← hD] at h; exact absurd (digs_le.1 h) h1
    rw [← hIG, ← hI0]
    unfold idg
    rw [hD, if_pos h3, if_pos h3])
  have hIl : IG ≤ 19 ∧ 1 ≤ IG := by rw [← hIG]; exact idg_le hR.out.2.1
  have HIG := hid hIG
  have HI0 := hid hI0
  clear hD hwi hIG hI0
  go_upto_if 109 with (first | (go_at_call 60; refine (HSC2.out _).mono ?_; intro e w1 h; obtain ⟨he1, hc1⟩ := h; subst he1; replace hk := hk.same hc1; clear hc1 d0 d1 d2 f0 f1 f2; obtain ⟨d0, d1, d2, f0, f1, f2⟩ := hk.cells) | (go_at_call 95; refine (HPC.out _ hk).mono ?_; intro e w1 h; obtain ⟨he1, hc1⟩ := h; subst he1; replace hk := hk.same hc1; clear hc1 d0 d1 d2 f0 f1 f2; obtain ⟨d0, d1, d2, f0, f1, f2⟩ := hk.cells))
  go_cut [11] from 103 to 112 (fun x wx => x = .int .i64 (I0 : Int) ∧ Hid (Fm0 w n2 c2 s2 wx))
  case first =>
    by_cases h : s2 < D
    · have h1 : (s2 : Int) < (D : Int) := by omega
      have hw : IntKind.i64.wrap ((D : Int) - (s2 : Int)) = (I0 : Int) := by rw [← HI0.out, if_pos h, IntWalk.i64_in _ (by omega)]; omega
      go_wp2_with fail
      go_meet
      exact ⟨rfl, hk⟩
    · have h1 : ¬ (s2 : Int) < (D : Int) := by omega
      go_wp2_with fail
      go_meet
      exact ⟨by rw [← HI0.out, if_neg h]; rfl, hk⟩
  obtain ⟨hq, hk1⟩ := hcut
  subst hq
  clear hk d0 d1 d2 f0 f1 f2
  have hk := hk1.out
  clear hk1
  obtain ⟨d0, d1, d2, f0, f1, f2⟩ := hk.cells
  go_upto_if 114 with (go_at_call 96; refine (HWI.out _ hk).mono ?_; intro e w1 h; obtain ⟨he1, hc1⟩ := h; subst he1; replace hk := hk.same hc1; clear hc1 d0 d1 d2 f0 f1 f2; obtain ⟨d0, d1, d2, f0, f1, f2⟩ := hk.cells)
  go_cut [11] from 113 to 116 (fun x wx => x = .int .i64 (IG : Int) ∧ Hid (Fm0 w n2 c2 s2 wx))
  case first =>
    cases wi with
    | true =>
      have hw : IntKind.i64.wrap ((I0 : Int) + 1) = (IG : Int) := by have := HIT.out rfl; rw [IntWalk.i64_in _ (by omega)]; omega
      go_wp2_with fail
      go_meet
      exact ⟨rfl, hk⟩
    | false =>
      have e : IG = I0 := HIF.out rfl
      go_wp2_with fail
      go_meet
      exact ⟨by rw [e], hk⟩
  obtain ⟨hq, hk1⟩ := hcut
  subst hq
  clear hk d0 d1 d2 f0 f1 f2
  have hk := hk1.out
  clear hk1
  obtain ⟨d0, d1, d2, f0, f1, f2⟩ := hk.cells
  clear HSC2 HPC HWI HIT HIF HI0
  obtain ⟨db, hdb⟩ : ∃ x : Bool, decide (0 < s2 ∨ 0 < tz) = x := ⟨_, rfl⟩
  obtain ⟨DP, hDP⟩ : ∃ n : Nat, (if s2 + tz = 0 then 0 else 1) = n := ⟨_, rfl⟩
  have HDB := hid hdb
  have HDP := hid hDP
  have hdp1 : DP ≤ 1 := by rw [← hDP]; split <;> omega
  clear hdb hDP
  go_upto_region 29 with fail
  go_cut [122] from 117 to 121 (fun x wx => x = .bool db ∧ Hid (Fm0 w n2 c2 s2 wx))
  case first =>
    by_cases h : 0 < s2
    · have h1 : (0 : Int) < (s2 : Int) := by omega
      go_wp2_with fail
      go_meet
      exact ⟨by rw [← HDB.out, decide_eq_true (Or.inl h)], hk⟩
    · have h1 : ¬ (0 : Int) < (s2 : Int) := by omega
      by_cases h2 : 0 < tz
      · have h3 : (0 : Int) < (tz : Int) := by omega
        go_wp2_with fail
        go_meet
        exact ⟨by rw [← HDB.out, decide_eq_true (Or.inr h2)], hk⟩
      · have h3 : ¬ (0 : Int) < (tz : Int) := by omega
        go_wp2_with fail
        go_meet
        exact ⟨by rw [← HDB.out, decide_eq_false (fun x => x.elim h h2)], hk⟩
  obtain ⟨hq, hk1⟩ := hcut
  subst hq
  clear hk d0 d1 d2 f0 f1 f2
  have hk := hk1.out
  clear hk1
  obtain ⟨d0, d1, d2, f0, f1, f2⟩ := hk.cells
  go_step
  go_cut [14] from 122 to 122 (fun x wx => x = .int .i64 (DP : Int) ∧ Hid (Fm0 w n2 c2 s2 wx))
  case first =>
    cases db with
    | true => go_wp2_with fail; go_meet; exact ⟨by rw [← HDP.out, if_neg (by have := of_decide_eq_true HDB.out; omega)]; rfl, hk⟩
    | false => go_wp2_with fail; go_meet; exact ⟨by rw [← HDP.out, if_pos (by have := of_decide_eq_false HDB.out; omega)]; rfl, hk⟩
  obtain ⟨hq, hk1⟩ := hcut
  subst hq
  clear hk d0 d1 d2 f0 f1 f2
  have hk := hk1.out
  clear hk1
  obtain ⟨d0, d1, d2, f0, f1, f2⟩ := hk.cells
  obtain ⟨a43, h43⟩ : ∃ x : Bool, decide ((43 : Int) ∈ fl) = x := ⟨_, rfl⟩
  obtain ⟨a32, h32⟩ : ∃ x : Bool, decide ((32 : Int) ∈ fl) = x := ⟨_, rfl⟩
  obtain ⟨a45, h45⟩ : ∃ x : Bool, decide ((45 : Int) ∈ fl) = x := ⟨_, rfl⟩
  obtain ⟨a48, h48⟩ : ∃ x : Bool, decide ((48 : Int) ∈ fl) = x := ⟨_, rfl⟩
  have HF43 := hid (fun w1 (h : Fm0 w n2 c2 s2 w1) => HF0.out _ _ _ w1 h 43)
  have HF32 := hid (fun w1 (h : Fm0 w n2 c2 s2 w1) => HF0.out _ _ _ w1 h 32)
  have HF45 := hid (fun w1 (h : Fm0 w n2 c2 s2 w1) => HF0.out _ _ _ w1 h 45)
  have HF48 := hid (fun w1 (h : Fm0 w n2 c2 s2 w1) => HF0.out _ _ _ w1 h 48)
  rw [h43] at HF43
  rw [h32] at HF32
  rw [h45] at HF45
  rw [h48] at HF48
  obtain ⟨rb, hrb⟩ : ∃ x : Bool, (n2 || a43 || a32) = x := ⟨_, rfl⟩
  obtain ⟨sg, hsg⟩ : ∃ x : List Int, sgT fl n2 = x := ⟨_, rfl⟩
  obtain ⟨RS, hRS⟩ : ∃ x : Nat, sg.length = x := ⟨_, rfl⟩
  have HSG := hid (show sg = if n2 = true then [45] else if a43 = true then [43] else if a32 = true then [32] else [] by
    rw [← hsg]
    unfold sgT
    rw [← h43, ← h32]
    simp only [decide_eq_true_eq])
  have HNB := hid (show a43 = true → a32 = true → False by
    intro e1 e2
    exact HFX.out ⟨of_decide_eq_true (h43.trans e1), of_decide_eq_true (h32.trans e2)⟩)
  have H45 := hid h45
  have H48 := hid h48
  have HRB := hid hrb
  have HRS := hid hRS
  have HSE := hid hsg
  have HRL := hid (show RS = if rb = true then 1 else 0 by
    rw [← hRS, HSG.out, ← hrb]
    cases n2 <;> cases a43 <;> cases a32 <;> rfl)
  clear h43 h32 h45 h48 hrb hsg hRS HF0 HFX
  have hrs1 : RS ≤ 1 := by have := HRL.out; split at this <;> omega
  go_upto_region 32 with fail
  go_cut [132] from 123 to 131 (fun x wx => x = .bool rb ∧ Hid (Fm0 w n2 c2 s2 wx))
  case first =>
    cases n2 with
    | true => go_wp2_with (go_at_call 58; refine (HNG.out _).mono ?_; intro e w1 h; obtain ⟨he1, hc1⟩ := h; subst he1; replace hk := hk.same hc1; clear hc1 d0 d1 d2 f0 f1 f2; obtain ⟨d0, d1, d2, f0, f1, f2⟩ := hk.cells); go_meet; exact ⟨by rw [← HRB.out]; rfl, hk⟩
    | false =>
      cases a43 with
      | true => go_wp2_with (first | (go_at_call 58; refine (HNG.out _).mono ?_; intro e w1 h; obtain ⟨he1, hc1⟩ := h; subst he1; replace hk := hk.same hc1; clear hc1 d0 d1 d2 f0 f1 f2; obtain ⟨d0, d1, d2, f0, f1, f2⟩ := hk.cells) | (go_at_call_of 97 (Value.int .i64 43); refine (HF43.out _ hk).mono ?_; intro e w1 h; obtain ⟨he1, hc1⟩ := h; subst he1; subst hc1)); go_meet; exact ⟨by rw [← HRB.out]; rfl, hk⟩
      | false =>
        cases a32 with
        | true => go_wp2_with (first | (go_at_call 58; refine (HNG.out _).mono ?_; intro e w1 h; obtain ⟨he1, hc1⟩ := h; subst he1; replace hk := hk.same hc1; clear hc1 d0 d1 d2 f0 f1 f2; obtain ⟨d0, d1, d2, f0, f1, f2⟩ := hk.cells) | (go_at_call_of 97 (Value.int .i64 43); refine (HF43.out _ hk).mono ?_; intro e w1 h; obtain ⟨he1, hc1⟩ := h; subst he1; subst hc1) | (go_at_call_of 97 (Value.int .i64 32); refine (HF32.out _ hk).mono ?_; intro e w1 h; obtain ⟨he1, hc1⟩ := h; subst he1; subst hc1)); go_meet; exact ⟨by rw [← HRB.out]; rfl, hk⟩
        | false => go_wp2_with (first | (go_at_call 58; refine (HNG.out _).mono ?_; intro e w1 h; obtain ⟨he1, hc1⟩ := h; subst he1; replace hk := hk.same hc1; clear hc1 d0 d1 d2 f0 f1 f2; obtain ⟨d0, d1, d2, f0, f1, f2⟩ := hk.cells) | (go_at_call_of 97 (Value.int .i64 43); refine (HF43.out _ hk).mono ?_; intro e w1 h; obtain ⟨he1, hc1⟩ := h; subst he1; subst hc1) | (go_at_call_of 97 (Value.int .i64 32); refine (HF32.out _ hk).mono ?_; intro e w1 h; obtain ⟨he1, hc1⟩ := h; subst he1; subst hc1)); go_meet; exact ⟨by rw [← HRB.out]; rfl, hk⟩
  obtain ⟨hq, hk1⟩ := hcut
  subst hq
  clear hk d0 d1 d2 f0 f1 f2
  have hk := hk1.out
  clear hk1
  obtain ⟨d0, d1, d2, f0, f1, f2⟩ := hk.cells
  go_step
  go_cut [15] from 132 to 132 (fun x wx => x = .int .i64 (RS : Int) ∧ Hid (Fm0 w n2 c2 s2 wx))
  case first =>
    cases rb with
    | true => go_wp2_with fail; go_meet; exact ⟨by rw [HRL.out]; rfl, hk⟩
    | false => go_wp2_with fail; go_meet; exact ⟨by rw [HRL.out]; rfl, hk⟩
  obtain ⟨hq, hk1⟩ := hcut
  subst hq
  clear hk d0 d1 d2 f0 f1 f2
  have hk := hk1.out
  clear hk1
  obtain ⟨d0, d1, d2, f0, f1, f2⟩ := hk.cells
  obtain ⟨W0, hW0⟩ : ∃ x : Nat, RS + IG + DP + s2 + tz = x := ⟨_, rfl⟩
  go_upto_region 40 with fail
  go_cut [19] from 133 to 159 (fun x wx => x = .int .i64 (W0 : Int) ∧ Hid (Fm0 w n2 c2 s2 wx))
  case first =>
    go_wp2_with fail
    go_meet
    exact ⟨congrArg (Value.int .i64) (by omega), hk⟩
  obtain ⟨hq, hk1⟩ := hcut
  subst hq
  clear hk d0 d1 d2 f0 f1 f2
  have hk := hk1.out
  clear hk1
  obtain ⟨d0, d1, d2, f0, f1, f2⟩ := hk.cells
  obtain ⟨ov, hov⟩ : ∃ x : Bool, (hw && decide ((W0 : Int) < wd)) = x := ⟨_, rfl⟩
  have HOV := hid hov
  clear hov
  go_upto_region 43 with (go_at_call 98; refine (HWD.out _ _ _ _ hk).mono ?_; intro e w1 h; obtain ⟨he1, hc1⟩ := h; subst he1; replace hk := hk.same hc1; clear hc1 d0 d1 d2 f0 f1 f2; obtain ⟨d0, d1, d2, f0, f1, f2⟩ := hk.cells)
  go_cut [170] from 160 to 169 (fun x wx => x = .bool ov ∧ Hid (Fm0 w n2 c2 s2 wx))
  case first =>
    cases hw with
    | true =>
      by_cases h : (W0 : Int) < wd
      · have HN := hid (decide_eq_true h)
        go_wp2_with fail
        go_meet
        exact ⟨by rw [← HOV.out, HN.out]; rfl, hk⟩
      · have HN := hid (decide_eq_false h)
        go_wp2_with fail
        go_meet
        exact ⟨by rw [← HOV.out, HN.out]; rfl, hk⟩
    | false => go_wp2_with fail; go_meet; exact ⟨by rw [← HOV.out]; rfl, hk⟩
  obtain ⟨hq, hk1⟩ := hcut
  subst hq
  clear hk d0 d1 d2 f0 f1 f2
  have hk := hk1.out
  clear hk1
  obtain ⟨d0, d1, d2, f0, f1, f2⟩ := hk.cells
  go_step
  go_cut [19, 20, 21, 22] from 170 to 186 (fun a b2 c3 d wx => ∃ tsp lz lsp W : Nat, a = .int .i64 (W : Int) ∧ b2 = .int .i64 (lsp : Int) ∧ c3 = .int .i64 (tsp : Int) ∧ d = .int .i64 (lz : Int) ∧ Hid (FillR fl hw wd W0 tsp lz lsp ∧ W = W0 + tsp + lz + lsp ∧ W ≤ 1000) ∧ Hid (Fm0 w n2 c2 s2 wx))
  case first =>
    cases ov with
    | false =>
      go_wp2_with fail
      go_meet
      refine ⟨0, 0, 0, W0, rfl, rfl, rfl, rfl, hid ⟨?_, by omega, by omega⟩, hk⟩
      unfold FillR
      have e := HOV.out
      rw [if_neg (fun h => by rw [h.1, Bool.true_and] at e; exact of_decide_eq_false e h.2)]
      exact ⟨rfl, rfl, rfl⟩
    | true =>
      have HO2 := hid (show hw = true ∧ (W0 : Int) < wd by
        have e := HOV.out
        rw [Bool.and_eq_true] at e
        exact ⟨e.1, of_decide_eq_true e.2⟩)
      have h400 := (HW4.out HO2.out.1).2
      have hlo := HO2.out.2
      obtain ⟨dd, hdd⟩ : ∃ dd : Nat, wd = ((W0 + dd : Nat) : Int) := ⟨(wd - W0).toNat, by omega⟩
      have hwr : IntKind.i64.wrap (wd - (W0 : Int)) = (dd : Int) := by rw [IntWalk.i64_in _ (by omega)]; omega
      have HDD := hid hdd
      have HWB := hid (show W0 + dd ≤ 1000 by omega)
      have HH1 := HO2
      clear hdd h400 hlo
      cases a45 with
      | true =>
        go_wp2_with (go_at_call_of 97 (Value.int .i64 45); refine (HF45.out _ hk).mono ?_; intro e w1 h; obtain ⟨he1, hc1⟩ := h; subst he1; subst hc1)
        go_meet
        refine ⟨dd, 0, 0, W0 + dd, congrArg (Value.int .i64) HDD.out, rfl, rfl, rfl, hid ⟨?_, by omega, HWB.out⟩, hk⟩
        unfold FillR
        rw [if_pos HO2.out, if_pos (of_decide_eq_true H45.out)]
        exact ⟨HDD.out.symm, rfl, rfl⟩
      | false =>
        cases a48 with
        | true =>
          go_wp2_with (first | (go_at_call_of 97 (Value.int .i64 45); refine (HF45.out _ hk).mono ?_; intro e w1 h; obtain ⟨he1, hc1⟩ := h; subst he1; subst hc1) | (go_at_call_of 97 (Value.int .i64 48); refine (HF48.out _ hk).mono ?_; intro e w1 h; obtain ⟨he1, hc1⟩ := h; subst he1; subst hc1))
          go_meet
          refine ⟨0, dd, 0, W0 + dd, congrArg (Value.int .i64) HDD.out, rfl, rfl, rfl, hid ⟨?_, by omega, HWB.out⟩, hk⟩
          unfold FillR
          rw [if_pos HO2.out, if_neg (of_decide_eq_false H45.out), if_pos (of_decide_eq_true H48.out)]
          exact ⟨rfl, HDD.out.symm, rfl⟩
        | false =>
          go_wp2_with (first | (go_at_call_of 97 (Value.int .i64 45); refine (HF45.out _ hk).mono ?_; intro e w1 h; obtain ⟨he1, hc1⟩ := h; subst he1; subst hc1) | (go_at_call_of 97 (Value.int .i64 48); refine (HF48.out _ hk).mono ?_; intro e w1 h; obtain ⟨he1, hc1⟩ := h; subst he1; subst hc1))
          go_meet
          refine ⟨0, 0, dd, W0 + dd, congrArg (Value.int .i64) HDD.out, rfl, rfl, rfl, hid ⟨?_, by omega, HWB.out⟩, hk⟩
          unfold FillR
          rw [if_pos HO2.out, if_neg (of_decide_eq_false H45.out), if_neg (of_decide_eq_false H48.out)]
          exact ⟨rfl, rfl, HDD.out.symm⟩
  obtain ⟨tsp, lz, lsp, W, hq, hq2, hq3, hq4, hFi, hk1⟩ := hcut
  subst hq
  subst hq2
  subst hq3
  subst hq4
  clear hk d0 d1 d2 f0 f1 f2
  have hk := hk1.out
  clear hk1
  obtain ⟨d0, d1, d2, f0, f1, f2⟩ := hk.cells
  have hWl : W ≤ 1000 := hFi.out.2.2
  have HWE := hid (show W = tsp + (tz + (s2 + (DP + (IG + (lz + (RS + lsp)))))) by have := hFi.out.2.1; omega)
  have HFi := hid (show FillR fl hw wd (RS + IG + DP + s2 + tz) tsp lz lsp by rw [hW0]; exact hFi.out.1)
  have hW1 : 1 ≤ W := by have := HWE.out; omega
  clear hFi hW0
  have hmk := fun w1 => run_make_bytes w1 W (by omega)
  have hwm : IntKind.i64.wrap ((W : Int) - 1) = (W : Int) - 1 := IntWalk.i64_in _ (by omega)
  have hB := FmB.start hk W
  clear hk d0 d1 d2 f0 f1 f2
  go_wp2_with fail
  clear hmk hwm
  generalize wc.alloc (.cells (Array.replicate W (Value.int .u8 0)) 5) = w5 at *
  generalize wc.heap.size = B at *
  have HB := hid hB
  clear hB
  have HQ := hid (show W = tsp + (tz + (s2 + (DP + (IG + (lz + (RS + lsp)))))) ∧ W ≤ W from ⟨HWE.out, Nat.le_refl _⟩)
  obtain ⟨Q, hQe⟩ : ∃ Q, W = Q := ⟨_, rfl⟩
  obtain ⟨r, hre⟩ : ∃ r : Int, (W : Int) - 1 = r := ⟨_, rfl⟩
  have HR := hid (show r = (W : Int) - 1 from hre.symm)
  rw [hre]
  clear hQe hre
  go_loopw [192, 26] (fun i ps wx => ∃ (k q : Nat) (r : Int), i = .int .i64 (k : Int) ∧ ps = .int .i64 r ∧ Hid (k ≤ tsp ∧ q + k = W ∧ r = (q : Int) - 1 ∧ FmB w n2 c2 s2 B q (List.replicate k 32 ++ ([] : List Int)) wx)) (fun i _ _ => tsp - (intOf i).toNat)
  case atStart => exact ⟨0, W, _, rfl, rfl, hid ⟨Nat.zero_le _, rfl, HR.out, HB.out⟩⟩
  case round =>
    clear HR HB
    obtain ⟨k, Q1, r, rfl, rfl, hX⟩ := hrel
    by_cases hlt : k < tsp
    · have h1 : (k : Int) < (tsp : Int) := by omega
      obtain ⟨q1, hq1⟩ : ∃ q1, Q1 = q1 + 1 := ⟨Q1 - 1, by have h1 := hX.out.2.1; have h2 := HQ.out.1; omega⟩
      subst hq1
      have hr : r = (q1 : Int) := by have h1 := hX.out.2.2.1; omega
      subst hr
      have h2 : (0 : Int) ≤ (q1 : Int) := by omega
      have h3 : (q1 : Int) < (W : Int) := by have h1 := hX.out.2.1; have h2 := HQ.out.2; omega
      have hinc : IntKind.i64.wrap ((k : Int) + 1) = (k : Int) + 1 := IntWalk.i64_in _ (by have h2 := HQ.out; omega)
      have hdec : IntKind.i64.wrap ((q1 : Int) - 1) = (q1 : Int) - 1 := IntWalk.i64_in _ (by omega)
      obtain ⟨hce, hfz⟩ := hX.out.2.2.2.cell
      have HN : Hid (FmB w n2 c2 s2 B q1 (List.replicate (k + 1) 32 ++ ([] : List Int)) _) := hid (hX.out.2.2.2.put 32)
      have HE1 := hid (show q1 + (k + 1) = W by have h1 := hX.out.2.1; omega)
      clear hX
      go_wp2_with fail
      go_roundw
      case rel => exact ⟨k + 1, q1, _, by rw [show ((k + 1 : Nat) : Int) = (k : Int) + 1 by omega], rfl, hid ⟨hlt, HE1.out, rfl, HN.out⟩⟩
      case measure => simp [intOf]; omega
    have hge : ¬ (k : Int) < (tsp : Int) := by omega
    have hke : k = tsp := by have := hX.out.1; omega
    obtain ⟨S1, hS1⟩ : ∃ L, List.replicate tsp 32 ++ ([] : List Int) = L := ⟨_, rfl⟩
    have HS1 := hid hS1
    have HR := hid hX.out.2.2.1
    have HB := hid hX.out.2.2.2
    rw [hke, hS1] at HB
    have HQ2 := hid (show Q1 = tz + (s2 + (DP + (IG + (lz + (RS + (lsp)))))) ∧ Q1 ≤ W by have h1 := hX.out.2.1; have h2 := HQ.out; omega)
    clear hX hke hS1 hlt HQ
    have HQ := HQ2
    clear HQ2
    go_wp2_with fail
    go_loopw [201, 26] (fun i ps wx => ∃ r : Int, i = .int .i64 0 ∧ ps = .int .i64 r ∧ Hid (r = (Q1 : Int) - 1 ∧ FmB w n2 c2 s2 B Q1 S1 wx)) (fun _ _ _ => 0)
    case atStart => exact ⟨_, rfl, rfl, hid ⟨HR.out, HB.out⟩⟩
    case round =>
      clear HR HB
      obtain ⟨r, rfl, rfl, hX⟩ := hrel
      have HR := hid hX.out.1
      have HB := hid hX.out.2
      clear hX
      go_wp2_with fail
      go_loopw [210, 26] (fun i ps wx => ∃ r : Int, i = .int .i64 0 ∧ ps = .int .i64 r ∧ Hid (r = (Q1 : Int) - 1 ∧ FmB w n2 c2 s2 B Q1 S1 wx)) (fun _ _ _ => 0)
      case atStart => exact ⟨_, rfl, rfl, hid ⟨HR.out, HB.out⟩⟩
      case round =>
        clear HR HB
        obtain ⟨r, rfl, rfl, hX⟩ := hrel
        have HR := hid hX.out.1
        have HB := hid hX.out.2
        clear hX
        go_wp2_with fail
        go_loopw [219, 26] (fun i ps wx => ∃ (k q : Nat) (r : Int), i = .int .i64 (k : Int) ∧ ps = .int .i64 r ∧ Hid (k ≤ tz ∧ q + k = Q1 ∧ r = (q : Int) - 1 ∧ FmB w n2 c2 s2 B q (List.replicate k 48 ++ S1) wx)) (fun i _ _ => tz - (intOf i).toNat)
        case atStart => exact ⟨0, Q1, _, rfl, rfl, hid ⟨Nat.zero_le _, rfl, HR.out, HB.out⟩⟩
        case round =>
          clear HR HB
          obtain ⟨k, Q2, r, rfl, rfl, hX⟩ := hrel
          by_cases hlt : k < tz
          · have h1 : (k : Int) < (tz : Int) := by omega
            obtain ⟨q1, hq1⟩ : ∃ q1, Q2 = q1 + 1 := ⟨Q2 - 1, by have h1 := hX.out.2.1; have h2 := HQ.out.1; omega⟩
            subst hq1
            have hr : r = (q1 : Int) := by have h1 := hX.out.2.2.1; omega
            subst hr
            have h2 : (0 : Int) ≤ (q1 : Int) := by omega
            have h3 : (q1 : Int) < (W : Int) := by have h1 := hX.out.2.1; have h2 := HQ.out.2; omega
            have hinc : IntKind.i64.wrap ((k : Int) + 1) = (k : Int) + 1 := IntWalk.i64_in _ (by have h2 := HQ.out; omega)
            have hdec : IntKind.i64.wrap ((q1 : Int) - 1) = (q1 : Int) - 1 := IntWalk.i64_in _ (by omega)
            obtain ⟨hce, hfz⟩ := hX.out.2.2.2.cell
            have HN : Hid (FmB w n2 c2 s2 B q1 (List.replicate (k + 1) 48 ++ S1) _) := hid (hX.out.2.2.2.put 48)
            have HE1 := hid (show q1 + (k + 1) = Q1 by have h1 := hX.out.2.1; omega)
            clear hX
            go_wp2_with fail
            go_roundw
            case rel => exact ⟨k + 1, q1, _, by rw [show ((k + 1 : Nat) : Int) = (k : Int) + 1 by omega], rfl, hid ⟨hlt, HE1.out, rfl, HN.out⟩⟩
            case measure => simp [intOf]; omega
          have hge : ¬ (k : Int) < (tz : Int) := by omega
          have hke : k = tz := by have := hX.out.1; omega
          obtain ⟨S2, hS2⟩ : ∃ L, List.replicate tz 48 ++ S1 = L := ⟨_, rfl⟩
          have HS2 := hid hS2
          have HR := hid hX.out.2.2.1
          have HB := hid hX.out.2.2.2
          rw [hke, hS2] at HB
          have HQ2 := hid (show Q2 = s2 + (DP + (IG + (lz + (RS + (lsp))))) ∧ Q2 ≤ W by have h1 := hX.out.2.1; have h2 := HQ.out; omega)
          clear hX hke hS2 hlt HQ
          have HQ := HQ2
          clear HQ2
          obtain ⟨d0, d1, d2, f0, f1, f2⟩ := HB.out.old.cells
          go_wp2_with (go_at_call 59; refine (HCO.out _).mono ?_; intro e w1 h; obtain ⟨he1, hc1⟩ := h; subst he1; replace HB := hid (HB.out.same hc1); clear hc1)
          clear d0 d1 d2 f0 f1 f2 HCO
          have HC19 := hid hR.out.2.1
          have HXL := hid HC19.out
          go_loopw [230, 26, 27] (fun i ps dc wx => ∃ (k q y : Nat) (r : Int), i = .int .i64 (k : Int) ∧ ps = .int .i64 r ∧ dc = .int .u64 (y : Int) ∧ Hid (k ≤ s2 ∧ q + k = Q2 ∧ r = (q : Int) - 1 ∧ y = c2 / 10 ^ k ∧ FmB w n2 c2 s2 B q ((dk k c2).reverse ++ S2) wx)) (fun i _ _ _ => s2 - (intOf i).toNat)
          case atStart => exact ⟨0, Q2, c2, _, rfl, rfl, rfl, hid ⟨Nat.zero_le _, rfl, HR.out, by rw [Nat.pow_zero, Nat.div_one], HB.out⟩⟩
          case round =>
            clear HR HB
            obtain ⟨k, Q3, y, r, rfl, rfl, rfl, hX⟩ := hrel
            by_cases hlt : k < s2
            · have h1 : (k : Int) < (s2 : Int) := by omega
              obtain ⟨q1, hq1⟩ : ∃ q1, Q3 = q1 + 1 := ⟨Q3 - 1, by have h1 := hX.out.2.1; have h2 := HQ.out.1; omega⟩
              subst hq1
              have hr : r = (q1 : Int) := by have h1 := hX.out.2.2.1; omega
              subst hr
              have h2 : (0 : Int) ≤ (q1 : Int) := by omega
              have h3 : (q1 : Int) < (W : Int) := by have h1 := hX.out.2.1; have h2 := HQ.out.2; omega
              have hinc : IntKind.i64.wrap ((k : Int) + 1) = (k : Int) + 1 := IntWalk.i64_in _ (by have h2 := HQ.out; omega)
              have hdec : IntKind.i64.wrap ((q1 : Int) - 1) = (q1 : Int) - 1 := IntWalk.i64_in _ (by omega)
              have hyl : y < 10 ^ 19 := by rw [hX.out.2.2.2.1]; exact Nat.lt_of_le_of_lt (Nat.div_le_self _ _) HXL.out
              have h19 : (10 : Nat) ^ 19 = 10000000000000000000 := by decide
              rw [h19] at hyl
              obtain ⟨m, hm⟩ : ∃ m : Nat, y % 10 = m := ⟨_, rfl⟩
              obtain ⟨y2, hy2⟩ : ∃ m : Nat, y / 10 = m := ⟨_, rfl⟩
              have hm9 : m ≤ 9 := by omega
              have hyl2 : y2 < 10000000000000000000 := by omega
              have t1 : (y : Int).tmod 10 = (m : Int) := by rw [Int.tmod_eq_emod_of_nonneg (by omega)]; omega
              have t2 : IntKind.u64.wrap (m : Int) = (m : Int) := by simp [IntKind.wrap, IntKind.bits, IntKind.signed]; omega
              have t3 : IntKind.u8.wrap (m : Int) = (m : Int) := by simp [IntKind.wrap, IntKind.bits, IntKind.signed]; omega
              have t4 : IntKind.u8.wrap ((m : Int) + 48) = (m : Int) + 48 := by simp [IntKind.wrap, IntKind.bits, IntKind.signed]; omega
              have t5 : (y : Int).tdiv 10 = (y2 : Int) := by rw [Int.tdiv_eq_ediv_of_nonneg (by omega)]; omega
              have t6 : IntKind.u64.wrap (y2 : Int) = (y2 : Int) := by simp [IntKind.wrap, IntKind.bits, IntKind.signed]; omega
              have t7 : IntKind.u64.wrap ((y : Int).tmod 10) = (m : Int) := by rw [t1, t2]
              have t8 : IntKind.u64.wrap ((y : Int).tdiv 10) = (y2 : Int) := by rw [t5, t6]
              obtain ⟨hce, hfz⟩ := hX.out.2.2.2.2.cell
              have HN : Hid (FmB w n2 c2 s2 B q1 ((dk (k + 1) c2).reverse ++ S2) _) := hid (by
                have h := hX.out.2.2.2.2.put ((m : Int) + 48)
                have e : (dk (k + 1) c2).reverse ++ S2 = ((m : Int) + 48) :: ((dk k c2).reverse ++ S2) := by
                  rw [dk_snoc, ← hX.out.2.2.2.1, hm, List.reverse_append, Int.add_comm]; rfl
                rw [← e] at h
                exact h)
              have HE1 := hid (show q1 + (k + 1) = Q2 ∧ y2 = c2 / 10 ^ (k + 1) by
                refine ⟨by have h1 := hX.out.2.1; omega, ?_⟩
                rw [Nat.pow_succ, ← Nat.div_div_eq_div_mul, ← hX.out.2.2.2.1, hy2])
              clear hX hm hy2 hyl hyl2 h19
              go_wp2_with fail
              go_roundw
              case rel => exact ⟨k + 1, q1, y2, _, by rw [show ((k + 1 : Nat) : Int) = (k : Int) + 1 by omega], rfl, rfl, hid ⟨hlt, HE1.out.1, rfl, HE1.out.2, HN.out⟩⟩
              case measure => simp [intOf]; omega
            have hge : ¬ (k : Int) < (s2 : Int) := by omega
            have hke : k = s2 := by have := hX.out.1; omega
            obtain ⟨S3, hS3⟩ : ∃ L, (dk s2 c2).reverse ++ S2 = L := ⟨_, rfl⟩
            have HS3 := hid hS3
            have HR := hid hX.out.2.2.1
            have HY := hid hX.out.2.2.2.1
            have HB := hid hX.out.2.2.2.2
            rw [hke] at HY
            rw [hke, hS3] at HB
            have HQ2 := hid (show Q3 = DP + (IG + (lz + (RS + (lsp)))) ∧ Q3 ≤ W by have h1 := hX.out.2.1; have h2 := HQ.out; omega)
            clear hX hke hS3 hlt HQ HXL
            have HQ := HQ2
            clear HQ2
            go_wp2_with fail
            go_loopw [245, 26] (fun i ps wx => ∃ (k q : Nat) (r : Int), i = .int .i64 (k : Int) ∧ ps = .int .i64 r ∧ Hid (k ≤ DP ∧ q + k = Q3 ∧ r = (q : Int) - 1 ∧ FmB w n2 c2 s2 B q (List.replicate k 46 ++ S3) wx)) (fun i _ _ => DP - (intOf i).toNat)
            case atStart => exact ⟨0, Q3, _, rfl, rfl, hid ⟨Nat.zero_le _, rfl, HR.out, HB.out⟩⟩
            case round =>
              clear HR HB
              obtain ⟨k, Q4, r, rfl, rfl, hX⟩ := hrel
              by_cases hlt : k < DP
              · have h1 : (k : Int) < (DP : Int) := by omega
                obtain ⟨q1, hq1⟩ : ∃ q1, Q4 = q1 + 1 := ⟨Q4 - 1, by have h1 := hX.out.2.1; have h2 := HQ.out.1; omega⟩
                subst hq1
                have hr : r = (q1 : Int) := by have h1 := hX.out.2.2.1; omega
                subst hr
                have h2 : (0 : Int) ≤ (q1 : Int) := by omega
                have h3 : (q1 : Int) < (W : Int) := by have h1 := hX.out.2.1; have h2 := HQ.out.2; omega
                have hinc : IntKind.i64.wrap ((k : Int) + 1) = (k : Int) + 1 := IntWalk.i64_in _ (by have h2 := HQ.out; omega)
                have hdec : IntKind.i64.wrap ((q1 : Int) - 1) = (q1 : Int) - 1 := IntWalk.i64_in _ (by omega)
                obtain ⟨hce, hfz⟩ := hX.out.2.2.2.cell
                have HN : Hid (FmB w n2 c2 s2 B q1 (List.replicate (k + 1) 46 ++ S3) _) := hid (hX.out.2.2.2.put 46)
                have HE1 := hid (show q1 + (k + 1) = Q3 by have h1 := hX.out.2.1; omega)
                clear hX
                go_wp2_with fail
                go_roundw
                case rel => exact ⟨k + 1, q1, _, by rw [show ((k + 1 : Nat) : Int) = (k : Int) + 1 by omega], rfl, hid ⟨hlt, HE1.out, rfl, HN.out⟩⟩
                case measure => simp [intOf]; omega
              have hge : ¬ (k : Int) < (DP : Int) := by omega
              have hke : k = DP := by have := hX.out.1; omega
              obtain ⟨S4, hS4⟩ : ∃ L, List.replicate DP 46 ++ S3 = L := ⟨_, rfl⟩
              have HS4 := hid hS4
              have HR := hid hX.out.2.2.1
              have HB := hid hX.out.2.2.2
              rw [hke, hS4] at HB
              have HQ2 := hid (show Q4 = IG + (lz + (RS + (lsp))) ∧ Q4 ≤ W by have h1 := hX.out.2.1; have h2 := HQ.out; omega)
              clear hX hke hS4 hlt HQ
              have HQ := HQ2
              clear HQ2
              go_wp2_with fail
              have HXL := hid (show y < 10 ^ 19 by rw [HY.out]; exact Nat.lt_of_le_of_lt (Nat.div_le_self _ _) HC19.out)
              obtain ⟨X2, hX2⟩ : ∃ x, y = x := ⟨_, rfl⟩
              have HY2 := HY
              clear HY
              rw [hX2] at HXL HY2
              rw [hX2]
              clear hX2
              go_loopw [254, 26, 27] (fun i ps dc wx => ∃ (k q y : Nat) (r : Int), i = .int .i64 (k : Int) ∧ ps = .int .i64 r ∧ dc = .int .u64 (y : Int) ∧ Hid (k ≤ IG ∧ q + k = Q4 ∧ r = (q : Int) - 1 ∧ y = X2 / 10 ^ k ∧ FmB w n2 c2 s2 B q ((dk k X2).reverse ++ S4) wx)) (fun i _ _ _ => IG - (intOf i).toNat)
              case atStart => exact ⟨0, Q4, X2, _, rfl, rfl, rfl, hid ⟨Nat.zero_le _, rfl, HR.out, by rw [Nat.pow_zero, Nat.div_one], HB.out⟩⟩
              case round =>
                clear HR HB
                obtain ⟨k, Q5, y, r, rfl, rfl, rfl, hX⟩ := hrel
                by_cases hlt : k < IG
                · have h1 : (k : Int) < (IG : Int) := by omega
                  obtain ⟨q1, hq1⟩ : ∃ q1, Q5 = q1 + 1 := ⟨Q5 - 1, by have h1 := hX.out.2.1; have h2 := HQ.out.1; omega⟩
                  subst hq1
                  have hr : r = (q1 : Int) := by have h1 := hX.out.2.2.1; omega
                  subst hr
                  have h2 : (0 : Int) ≤ (q1 : Int) := by omega
                  have h3 : (q1 : Int) < (W : Int) := by have h1 := hX.out.2.1; have h2 := HQ.out.2; omega
                  have hinc : IntKind.i64.wrap ((k : Int) + 1) = (k : Int) + 1 := IntWalk.i64_in _ (by have h2 := HQ.out; omega)
                  have hdec : IntKind.i64.wrap ((q1 : Int) - 1) = (q1 : Int) - 1 := IntWalk.i64_in _ (by omega)
                  have hyl : y < 10 ^ 19 := by rw [hX.out.2.2.2.1]; exact Nat.lt_of_le_of_lt (Nat.div_le_self _ _) HXL.out
                  have h19 : (10 : Nat) ^ 19 = 10000000000000000000 := by decide
                  rw [h19] at hyl
                  obtain ⟨m, hm⟩ : ∃ m : Nat, y % 10 = m := ⟨_, rfl⟩
                  obtain ⟨y2, hy2⟩ : ∃ m : Nat, y / 10 = m := ⟨_, rfl⟩
                  have hm9 : m ≤ 9 := by omega
                  have hyl2 : y2 < 10000000000000000000 := by omega
                  have t1 : (y : Int).tmod 10 = (m : Int) := by rw [Int.tmod_eq_emod_of_nonneg (by omega)]; omega
                  have t2 : IntKind.u64.wrap (m : Int) = (m : Int) := by simp [IntKind.wrap, IntKind.bits, IntKind.signed]; omega
                  have t3 : IntKind.u8.wrap (m : Int) = (m : Int) := by simp [IntKind.wrap, IntKind.bits, IntKind.signed]; omega
                  have t4 : IntKind.u8.wrap ((m : Int) + 48) = (m : Int) + 48 := by simp [IntKind.wrap, IntKind.bits, IntKind.signed]; omega
                  have t5 : (y : Int).tdiv 10 = (y2 : Int) := by rw [Int.tdiv_eq_ediv_of_nonneg (by omega)]; omega
                  have t6 : IntKind.u64.wrap (y2 : Int) = (y2 : Int) := by simp [IntKind.wrap, IntKind.bits, IntKind.signed]; omega
                  have t7 : IntKind.u64.wrap ((y : Int).tmod 10) = (m : Int) := by rw [t1, t2]
                  have t8 : IntKind.u64.wrap ((y : Int).tdiv 10) = (y2 : Int) := by rw [t5, t6]
                  obtain ⟨hce, hfz⟩ := hX.out.2.2.2.2.cell
                  have HN : Hid (FmB w n2 c2 s2 B q1 ((dk (k + 1) X2).reverse ++ S4) _) := hid (by
                    have h := hX.out.2.2.2.2.put ((m : Int) + 48)
                    have e : (dk (k + 1) X2).reverse ++ S4 = ((m : Int) + 48) :: ((dk k X2).reverse ++ S4) := by
                      rw [dk_snoc, ← hX.out.2.2.2.1, hm, List.reverse_append, Int.add_comm]; rfl
                    rw [← e] at h
                    exact h)
                  have HE1 := hid (show q1 + (k + 1) = Q4 ∧ y2 = X2 / 10 ^ (k + 1) by
                    refine ⟨by have h1 := hX.out.2.1; omega, ?_⟩
                    rw [Nat.pow_succ, ← Nat.div_div_eq_div_mul, ← hX.out.2.2.2.1, hy2])
                  clear hX hm hy2 hyl hyl2 h19
                  go_wp2_with fail
                  go_roundw
                  case rel => exact ⟨k + 1, q1, y2, _, by rw [show ((k + 1 : Nat) : Int) = (k : Int) + 1 by omega], rfl, rfl, hid ⟨hlt, HE1.out.1, rfl, HE1.out.2, HN.out⟩⟩
                  case measure => simp [intOf]; omega
                have hge : ¬ (k : Int) < (IG : Int) := by omega
                have hke : k = IG := by have := hX.out.1; omega
                obtain ⟨S5, hS5⟩ : ∃ L, (dk IG X2).reverse ++ S4 = L := ⟨_, rfl⟩
                have HS5 := hid hS5
                have HR := hid hX.out.2.2.1
                have HY := hid hX.out.2.2.2.1
                have HB := hid hX.out.2.2.2.2
                rw [hke] at HY
                rw [hke, hS5] at HB
                have HQ2 := hid (show Q5 = lz + (RS + (lsp)) ∧ Q5 ≤ W by have h1 := hX.out.2.1; have h2 := HQ.out; omega)
                clear hX hke hS5 hlt HQ HXL
                have HQ := HQ2
                clear HQ2
                go_wp2_with fail
                go_loopw [269, 26] (fun i ps wx => ∃ (k q : Nat) (r : Int), i = .int .i64 (k : Int) ∧ ps = .int .i64 r ∧ Hid (k ≤ lz ∧ q + k = Q5 ∧ r = (q : Int) - 1 ∧ FmB w n2 c2 s2 B q (List.replicate k 48 ++ S5) wx)) (fun i _ _ => lz - (intOf i).toNat)
                case atStart => exact ⟨0, Q5, _, rfl, rfl, hid ⟨Nat.zero_le _, rfl, HR.out, HB.out⟩⟩
                case round =>
                  clear HR HB
                  obtain ⟨k, Q6, r, rfl, rfl, hX⟩ := hrel
                  by_cases hlt : k < lz
                  · have h1 : (k : Int) < (lz : Int) := by omega
                    obtain ⟨q1, hq1⟩ : ∃ q1, Q6 = q1 + 1 := ⟨Q6 - 1, by have h1 := hX.out.2.1; have h2 := HQ.out.1; omega⟩
                    subst hq1
                    have hr : r = (q1 : Int) := by have h1 := hX.out.2.2.1; omega
                    subst hr
                    have h2 : (0 : Int) ≤ (q1 : Int) := by omega
                    have h3 : (q1 : Int) < (W : Int) := by have h1 := hX.out.2.1; have h2 := HQ.out.2; omega
                    have hinc : IntKind.i64.wrap ((k : Int) + 1) = (k : Int) + 1 := IntWalk.i64_in _ (by have h2 := HQ.out; omega)
                    have hdec : IntKind.i64.wrap ((q1 : Int) - 1) = (q1 : Int) - 1 := IntWalk.i64_in _ (by omega)
                    obtain ⟨hce, hfz⟩ := hX.out.2.2.2.cell
                    have HN : Hid (FmB w n2 c2 s2 B q1 (List.replicate (k + 1) 48 ++ S5) _) := hid (hX.out.2.2.2.put 48)
                    have HE1 := hid (show q1 + (k + 1) = Q5 by have h1 := hX.out.2.1; omega)
                    clear hX
                    go_wp2_with fail
                    go_roundw
                    case rel => exact ⟨k + 1, q1, _, by rw [show ((k + 1 : Nat) : Int) = (k : Int) + 1 by omega], rfl, hid ⟨hlt, HE1.out, rfl, HN.out⟩⟩
                    case measure => simp [intOf]; omega
                  have hge : ¬ (k : Int) < (lz : Int) := by omega
                  have hke : k = lz := by have := hX.out.1; omega
                  obtain ⟨S6, hS6⟩ : ∃ L, List.replicate lz 48 ++ S5 = L := ⟨_, rfl⟩
                  have HS6 := hid hS6
                  have HR := hid hX.out.2.2.1
                  have HB := hid hX.out.2.2.2
                  rw [hke, hS6] at HB
                  have HQ2 := hid (show Q6 = RS + (lsp) ∧ Q6 ≤ W by have h1 := hX.out.2.1; have h2 := HQ.out; omega)
                  clear hX hke hS6 hlt HQ
                  have HQ := HQ2
                  clear HQ2
                  go_wp2_with fail
                  go_loopw [278, 26] (fun i ps wx => ∃ (k q : Nat) (r : Int), i = .int .i64 (k : Int) ∧ ps = .int .i64 r ∧ Hid (k ≤ RS ∧ q + k = Q6 ∧ r = (q : Int) - 1 ∧ FmB w n2 c2 s2 B q ((if k = 0 then [] else sg) ++ S6) wx)) (fun i _ _ => RS - (intOf i).toNat)
                  case atStart => exact ⟨0, Q6, _, rfl, rfl, hid ⟨Nat.zero_le _, rfl, HR.out, HB.out⟩⟩
                  case round =>
                    clear HR HB
                    obtain ⟨k, Q7, r, rfl, rfl, hX⟩ := hrel
                    by_cases hlt : k < RS
                    · have hk0 : k = 0 := by omega
                      have hR1 : RS = 1 := by omega
                      have HBT := hid (show rb = true by
                        have := HRL.out
                        rw [hR1] at this
                        cases rb with
                        | true => rfl
                        | false => simp at this)
                      have HQQ := hid (show Q7 = Q6 by have := hX.out.2.1; omega)
                      subst hk0
                      have h1 : (0 : Int) < (RS : Int) := by omega
                      obtain ⟨q1, hq1⟩ : ∃ q1, Q7 = q1 + 1 := ⟨Q7 - 1, by have h1 := hX.out.2.1; have h2 := HQ.out.1; omega⟩
                      have HQ1 := hid (show q1 + (0 + 1) = Q6 by have h1 := HQQ.out; omega)
                      subst hq1
                      have hr : r = (q1 : Int) := by have h1 := hX.out.2.2.1; omega
                      subst hr
                      have h2 : (0 : Int) ≤ (q1 : Int) := by omega
                      have h3 : (q1 : Int) < (W : Int) := by have h1 := HQ1.out; have h2 := HQ.out.2; omega
                      have hdec : IntKind.i64.wrap ((q1 : Int) - 1) = (q1 : Int) - 1 := IntWalk.i64_in _ (by omega)
                      have HB : Hid (FmB w n2 c2 s2 B (q1 + 1) S6 _) := hid hX.out.2.2.2
                      clear hX hR1
                      obtain ⟨d0, d1, d2, f0, f1, f2⟩ := HB.out.old.cells
                      obtain ⟨hce, hfz⟩ := HB.out.cell
                      cases n2 with
                      | true =>
                        have HS9 := hid (show sg = [45] from HSG.out)
                        go_wp2_with (go_at_call 58; refine (HNG.out _).mono ?_; intro e w1 h; obtain ⟨he1, hc1⟩ := h; subst he1; replace HB := hid (HB.out.same hc1); clear hc1 hce hfz d0 d1 d2 f0 f1 f2; obtain ⟨hce, hfz⟩ := HB.out.cell)
                        go_roundw
                        case rel => exact ⟨1, q1, _, rfl, rfl, hid ⟨hlt, HQ1.out, rfl, by rw [if_neg (by omega), HS9.out]; exact HB.out.put 45⟩⟩
                        case measure => simp [intOf]; omega
                      | false =>
                        cases a32 with
                        | true =>
                          have HS9 := hid (show sg = [32] by
                            have h := HSG.out
                            cases a43 with
                            | true => exact (HNB.out rfl rfl).elim
                            | false => exact h)
                          go_wp2_with (first | (go_at_call 58; refine (HNG.out _).mono ?_; intro e w1 h; obtain ⟨he1, hc1⟩ := h; subst he1; replace HB := hid (HB.out.same hc1); clear hc1 hce hfz d0 d1 d2 f0 f1 f2; obtain ⟨hce, hfz⟩ := HB.out.cell) | (go_at_call 97; refine (HF32.out _ HB.out.old).mono ?_; intro e w1 h; obtain ⟨he1, hc1⟩ := h; subst he1; subst hc1))
                          go_roundw
                          case rel => exact ⟨1, q1, _, rfl, rfl, hid ⟨hlt, HQ1.out, rfl, by rw [if_neg (by omega), HS9.out]; exact HB.out.put 32⟩⟩
                          case measure => simp [intOf]; omega
                        | false =>
                          have HS9 := hid (show sg = [43] by
                            have h := HSG.out
                            cases a43 with
                            | true => exact h
                            | false => have := HRB.out.trans HBT.out; simp at this)
                          go_wp2_with (first | (go_at_call 58; refine (HNG.out _).mono ?_; intro e w1 h; obtain ⟨he1, hc1⟩ := h; subst he1; replace HB := hid (HB.out.same hc1); clear hc1 hce hfz d0 d1 d2 f0 f1 f2; obtain ⟨hce, hfz⟩ := HB.out.cell) | (go_at_call 97; refine (HF32.out _ HB.out.old).mono ?_; intro e w1 h; obtain ⟨he1, hc1⟩ := h; subst he1; subst hc1))
                          go_roundw
                          case rel => exact ⟨1, q1, _, rfl, rfl, hid ⟨hlt, HQ1.out, rfl, by rw [if_neg (by omega), HS9.out]; exact HB.out.put 43⟩⟩
                          case measure => simp [intOf]; omega
                    have hge : ¬ (k : Int) < (RS : Int) := by omega
                    have hke : k = RS := by have := hX.out.1; omega
                    obtain ⟨S7, hS7⟩ : ∃ L, sg ++ S6 = L := ⟨_, rfl⟩
                    have HS7 := hid hS7
                    have HR := hid hX.out.2.2.1
                    have HB := hid hX.out.2.2.2
                    have hz9 : (if k = 0 then [] else sg) ++ S6 = S7 := by
                      rw [← hS7]
                      split
                      · next h =>
                        have : sg = [] := List.length_eq_zero_iff.1 (by rw [HRS.out]; omega)
                        rw [this]
                      · rfl
                    rw [hz9] at HB
                    have HQ2 := hid (show Q7 = lsp ∧ Q7 ≤ W by have h1 := hX.out.2.1; have h2 := HQ.out; omega)
                    clear hX hke hS7 hz9 hlt HQ
                    have HQ := HQ2
                    clear HQ2
                    go_wp2_with fail
                    go_loopw [297, 26] (fun i ps wx => ∃ r : Int, i = .int .i64 0 ∧ ps = .int .i64 r ∧ Hid (r = (Q7 : Int) - 1 ∧ FmB w n2 c2 s2 B Q7 S7 wx)) (fun _ _ _ => 0)
                    case atStart => exact ⟨_, rfl, rfl, hid ⟨HR.out, HB.out⟩⟩
                    case round =>
                      clear HR HB
                      obtain ⟨r, rfl, rfl, hX⟩ := hrel
                      have HR := hid hX.out.1
                      have HB := hid hX.out.2
                      clear hX
                      go_wp2_with fail
                      go_loopw [306, 26] (fun i ps wx => ∃ (k q : Nat) (r : Int), i = .int .i64 (k : Int) ∧ ps = .int .i64 r ∧ Hid (k ≤ lsp ∧ q + k = Q7 ∧ r = (q : Int) - 1 ∧ FmB w n2 c2 s2 B q (List.replicate k 32 ++ S7) wx)) (fun i _ _ => lsp - (intOf i).toNat)
                      case atStart => exact ⟨0, Q7, _, rfl, rfl, hid ⟨Nat.zero_le _, rfl, HR.out, HB.out⟩⟩
                      case round =>
                        clear HR HB
                        obtain ⟨k, Q8, r, rfl, rfl, hX⟩ := hrel
                        by_cases hlt : k < lsp
                        · have h1 : (k : Int) < (lsp : Int) := by omega
                          obtain ⟨q1, hq1⟩ : ∃ q1, Q8 = q1 + 1 := ⟨Q8 - 1, by have h1 := hX.out.2.1; have h2 := HQ.out.1; omega⟩
                          subst hq1
                          have hr : r = (q1 : Int) := by have h1 := hX.out.2.2.1; omega
                          subst hr
                          have h2 : (0 : Int) ≤ (q1 : Int) := by omega
                          have h3 : (q1 : Int) < (W : Int) := by have h1 := hX.out.2.1; have h2 := HQ.out.2; omega
                          have hinc : IntKind.i64.wrap ((k : Int) + 1) = (k : Int) + 1 := IntWalk.i64_in _ (by have h2 := HQ.out; omega)
                          have hdec : IntKind.i64.wrap ((q1 : Int) - 1) = (q1 : Int) - 1 := IntWalk.i64_in _ (by omega)
                          obtain ⟨hce, hfz⟩ := hX.out.2.2.2.cell
                          have HN : Hid (FmB w n2 c2 s2 B q1 (List.replicate (k + 1) 32 ++ S7) _) := hid (hX.out.2.2.2.put 32)
                          have HE1 := hid (show q1 + (k + 1) = Q7 by have h1 := hX.out.2.1; omega)
                          clear hX
                          go_wp2_with fail
                          go_roundw
                          case rel => exact ⟨k + 1, q1, _, by rw [show ((k + 1 : Nat) : Int) = (k : Int) + 1 by omega], rfl, hid ⟨hlt, HE1.out, rfl, HN.out⟩⟩
                          case measure => simp [intOf]; omega
                        have hge : ¬ (k : Int) < (lsp : Int) := by omega
                        have hke : k = lsp := by have := hX.out.1; omega
                        obtain ⟨S8, hS8⟩ : ∃ L, List.replicate lsp 32 ++ S7 = L := ⟨_, rfl⟩
                        have HS8 := hid hS8
                        have HR := hid hX.out.2.2.1
                        have HB := hid hX.out.2.2.2
                        rw [hke, hS8] at HB
                        have HQ2 := hid (show Q8 = 0 ∧ Q8 ≤ W by have h1 := hX.out.2.1; have h2 := HQ.out; omega)
                        clear hX hke hS8 hlt HQ
                        have HQ := HQ2
                        clear HQ2
                        skip
                        have hq0 : Q8 = 0 := by have := HQ.out.1; omega
                        have HTE := hid (show S8 = T by
                          rw [← HS8.out, ← HS7.out, ← HS6.out, ← HS5.out, ← HS4.out, ← HS3.out, ← HS2.out, ← HS1.out, HY2.out]
                          exact fm_final hR.out HSE.out HRS.out HIG.out HDP.out HWW.out HFi.out HT.out)
                        subst hq0
                        have HBR := hid (show RowB _ B T by have := HB.out.row; rw [HTE.out] at this; exact this)
                        have HTL := hid (show T.length = W by
                          rw [← HTE.out, ← HS8.out, ← HS7.out, ← HS6.out, ← HS5.out, ← HS4.out, ← HS3.out, ← HS2.out, ← HS1.out]
                          simp only [List.length_append, List.length_replicate, List.length_reverse, dk_len, List.length_nil, HRS.out]
                          have := HWE.out
                          omega)
                        have HTM := hid (show 0 < T.length ∧ W ≤ 1000000 by have := HTL.out; omega)
                        rcases HV.out with ⟨rfl, _⟩ | ⟨rfl | rfl, _⟩
                        all_goals
                          go_wp2_with fail
                          go_at_call 99
                          have X := Write_any (HZ.out _ _ _ _ HB.out.old) HBR.out (c := W) HTL.out HTM.out.2
                          refine X.mono ?_
                          clear X
                          intro e w1 h
                          obtain ⟨⟨v, he1⟩, v2, ho, hz2, hc2⟩ := h
                          subst he1
                          have HWR := hid (write_pfm HB.out.old.2 HTL.out HTM.out.1 ho hz2 hc2)
                          clear ho hz2 hc2
                          clear HZ HE HWD HW4 HWW HT hb1 hb2 hb4 hb5 HV HNG HRB HRS HRL HSE HSG HDB HDP hR HIG HB HBR
                          go_wp2_with fail
                          refine bodyPost_end (results_none rfl _ _ _) rfl ?_
                          exact ⟨⟨_, rfl⟩, HWR.out⟩
set_option maxHeartbeats 4000000 in
theorem ZzFormat_any (neg : Bool) (c s : Nat) (hc : c < 10 ^ 19) (hs : s ≤ 19) (hnn : (neg && c != 0) = neg) (vb : Int) (F : Bool) (hv : (vb = 102 ∧ F = true) ∨ ((vb = 115 ∨ vb = 118) ∧ F = false))
  (fl : List Int) (hf : Bys fl) (hl : fl.length ≤ 10000) (hfl : ¬ ((43 : Int) ∈ fl ∧ (32 : Int) ∈ fl)) (p wd : Int) (hp4 : p ≤ 400) (hwd : wd ≤ 400) (o : Option Nat) (hpo : o = if F = true ∧ 0 ≤ p then some p.toNat else none) (T : List Int)
  (hT : fillT fl wd (sgT fl (neg && (fmA c s o).1 != 0)) (plainT (fmA c s o).1 (fmA c s o).2) = T) (w : World) (he : EnvD w) :
  Calls Tryz.prog 54 #[.agg #[.bool neg, .int .i8 s, .int .u64 (c : Int)], .int .i32 vb, .string (strOfNums fl), .int .i64 p, .int .i64 wd] w (fun e w' => e = .returned (.string (strOfNums T)) ∧ Chg (fun _ => False) w w') := by
 obtain ⟨hp, hhp⟩ : ∃ x : Bool, decide (0 ≤ p) = x := ⟨_, rfl⟩
 obtain ⟨hw, hhw⟩ : ∃ x : Bool, decide (0 ≤ wd) = x := ⟨_, rfl⟩
 have HFM := hid (fun w1 (hz : Zz w1 (w.heap.size + 1) hp hw p wd fl (.slice none 0 0)) (he1 : EnvD w1) => Format_any neg c s hc hs hnn vb F hv hz hf hl o (by rw [hpo, ← hhp]; simp only [decide_eq_true_eq]) (fun h => ⟨of_decide_eq_true (hhp.trans h), hp4⟩) (fun h => ⟨of_decide_eq_true (hhw.trans h), hwd⟩) hfl
  (by cases hw with
    | true => exact Or.inl rfl
    | false => exact Or.inr (by have := of_decide_eq_false hhw; omega)) he1 T hT)
 have HE := hid he
 have HZ0 : Hid (∀ FS, strOfNums fl = FS → Zz ((w.alloc (.cells #[.bool neg, .int .i8 s, .int .u64 (c : Int)] 65)).alloc (.cells #[.bool hp, .bool hw, .int .i64 p, .int .i64 wd, .string FS, .slice none 0 0] 123)) (w.heap.size + 1) hp hw p wd fl (.slice none 0 0)) := by
  intro FS hFS
  subst hFS
  have := heap_alloc_new (w.alloc (.cells #[.bool neg, .int .i8 s, .int .u64 (c : Int)] 65)) (.cells #[.bool hp, .bool hw, .int .i64 p, .int .i64 wd, .string (strOfNums fl), .slice none 0 0] 123)
  unfold Zz
  simpa using this
 obtain ⟨FS, hFS⟩ : ∃ S, strOfNums fl = S := ⟨_, rfl⟩
 have hz := HZ0.out FS hFS
 rw [hFS]
 clear hc hs hnn hv hf hl hfl hp4 hwd hpo hT he HZ0 hFS
 obtain ⟨HC0, HD, hB0, hB1⟩ := box2 w #[.bool neg, .int .i8 s, .int .u64 (c : Int)] 65 #[.bool hp, .bool hw, .int .i64 p, .int .i64 wd, .string FS, .slice none 0 0] 123
 have he2 := HE.out.kept HC0.out
 have HZ := hid hz
 have HE2 := hid he2
 clear hz he2 HD hB0 hB1
 go_enter Tryz.func54, Tryz.ntmps54
 go_wp2_with (go_at_call 76; refine (HFM.out _ HZ.out HE2.out).mono ?_; intro e w1 h; obtain ⟨⟨v, he1⟩, D, cap, hc5, hcs, hch⟩ := h; subst he1; have hcv := run_convert_bytes_arg (P := Tryz.prog) w1 117 5 Tryz.underlying117 Tryz.underlying5 D 0 T.length cap T rfl (fun i hi => by rw [Nat.zero_add]; exact hcs i hi) 9 Tryz.underlying9; have HC1 := hid hch; clear hcs hch)
 go_ret
 exact ⟨rfl, HC0.out.trans HC1.out (fun i hi h => by omega)⟩
theorem fmIdle (p q : Addr) (w : World) : CallsD Tryz.prog 53 #[.pointer (some p), .pointer (some q)] .returning w fun e u' w' => e = .returned (.tuple #[]) ∧ u' = .returning ∧ w' = w := by
 refine callsD_of_wpS Tryz.func53 rfl fun c₀ cs hu => ?_
 apply wpS_seq
 apply wpS_region
 simp [wpOpsS, go_sem, recoverD, hu, Tryz.ntmps53, Exit.thenS]
 refine wpS_cond (t := false) (by simp [Act.eval, Array.replicate]) ?_
 simp only [Bool.false_eq_true, if_false]
 refine wpS_of_wp (wp_skip ?_)
 cases c₀
 simp_all [bodyPostS, results, Tryz.results53]
theorem str_result {fn : Func} {p u : Tmp} (h : fn.results = #[.cell p 9, .cell u 3]) (tmps : Array Value) (w : World) (g g2 : Nat) (s v : Value) (T T2 : TypeId)
  (hp : tmps.getD p undef = .pointer (some ⟨g, 0, none⟩)) (hu : tmps.getD u undef = .pointer (some ⟨g2, 0, none⟩)) (hg : w.heap[g]? = some (.cells #[s] T (0, 0))) (hg2 : w.heap[g2]? = some (.cells #[v] T2 (0, 0))) :
  (results fn tmps).run Tryz.prog w = .ok (.tuple #[s, v]) w := by
 have hc0 : w.cell? ⟨g, 0, none⟩ = some s := by simp [World.cell?, hg]
 have hl : (loadVar 9 ⟨g, 0, none⟩).run Tryz.prog w = .ok s w := by simp [go_sem, hc0]
 have hc : w.cell? ⟨g2, 0, none⟩ = some v := by simp [World.cell?, hg2]
 have hl2 : (loadVar 3 ⟨g2, 0, none⟩).run Tryz.prog w = .ok v w := by simp [go_sem, hc]
 rw [results_two h, hp, hu]
 simp [asAddr, hl, hl2, Result.andThen]
set_option maxHeartbeats 4000000 in
theorem FixFormat_ok (n1 d1 : Bool) (dc ds : Nat) (hdc : dc < 10 ^ 19) (hds : ds ≤ 19) (hd1 : (n1 && (dc : Int) != 0) = d1) (vb p wd : Int) (hp : p ≤ 400) (hwd : wd ≤ 400) (fs S : ByteArray) (w : World) (he : EnvD w)
  (HS : ∀ w1, EnvD w1 → Calls Tryz.prog 54 #[.agg #[.bool d1, .int .i8 ds, .int .u64 (dc : Int)], .int .i32 vb, .string fs, .int .i64 p, .int .i64 wd] w1 (fun e w' => e = .returned (.string S) ∧ Chg (fun _ => False) w1 w')) :
  Calls Tryz.prog 23 #[.agg #[.bool n1, .int .u64 (dc : Int), .int .i64 (ds : Int)], .int .i32 vb, .string fs, .int .i64 p, .int .i64 wd] w (PV w (.tuple #[.string S, .int .i64 0])) := by
 have HF1 := hid (fun w => fixed_any n1 d1 (dc : Int) ds (fiN hdc) hds hd1 w)
 have HE := hid he
 obtain ⟨DC, hDC⟩ : ∃ v : Int, (dc : Int) = v := ⟨_, rfl⟩
 rw [hDC] at HF1
 rw [hDC] at HS
 rw [hDC]
 have HSX := hid HS
 have c1 : ¬ 400 < p := by omega
 have c2 : ¬ 400 < wd := by omega
 clear HS hdc hds hd1 he hDC hp hwd
 obtain ⟨HC0, HD, hB0, hB1, hB2⟩ := box3 w #[.bool n1, .int .u64 DC, .int .i64 ds] 24 #[.string ByteArray.empty] 9 #[.int .i64 0] 3
 have HB0 := hid hB0
 have HB1 := hid hB1
 have HB2 := hid hB2
 have hk := Chg.refl (fun _ => False) (((w.alloc (.cells #[.bool n1, .int .u64 DC, .int .i64 ds] 24)).alloc (.cells #[.string ByteArray.empty] 9)).alloc (.cells #[.int .i64 0] 3))
 clear hB0 hB1 hB2 HD
 obtain ⟨r0, r1, r2, q0, q1, q2⟩ := cell3 (kept_heap hk HB0.out)
 have hmf : ∀ (fn : Fn) (first cap : Array Value) (w : World), (Instr.makeFunc fn first cap).run Tryz.prog w = .ok (.func fn first cap) w := fun _ _ _ _ => rfl
 go_enter_defers Tryz.func23, Tryz.ntmps23
 go_wp2_with (first | (go_at_call 26; refine (HF1.out _).mono ?_; intro e w1 h; obtain ⟨he, hc⟩ := h; subst he; replace hk := (hk.trans hc sb_).alloc (.cells #[.bool d1, .int .i8 ds, .int .u64 DC] 65); have HG1 := hid (heap_alloc_new w1 (.cells #[.bool d1, .int .i8 ds, .int .u64 DC] 65)); clear hc r0 r1 r2 q0 q1 q2; obtain ⟨g0, g1, g2, _, _, _⟩ := cell3 HG1.out) | (go_at_call 54; refine (HSX.out _ (HE.out.kept (HC0.out.trans hk sb_))).mono ?_; intro e w3 h; obtain ⟨he, hc⟩ := h; subst he; replace hk := hk.trans hc sb_; clear hc g0 g1 g2; obtain ⟨s0, s1⟩ := cell1 (kept_heap hk HB1.out); obtain ⟨i0, i1⟩ := cell1 (kept_heap hk HB2.out)))
 refine leaves_cons (f := 53) (args := #[.pointer (some ⟨w.heap.size + 1, 0, none⟩), .pointer (some ⟨w.heap.size + 1 + 1, 0, none⟩)]) (by simp) (by simp [go_sem]) ?_
 refine (fmIdle _ _ _).mono ?_
 rintro e u' w'' ⟨rfl, rfl, rfl⟩
 exact ⟨.tuple #[.string S, .int .i64 0], str_result rfl _ _ (w.heap.size + 1) (w.heap.size + 1 + 1) _ _ _ _ rfl rfl (fix_far' (int_set (kept_heap hk HB1.out)) (by omega)) (int_set (fix_far' (kept_heap hk HB2.out) (by omega))), rfl, Chg.setCell (p := ⟨w.heap.size + 1 + 1, 0, none⟩) (Chg.setCell (p := ⟨w.heap.size + 1, 0, none⟩) (HC0.out.trans hk sb_) (fun h => by simp only at h; omega) _) (fun h => by simp only at h; omega) _⟩
end Go.Proofs.YtlbjjhecgceiaaaGreatDoor
namespace Go.Proofs.YtlbjjhecgceiaaaGreatDoor
open Go.RowKit Go.Lib Go.Proofs.YtlbjjhecgceiaaaGreatDoorW.PrintWords Go.Proofs.YtlbjjhecgceiaaaGreatDoorW.PrintLast Go.Proofs.YtlbjjhecgceiaaaGreatDoorW.PrintMore
open PFnFixSubExact
set_option linter.unusedVariables false
set_option linter.unusedSimpArgs false
theorem w64_nat {i : Nat} (h : i ≤ 100000) : wrap64 ((i : Int) + 1) = ((i + 1 : Nat) : Int) := by unfold wrap64; omega
theorem bt_son {fl : List Int} (hf : Bys fl) {k : Nat} (hk : k < fl.length) : bt (strOfNums fl) (k : Int) = fl.getD k 0 := by
 unfold bt
 have hs : ((k : Nat) : Int).toNat < (strOfNums fl).size := by rw [strOfNums_size]; simpa using hk
 rw [dif_pos hs]
 exact son_nth hf _
theorem has_l0 {fl : List Int} (hf : Bys fl) (hl : fl.length ≤ 10000) (c : Int) : ∀ (d i k : Nat), i + d = fl.length → spec_Has.l0 (k + d + 1) (strOfNums fl) c (i : Int) = some (decide (c ∈ fl.drop i)) := by
 intro d
 induction d with
 | zero =>
  intro i k h
  have f1 : ¬ (i : Int) < ((strOfNums fl).size : Int) := by rw [strOfNums_size]; omega
  rw [spec_Has.l0, if_neg f1, List.drop_of_length_le (by omega)]
  rfl
 | succ d ih =>
  intro i k h
  have f1 : (i : Int) < ((strOfNums fl).size : Int) := by rw [strOfNums_size]; omega
  have hi : i < fl.length := by omega
  have f2 : (0 : Int) ≤ (i : Int) := by omega
  have e : fl.drop i = fl.getD i 0 :: fl.drop (i + 1) := by rw [List.drop_eq_getElem_cons hi, List.getD_eq_getElem?_getD, List.getElem?_eq_getElem hi]; rfl
  rw [show k + (d + 1) + 1 = (k + d + 1) + 1 by omega, spec_Has.l0, if_pos f1, if_pos f2, bt_son hf hi, w64_nat (by omega), ih (i + 1) k (by omega), e]
  by_cases hc : fl.getD i 0 = c
  ·rw [if_pos hc, hc]; simp
  ·rw [if_neg hc]
   have hc2 : ¬ c = fl.getD i 0 := fun e => hc e.symm
   congr 1
   simp only [List.mem_cons, hc2, false_or]
theorem has_law {fl : List Int} (hf : Bys fl) (hl : fl.length ≤ 10000) (c : Int) {k : Nat} (hk : fl.length < k) : spec_Has.f k (strOfNums fl) c = some (decide (c ∈ fl)) := by
 have := has_l0 hf hl c fl.length 0 (k - fl.length - 1) (by omega)
 rw [show k - fl.length - 1 + fl.length + 1 = k by omega] at this
 exact this
theorem zeros_l0 (n : Nat) (hn : n ≤ 10000) : ∀ (d i k : Nat), i + d = n → spec_zeros.l0 (k + d + 1) (List.replicate i 48 ++ List.replicate d 0) (n : Int) (i : Int) = some (strOfNums (List.replicate n 48)) := by
 intro d
 induction d with
 | zero =>
  intro i k h
  obtain rfl : i = n := by omega
  rw [spec_zeros.l0, if_neg (by omega)]
  simp
 | succ d ih =>
  intro i k h
  have e : (List.replicate i 48 ++ List.replicate (d + 1) 0 : List Int).set i 48 = List.replicate (i + 1) 48 ++ List.replicate d 0 := by
   rw [List.replicate_succ (n := d), List.set_append_right _ _ (by simp), List.length_replicate, Nat.sub_self, List.replicate_succ']
   simp
  rw [show k + (d + 1) + 1 = (k + d + 1) + 1 by omega, spec_zeros.l0, if_pos (by omega), if_pos (by omega), if_pos (by simp; omega), w64_nat (by omega), Int.toNat_natCast, e, ih (i + 1) k (by omega)]
theorem zeros_law {n : Nat} (hn : n ≤ 10000) {k : Nat} (hk : n < k) : spec_zeros.f k (n : Int) = some (strOfNums (List.replicate n 48)) := by
 have hm : mx (n : Int) 0 = (n : Int) := by unfold mx; split <;> omega
 have := zeros_l0 n hn n 0 (k - n - 1) (by omega)
 rw [show k - n - 1 + n + 1 = k by omega] at this
 unfold spec_zeros.f
 rw [hm, if_pos (by omega), if_pos (by omega)]
 simpa using this
theorem flag_l1 {fl : List Int} (hf : Bys fl) (hl : fl.length ≤ 10000) (wd : Int) (hw : wd ≤ 10000) : ∀ (d : Nat) (X : List Int) (k : Nat), X.length ≤ 10000 → (wd - X.length).toNat = d →
  spec_Flagged.l1 (k + fl.length + 1 + d + 1) (strOfNums X) (strOfNums fl) wd = some (strOfNums (if 45 ∈ fl then X ++ List.replicate d 32 else List.replicate d 32 ++ X)) := by
 intro d
 induction d with
 | zero =>
  intro X k hX h
  rw [spec_Flagged.l1, if_neg (by rw [strOfNums_size]; omega)]
  simp
 | succ d ih =>
  intro X k hX h
  have f1 : ((strOfNums X).size : Int) < wd := by rw [strOfNums_size]; omega
  have hh := has_law hf hl 45 (k := k + fl.length + 1 + (d + 1)) (by omega)
  have h1 := ih (X ++ [32]) k (by simp; omega) (by simp; omega)
  have h2 := ih (32 :: X) k (by simp; omega) (by simp; omega)
  have e32 : (⟨#[32]⟩ : ByteArray) = strOfNums [32] := rfl
  rw [spec_Flagged.l1, if_pos f1, hh]
  show (if decide (45 ∈ fl) = true then _ else _) = _
  rw [e32, ← son_app, ← son_app, strOfNums_size]
  by_cases h45 : (45 : Int) ∈ fl
  ·rw [if_pos (decide_eq_true h45), if_pos h45, if_pos (by omega)]
   rw [if_pos h45] at h1
   rw [show k + fl.length + 1 + (d + 1) = k + fl.length + 1 + d + 1 by omega, h1, List.append_assoc, List.replicate_succ]
   rfl
  ·rw [if_neg (by simpa using h45), if_neg h45, if_pos (by omega)]
   rw [if_neg h45] at h2
   rw [show k + fl.length + 1 + (d + 1) = k + fl.length + 1 + d + 1 by omega]
   show spec_Flagged.l1 _ (strOfNums (32 :: X)) _ _ = _
   rw [h2, List.replicate_succ']
   simp
theorem flag_l0 {fl : List Int} (hf : Bys fl) (hl : fl.length ≤ 10000) (wd : Int) (hw : wd ≤ 1000) (sg : List Int) (hsg : sg.length ≤ 1) : ∀ (d : Nat) (X : List Int) (k : Nat), X.length ≤ 1000 → (wd - (sg.length + X.length : Nat)).toNat = d →
  ∀ Z, Z = (if (48 : Int) ∈ fl ∧ (45 : Int) ∉ fl then List.replicate d 48 else []) →
  spec_Flagged.l0 (k + fl.length + 1 + d + d + 4) (strOfNums X) (strOfNums fl) wd (strOfNums sg) =
   some (strOfNums (if 45 ∈ fl then sg ++ Z ++ X ++ List.replicate (wd - (sg ++ Z ++ X).length).toNat 32 else List.replicate (wd - (sg ++ Z ++ X).length).toNat 32 ++ (sg ++ Z ++ X))) := by
 intro d
 have hj3 : ∀ (Y : List Int) (k : Nat), Y.length ≤ 2000 → spec_Flagged.j3 (k + fl.length + 1 + (wd - (sg ++ Y).length).toNat + 2) (strOfNums Y) (strOfNums fl) wd (strOfNums sg) =
   some (strOfNums (if 45 ∈ fl then sg ++ Y ++ List.replicate (wd - (sg ++ Y).length).toNat 32 else List.replicate (wd - (sg ++ Y).length).toNat 32 ++ (sg ++ Y))) := by
  intro Y k hY
  rw [spec_Flagged.j3, if_pos (by rw [strOfNums_size, strOfNums_size]; omega), ← son_app, flag_l1 hf hl wd (by omega) _ (sg ++ Y) k (by simp; omega) rfl]
 induction d with
 | zero =>
  intro X k hX h Z hZ
  have hZ2 : Z = [] := by rw [hZ]; split <;> rfl
  subst hZ2
  have f1 : ¬ wrap64 (((strOfNums sg).size : Int) + ((strOfNums X).size : Int)) < wd := by
   rw [strOfNums_size, strOfNums_size]; unfold wrap64; omega
  have h3 := hj3 X (k + 1) (by omega)
  have e0 : (wd - (sg ++ X).length).toNat = 0 := by simp only [List.length_append]; omega
  rw [e0, show k + 1 + fl.length + 1 + 0 + 2 = k + fl.length + 4 by omega] at h3
  rw [show k + fl.length + 1 + 0 + 0 + 4 = (k + fl.length + 4) + 1 by omega, spec_Flagged.l0, if_neg f1, List.append_nil, e0]
  exact h3
 | succ d ih =>
  intro X k hX h Z hZ
  have f1 : wrap64 (((strOfNums sg).size : Int) + ((strOfNums X).size : Int)) < wd := by
   rw [strOfNums_size, strOfNums_size]; unfold wrap64; omega
  have e0 : (wd - (sg ++ X).length).toNat = d + 1 := by simp only [List.length_append]; omega
  have h48 := has_law hf hl 48 (k := k + fl.length + 2 * d + 6) (by omega)
  have h45 := has_law hf hl 45 (k := k + fl.length + 2 * d + 6) (by omega)
  have h3 := hj3 X (k + d + 2) (by omega)
  rw [e0, show k + d + 2 + fl.length + 1 + (d + 1) + 2 = k + fl.length + 2 * d + 6 by omega] at h3
  have e48 : (⟨#[48]⟩ : ByteArray) = strOfNums [48] := rfl
  have hi := ih (48 :: X) (k + 1)
  rw [show k + 1 + fl.length + 1 + d + d + 4 = k + fl.length + 2 * d + 6 by omega] at hi
  rw [show k + fl.length + 1 + (d + 1) + (d + 1) + 4 = (k + fl.length + 2 * d + 6) + 1 by omega, spec_Flagged.l0, if_pos f1, h48]
  show (if decide (48 ∈ fl) = true then _ else _) = _
  by_cases g48 : (48 : Int) ∈ fl
  ·rw [if_pos (decide_eq_true g48), h45]
   show (if decide (45 ∈ fl) = true then _ else _) = _
   by_cases g45 : (45 : Int) ∈ fl
   ·have hZ2 : Z = [] := by rw [hZ, if_neg (fun e => e.2 g45)]
    subst hZ2
    rw [if_pos (decide_eq_true g45), h3, List.append_nil, e0]
   ·have hZ2 : Z = List.replicate (d + 1) 48 := by rw [hZ, if_pos ⟨g48, g45⟩]
    subst hZ2
    rw [if_pos ⟨g48, g45⟩] at hi
    rw [if_neg (by simpa using g45), if_pos (by rw [strOfNums_size]; omega), e48, ← son_app]
    show spec_Flagged.l0 _ (strOfNums (48 :: X)) _ _ _ = _
    rw [hi (by simp only [List.length_cons]; omega) (by simp only [List.length_cons]; omega) _ rfl]
    have e2 : sg ++ List.replicate d 48 ++ 48 :: X = sg ++ List.replicate (d + 1) 48 ++ X := by rw [List.replicate_succ']; simp
    rw [e2]
  ·have hZ2 : Z = [] := by rw [hZ, if_neg (fun e => g48 e.1)]
   subst hZ2
   rw [if_neg (by simpa using g48), h3, List.append_nil, e0]
end Go.Proofs.YtlbjjhecgceiaaaGreatDoor
namespace Go.Proofs.YtlbjjhecgceiaaaGreatDoor
open Go.RowKit Go.Lib Go.Proofs.YtlbjjhecgceiaaaGreatDoorW.PrintWords Go.Proofs.YtlbjjhecgceiaaaGreatDoorW.PrintLast Go.Proofs.YtlbjjhecgceiaaaGreatDoorW.PrintMore PFnFixSubExact
set_option linter.unusedVariables false
set_option linter.unusedSimpArgs false
set_option maxRecDepth 20000
theorem zeros_any (n : Nat) (hn : n ≤ 10000) (w : World) : Calls Tryz.prog 51 #[.int .i64 n] w (fun e w' => e = .returned (.string (strOfNums (List.replicate n 48))) ∧ Chg (fun _ => False) w w') :=
 (spec_zeros.calls (n + 1) (n : Int) _ w (zeros_law hn (Nat.lt_succ_self _))).mono (fun e w' h => ⟨h.1, chg_of_below h.2⟩)
theorem dtx_le {a k : Nat} (h : a < tn k) (hk : 1 ≤ k) : (dtx a).length ≤ k := by
 rw [dtx_len]
 split
 ·exact hk
 ·exact (db_length _ _).2 h
set_option maxHeartbeats 2000000 in
theorem Plain_none {w : World} {A : Option Addr} {n c a : Nat} (neg : Bool) (ha : SN w A n c a) (ha' : a < tn 1800) :
  Calls Tryz.prog 20 #[.agg #[.bool neg, .slice A n c, .int .i64 0]] w (fun e w' => e = .returned (.string (strOfNums ((if neg = true then [45] else []) ++ dtx a))) ∧ Chg (fun _ => False) w w') := by
 obtain ⟨HC0, HD, hB0⟩ := box1 w #[.bool neg, .slice A n c, .int .i64 0] 43
 have HB := hid (fun w1 (h : Chg (fun _ => False) (w.alloc (.cells #[.bool neg, .slice A n c, .int .i64 0] 43)) w1) => cell3 (kept_heap h hB0))
 have HN := hid (fun w1 (h : Chg (fun _ => False) (w.alloc (.cells #[.bool neg, .slice A n c, .int .i64 0] 43)) w1) => NatString_any (ha.kept (HC0.out.trans h sb_)) ha')
 have hk := Chg.refl (fun _ => False) (w.alloc (.cells #[.bool neg, .slice A n c, .int .i64 0] 43))
 have hsz : (strOfNums (dtx a)).size = (dtx a).length := strOfNums_size _
 have HE := hid (show (⟨#[45]⟩ : ByteArray) ++ strOfNums (dtx a) = strOfNums ([45] ++ dtx a) from (son_app [45] (dtx a)).symm)
 have hle := dtx_le ha' (by omega)
 generalize hS : strOfNums (dtx a) = S at *
 generalize (dtx a).length = LD at *
 have hs1 : 1 + S.size ≤ 9223372036854775807 := by omega
 obtain ⟨d0, d1, d2, f0, f1, f2⟩ := HB.out _ hk
 clear ha ha' hB0 HD
 cases neg with
 | false =>
  go_enter Tryz.func20, Tryz.ntmps20
  go_wp2_with (go_at_call 50; refine (HN.out _ hk).mono ?_; intro e w1 h; obtain ⟨he1, hc1⟩ := h; subst he1; replace hk := hk.trans hc1 sb_; clear hc1 d0 d1 d2 f0 f1 f2; obtain ⟨d0, d1, d2, f0, f1, f2⟩ := HB.out _ hk)
  go_ret
  exact ⟨by rw [← hS]; rfl, HC0.out.trans hk sb_⟩
 | true =>
  go_enter Tryz.func20, Tryz.ntmps20
  go_wp2_with (go_at_call 50; refine (HN.out _ hk).mono ?_; intro e w1 h; obtain ⟨he1, hc1⟩ := h; subst he1; replace hk := hk.trans hc1 sb_; clear hc1 d0 d1 d2 f0 f1 f2; obtain ⟨d0, d1, d2, f0, f1, f2⟩ := HB.out _ hk)
  go_ret
  exact ⟨by show Ending.returned (Value.string ((⟨#[45]⟩ : ByteArray) ++ S)) = _; rw [HE.out]; rfl, HC0.out.trans hk sb_⟩
set_option maxHeartbeats 4000000 in
theorem Plain_cut {w : World} {A : Option Addr} {n c a : Nat} (neg : Bool) (P : Nat) (hP : 0 < P) (hPP : P ≤ 1000) (ha : SN w A n c a) (ha' : a < tn 1800) (hlt : P < (dtx a).length) :
  Calls Tryz.prog 20 #[.agg #[.bool neg, .slice A n c, .int .i64 (-(P : Int))]] w (fun e w' => e = .returned (.string (strOfNums ((if neg = true then [45] else []) ++ plainT a P))) ∧ Chg (fun _ => False) w w') := by
 obtain ⟨HC0, HD, hB0⟩ := box1 w #[.bool neg, .slice A n c, .int .i64 (-(P : Int))] 43
 have HB := hid (fun w1 (h : Chg (fun _ => False) (w.alloc (.cells #[.bool neg, .slice A n c, .int .i64 (-(P : Int))] 43)) w1) => cell3 (kept_heap h hB0))
 have HN := hid (fun w1 (h : Chg (fun _ => False) (w.alloc (.cells #[.bool neg, .slice A n c, .int .i64 (-(P : Int))] 43)) w1) => NatString_any (ha.kept (HC0.out.trans h sb_)) ha')
 have hk := Chg.refl (fun _ => False) (w.alloc (.cells #[.bool neg, .slice A n c, .int .i64 (-(P : Int))] 43))
 have hsz : (strOfNums (dtx a)).size = (dtx a).length := strOfNums_size _
 have hle := dtx_le ha' (by omega)
 obtain ⟨LD, hLD⟩ : ∃ LD, (dtx a).length = LD := ⟨_, rfl⟩
 rw [hLD] at hsz hle hlt
 have HX := hid (show (strOfNums (dtx a)).extract 0 (LD - P) ++ (⟨#[46]⟩ : ByteArray) ++ (strOfNums (dtx a)).extract (LD - P) LD = strOfNums (plainT a P) by
  have e := (plain_cut hP (dtx a) (by rw [show P + 1 - (dtx a).length = 0 by omega]; rfl)).2
  rw [hLD] at e
  rw [son_cut, son_cut, show (⟨#[46]⟩ : ByteArray) = strOfNums [46] from rfl, ← son_app, ← son_app, ← e, List.take_of_length_le (by omega : (dtx a).length ≤ LD)]
  simp)
 generalize hS : strOfNums (dtx a) = S at *
 have hx1 : (S.extract 0 (LD - P)).size = LD - P := by rw [ByteArray.size_extract]; omega
 have hx2 : (S.extract (LD - P) LD).size = P := by rw [ByteArray.size_extract]; omega
 have hneg : (-(P : Int)) < 0 := by omega
 have hnp : ¬ (0 : Int) < -(P : Int) := by omega
 have hw1 : IntKind.i64.wrap (-(-(P : Int))) = (P : Int) := by rw [Int.neg_neg]; exact IntWalk.i64_in _ (by omega)
 have hw2 : IntKind.i64.wrap ((LD : Int) + -(P : Int)) = ((LD - P : Nat) : Int) := by rw [IntWalk.i64_in _ (by omega)]; omega
 have hnle : ¬ (LD : Int) ≤ (P : Int) := by omega
 obtain ⟨d0, d1, d2, f0, f1, f2⟩ := HB.out _ hk
 clear ha ha' hB0 HD
 go_enter Tryz.func20, Tryz.ntmps20
 go_wp2_with (go_at_call 50; refine (HN.out _ hk).mono ?_; intro e w1 h; obtain ⟨he1, hc1⟩ := h; subst he1; replace hk := hk.trans hc1 sb_; clear hc1 d0 d1 d2 f0 f1 f2; obtain ⟨d0, d1, d2, f0, f1, f2⟩ := HB.out _ hk)
 go_quiet (fail)
 replace hk := hk.drewN nq
 clear d0 d1 d2 f0 f1 f2
 obtain ⟨d0, d1, d2, f0, f1, f2⟩ := HB.out _ hk
 have hxs : (S.extract 0 (LD - P) ++ { data := #[46] } ++ S.extract (LD - P) LD).size = LD + 1 := by
  rw [ByteArray.size_append, ByteArray.size_append, hx1, hx2]
  show LD - P + 1 + P = LD + 1
  omega
 generalize (S.extract 0 (LD - P) ++ { data := #[46] } ++ S.extract (LD - P) LD) = X at *
 have hs1 : 1 + X.size ≤ 9223372036854775807 := by omega
 have HE := hid (show (⟨#[45]⟩ : ByteArray) ++ X = strOfNums ([45] ++ plainT a P) by rw [HX.out, son_app]; rfl)
 cases neg with
 | false =>
  go_wp2_with fail
  go_ret
  exact ⟨by exact congrArg (fun s => Ending.returned (Value.string s)) HX.out, HC0.out.trans hk sb_⟩
 | true =>
  go_wp2_with fail
  go_ret
  exact ⟨by show Ending.returned (Value.string ((⟨#[45]⟩ : ByteArray) ++ X)) = _; rw [HE.out]; rfl, HC0.out.trans hk sb_⟩
end Go.Proofs.YtlbjjhecgceiaaaGreatDoor
