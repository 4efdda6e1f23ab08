/- Part 36 of the proof. -/
import Derived.Test.YtldhfhloinlfaaaGreatDoorC33
import Derived.Test.YtldhfhloinlfaaaGreatDoorC35
namespace Go.Proofs.YtldhfhloinlfaaaGreatDoor
open Go.RowKit
set_option linter.unusedVariables false
set_option linter.unusedSimpArgs false
set_option maxRecDepth 20000
theorem ovf_far {w W0 : World} (he : EnvD w) (hc : Chg (fun _ => False) w W0) : ∃ t v, Hid (∀ w1, Chg (fun _ => False) W0 w1 → w1.cell? ⟨0, 0, none⟩ = some (.iface t v)) := by
 obtain ⟨t, v, h⟩ := (he.kept hc).ovf
 exact ⟨t, v, hid (fun w1 hc => cell_kept h hc (fun h => h))⟩
theorem fint_lsh_off (x : Int) (s : Nat) (hs1 : 20 ≤ s) (w : World) :
  Calls Tryz.prog 113 #[.int .u64 x, .int .i64 s] w (fun e w' => e = .returned (.tuple #[.int .u64 0, .bool false]) ∧ w = w') := by
 have h0 : ¬ (s : Int) ≤ 0 := by omega
 have h1 : ((s : Int) == 1) = false := beq_eq_false_iff_ne.2 (by omega)
 have h2 : (20 : Int) ≤ (s : Int) := by omega
 go_enter Tryz.func113, Tryz.ntmps113
 go_wp2_with fail
 first | (go_quiet (fail); go_wp2_with fail) | skip
 go_ret2
 exact ⟨rfl, rfl⟩
def lshV (c s : Nat) : Nat := if s ≤ 19 ∧ c * 10 ^ s < 10 ^ 19 then c * 10 ^ s else 0
theorem lshN_any (c s : Nat) (hc : c < 10 ^ 19) (w : World) (ht : Tab w) :
  Calls Tryz.prog 113 #[.int .u64 (c : Int), .int .i64 s] w (fun e w' => e = .returned (.tuple #[.int .u64 ((lshV c s : Nat) : Int), .bool (decide (s ≤ 19 ∧ c * 10 ^ s < 10 ^ 19))]) ∧ w = w') := by
 unfold lshV
 by_cases hs : s ≤ 19
 ·have h := fint_lsh (c : Int) s (fiN hc) hs w ht
  have hcX : (c : Int) * 10 ^ s = ((c * 10 ^ s : Nat) : Int) := by rw [Int.natCast_mul, pow_cast]
  rw [hcX] at h
  by_cases hX : c * 10 ^ s < 10 ^ 19
  ·rw [if_pos (fiN_iff.2 hX), decide_eq_true (fiN_iff.2 hX)] at h
   rw [if_pos ⟨hs, hX⟩, decide_eq_true ⟨hs, hX⟩]
   exact h
  ·rw [if_neg (fun k => hX (fiN_iff.1 k)), decide_eq_false (fun k => hX (fiN_iff.1 k))] at h
   rw [if_neg (fun k => hX k.2), decide_eq_false (fun k => hX k.2)]
   exact h
 ·rw [if_neg (fun k => hs k.1), decide_eq_false (fun k => hs k.1)]
  exact fint_lsh_off (c : Int) s (by omega) w
def AqR (dc ds ec es fs z Q : Nat) (Y D T : Nat) : Prop :=
 Y < 10 ^ 19 ∧ D < 10 ^ 19 ∧ ds ≤ T ∧ T ≤ 57 ∧ D = dc * 10 ^ (T - ds) ∧ ∃ u v, Y * 10 ^ u = Q * 10 ^ v ∧ T + u + fs = es + (19 - digs ec) + z + v
set_option maxHeartbeats 16000000 in
theorem addQuoFint_gen (dn en fn xn : Bool) (dc ec fc ds es fs m : Nat) (hdc : dc < 10 ^ 19) (hec : ec < 10 ^ 19) (hfc : fc < 10 ^ 19) (hf0 : 0 < fc) (hds : ds ≤ 19) (hes : es ≤ 19) (hfs : fs ≤ 19) (hm : m ≤ 19) (hxn : (!(en == fn)) = xn) (P : Bool → Option (Nat × Nat) → Prop) (w : World) (he : EnvI w) (hpn : P false none)
  (HN : ∀ z Q Y D T : Nat, fc % 10 ^ z = 0 → ec * 10 ^ (19 - digs ec) = Q * (fc / 10 ^ z) → AqR dc ds ec es fs z Q Y D T → (sumS dn D xn Y).2 < 10 ^ 19 → ∀ w1, EnvD w1 → Calls Tryz.prog 117 #[.bool (sumS dn D xn Y).1, .int .u64 (((sumS dn D xn Y).2 : Nat) : Int), .int .i64 (T : Int), .int .i64 m] w1 (PX P w1)) :
  Calls Tryz.prog 94 #[.agg #[.bool dn, .int .i8 ds, .int .u64 (dc : Int)], .agg #[.bool en, .int .i8 es, .int .u64 (ec : Int)], .agg #[.bool fn, .int .i8 fs, .int .u64 (fc : Int)], .int .i64 m] w (PX P w) := by
 have hX := lsh_digs hec
 have hd19 : digs ec ≤ 19 := digs_le.2 hec
 have hpr := fun w ht => fint_prec (ec : Int) (fiN hec) w ht
 rw [Int.toNat_natCast] at hpr
 obtain ⟨j, hj⟩ : ∃ j, 19 - digs ec = j := ⟨_, rfl⟩
 have hwp : IntKind.i64.wrap (19 - (digs ec : Int)) = (j : Int) := by rw [show (19 : Int) - (digs ec : Int) = (j : Int) by omega]; exact IntWalk.i64_in _ (by omega)
 have hj19 : j ≤ 19 := by omega
 unfold AqR at HN
 rw [hj] at HN hX
 have HPR := hid hpr
 clear hpr
 generalize digs ec = PD at *
 clear hj hd19
 have hl := fun w ht => fint_lsh (ec : Int) j (fiN hec) hj19 w ht
 have hcX : (ec : Int) * 10 ^ j = ((ec * 10 ^ j : Nat) : Int) := by rw [Int.natCast_mul, pow_cast]
 have hXM := fiN_iff.2 hX
 simp only [hcX, if_pos hXM, decide_eq_true hXM] at hl
 have hX0 : j = 0 → ec * 10 ^ j = ec := fun h => by rw [h, Nat.pow_zero, Nat.mul_one]
 generalize ec * 10 ^ j = X at *
 have HL := hid hl
 clear hl hcX
 have HZ := hid (fun w ht => fint_ntz (fc : Int) (fiN hfc) w ht)
 have HZG := hid (fun (q : Nat) (hq : q < 10 ^ 19) w ht => fint_ntz (q : Int) (fiN hq) w ht)
 obtain ⟨DS, hDS⟩ : ∃ v : Int, (ds : Int) = v := ⟨_, rfl⟩
 obtain ⟨ES, hES⟩ : ∃ v : Int, (es : Int) = v := ⟨_, rfl⟩
 obtain ⟨FS, hFS⟩ : ∃ v : Int, (fs : Int) = v := ⟨_, rfl⟩
 obtain ⟨S1, hS1⟩ : ∃ v : Int, ES + (j : Int) = v := ⟨_, rfl⟩
 have hwS : IntKind.i64.wrap (ES + (j : Int)) = S1 := by rw [hS1]; exact IntWalk.i64_in _ (by omega)
 obtain ⟨DC, hDC⟩ : ∃ v : Int, (dc : Int) = v := ⟨_, rfl⟩
 obtain ⟨EC, hEC⟩ : ∃ v : Int, (ec : Int) = v := ⟨_, rfl⟩
 obtain ⟨FC, hFC⟩ : ∃ v : Int, (fc : Int) = v := ⟨_, rfl⟩
 obtain ⟨XI, hXI⟩ : ∃ v : Int, (X : Int) = v := ⟨_, rfl⟩
 have HND := hid (fun w => IsNeg_any dn DC ds w)
 have HNE := hid (fun w => IsNeg_any en EC es w)
 have HNF := hid (fun w => IsNeg_any fn FC fs w)
 rw [hEC] at HPR HL
 rw [hFC] at HZ
 rw [hXI] at HL
 rw [hDC, hEC, hFC]
 have HSD := hid (fun w => Scale_as dn DC ds DS hds hDS w)
 have HSE := hid (fun w => Scale_as en EC es ES hes hES w)
 have HSF := hid (fun w => Scale_as fn FC fs FS hfs hFS w)
 obtain ⟨HB, HBX, HC0, hk⟩ := bx4 w dn ds DC en es EC fn fs FC
 have HT := hid (fun w1 h => (he.kept HC0.out).kept (w' := w1) h)
 obtain ⟨t, v, HOV⟩ := ovf_far he.1 HC0.out
 obtain ⟨t2, v2, HIV⟩ : ∃ t v, Hid (∀ w1, Chg (fun _ => False) ((((w.alloc (.cells #[.bool dn, .int .i8 ds, .int .u64 DC] 53)).alloc (.cells #[.bool en, .int .i8 es, .int .u64 EC] 53)).alloc (.cells #[.bool fn, .int .i8 fs, .int .u64 FC] 53)).alloc (.cells #[.bool false, .int .i8 0, .int .u64 0] 53)) w1 → w1.cell? ⟨1, 0, none⟩ = some (.iface t v)) := by
  obtain ⟨t, v, h⟩ := (he.kept HC0.out).2
  exact ⟨t, v, hid (fun w1 hc => cell_kept h hc (fun h => h))⟩
 have HSS := hid (fun w' (h : Chg (fun _ => False) ((((w.alloc (.cells #[.bool dn, .int .i8 ds, .int .u64 DC] 53)).alloc (.cells #[.bool en, .int .i8 es, .int .u64 EC] 53)).alloc (.cells #[.bool fn, .int .i8 fs, .int .u64 FC] 53)).alloc (.cells #[.bool false, .int .i8 0, .int .u64 0] 53)) w') => (show w'.cell? ⟨w.heap.size + 1, 0, none⟩ = some (.bool en) ∧ w'.cell? ⟨w.heap.size + 1, 1, none⟩ = some (.int .i8 es) ∧ w'.cell? ⟨w.heap.size + 1, 2, none⟩ = some (.int .u64 EC) ∧ w'.cell? ⟨w.heap.size + 1 + 1, 0, none⟩ = some (.bool fn) ∧ w'.cell? ⟨w.heap.size + 1 + 1, 1, none⟩ = some (.int .i8 fs) ∧ w'.cell? ⟨w.heap.size + 1 + 1, 2, none⟩ = some (.int .u64 FC) from ⟨(HB.out _ h).2.2.2.1, (HB.out _ h).2.2.2.2.1, (HB.out _ h).2.2.2.2.2.1, (HB.out _ h).2.2.2.2.2.2.1, (HB.out _ h).2.2.2.2.2.2.2.1, (HB.out _ h).2.2.2.2.2.2.2.2.1⟩))
 have HPN := hid hpn
 have HHN := hid HN
 have HNUM := hid (And.intro hdc (And.intro hec (And.intro hfc (And.intro hX (And.intro hf0 hXI)))))
 have HLET := hid (And.intro hDC (And.intro hEC (And.intro hFC (And.intro hDS (And.intro hES (And.intro hFS hS1))))))
 have HBD := hid (And.intro hds (And.intro hes (And.intro hfs hj19)))
 have HX0 := hid hX0
 obtain ⟨d0, d1, d2, e0, e1, e2, f0, f1, f2, r0, r1, r2, q0, q1, q2⟩ := HB.out _ (hk)
 have ov := HOV.out _ hk
 have iv := HIV.out _ hk
 clear he hpn HN hdc hec hfc hX hXM hX0 hXI hDC hEC hFC hDS hES hFS hS1 hds hes hfs hj19 hf0 hm
 go_enter Tryz.func94, Tryz.ntmps94
 go_upto_if 39 with (first | (go_at_call 77; (first | refine (HSD.out _).mono ?_ | refine (HSE.out _).mono ?_ | refine (HSF.out _).mono ?_); intro e w1 h; obtain ⟨he1, hc1⟩ := h; subst he1; replace hk := hk.trans hc1 sb_; clear hc1; clear d0 d1 d2 e0 e1 e2 f0 f1 f2 r0 r1 r2 q0 q1 q2 ov iv; obtain ⟨d0, d1, d2, e0, e1, e2, f0, f1, f2, r0, r1, r2, q0, q1, q2⟩ := HB.out _ (hk); have ov := HOV.out _ hk; have iv := HIV.out _ hk) | (go_at_call 75; (first | refine (HND.out _).mono ?_ | refine (HNE.out _).mono ?_ | refine (HNF.out _).mono ?_); intro e w1 h; obtain ⟨he1, hc1⟩ := h; subst he1; replace hk := hk.trans hc1 sb_; clear hc1; clear d0 d1 d2 e0 e1 e2 f0 f1 f2 r0 r1 r2 q0 q1 q2 ov iv; obtain ⟨d0, d1, d2, e0, e1, e2, f0, f1, f2, r0, r1, r2, q0, q1, q2⟩ := HB.out _ (hk); have ov := HOV.out _ hk; have iv := HIV.out _ hk) | (go_at_call 112; refine (HPR.out _ (HT.out _ hk).1.env.tab).mono ?_; intro e w2 h; obtain ⟨he1, he2⟩ := h; subst he1; subst he2))
 go_cut [13, 14, 17] (fun a b c wx => a = .int .u64 XI ∧ b = .int .i64 S1 ∧ (∃ q, c = .bool q) ∧ Hid (Chg (fun _ => False) ((((w.alloc (.cells #[.bool dn, .int .i8 ds, .int .u64 DC] 53)).alloc (.cells #[.bool en, .int .i8 es, .int .u64 EC] 53)).alloc (.cells #[.bool fn, .int .i8 fs, .int .u64 FC] 53)).alloc (.cells #[.bool false, .int .i8 0, .int .u64 0] 53)) wx))
 case first =>
  by_cases c1 : (0 : Int) < (j : Int)
  ·go_wp2_with (first | (go_at_call 113; refine (HL.out _ (HT.out _ hk).1.env.tab).mono ?_; intro e w2 h; obtain ⟨he1, he2⟩ := h; subst he1; subst he2))
   go_meet
   exact ⟨rfl, rfl, ⟨_, rfl⟩, hk⟩
  ·have h1 : S1 = ES := by have := HLET.out; omega
   have h2 : XI = EC := by have h3 := HX0.out (by omega); have h4 := HNUM.out; have h5 := HLET.out; omega
   go_wp2_with fail
   go_meet
   exact ⟨by rw [h2], by rw [h1], ⟨_, rfl⟩, hk⟩
 case rest =>
  obtain ⟨g1, g2, ⟨q1b, g3⟩, hk1⟩ := hcut
  subst g1
  subst g2
  subst g3
  clear d0 d1 d2 e0 e1 e2 f0 f1 f2 r0 r1 r2 q0 q1 q2 ov iv
  clear hk
  have hk := hk1.out
  clear hk1 hwp hwS
  obtain ⟨d0, d1, d2, e0, e1, e2, f0, f1, f2, r0, r1, r2, q0, q1, q2⟩ := HB.out _ (hk)
  have ov := HOV.out _ hk
  have iv := HIV.out _ hk
  go_upto_if 56 with (first | (go_at_call 114; refine (HZ.out _ (HT.out _ hk).1.env.tab).mono ?_; intro e w2 h; obtain ⟨z, he1, hz1, hz2, he2⟩ := h; subst he1; subst he2))
  have hnum := HNUM.out
  have hlet := HLET.out
  have hbd := HBD.out
  have hz3 : fc % 10 ^ z = 0 := by rw [← hlet.2.2.1, ← pow_cast] at hz2; exact_mod_cast hz2
  obtain ⟨hF0, hF1, hF2⟩ := rd_facts hnum.2.2.1 hnum.2.2.2.2.1 hz3
  have hrd := fun w ht (h : 1 ≤ z) => rsh_any fc z hnum.2.2.1 h (by omega) w ht
  have hF00 : z = 0 → fc / 10 ^ z = fc := fun h => by rw [h, Nat.pow_zero, Nat.div_one]
  have hhn := HHN.out z
  generalize fc / 10 ^ z = F at *
  obtain ⟨FI, hFI⟩ : ∃ v : Int, (F : Int) = v := ⟨_, rfl⟩
  obtain ⟨S2, hS2⟩ : ∃ v : Int, S1 + (z : Int) = v := ⟨_, rfl⟩
  have hwz : IntKind.i64.wrap (S1 + (z : Int)) = S2 := by rw [hS2]; exact IntWalk.i64_in _ (by omega)
  rw [hFI, hlet.2.2.1] at hrd
  have h2 : z = 0 → FI = FC := fun h => by have h3 := hF00 h; have h4 := hlet.2.2.1; omega
  have h1 : z = 0 → S2 = S1 := fun h => by omega
  have H12 := hid (And.intro h1 h2)
  have HHR := hid hrd
  have HHN2 := hid (hhn)
  have HFF := hid (And.intro hF0 (And.intro hF1 (And.intro hF2 (And.intro hFI (And.intro hS2 (And.intro hz1 hz3))))))
  clear hnum hlet hbd hz1 hz2 hz3 hF0 hF1 hF2 hrd hF00 hhn hFI hS2 h1 h2
  go_cut [16, 14] (fun a b wx => a = .int .u64 FI ∧ b = .int .i64 S2 ∧ Hid (Chg (fun _ => False) ((((w.alloc (.cells #[.bool dn, .int .i8 ds, .int .u64 DC] 53)).alloc (.cells #[.bool en, .int .i8 es, .int .u64 EC] 53)).alloc (.cells #[.bool fn, .int .i8 fs, .int .u64 FC] 53)).alloc (.cells #[.bool false, .int .i8 0, .int .u64 0] 53)) wx))
  case first =>
   by_cases c2 : (0 : Int) < (z : Int)
   ·have HRD := hid (fun w ht => HHR.out w ht (by omega))
    go_wp2_with (first | (go_at_call 115; refine (HRD.out _ (HT.out _ hk).1.env.tab).mono ?_; intro e w2 h; obtain ⟨he1, he2⟩ := h; subst he1; subst he2))
    go_meet
    exact ⟨rfl, rfl, hk⟩
   ·have h1 := H12.out.1 (by omega)
    have h2 := H12.out.2 (by omega)
    go_wp2_with fail
    go_meet
    exact ⟨by rw [h2], by rw [h1], hk⟩
  case rest =>
   obtain ⟨g1, g2, hk1⟩ := hcut
   subst g1
   subst g2
   clear d0 d1 d2 e0 e1 e2 f0 f1 f2 r0 r1 r2 q0 q1 q2 ov iv
   clear hk hwz
   have hk := hk1.out
   clear hk1
   obtain ⟨d0, d1, d2, e0, e1, e2, f0, f1, f2, r0, r1, r2, q0, q1, q2⟩ := HB.out _ (hk)
   have ov := HOV.out _ hk
   have iv := HIV.out _ hk
   have hqu := fun w => fint_quo (X : Int) (F : Int) (fiN HNUM.out.2.2.2.1) (fiN HFF.out.2.1) (by have := HFF.out.1; omega) w
   have hcast : (X : Int) % (F : Int) = ((X % F : Nat) : Int) := (Int.natCast_emod X F).symm
   have hcast2 : (X : Int) / (F : Int) = ((X / F : Nat) : Int) := (Int.natCast_ediv X F).symm
   rw [hcast, hcast2, HNUM.out.2.2.2.2.2, HFF.out.2.2.2.1] at hqu
   clear hcast hcast2
   by_cases hx : X % F = 0
   case neg =>
    have hx' : ¬ ((X % F : Nat) : Int) = 0 := by omega
    simp only [hx', if_false, decide_false] at hqu
    have HQU := hid hqu
    clear hqu hx hx'
    go_wp2_with (first | (go_at_call 116; refine (HQU.out _).mono ?_; intro e w2 h; obtain ⟨he1, he2⟩ := h; subst he1; subst he2))
    go_region
    all_goals (go_wp2_with fail; exact bodyPost_ret (v := .tuple #[.agg #[.bool false, .int .i8 0, .int .u64 0], .iface t2 v2]) (dec_result rfl _ _ (w.heap.size + 1 + 1 + 1) _ _ _ _ 53 rfl rfl (store3 (HBX.out _ hk) _ _ _)) rfl ⟨false, none, HPN.out, (chg3 (HC0.out.trans hk sb_) (by omega) _ _ _).drew, t2, v2, rfl⟩)
   case pos =>
   have hQX : X = X / F * F := (Nat.div_mul_cancel (Nat.dvd_of_mod_eq_zero hx)).symm
   have hQ19 : X / F < 10 ^ 19 := Nat.lt_of_le_of_lt (Nat.div_le_self _ _) HNUM.out.2.2.2.1
   simp only [hx, Int.natCast_zero, if_true, decide_true] at hqu
   generalize X / F = Q at *
   obtain ⟨QI, hQI⟩ : ∃ v : Int, (Q : Int) = v := ⟨_, rfl⟩
   rw [hQI] at hqu
   have HQU := hid hqu
   obtain ⟨S3, hS3⟩ : ∃ v : Int, S2 - FS = v := ⟨_, rfl⟩
   have hS3b : (ds : Int) = DS ∧ (es : Int) = ES ∧ (fs : Int) = FS ∧ S3 + (fs : Int) = (es : Int) + (j : Int) + (z : Int) ∧ ds ≤ 19 ∧ es ≤ 19 ∧ fs ≤ 19 ∧ j ≤ 19 ∧ z ≤ 18 := by
    have h1 := HLET.out; have h2 := HBD.out; have h3 := HFF.out
    refine ⟨h1.2.2.2.1, h1.2.2.2.2.1, h1.2.2.2.2.2.1, by omega, by omega, by omega, by omega, by omega, by omega⟩
   have hws : IntKind.i64.wrap (S2 - FS) = S3 := by rw [hS3]; have h1 := hS3b; exact IntWalk.i64_in _ (by omega)
   have HQ := hid (And.intro hQX (And.intro hQ19 hQI))
   have HS3 := hid hS3b
   have HX1 := hid hx
   have HHN3 := hid (fun (Y D T : Nat) => HHN2.out Q Y D T HFF.out.2.2.2.2.2.2 hQX)
   clear hqu hx hQX hQ19 hQI hS3 hS3b
   go_upto_block 0 with (first | (go_at_call 116; refine (HQU.out _).mono ?_; intro e w2 h; obtain ⟨he1, he2⟩ := h; subst he1; subst he2) | (go_at_call 77; (first | refine (HSD.out _).mono ?_ | refine (HSE.out _).mono ?_ | refine (HSF.out _).mono ?_); intro e w1 h; obtain ⟨he1, hc1⟩ := h; subst he1; replace hk := hk.trans hc1 sb_; clear hc1; clear d0 d1 d2 e0 e1 e2 f0 f1 f2 r0 r1 r2 q0 q1 q2 ov iv; obtain ⟨d0, d1, d2, e0, e1, e2, f0, f1, f2, r0, r1, r2, q0, q1, q2⟩ := HB.out _ (hk); have ov := HOV.out _ hk; have iv := HIV.out _ hk) | (go_at_call 75; (first | refine (HND.out _).mono ?_ | refine (HNE.out _).mono ?_ | refine (HNF.out _).mono ?_); intro e w1 h; obtain ⟨he1, hc1⟩ := h; subst he1; replace hk := hk.trans hc1 sb_; clear hc1; clear d0 d1 d2 e0 e1 e2 f0 f1 f2 r0 r1 r2 q0 q1 q2 ov iv; obtain ⟨d0, d1, d2, e0, e1, e2, f0, f1, f2, r0, r1, r2, q0, q1, q2⟩ := HB.out _ (hk); have ov := HOV.out _ hk; have iv := HIV.out _ hk))
   go_cut [13, 10, 11] (fun a b c wx => ∃ Y D T : Nat, a = .int .u64 (Y : Int) ∧ b = .int .u64 (D : Int) ∧ c = .int .i64 (T : Int) ∧ Hid (Y < 10 ^ 19 ∧ D < 10 ^ 19 ∧ ds ≤ T ∧ T ≤ 57 ∧ D = dc * 10 ^ (T - ds) ∧ ∃ u v, Y * 10 ^ u = Q * 10 ^ v ∧ T + u + fs = es + j + z + v) ∧ Hid (Chg (fun _ => False) ((((w.alloc (.cells #[.bool dn, .int .i8 ds, .int .u64 DC] 53)).alloc (.cells #[.bool en, .int .i8 es, .int .u64 EC] 53)).alloc (.cells #[.bool fn, .int .i8 fs, .int .u64 FC] 53)).alloc (.cells #[.bool false, .int .i8 0, .int .u64 0] 53)) wx))
   case first =>
    rcases Int.lt_trichotomy S3 DS with hlt | hlt | hlt
    ·
     obtain ⟨k1, hk1⟩ : ∃ k1 : Nat, (k1 : Int) = DS - S3 := ⟨(DS - S3).toNat, by omega⟩
     have hw1 : IntKind.i64.wrap (DS - S3) = (k1 : Int) := by rw [← hk1]; have := HS3.out; exact IntWalk.i64_in _ (by omega)
     have hls := fun w ht => lshN_any Q k1 HQ.out.2.1 w ht
     rw [HQ.out.2.2] at hls
     by_cases hok : k1 ≤ 19 ∧ Q * 10 ^ k1 < 10 ^ 19
     ·rw [decide_eq_true hok] at hls
      have hV : lshV Q k1 = Q * 10 ^ k1 := by unfold lshV; rw [if_pos hok]
      rw [hV] at hls
      have HL := hid hls
      have HK := hid (And.intro hk1 hok)
      clear hls hok hV hk1
      go_wp2_with (first | (go_at_call 113; refine (HL.out _ (HT.out _ hk).1.env.tab).mono ?_; intro e w2 h; obtain ⟨he1, he2⟩ := h; subst he1; subst he2))
      go_meet
      refine ⟨Q * 10 ^ k1, dc, ds, rfl, by rw [HLET.out.1], by rw [HLET.out.2.2.2.1], ⟨HK.out.2.2, HNUM.out.1, Nat.le_refl _, ?_, by rw [Nat.sub_self, Nat.pow_zero, Nat.mul_one], 0, k1, by rw [Nat.pow_zero, Nat.mul_one], ?_⟩, hk⟩
      ·have := HS3.out; omega
      ·have := HS3.out; have := HK.out.1; omega
     ·rw [decide_eq_false hok] at hls
      have HL := hid hls
      clear hls hok hk1
      go_wp2_with (first | (go_at_call 113; refine (HL.out _ (HT.out _ hk).1.env.tab).mono ?_; intro e w2 h; obtain ⟨he1, he2⟩ := h; subst he1; subst he2))
      go_region
      all_goals (go_wp2_with fail; exact bodyPost_ret (v := .tuple #[.agg #[.bool false, .int .i8 0, .int .u64 0], .iface t v]) (dec_result rfl _ _ (w.heap.size + 1 + 1 + 1) _ _ _ _ 53 rfl rfl (store3 (HBX.out _ hk) _ _ _)) rfl ⟨false, none, HPN.out, (chg3 (HC0.out.trans hk sb_) (by omega) _ _ _).drew, t, v, rfl⟩)
    ·
     have c3 : ¬ S3 < DS := by omega
     have c4 : ¬ DS < S3 := by omega
     have HE3 := hid hlt
     clear hlt
     go_wp2_with fail
     go_meet
     refine ⟨Q, dc, ds, by rw [HQ.out.2.2], by rw [HLET.out.1], by rw [HLET.out.2.2.2.1], ⟨HQ.out.2.1, HNUM.out.1, Nat.le_refl _, ?_, by rw [Nat.sub_self, Nat.pow_zero, Nat.mul_one], 0, 0, rfl, ?_⟩, hk⟩
     ·have := HS3.out; omega
     ·have := HS3.out; have := HE3.out; omega
    ·
     have c3 : ¬ S3 < DS := by omega
     obtain ⟨A1, hA1⟩ : ∃ v : Int, S3 - ES = v := ⟨_, rfl⟩
     obtain ⟨A2, hA2⟩ : ∃ v : Int, A1 + FS = v := ⟨_, rfl⟩
     obtain ⟨A3, hA3⟩ : ∃ v : Int, S3 - DS = v := ⟨_, rfl⟩
     have hs3 := HS3.out
     have hw1 : IntKind.i64.wrap (S3 - ES) = A1 := by rw [hA1]; exact IntWalk.i64_in _ (by omega)
     have hw2 : IntKind.i64.wrap (A1 + FS) = A2 := by rw [hA2]; exact IntWalk.i64_in _ (by omega)
     have hw3 : IntKind.i64.wrap (S3 - DS) = A3 := by rw [hA3]; exact IntWalk.i64_in _ (by omega)
     have hzq := fun w ht => HZG.out Q HQ.out.2.1 w ht
     rw [HQ.out.2.2] at hzq
     have HZQ := hid hzq
     have hmin := fun ts t x y z w => min3_run (P := Tryz.prog) ts t x y z w
     have HA := hid (And.intro hA1 (And.intro hA2 (And.intro hA3 hlt)))
     clear hzq hs3 hA1 hA2 hA3
     go_upto_region 29 with fail
     go_cut [20] (fun a wx => ∃ sh : Nat, a = .int .i64 (sh : Int) ∧ Hid (Q % 10 ^ sh = 0 ∧ sh ≤ 18 ∧ (sh : Int) ≤ A3) ∧ Hid (Chg (fun _ => False) ((((w.alloc (.cells #[.bool dn, .int .i8 ds, .int .u64 DC] 53)).alloc (.cells #[.bool en, .int .i8 es, .int .u64 EC] 53)).alloc (.cells #[.bool fn, .int .i8 fs, .int .u64 FC] 53)).alloc (.cells #[.bool false, .int .i8 0, .int .u64 0] 53)) wx))
     case first =>
      have hk := hk.drew
      first | (go_region_held3 (fun w' => w'.cell? ⟨w.heap.size + 1, 0, none⟩ = some (.bool en) ∧ w'.cell? ⟨w.heap.size + 1, 1, none⟩ = some (.int .i8 es) ∧ w'.cell? ⟨w.heap.size + 1, 2, none⟩ = some (.int .u64 EC) ∧ w'.cell? ⟨w.heap.size + 1 + 1, 0, none⟩ = some (.bool fn) ∧ w'.cell? ⟨w.heap.size + 1 + 1, 1, none⟩ = some (.int .i8 fs) ∧ w'.cell? ⟨w.heap.size + 1 + 1, 2, none⟩ = some (.int .u64 FC)) (first | with_reducible exact HSS.out _ hk) (first | (go_at_call 77; (first | refine (HSE.out _).mono ?_ | refine (HSF.out _).mono ?_); intro e w1 h; obtain ⟨he1, hc1⟩ := h; subst he1; replace hk := hk.trans hc1 sb_; clear hc1) | (go_at_call 114; refine (HZQ.out _ (HT.out _ hk).1.env.tab).mono ?_; intro e w2 h; obtain ⟨zq, he1, hq1, hq2, he2⟩ := h; subst he1; subst he2; have HZF := hid (And.intro hq1 hq2); clear hq1 hq2))) | fail
      all_goals (
       go_wp2_with fail
       go_meet
       have hzf := HZF.out
       have ha := HA.out
       have hs3 := HS3.out
       have hq3 : Q % 10 ^ zq = 0 := (by have h2 := hzf.2; rw [← HQ.out.2.2, ← pow_cast] at h2; exact_mod_cast h2)
       obtain ⟨sh, hsh⟩ : ∃ sh : Nat, (sh : Int) = min (min A2 A3) (zq : Int) := ⟨(min (min A2 A3) (zq : Int)).toNat, (by omega)⟩
       exact ⟨sh, (by rw [hsh]; first | rfl | (rw [Int.min_assoc])), ⟨dvd_less (by omega) hq3, (by omega), (by omega)⟩, hk⟩)
     case rest =>
      obtain ⟨sh, g1, hsf, hk1⟩ := hcut
      subst g1
      clear d0 d1 d2 e0 e1 e2 f0 f1 f2 r0 r1 r2 q0 q1 q2 ov iv
      clear hk hw1 hw2 hw3 hmin
      have hk := hk1.out
      clear hk1
      obtain ⟨d0, d1, d2, e0, e1, e2, f0, f1, f2, r0, r1, r2, q0, q1, q2⟩ := HB.out _ (hk)
      have ov := HOV.out _ hk
      have iv := HIV.out _ hk
      have HSH := hid hsf.out
      have hs3 := HS3.out
      have ha := HA.out
      have hsh := hsf.out
      obtain ⟨S4, hS4⟩ : ∃ v : Int, S3 - (sh : Int) = v := ⟨_, rfl⟩
      obtain ⟨k2, hk2⟩ : ∃ k2 : Nat, (k2 : Int) = S4 - DS := ⟨(S4 - DS).toNat, by omega⟩
      obtain ⟨T, hT⟩ : ∃ T : Nat, (T : Int) = S4 := ⟨S4.toNat, by omega⟩
      have hw1 : IntKind.i64.wrap (S3 - (sh : Int)) = S4 := by rw [hS4]; exact IntWalk.i64_in _ (by omega)
      have hw2 : IntKind.i64.wrap (S4 - DS) = (k2 : Int) := by rw [← hk2]; exact IntWalk.i64_in _ (by omega)
      have hQd : Q / 10 ^ sh * 10 ^ sh = Q := Nat.div_mul_cancel (Nat.dvd_of_mod_eq_zero hsh.1)
      have hQl : Q / 10 ^ sh < 10 ^ 19 := Nat.lt_of_le_of_lt (Nat.div_le_self _ _) HQ.out.2.1
      have hrd := fun w ht (h : 1 ≤ sh) => rsh_any Q sh HQ.out.2.1 h (by omega) w ht
      have hQ0 : sh = 0 → Q / 10 ^ sh = Q := fun h => by rw [h, Nat.pow_zero, Nat.div_one]
      obtain ⟨Y, hY⟩ : ∃ Y, Q / 10 ^ sh = Y := ⟨_, rfl⟩
      rw [hY] at hrd hQd hQl hQ0
      obtain ⟨YI, hYI⟩ : ∃ v : Int, (Y : Int) = v := ⟨_, rfl⟩
      rw [hYI, HQ.out.2.2] at hrd
      have h1 : sh = 0 → YI = QI := fun h => by have h3 := hQ0 h; have h4 := HQ.out.2.2; omega
      have h2 : sh = 0 → S4 = S3 := fun h => by omega
      have H12 := hid (And.intro h1 h2)
      have hls := fun w ht => lshN_any dc k2 HNUM.out.1 w ht
      rw [HLET.out.1] at hls
      have HFIN := hid (And.intro hQd (And.intro hQl (And.intro hYI (And.intro hT (And.intro hk2 hS4)))))
      have HHR := hid hrd
      clear hs3 ha hsh hsf hS4 hk2 hT hQd hQl hrd hQ0 hY hYI h1 h2
      by_cases hok : k2 ≤ 19 ∧ dc * 10 ^ k2 < 10 ^ 19
      ·rw [decide_eq_true hok] at hls
       have hV : lshV dc k2 = dc * 10 ^ k2 := by unfold lshV; rw [if_pos hok]
       rw [hV] at hls
       have HL := hid hls
       have HK := hid hok
       clear hls hok hV
       by_cases c5 : (0 : Int) < (sh : Int)
       ·have HRD := hid (fun w ht => HHR.out w ht (by omega))
        go_wp2_with (first | (go_at_call 115; refine (HRD.out _ (HT.out _ hk).1.env.tab).mono ?_; intro e w2 h; obtain ⟨he1, he2⟩ := h; subst he1; subst he2) | (go_at_call 113; refine (HL.out _ (HT.out _ hk).1.env.tab).mono ?_; intro e w2 h; obtain ⟨he1, he2⟩ := h; subst he1; subst he2))
        go_meet
        have hs3 := HS3.out
        have hf := HFIN.out
        have hsh := HSH.out
        have e2 : T - ds = k2 := (by omega)
        exact ⟨Y, dc * 10 ^ k2, T, (by rw [hf.2.2.1]), rfl, (by rw [hf.2.2.2.1]), ⟨hf.2.1, HK.out.2, (by omega), (by omega), (by rw [e2]), sh, 0, (by rw [Nat.pow_zero, Nat.mul_one]; exact hf.1), (by omega)⟩, hk⟩
       ·have h1 := H12.out.1 (by omega)
        have h2 := H12.out.2 (by omega)
        subst h1
        subst h2
        go_wp2_with (first | (go_at_call 113; refine (HL.out _ (HT.out _ hk).1.env.tab).mono ?_; intro e w2 h; obtain ⟨he1, he2⟩ := h; subst he1; subst he2))
        go_meet
        have hs3 := HS3.out
        have hf := HFIN.out
        have hsh := HSH.out
        have e2 : T - ds = k2 := (by omega)
        exact ⟨Y, dc * 10 ^ k2, T, (by rw [hf.2.2.1]), rfl, (by rw [hf.2.2.2.1]), ⟨hf.2.1, HK.out.2, (by omega), (by omega), (by rw [e2]), sh, 0, (by rw [Nat.pow_zero, Nat.mul_one]; exact hf.1), (by omega)⟩, hk⟩
      ·rw [decide_eq_false hok] at hls
       have HL := hid hls
       clear hls hok
       by_cases c5 : (0 : Int) < (sh : Int)
       ·have HRD := hid (fun w ht => HHR.out w ht (by omega))
        go_wp2_with (first | (go_at_call 115; refine (HRD.out _ (HT.out _ hk).1.env.tab).mono ?_; intro e w2 h; obtain ⟨he1, he2⟩ := h; subst he1; subst he2) | (go_at_call 113; refine (HL.out _ (HT.out _ hk).1.env.tab).mono ?_; intro e w2 h; obtain ⟨he1, he2⟩ := h; subst he1; subst he2))
        go_region
        all_goals (go_wp2_with fail; exact bodyPost_ret (v := .tuple #[.agg #[.bool false, .int .i8 0, .int .u64 0], .iface t v]) (dec_result rfl _ _ (w.heap.size + 1 + 1 + 1) _ _ _ _ 53 rfl rfl (store3 (HBX.out _ hk) _ _ _)) rfl ⟨false, none, HPN.out, (chg3 (HC0.out.trans hk sb_) (by omega) _ _ _).drew, t, v, rfl⟩)
       ·have h1 := H12.out.1 (by omega)
        have h2 := H12.out.2 (by omega)
        subst h1
        subst h2
        go_wp2_with (first | (go_at_call 113; refine (HL.out _ (HT.out _ hk).1.env.tab).mono ?_; intro e w2 h; obtain ⟨he1, he2⟩ := h; subst he1; subst he2))
        go_region
        all_goals (go_wp2_with fail; exact bodyPost_ret (v := .tuple #[.agg #[.bool false, .int .i8 0, .int .u64 0], .iface t v]) (dec_result rfl _ _ (w.heap.size + 1 + 1 + 1) _ _ _ _ 53 rfl rfl (store3 (HBX.out _ hk) _ _ _)) rfl ⟨false, none, HPN.out, (chg3 (HC0.out.trans hk sb_) (by omega) _ _ _).drew, t, v, rfl⟩)
   case rest =>
    obtain ⟨Y, D, T, g1, g2, g3, hr, hk1⟩ := hcut
    subst g1
    subst g2
    subst g3
    clear d0 d1 d2 e0 e1 e2 f0 f1 f2 r0 r1 r2 q0 q1 q2 ov iv
    clear hk hws
    have hk := hk1.out
    clear hk1
    obtain ⟨d0, d1, d2, e0, e1, e2, f0, f1, f2, r0, r1, r2, q0, q1, q2⟩ := HB.out _ (hk)
    have ov := HOV.out _ hk
    have iv := HIV.out _ hk
    have hY19 := hr.out.1
    have hD19 := hr.out.2.1
    have hn := HHN3.out Y D T hr.out
    clear hr
    obtain ⟨YI, hYI⟩ : ∃ v : Int, (Y : Int) = v := ⟨_, rfl⟩
    obtain ⟨DI, hDI⟩ : ∃ v : Int, (D : Int) = v := ⟨_, rfl⟩
    obtain ⟨TI, hTI⟩ : ∃ v : Int, (T : Int) = v := ⟨_, rfl⟩
    rw [hTI] at hn
    have ha := fun w => fint_add (D : Int) (Y : Int) (fiN hD19) (fiN hY19) w
    have hsu := fun w => fint_subAbs (D : Int) (Y : Int) (fiN hD19) (fiN hY19) w
    by_cases hs : dn = xn
    ·have hse : (dn == xn) = true := by rw [hs]; exact beq_self_eq_true xn
     rw [show sumS dn D xn Y = (dn, D + Y) by unfold sumS; rw [if_pos hs]] at hn
     by_cases hC : D + Y < 10 ^ 19
     ·have hC2 : (D : Int) + (Y : Int) ≤ 9999999999999999999 := by rw [← Int.natCast_add, fiN_iff]; exact hC
      have hF := hn hC
      rw [show (((dn, D + Y) : Bool × Nat).2 : Int) = (D : Int) + (Y : Int) from Int.natCast_add D Y] at hF
      simp only [if_pos hC2, decide_eq_true hC2] at ha
      rw [hDI, hYI] at ha hF
      rw [hTI, hDI, hYI]
      have HA := hid ha
      have HF := hid hF
      have HSE1 := hid hs
      clear ha hsu hn hF hC hC2 hs hYI hDI hTI hY19 hD19
      go_wp2_with (first | (go_at_call 121; refine (HA.out _).mono ?_; intro e w2 h; obtain ⟨he1, he2⟩ := h; subst he1; subst he2) | (go_at_call 117; refine (HF.out _ (HT.out _ hk).1).mono ?_; intro e w1 h; obtain ⟨na, nb, nc, nv, he1, hc1, hp⟩ := h.op; subst he1; replace hk := hk.trans hc1 sb_; clear h hc1; clear d0 d1 d2 e0 e1 e2 f0 f1 f2 r0 r1 r2 q0 q1 q2 ov iv; obtain ⟨d0, d1, d2, e0, e1, e2, f0, f1, f2, r0, r1, r2, q0, q1, q2⟩ := HB.out _ (hk); have ov := HOV.out _ hk; have iv := HIV.out _ hk; have HP := hid hp; clear hp))
      exact bodyPost_ret (v := .tuple #[.agg #[.bool na, .int .i8 nb, .int .u64 nc], nv]) (dec_result rfl _ _ (w.heap.size + 1 + 1 + 1) _ _ _ _ 53 rfl rfl (store3 (HBX.out _ hk) _ _ _)) rfl (HP.out.move (chg3 (HC0.out.trans hk sb_) (by omega) _ _ _))
     ·have hC2 : ¬ (D : Int) + (Y : Int) ≤ 9999999999999999999 := by rw [← Int.natCast_add, fiN_iff]; exact hC
      simp only [if_neg hC2, decide_eq_false hC2] at ha
      rw [hDI, hYI] at ha
      rw [hTI, hDI, hYI]
      have HA := hid ha
      have HSE1 := hid hs
      clear ha hsu hn hC hC2 hs hYI hDI hTI hY19 hD19
      go_wp2_with (first | (go_at_call 121; refine (HA.out _).mono ?_; intro e w2 h; obtain ⟨he1, he2⟩ := h; subst he1; subst he2))
      go_region
      all_goals (go_wp2_with fail; exact bodyPost_ret (v := .tuple #[.agg #[.bool false, .int .i8 0, .int .u64 0], .iface t v]) (dec_result rfl _ _ (w.heap.size + 1 + 1 + 1) _ _ _ _ 53 rfl rfl (store3 (HBX.out _ hk) _ _ _)) rfl ⟨false, none, HPN.out, (chg3 (HC0.out.trans hk sb_) (by omega) _ _ _).drew, t, v, rfl⟩)
    ·have hse : (dn == xn) = false := beq_eq_false_iff_ne.2 hs
     by_cases hg : D < Y
     ·rw [show sumS dn D xn Y = (xn, Y - D) by unfold sumS; rw [if_neg hs, if_pos hg]] at hn
      have hF := hn (by show Y - D < 10 ^ 19; omega)
      have c6 : (D : Int) < (Y : Int) := by omega
      rw [show (((xn, Y - D) : Bool × Nat).2 : Int) = (Y : Int) - (D : Int) by show ((Y - D : Nat) : Int) = _; omega] at hF
      simp only [if_neg (show ¬ (Y : Int) ≤ (D : Int) by omega)] at hsu
      rw [hDI, hYI] at hsu hF c6
      rw [hTI, hDI, hYI]
      have HA := hid hsu
      have HF := hid hF
      have HSE1 := hid hs
      clear ha hsu hn hF hs hg hYI hDI hTI hY19 hD19
      go_wp2_with (first | (go_at_call 122; refine (HA.out _).mono ?_; intro e w2 h; obtain ⟨he1, he2⟩ := h; subst he1; subst he2) | (go_at_call 117; refine (HF.out _ (HT.out _ hk).1).mono ?_; intro e w1 h; obtain ⟨na, nb, nc, nv, he1, hc1, hp⟩ := h.op; subst he1; replace hk := hk.trans hc1 sb_; clear h hc1; clear d0 d1 d2 e0 e1 e2 f0 f1 f2 r0 r1 r2 q0 q1 q2 ov iv; obtain ⟨d0, d1, d2, e0, e1, e2, f0, f1, f2, r0, r1, r2, q0, q1, q2⟩ := HB.out _ (hk); have ov := HOV.out _ hk; have iv := HIV.out _ hk; have HP := hid hp; clear hp))
      exact bodyPost_ret (v := .tuple #[.agg #[.bool na, .int .i8 nb, .int .u64 nc], nv]) (dec_result rfl _ _ (w.heap.size + 1 + 1 + 1) _ _ _ _ 53 rfl rfl (store3 (HBX.out _ hk) _ _ _)) rfl (HP.out.move (chg3 (HC0.out.trans hk sb_) (by omega) _ _ _))
     ·rw [show sumS dn D xn Y = (dn, D - Y) by unfold sumS; rw [if_neg hs, if_neg hg]] at hn
      have hF := hn (by show D - Y < 10 ^ 19; omega)
      have c6 : ¬ (D : Int) < (Y : Int) := by omega
      rw [show (((dn, D - Y) : Bool × Nat).2 : Int) = (D : Int) - (Y : Int) by show ((D - Y : Nat) : Int) = _; omega] at hF
      simp only [if_pos (show (Y : Int) ≤ (D : Int) by omega)] at hsu
      rw [hDI, hYI] at hsu hF c6
      rw [hTI, hDI, hYI]
      have HA := hid hsu
      have HF := hid hF
      have HSE1 := hid hs
      clear ha hsu hn hF hs hg hYI hDI hTI hY19 hD19
      go_wp2_with (first | (go_at_call 122; refine (HA.out _).mono ?_; intro e w2 h; obtain ⟨he1, he2⟩ := h; subst he1; subst he2) | (go_at_call 117; refine (HF.out _ (HT.out _ hk).1).mono ?_; intro e w1 h; obtain ⟨na, nb, nc, nv, he1, hc1, hp⟩ := h.op; subst he1; replace hk := hk.trans hc1 sb_; clear h hc1; clear d0 d1 d2 e0 e1 e2 f0 f1 f2 r0 r1 r2 q0 q1 q2 ov iv; obtain ⟨d0, d1, d2, e0, e1, e2, f0, f1, f2, r0, r1, r2, q0, q1, q2⟩ := HB.out _ (hk); have ov := HOV.out _ hk; have iv := HIV.out _ hk; have HP := hid hp; clear hp))
      exact bodyPost_ret (v := .tuple #[.agg #[.bool na, .int .i8 nb, .int .u64 nc], nv]) (dec_result rfl _ _ (w.heap.size + 1 + 1 + 1) _ _ _ _ 53 rfl rfl (store3 (HBX.out _ hk) _ _ _)) rfl (HP.out.move (chg3 (HC0.out.trans hk sb_) (by omega) _ _ _))
end Go.Proofs.YtldhfhloinlfaaaGreatDoor
