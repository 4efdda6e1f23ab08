/- Part 10 of the rest of the proof. -/
import Derived.Test.YtldhfhloinlfaaaGreatDoorProg
import Derived.Lib.Mul64
import Derived.WalkKit
import Derived.KernelRfl
import Derived.Deep.QuietTactic
import Derived.BigQuiet
import Derived.LaidEqlPtr
import Derived.Laws.IdiomCopy
import Derived.RegionTactic
import Derived.BigRegion
import Derived.StillTailTactics
import Derived.Deep.RegionWith
import Derived.Shelf.Small.Bits
import Derived.Shelf.Strconv.Itoa0
import Derived.Shelf.Bits.Mul64
import Derived.Deep.CutBlock
import Derived.Deep.DeepCutAuto
import Derived.Lib.AppendZeros
import Derived.Laws.AppendOwn
import Derived.OwnWalk
import Derived.Deep.CutRange
import Derived.Deep.RegionHeld3
import Derived.Test.YtldhfhloinlfaaaGreatDoorC00
import Derived.Test.YtldhfhloinlfaaaGreatDoorC09
import Derived.Test.YtldhfhloinlfaaaGreatDoorC10
import Derived.Test.YtldhfhloinlfaaaGreatDoorC11
import Derived.Test.YtldhfhloinlfaaaGreatDoorC12
import Derived.Test.YtldhfhloinlfaaaGreatDoorC13
import Derived.Test.YtldhfhloinlfaaaGreatDoorC14
import Derived.Test.YtldhfhloinlfaaaGreatDoorC15
import Derived.Test.YtldhfhloinlfaaaGreatDoorC16
import Derived.Test.YtldhfhloinlfaaaGreatDoorC17
import Derived.Test.YtldhfhloinlfaaaGreatDoorC18
import Derived.Test.YtldhfhloinlfaaaGreatDoorC20
import Derived.Test.YtldhfhloinlfaaaGreatDoorC21
import Derived.Test.YtldhfhloinlfaaaGreatDoorC22
import Derived.Test.YtldhfhloinlfaaaGreatDoorC24
import Derived.Test.YtldhfhloinlfaaaGreatDoorC32
import Derived.Test.YtldhfhloinlfaaaGreatDoorC35
import Derived.Test.YtldhfhloinlfaaaGreatDoorD00
import Derived.Test.YtldhfhloinlfaaaGreatDoorD07
namespace Go.Proofs.YtldhfhloinlfaaaGreatDoor
open Go.RowKit
set_option linter.unusedVariables false
set_option linter.unusedSimpArgs false
set_option maxRecDepth 20000
set_option maxHeartbeats 8000000 in
theorem quoFint_gen (dn en nn : Bool) (dc ec ds es m : Nat) (hdc : dc < 10 ^ 19) (hec : ec < 10 ^ 19) (hec0 : 0 < ec) (hds : ds ≤ 19) (hes : es ≤ 19) (hm : m ≤ 19) (hnn : (!(dn == en)) = nn) (P : Bool → Option (Nat × Nat) → Prop) (w : World) (he : EnvI w)
  (HN : ∀ z : Nat, z ≤ 18 → ec % 10 ^ z = 0 → dc * 10 ^ (19 - digs dc) % (ec / 10 ^ z) = 0 → ∀ w1, EnvD w1 → Calls Tryz.prog 117 #[.bool nn, .int .u64 ((dc * 10 ^ (19 - digs dc) / (ec / 10 ^ z) : Nat) : Int), .int .i64 ((ds : Int) + ((19 - digs dc : Nat) : Int) + (z : Int) - (es : Int)), .int .i64 m] w1 (PX P w1))
  (HI : ∀ z : Nat, z ≤ 18 → ec % 10 ^ z = 0 → ¬ dc * 10 ^ (19 - digs dc) % (ec / 10 ^ z) = 0 → P false none) :
  Calls Tryz.prog 87 #[.agg #[.bool dn, .int .i8 ds, .int .u64 (dc : Int)], .agg #[.bool en, .int .i8 es, .int .u64 (ec : Int)], .int .i64 m] w (PX P w) := by
 have hX := lsh_digs hdc
 have hd19 : digs dc ≤ 19 := digs_le.2 hdc
 have hpr := fun w ht => fint_prec (dc : Int) (fiN hdc) w ht
 rw [Int.toNat_natCast] at hpr
 obtain ⟨j, hj⟩ : ∃ j, 19 - digs dc = j := ⟨_, rfl⟩
 have hwp : IntKind.i64.wrap (19 - (digs dc : Int)) = (j : Int) := by rw [show (19 : Int) - (digs dc : Int) = (j : Int) by omega]; exact IntWalk.i64_in _ (by omega)
 have hj19 : j ≤ 19 := by omega
 rw [hj] at HN HI hX
 have HPR := hid hpr
 clear hpr
 generalize digs dc = PD at *
 clear hj hd19
 have hl := fun w ht => fint_lsh (dc : Int) j (fiN hdc) hj19 w ht
 have hcX : (dc : Int) * 10 ^ j = ((dc * 10 ^ j : Nat) : Int) := by rw [Int.natCast_mul, pow_cast]
 have hXM := fiN_iff.2 hX
 simp only [hcX, if_pos hXM, decide_eq_true hXM] at hl
 have hX0 : j = 0 → dc * 10 ^ j = dc := fun h => by rw [h, Nat.pow_zero, Nat.mul_one]
 generalize dc * 10 ^ j = X at *
 have HL := hid hl
 clear hl hcX
 have HZ := hid (fun w ht => fint_ntz (ec : Int) (fiN hec) w ht)
 obtain ⟨DS, hDS⟩ : ∃ v : Int, (ds : Int) = v := ⟨_, rfl⟩
 obtain ⟨D1, hD1⟩ : ∃ v : Int, (ds : Int) + (j : Int) = v := ⟨_, rfl⟩
 have hwD : IntKind.i64.wrap (DS + (j : Int)) = D1 := by rw [← hDS, hD1]; exact IntWalk.i64_in _ (by omega)
 have HSD := hid (fun w => Scale_as dn (dc : Int) ds DS hds hDS w)
 have HSE := hid (fun w => Scale_any en (ec : Int) es hes w)
 have HND := hid (fun w => IsNeg_any dn (dc : Int) ds w)
 have HNE := hid (fun w => IsNeg_any en (ec : Int) es w)
 obtain ⟨HB, HBX, HC0, hk⟩ := bx3 w dn ds (dc : Int) en es (ec : Int)
 have HT := hid (fun w1 h => (he.kept HC0.out).kept (w' := w1) h)
 obtain ⟨t, v, HOV⟩ : ∃ t v, Hid (∀ w1, Chg (fun _ => False) (((w.alloc (.cells #[.bool dn, .int .i8 ds, .int .u64 (dc : Int)] 53)).alloc (.cells #[.bool en, .int .i8 es, .int .u64 (ec : Int)] 53)).alloc (.cells #[.bool false, .int .i8 0, .int .u64 0] 53)) w1 → w1.cell? ⟨1, 0, none⟩ = some (.iface t v)) := by
  obtain ⟨t, v, h⟩ := (he.kept HC0.out).2
  exact ⟨t, v, hid (fun w1 hc => cell_kept h hc (fun h => h))⟩
 obtain ⟨DC, hDC⟩ : ∃ v : Int, (dc : Int) = v := ⟨_, rfl⟩
 obtain ⟨EC, hEC⟩ : ∃ v : Int, (ec : Int) = v := ⟨_, rfl⟩
 obtain ⟨XI, hXI⟩ : ∃ v : Int, (X : Int) = v := ⟨_, rfl⟩
 simp only [hDC] at HPR HL HSD HND HB HBX HC0 hk HT HOV
 simp only [hEC] at HZ HSE HNE HB HBX HC0 hk HT HOV
 simp only [hXI] at HL
 rw [hDC, hEC]
 have HHN := hid HN
 have HHI := hid HI
 have HEC := hid hec
 clear HN HI he
 have hxi0 : (0 : Int) ≤ XI := by omega
 have hxi1 : XI ≤ 9999999999999999999 := by omega
 have hdc0 : (0 : Int) ≤ DC := by omega
 have hec0' : (0 : Int) < EC := by omega
 have HXI := hid hXI
 have HDS := hid hDS
 have HD1 := hid hD1
 have HECI := hid hEC
 have HHX := hid hX
 obtain ⟨d0, d1, d2, e0, e1, e2, r0, r1, r2, q0, q1, q2⟩ := HB.out _ (hk)
 have ov := HOV.out _ hk
 by_cases c1 : (0 : Int) < (j : Int)
 all_goals (try (have h : D1 = DS := (by omega); subst h))
 all_goals (try (have h : XI = DC := (by have := hX0 (by omega); omega); subst h))
 all_goals (
  clear hX0 hX hXM hDC hEC hXI hdc hec hDS hD1
  go_enter Tryz.func87, Tryz.ntmps87
  go_wp2_with (first | (go_at_call 77; (first | refine (HSD.out _).mono ?_ | refine (HSE.out _).mono ?_); intro e w1 h; obtain ⟨he1, hc1⟩ := h; subst he1; replace hk := hk.trans hc1 sb_; clear hc1; clear d0 d1 d2 e0 e1 e2 r0 r1 r2 q0 q1 q2 ov; obtain ⟨d0, d1, d2, e0, e1, e2, r0, r1, r2, q0, q1, q2⟩ := HB.out _ (hk); have ov := HOV.out _ hk) | (go_at_call 75; (first | refine (HND.out _).mono ?_ | refine (HNE.out _).mono ?_); intro e w1 h; obtain ⟨he1, hc1⟩ := h; subst he1; replace hk := hk.trans hc1 sb_; clear hc1; clear d0 d1 d2 e0 e1 e2 r0 r1 r2 q0 q1 q2 ov; obtain ⟨d0, d1, d2, e0, e1, e2, r0, r1, r2, q0, q1, q2⟩ := HB.out _ (hk); have ov := HOV.out _ hk) | (go_at_call 112; refine (HPR.out _ (HT.out _ hk).1.env.tab).mono ?_; intro e w2 h; obtain ⟨he1, he2⟩ := h; subst he1; subst he2) | (go_at_call 113; refine (HL.out _ (HT.out _ hk).1.env.tab).mono ?_; intro e w2 h; obtain ⟨he1, he2⟩ := h; subst he1; subst he2))
  go_at_call 114
  refine (HZ.out _ (HT.out _ hk).1.env.tab).mono ?_
  intro e w2 h
  obtain ⟨z, he1, hz1, hz2, he2⟩ := h
  subst he1
  subst he2
  have hz3 : ec % 10 ^ z = 0 := (by rw [← HECI.out, ← pow_cast] at hz2; exact_mod_cast hz2)
  obtain ⟨hF0, hF1, hF2⟩ := rd_facts HEC.out (by have := HECI.out; omega) hz3
  have hn := HHN.out z hz1 hz3
  have hi := HHI.out z hz1 hz3
  have hrd := fun w ht (h : 1 ≤ z) => fint_rshDown EC z (by rw [← HECI.out]; exact fiN HEC.out) (by omega) h (by omega) w ht
  rw [← HECI.out, ← pow_cast, ← Int.natCast_ediv, HECI.out] at hrd
  have hqu := fun w => fint_quo (X : Int) ((ec / 10 ^ z : Nat) : Int) (fiN HHX.out) (fiN hF1) (by omega) w
  have hF00 : z = 0 → ec / 10 ^ z = ec := fun h => by rw [h, Nat.pow_zero, Nat.div_one]
  generalize ec / 10 ^ z = F at *
  obtain ⟨FI, hFI⟩ : ∃ v : Int, (F : Int) = v := ⟨_, rfl⟩
  obtain ⟨D2, hD2⟩ : ∃ v : Int, D1 + (z : Int) = v := ⟨_, rfl⟩
  obtain ⟨s, hs⟩ : ∃ v : Int, D2 - (es : Int) = v := ⟨_, rfl⟩
  rw [HD1.out, hD2, hs] at hn
  have hd1b : -40 ≤ D1 ∧ D1 ≤ 100 := (by have := HD1.out; omega)
  have hwz : IntKind.i64.wrap (D1 + (z : Int)) = D2 := (by rw [hD2]; exact IntWalk.i64_in _ (by omega))
  have hws : IntKind.i64.wrap (D2 - (es : Int)) = s := (by rw [hs]; exact IntWalk.i64_in _ (by omega))
  have hfi0 : (0 : Int) < FI := (by omega)
  have hcast : (X : Int) % (F : Int) = ((X % F : Nat) : Int) := (Int.natCast_emod X F).symm
  have hcast2 : (X : Int) / (F : Int) = ((X / F : Nat) : Int) := (Int.natCast_ediv X F).symm
  rw [hcast, hcast2, HXI.out, hFI] at hqu
  rw [hFI] at hrd
  by_cases c2 : (0 : Int) < (z : Int)
  all_goals (try (have h : D2 = D1 := (by omega); subst h))
  all_goals (try (have h : FI = EC := (by have := hF00 (by omega); have := HECI.out; omega); subst h))
  all_goals (
   have HRD := hid (fun w ht (h : 1 ≤ z) => hrd w ht h)
   by_cases hx : X % F = 0
   ·have HF := hid (hn hx)
    simp only [hx, Int.natCast_zero, if_true, decide_true] at hqu
    have HQU := hid hqu
    generalize ((X / F : Nat) : Int) = Q at *
    clear hn hi hrd hqu hF00 hcast hcast2 hz2 hz3 hF2 hFI hD2 hs hx hd1b
    go_wp2_with (first | (go_at_call 77; (first | refine (HSD.out _).mono ?_ | refine (HSE.out _).mono ?_); intro e w1 h; obtain ⟨he1, hc1⟩ := h; subst he1; replace hk := hk.trans hc1 sb_; clear hc1; clear d0 d1 d2 e0 e1 e2 r0 r1 r2 q0 q1 q2 ov; obtain ⟨d0, d1, d2, e0, e1, e2, r0, r1, r2, q0, q1, q2⟩ := HB.out _ (hk); have ov := HOV.out _ hk) | (go_at_call 75; (first | refine (HND.out _).mono ?_ | refine (HNE.out _).mono ?_); intro e w1 h; obtain ⟨he1, hc1⟩ := h; subst he1; replace hk := hk.trans hc1 sb_; clear hc1; clear d0 d1 d2 e0 e1 e2 r0 r1 r2 q0 q1 q2 ov; obtain ⟨d0, d1, d2, e0, e1, e2, r0, r1, r2, q0, q1, q2⟩ := HB.out _ (hk); have ov := HOV.out _ hk) | (go_at_call 115; refine (HRD.out _ (HT.out _ hk).1.env.tab (by omega)).mono ?_; intro e w2 h; obtain ⟨he1, he2⟩ := h; subst he1; subst he2) | (go_at_call 116; refine (HQU.out _).mono ?_; intro e w2 h; obtain ⟨he1, he2⟩ := h; subst he1; subst he2) | (go_at_call 117; refine (HF.out _ (HT.out _ hk).1).mono ?_; intro e w1 h; obtain ⟨na, nb, nc, nv, he1, hc1, hp⟩ := h.op; subst he1; replace hk := hk.trans hc1 sb_; clear h hc1; clear d0 d1 d2 e0 e1 e2 r0 r1 r2 q0 q1 q2 ov; obtain ⟨d0, d1, d2, e0, e1, e2, r0, r1, r2, q0, q1, q2⟩ := HB.out _ (hk); have ov := HOV.out _ hk; have HP := hid hp; clear hp))
    exact bodyPost_ret (v := .tuple #[.agg #[.bool na, .int .i8 nb, .int .u64 nc], nv]) (dec_result rfl _ _ (w.heap.size + 1 + 1) _ _ _ _ 53 rfl rfl (store3 (HBX.out _ hk) _ _ _)) rfl (HP.out.move (chg3 (HC0.out.trans hk sb_) (by omega) _ _ _))
   ·have hx' : ¬ ((X % F : Nat) : Int) = 0 := (by omega)
    have HPN := hid (hi hx)
    simp only [hx', if_false, decide_false] at hqu
    have HQU := hid hqu
    clear hn hi hrd hqu hF00 hcast hcast2 hz2 hz3 hF2 hFI hD2 hs hx hx' hd1b
    go_wp2_with (first | (go_at_call 77; (first | refine (HSD.out _).mono ?_ | refine (HSE.out _).mono ?_); intro e w1 h; obtain ⟨he1, hc1⟩ := h; subst he1; replace hk := hk.trans hc1 sb_; clear hc1; clear d0 d1 d2 e0 e1 e2 r0 r1 r2 q0 q1 q2 ov; obtain ⟨d0, d1, d2, e0, e1, e2, r0, r1, r2, q0, q1, q2⟩ := HB.out _ (hk); have ov := HOV.out _ hk) | (go_at_call 75; (first | refine (HND.out _).mono ?_ | refine (HNE.out _).mono ?_); intro e w1 h; obtain ⟨he1, hc1⟩ := h; subst he1; replace hk := hk.trans hc1 sb_; clear hc1; clear d0 d1 d2 e0 e1 e2 r0 r1 r2 q0 q1 q2 ov; obtain ⟨d0, d1, d2, e0, e1, e2, r0, r1, r2, q0, q1, q2⟩ := HB.out _ (hk); have ov := HOV.out _ hk) | (go_at_call 115; refine (HRD.out _ (HT.out _ hk).1.env.tab (by omega)).mono ?_; intro e w2 h; obtain ⟨he1, he2⟩ := h; subst he1; subst he2) | (go_at_call 116; refine (HQU.out _).mono ?_; intro e w2 h; obtain ⟨he1, he2⟩ := h; subst he1; subst he2))
    go_region
    all_goals (go_wp2_with fail; exact bodyPost_ret (v := .tuple #[.agg #[.bool false, .int .i8 0, .int .u64 0], .iface t v]) (dec_result rfl _ _ (w.heap.size + 1 + 1) _ _ _ _ 53 rfl rfl (store3 (HBX.out _ hk) _ _ _)) rfl ⟨false, none, HPN.out, (chg3 (HC0.out.trans hk sb_) (by omega) _ _ _).drew, t, v, rfl⟩)))
end Go.Proofs.YtldhfhloinlfaaaGreatDoor
