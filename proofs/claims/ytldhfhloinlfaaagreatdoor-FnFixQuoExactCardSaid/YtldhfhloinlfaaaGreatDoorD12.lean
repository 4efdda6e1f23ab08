/- Part 12 of the rest of the proof. -/
import Derived.Test.YtldhfhloinlfaaaGreatDoorProg
import Derived.Lib.Mul64
import Derived.WalkKit
import Derived.KernelRfl
import Derived.Deep.QuietTactic
import Derived.BigQuiet
import Derived.LaidEqlPtr
import Derived.Laws.IdiomCopy
import Derived.RegionTactic
import Derived.BigRegion
import Derived.StillTailTactics
import Derived.Deep.RegionWith
import Derived.Shelf.Small.Bits
import Derived.Shelf.Strconv.Itoa0
import Derived.Shelf.Bits.Mul64
import Derived.Deep.CutBlock
import Derived.Deep.DeepCutAuto
import Derived.Lib.AppendZeros
import Derived.Laws.AppendOwn
import Derived.OwnWalk
import Derived.Deep.CutRange
import Derived.Deep.RegionHeld3
import Derived.Lib.MinMax
import Derived.Below
import Derived.Deep.Draws
import Derived.Deep.AppendLies
import Derived.Maps.AppendAt
import Derived.Laws.BytesArg
import Derived.Laws.MakeOwn
import Derived.Laws.OwnMore
import Derived.Deep.OwnRows
import Derived.Tactics
import Derived.Lib.ConvBytes
import Derived.Laws.Slices
import Derived.RowKit3
import Derived.Deep.LoopGhost
import Derived.WideLaws
import Derived.Laws.Rows
import Derived.Lib.AppendStr
import Derived.ArgAppend
import Derived.OrdersHeld
import Derived.Laws.BitsLemmas
import Derived.RowKit
import Derived.Laws.StructEq
import Derived.Test.YtldhfhloinlfaaaGreatDoorC00
import Derived.Test.YtldhfhloinlfaaaGreatDoorC01
import Derived.Test.YtldhfhloinlfaaaGreatDoorC02
import Derived.Test.YtldhfhloinlfaaaGreatDoorC03
import Derived.Test.YtldhfhloinlfaaaGreatDoorC04
import Derived.Test.YtldhfhloinlfaaaGreatDoorC05
import Derived.Test.YtldhfhloinlfaaaGreatDoorC06
import Derived.Test.YtldhfhloinlfaaaGreatDoorC07
import Derived.Test.YtldhfhloinlfaaaGreatDoorC08
import Derived.Test.YtldhfhloinlfaaaGreatDoorC09
import Derived.Test.YtldhfhloinlfaaaGreatDoorC10
import Derived.Test.YtldhfhloinlfaaaGreatDoorC11
import Derived.Test.YtldhfhloinlfaaaGreatDoorC12
import Derived.Test.YtldhfhloinlfaaaGreatDoorC13
import Derived.Test.YtldhfhloinlfaaaGreatDoorC14
import Derived.Test.YtldhfhloinlfaaaGreatDoorC15
import Derived.Test.YtldhfhloinlfaaaGreatDoorC16
import Derived.Test.YtldhfhloinlfaaaGreatDoorC17
import Derived.Test.YtldhfhloinlfaaaGreatDoorC18
import Derived.Test.YtldhfhloinlfaaaGreatDoorC20
import Derived.Test.YtldhfhloinlfaaaGreatDoorC21
import Derived.Test.YtldhfhloinlfaaaGreatDoorC22
import Derived.Test.YtldhfhloinlfaaaGreatDoorC24
import Derived.Test.YtldhfhloinlfaaaGreatDoorC28
import Derived.Test.YtldhfhloinlfaaaGreatDoorC32
import Derived.Test.YtldhfhloinlfaaaGreatDoorC33
import Derived.Test.YtldhfhloinlfaaaGreatDoorC35
import Derived.Test.YtldhfhloinlfaaaGreatDoorC37
import Derived.Test.YtldhfhloinlfaaaGreatDoorC39
import Derived.Test.YtldhfhloinlfaaaGreatDoorD00
import Derived.Test.YtldhfhloinlfaaaGreatDoorD05
import Derived.Test.YtldhfhloinlfaaaGreatDoorD07
import Derived.Test.YtldhfhloinlfaaaGreatDoorD10
namespace Go.Proofs.YtldhfhloinlfaaaGreatDoor
open Go.RowKit
set_option linter.unusedVariables false
set_option linter.unusedSimpArgs false
set_option maxRecDepth 20000
theorem quoEx_bad (dn en : Bool) (dc ec ds es : Nat) (m : Int) (hbad : (m < 0 ∨ 19 < m) ∨ ec = 0) (P : Bool → Option (Nat × Nat) → Prop) (hp : P false none) (w : World) :
  Calls Tryz.prog 53 #[.agg #[.bool dn, .int .i8 ds, .int .u64 (dc : Int)], .agg #[.bool en, .int .i8 es, .int .u64 (ec : Int)], .int .i64 m] w (PX P w) := by
 obtain ⟨DC, hDC⟩ : ∃ v : Int, (dc : Int) = v := ⟨_, rfl⟩
 obtain ⟨EC, hEC⟩ : ∃ v : Int, (ec : Int) = v := ⟨_, rfl⟩
 have hz : ¬ (m < 0 ∨ 19 < m) → (EC == 0) = true := fun h => by rw [← hEC]; have := hbad.resolve_left h; rw [this]; rfl
 rw [hDC, hEC]
 obtain ⟨HB, HBX, HC0, hk⟩ := bx3 w dn ds DC en es EC
 have HID := hid (fun w => IsZero_any dn DC ds w)
 have HIE := hid (fun w => IsZero_any en EC es w)
 obtain ⟨d0, d1, d2, e0, e1, e2, r0, r1, r2, q0, q1, q2⟩ := HB.out _ (hk)
 by_cases h0 : m < 0
 ·have hb1 : decide (m < 0) = true := decide_eq_true h0
  clear hbad hz
  go_enter Tryz.func53, Tryz.ntmps53
  go_wp2_with (go_at_call 88; refine (errorsNew_any _ _).mono ?_; intro e w3 h; obtain ⟨⟨t3, v3, he3⟩, hc3⟩ := h; subst he3; have HK3 := hid hc3; clear hc3; clear d0 d1 d2 e0 e1 e2 r0 r1 r2 q0 q1 q2; obtain ⟨d0, d1, d2, e0, e1, e2, r0, r1, r2, q0, q1, q2⟩ := HB.out _ (hk.trans HK3.out sb_))
  exact bodyPost_ret (v := .tuple #[.agg #[.bool false, .int .i8 0, .int .u64 0], .iface t3 v3]) (dec_result rfl _ _ (w.heap.size + 1 + 1) _ _ _ _ 53 rfl rfl (store3 (HBX.out _ (hk.trans HK3.out sb_)) _ _ _)) rfl ⟨false, none, hp, chg3 (HC0.out.trans (hk.trans HK3.out sb_) (fun _ _ h => h)) (by omega) _ _ _, t3, v3, rfl⟩
 ·have hb1 : decide (m < 0) = false := decide_eq_false h0
  by_cases h1 : 19 < m
  ·have hb2 : decide (19 < m) = true := decide_eq_true h1
   clear hbad hz
   go_enter Tryz.func53, Tryz.ntmps53
   go_wp2_with (go_at_call 88; refine (errorsNew_any _ _).mono ?_; intro e w3 h; obtain ⟨⟨t3, v3, he3⟩, hc3⟩ := h; subst he3; have HK3 := hid hc3; clear hc3; clear d0 d1 d2 e0 e1 e2 r0 r1 r2 q0 q1 q2; obtain ⟨d0, d1, d2, e0, e1, e2, r0, r1, r2, q0, q1, q2⟩ := HB.out _ (hk.trans HK3.out sb_))
   exact bodyPost_ret (v := .tuple #[.agg #[.bool false, .int .i8 0, .int .u64 0], .iface t3 v3]) (dec_result rfl _ _ (w.heap.size + 1 + 1) _ _ _ _ 53 rfl rfl (store3 (HBX.out _ (hk.trans HK3.out sb_)) _ _ _)) rfl ⟨false, none, hp, chg3 (HC0.out.trans (hk.trans HK3.out sb_) (fun _ _ h => h)) (by omega) _ _ _, t3, v3, rfl⟩
  ·have hb2 : decide (19 < m) = false := decide_eq_false h1
   have hb3 := hz (by omega)
   clear hbad hz h0 h1
   go_enter Tryz.func53, Tryz.ntmps53
   go_wp2_with (first | (go_at_call 89; (first | refine (HID.out _).mono ?_ | refine (HIE.out _).mono ?_); intro e w1 h; obtain ⟨he1, hc1⟩ := h; subst he1; replace hk := hk.trans hc1 sb_; clear hc1; clear d0 d1 d2 e0 e1 e2 r0 r1 r2 q0 q1 q2; obtain ⟨d0, d1, d2, e0, e1, e2, r0, r1, r2, q0, q1, q2⟩ := HB.out _ (hk)) | (go_at_call 88; refine (errorsNew_any _ _).mono ?_; intro e w3 h; obtain ⟨⟨t3, v3, he3⟩, hc3⟩ := h; subst he3; have HK3 := hid hc3; clear hc3; clear d0 d1 d2 e0 e1 e2 r0 r1 r2 q0 q1 q2; obtain ⟨d0, d1, d2, e0, e1, e2, r0, r1, r2, q0, q1, q2⟩ := HB.out _ (hk.trans HK3.out sb_)))
   exact bodyPost_ret (v := .tuple #[.agg #[.bool false, .int .i8 0, .int .u64 0], .iface t3 v3]) (dec_result rfl _ _ (w.heap.size + 1 + 1) _ _ _ _ 53 rfl rfl (store3 (HBX.out _ (hk.trans HK3.out sb_)) _ _ _)) rfl ⟨false, none, hp, chg3 (HC0.out.trans (hk.trans HK3.out sb_) (fun _ _ h => h)) (by omega) _ _ _, t3, v3, rfl⟩
set_option maxHeartbeats 16000000 in
theorem quoEx_in (dn en : Bool) (dc ec ds es : Nat) (m : Nat) (hm : m ≤ 19) (hdc : dc < 10 ^ 19) (hec : ec < 10 ^ 19) (hds : ds ≤ 19) (hes : es ≤ 19) (hdc0 : 0 < dc) (hec0 : 0 < ec) (P P1 : Bool → Option (Nat × Nat) → Prop) (w : World) (he : EnvI w)
  (hP1 : ∀ sg k t, P1 sg (some (k, t)) → P sg (some (k, t))) (hPb : ∀ sg k t, P sg (some (k, t)) → t ≤ 19 ∧ k < 10 ^ 19 ∧ m ≤ t) (hPt : ∀ sg k t k' t', P sg (some (k, t)) → m ≤ t' → t' ≤ t → k = k' * 10 ^ (t - t') → P sg (some (k', t')))
  (hFI : ∀ w1, EnvI w1 → Calls Tryz.prog 87 #[.agg #[.bool dn, .int .i8 ds, .int .u64 (dc : Int)], .agg #[.bool en, .int .i8 es, .int .u64 (ec : Int)], .int .i64 m] w1 (PX P1 w1)) (hBI : ∀ w1, EnvI w1 → Calls Tryz.prog 91 #[.agg #[.bool dn, .int .i8 ds, .int .u64 (dc : Int)], .agg #[.bool en, .int .i8 es, .int .u64 (ec : Int)], .int .i64 m] w1 (PX P w1)) :
  Calls Tryz.prog 53 #[.agg #[.bool dn, .int .i8 ds, .int .u64 (dc : Int)], .agg #[.bool en, .int .i8 es, .int .u64 (ec : Int)], .int .i64 m] w (PX P w) := by
 obtain ⟨DC, hDC⟩ : ∃ v : Int, (dc : Int) = v := ⟨_, rfl⟩
 obtain ⟨EC, hEC⟩ : ∃ v : Int, (ec : Int) = v := ⟨_, rfl⟩
 obtain ⟨DS, hDS⟩ : ∃ v : Int, (ds : Int) = v := ⟨_, rfl⟩
 obtain ⟨ES, hES⟩ : ∃ v : Int, (es : Int) = v := ⟨_, rfl⟩
 have HSD := hid (fun w => Scale_as dn DC ds DS hds hDS w)
 have HSE := hid (fun w => Scale_as en EC es ES hes hES w)
 rw [hDC, hEC] at hFI hBI
 rw [hDC, hEC]
 obtain ⟨DD, hDD⟩ : ∃ v : Int, DS - ES = v := ⟨_, rfl⟩
 have hwd : IntKind.i64.wrap (DS - ES) = DD := by rw [hDD]; exact IntWalk.i64_in _ (by omega)
 obtain ⟨p, hmx⟩ : ∃ p : Nat, max (m : Int) DD = (p : Int) := ⟨(max (m : Int) DD).toNat, by omega⟩
 have HMP : Hid (m ≤ p) := (by omega : m ≤ p)
 have hzDC : (DC == 0) = false := by rw [← hDC]; exact beq_eq_false_iff_ne.2 (by omega)
 have hzEC : (EC == 0) = false := by rw [← hEC]; exact beq_eq_false_iff_ne.2 (by omega)
 have hb1 : decide ((m : Int) < 0) = false := decide_eq_false (by omega)
 have hb2 : decide ((19 : Int) < (m : Int)) = false := decide_eq_false (by omega)
 have HID := hid (fun w => IsZero_any dn DC ds w)
 have HIE := hid (fun w => IsZero_any en EC es w)
 have HTR := hid (fun nb (c s : Nat) hc hs hnb w he => Trim_any nb c s p hc hs hnb w he)
 obtain ⟨HB, HBX, HC0, hk⟩ := bx3 w dn ds DC en es EC
 have HSS := hid (fun w' (h : Chg (fun _ => False) (((w.alloc (.cells #[.bool dn, .int .i8 ds, .int .u64 DC] 53)).alloc (.cells #[.bool en, .int .i8 es, .int .u64 EC] 53)).alloc (.cells #[.bool false, .int .i8 0, .int .u64 0] 53)) w') => (show w'.cell? ⟨w.heap.size, 0, none⟩ = some (.bool dn) ∧ w'.cell? ⟨w.heap.size, 1, none⟩ = some (.int .i8 ds) ∧ w'.cell? ⟨w.heap.size, 2, none⟩ = some (.int .u64 DC) ∧ w'.cell? ⟨w.heap.size + 1, 0, none⟩ = some (.bool en) ∧ w'.cell? ⟨w.heap.size + 1, 1, none⟩ = some (.int .i8 es) ∧ w'.cell? ⟨w.heap.size + 1, 2, none⟩ = some (.int .u64 EC) from ⟨(HB.out _ h).1, (HB.out _ h).2.1, (HB.out _ h).2.2.1, (HB.out _ h).2.2.2.1, (HB.out _ h).2.2.2.2.1, (HB.out _ h).2.2.2.2.2.1⟩))
 have HE0 := hid (he.kept HC0.out)
 have HFIX := hid hFI
 have HBI := hid hBI
 have HP1 := hid hP1
 have HPB := hid hPb
 have HPT := hid hPt
 obtain ⟨d0, d1, d2, e0, e1, e2, r0, r1, r2, q0, q1, q2⟩ := HB.out _ (hk)
 clear he hFI hBI hP1 hPb hPt hm hdc hds hec hes hDC hDS hEC hES hdc0 hec0 hDD
 go_enter Tryz.func53, Tryz.ntmps53
 go_upto_region 8 with (go_at_call 89; (first | refine (HID.out _).mono ?_ | refine (HIE.out _).mono ?_); intro e w1 h; obtain ⟨he1, hc1⟩ := h; subst he1; replace hk := hk.trans hc1 sb_; clear hc1; clear d0 d1 d2 e0 e1 e2 r0 r1 r2 q0 q1 q2; obtain ⟨d0, d1, d2, e0, e1, e2, r0, r1, r2, q0, q1, q2⟩ := HB.out _ (hk))
 go_cut [8, 9] (fun a b wx => ∃ g : Nat, a = .pointer (some ⟨g, 0, none⟩) ∧ ((b = .nilIface ∧ ∃ sg k t, Hid (P sg (some (k, t))) ∧ Hid (Var3 (((w.alloc (.cells #[.bool dn, .int .i8 ds, .int .u64 DC] 53)).alloc (.cells #[.bool en, .int .i8 es, .int .u64 EC] 53)).alloc (.cells #[.bool false, .int .i8 0, .int .u64 0] 53)) wx g (.bool (sg && (k : Int) != 0)) (.int .i8 (t : Int)) (.int .u64 (k : Int)))) ∨ ((∃ et ev, b = .iface et ev) ∧ Hid (Var3 (((w.alloc (.cells #[.bool dn, .int .i8 ds, .int .u64 DC] 53)).alloc (.cells #[.bool en, .int .i8 es, .int .u64 EC] 53)).alloc (.cells #[.bool false, .int .i8 0, .int .u64 0] 53)) wx g (.bool false) (.int .i8 0) (.int .u64 0)))))
 case first =>
  go_wp2_with fail
  go_at_call 87
  refine (HFIX.out _ (HE0.out.kept hk)).mono ?_
  intro e w1 h
  obtain ⟨sg, o, hp, hc, ho⟩ := h
  have HK := hid (hk.trans hc sb_)
  have HPP := hid hp
  clear hc hp hk d0 d1 d2 e0 e1 e2 r0 r1 r2 q0 q1 q2
  cases o with
  | none =>
   obtain ⟨et, ev, he1⟩ := ho
   have he2 : e = .returned (.tuple #[.agg #[.bool false, .int .i8 0, .int .u64 0], .iface et ev]) := he1
   clear he1
   subst he2
   go_wp2_with fail
   go_meet
   exact ⟨w1.heap.size, rfl, .inr ⟨⟨_, _, rfl⟩, Var3.mk' HK.out _ _ _⟩⟩
  | some kt =>
   obtain ⟨k, t⟩ := kt
   have he2 : e = .returned (.tuple #[.agg #[.bool (sg && (k : Int) != 0), .int .i8 t, .int .u64 (k : Int)], .nilIface]) := ho
   clear ho
   have HQ := hid (HP1.out _ _ _ HPP.out)
   obtain ⟨nb, hnb⟩ : ∃ b, (sg && (k : Int) != 0) = b := ⟨_, rfl⟩
   have HNB := hid hnb
   rw [hnb] at he2
   subst he2
   clear hnb
   go_wp2_with fail
   go_meet
   exact ⟨w1.heap.size, rfl, .inl ⟨rfl, sg, k, t, HQ, by rw [HNB.out]; exact Var3.mk' HK.out _ _ _⟩⟩
 case rest =>
  obtain ⟨g, g1, hcut⟩ := hcut
  subst g1
  clear hk d0 d1 d2 e0 e1 e2 r0 r1 r2 q0 q1 q2
  go_upto_region 9 with fail
  go_cut [43] (fun c wx => (c = .bool false ∧ ∃ sg k t, Hid (P sg (some (k, t))) ∧ Hid (Var3 (((w.alloc (.cells #[.bool dn, .int .i8 ds, .int .u64 DC] 53)).alloc (.cells #[.bool en, .int .i8 es, .int .u64 EC] 53)).alloc (.cells #[.bool false, .int .i8 0, .int .u64 0] 53)) wx g (.bool (sg && (k : Int) != 0)) (.int .i8 (t : Int)) (.int .u64 (k : Int)))) ∨ (c = .bool true ∧ Hid (Var3 (((w.alloc (.cells #[.bool dn, .int .i8 ds, .int .u64 DC] 53)).alloc (.cells #[.bool en, .int .i8 es, .int .u64 EC] 53)).alloc (.cells #[.bool false, .int .i8 0, .int .u64 0] 53)) wx g (.bool false) (.int .i8 0) (.int .u64 0))))
  case first =>
   rcases hcut with ⟨he2, sg, k, t, hp, hv⟩ | ⟨⟨et, ev, he2⟩, hv⟩
   ·subst he2
    go_wp2_with fail
    go_meet
    exact .inl ⟨rfl, sg, k, t, hp, hv⟩
   ·subst he2
    go_wp2_with fail
    go_meet
    exact .inr ⟨rfl, hv⟩
  case rest =>
  go_upto_if 43 with fail
  go_cut [9] (fun b wx => ∃ sg k t, Hid (P sg (some (k, t))) ∧ Hid (Var3 (((w.alloc (.cells #[.bool dn, .int .i8 ds, .int .u64 DC] 53)).alloc (.cells #[.bool en, .int .i8 es, .int .u64 EC] 53)).alloc (.cells #[.bool false, .int .i8 0, .int .u64 0] 53)) wx g (.bool (sg && (k : Int) != 0)) (.int .i8 (t : Int)) (.int .u64 (k : Int))))
  case first =>
   rcases hcut with ⟨he2, sg, k, t, hp, hv⟩ | ⟨he2, hv⟩
   ·subst he2
    go_wp2_with fail
    go_meet
    exact ⟨sg, k, t, hp, hv⟩
   ·subst he2
    have HV := hid hv.out
    clear hv
    obtain ⟨d0, d1, d2, e0, e1, e2, r0, r1, r2, q0, q1, q2⟩ := HB.out _ (HV.out.1)
    obtain ⟨k0, k1, k2, l0, l1, l2⟩ := cell3 HV.out.2.2
    go_wp2_with fail
    go_at_call 91
    refine (HBI.out _ (HE0.out.kept HV.out.1)).mono ?_
    intro e w1 h
    obtain ⟨sg, o, hp, hc, ho⟩ := h
    have HPP := hid hp
    have HV2 := hid (HV.out.kept hc)
    have HCC := hid hc
    clear hp hc d0 d1 d2 e0 e1 e2 r0 r1 r2 q0 q1 q2 k0 k1 k2 l0 l1 l2
    obtain ⟨d0, d1, d2, e0, e1, e2, r0, r1, r2, q0, q1, q2⟩ := HB.out _ (HV2.out.1)
    obtain ⟨k0, k1, k2, l0, l1, l2⟩ := cell3 HV2.out.2.2
    cases o with
    | none =>
     obtain ⟨et2, ev2, he1⟩ := ho
     have he2 : e = .returned (.tuple #[.agg #[.bool false, .int .i8 0, .int .u64 0], .iface et2 ev2]) := he1
     clear he1
     subst he2
     have HV3 := hid (HV2.out.set (Chg.refl _ _) (.bool false) (.int .i8 0) (.int .u64 0))
     go_wp2_with (go_at_call 88; refine (errorsNew_any _ _).mono ?_; intro e w3 h; obtain ⟨⟨t3, v3, he3⟩, hc3⟩ := h; subst he3; have HV4 := hid (HV3.out.kept hc3); clear hc3; clear d0 d1 d2 e0 e1 e2 r0 r1 r2 q0 q1 q2; obtain ⟨d0, d1, d2, e0, e1, e2, r0, r1, r2, q0, q1, q2⟩ := HB.out _ (HV4.out.1))
     exact bodyPost_ret (v := .tuple #[.agg #[.bool false, .int .i8 0, .int .u64 0], .iface t3 v3]) (dec_result rfl _ _ (w.heap.size + 1 + 1) _ _ _ _ 53 rfl rfl (store3 (HBX.out _ (HV4.out.1)) _ _ _)) rfl ⟨sg, none, HPP.out, chg3 (HC0.out.trans (HV4.out.1) sb_) (by omega) _ _ _, t3, v3, rfl⟩
    | some kt =>
     obtain ⟨k, t⟩ := kt
     have he2 : e = .returned (.tuple #[.agg #[.bool (sg && (k : Int) != 0), .int .i8 t, .int .u64 (k : Int)], .nilIface]) := ho
     clear ho
     obtain ⟨nb, hnb⟩ : ∃ b, (sg && (k : Int) != 0) = b := ⟨_, rfl⟩
     have HNB := hid hnb
     rw [hnb] at he2
     subst he2
     clear hnb
     go_wp2_with fail
     go_meet
     exact ⟨sg, k, t, HPP, by rw [HNB.out]; exact HV.out.set HCC.out _ _ _⟩
  case rest =>
   obtain ⟨sg, k, t, hp, hv⟩ := hcut
   have hbd := HPB.out _ _ _ hp.out
   have htr := fun nb h w he => HTR.out nb k t hbd.2.1 hbd.1 h w he
   have HTP := hid (fun k' t' h1 h2 h3 => HPT.out sg k t k' t' hp.out h1 h2 h3)
   have HMT := hid hbd.2.2
   obtain ⟨nb, hnb⟩ : ∃ b, (sg && (k : Int) != 0) = b := ⟨_, rfl⟩
   have hnb2 : (nb && (k : Int) != 0) = nb := by rw [← hnb]; cases sg <;> simp
   have htr2 := fun w he => htr nb hnb2 w he
   rw [hnb] at hv
   have HNB := hid hnb
   obtain ⟨K, hK⟩ : ∃ v : Int, (k : Int) = v := ⟨_, rfl⟩
   rw [hK] at hv htr2
   have HT2 := hid htr2
   have HKK := hid hK
   have HV := hid hv.out
   clear hp hv hbd htr htr2 hnb hnb2 hK
   have hk := HV.out.1
   go_upto_region 13 with fail
   go_cut [2] (fun a wx => a = .int .i64 (p : Int) ∧ Hid (Var3 (((w.alloc (.cells #[.bool dn, .int .i8 ds, .int .u64 DC] 53)).alloc (.cells #[.bool en, .int .i8 es, .int .u64 EC] 53)).alloc (.cells #[.bool false, .int .i8 0, .int .u64 0] 53)) wx g (.bool nb) (.int .i8 t) (.int .u64 K)))
   case first =>
    have hw6 := (Chg.refl (fun _ => False) wc).drew
    have hk := hk.drew
    first | (go_region_held3 (fun w' => w'.cell? ⟨w.heap.size, 0, none⟩ = some (.bool dn) ∧ w'.cell? ⟨w.heap.size, 1, none⟩ = some (.int .i8 ds) ∧ w'.cell? ⟨w.heap.size, 2, none⟩ = some (.int .u64 DC) ∧ w'.cell? ⟨w.heap.size + 1, 0, none⟩ = some (.bool en) ∧ w'.cell? ⟨w.heap.size + 1, 1, none⟩ = some (.int .i8 es) ∧ w'.cell? ⟨w.heap.size + 1, 2, none⟩ = some (.int .u64 EC)) (first | with_reducible exact HSS.out _ hk) (first | (go_at_call 77; (first | refine (HSD.out _).mono ?_ | refine (HSE.out _).mono ?_); intro e w1 h; obtain ⟨he1, hc1⟩ := h; subst he1; replace hk := hk.trans hc1 sb_; replace hw6 := hw6.trans hc1 sb_; clear hc1))) | fail
    all_goals (go_wp2_with fail; go_meet; exact ⟨rfl, HV.out.kept hw6⟩)
   case rest =>
    obtain ⟨g2, hv⟩ := hcut
    subst g2
    clear hk HV
    have HV := hid hv.out
    clear hv
    obtain ⟨d0, d1, d2, e0, e1, e2, r0, r1, r2, q0, q1, q2⟩ := HB.out _ (HV.out.1)
    obtain ⟨k0, k1, k2, l0, l1, l2⟩ := cell3 HV.out.2.2
    go_wp2_with fail
    go_at_call 92
    refine (HT2.out _ (HE0.out.kept HV.out.1).1).mono ?_
    intro e w5 h
    obtain ⟨k', t', he1, ht1, ht2, ht3, hc⟩ := h
    subst he1
    have HV2 := hid (HV.out.kept hc)
    have HEND := hid (And.intro ht1 (And.intro ht2 ht3))
    obtain ⟨K2, hK2⟩ : ∃ v : Int, (k' : Int) = v := ⟨_, rfl⟩
    rw [hK2]
    have HK2 := hid hK2
    have HV3 := hid (HV2.out.set (Chg.refl _ _) (.bool nb) (.int .i8 (t' : Int)) (.int .u64 K2))
    clear hc ht1 ht2 ht3 hK2 d0 d1 d2 e0 e1 e2 r0 r1 r2 q0 q1 q2 k0 k1 k2 l0 l1 l2
    obtain ⟨d0, d1, d2, e0, e1, e2, r0, r1, r2, q0, q1, q2⟩ := HB.out _ (HV2.out.1)
    obtain ⟨k0, k1, k2, l0, l1, l2⟩ := cell3 HV2.out.2.2
    obtain ⟨d0v, d1v, d2v, e0v, e1v, e2v, r0v, r1v, r2v, q0v, q1v, q2v⟩ := HB.out _ (HV3.out.1)
    obtain ⟨k0v, k1v, k2v, l0v, l1v, l2v⟩ := cell3 HV3.out.2.2
    go_wp2_with fail
    refine bodyPost_ret (v := .tuple #[.agg #[.bool nb, .int .i8 (t' : Int), .int .u64 K2], .nilIface]) (dec_result rfl _ _ (w.heap.size + 1 + 1) _ _ _ _ 53 rfl rfl (store3 (HBX.out _ HV3.out.1) _ _ _)) rfl ⟨sg, some (k', t'), ?_, chg3 (HC0.out.trans HV3.out.1 sb_) (by omega) _ _ _, ?_⟩
    ·have h := HEND.out
     exact HTP.out k' t' (by have h1 := HMP.out; have h2 := HMT.out; omega) h.1 h.2.2
    ·have h := HEND.out.2.2
     have h4 : (sg && (k' : Int) != 0) = nb := by
      rw [← HNB.out, nat_bne, nat_bne]
      congr 1
      by_cases h0 : k' = 0
      ·rw [h0, Nat.zero_mul] at h; rw [h0, h]
      ·have h5 : k ≠ 0 := by rw [h]; exact Nat.mul_ne_zero h0 (by have := pow10_pos (t - t'); omega)
       rw [bne_iff_ne.2 h0, bne_iff_ne.2 h5]
     show _ = Ending.returned (.tuple #[decV (sg && (k' : Int) != 0) (k' : Int) t', .nilIface])
     rw [h4, HK2.out]
     rfl
set_option maxHeartbeats 4000000 in
theorem quoEx_nil (dn en : Bool) (dc ec ds es m : Nat) (hm : m ≤ 19) (hds : ds ≤ 19) (hes : es ≤ 19) (hdc0 : dc = 0) (hec0 : 0 < ec) (P : Bool → Option (Nat × Nat) → Prop) (w : World) (he : EnvI w)
  (hP : ∀ t, m ≤ t → t ≤ 19 → P false (some (0, t))) :
  Calls Tryz.prog 53 #[.agg #[.bool dn, .int .i8 ds, .int .u64 (dc : Int)], .agg #[.bool en, .int .i8 es, .int .u64 (ec : Int)], .int .i64 m] w (PX P w) := by
 obtain ⟨DC, hDC⟩ : ∃ v : Int, (dc : Int) = v := ⟨_, rfl⟩
 obtain ⟨EC, hEC⟩ : ∃ v : Int, (ec : Int) = v := ⟨_, rfl⟩
 obtain ⟨DS, hDS⟩ : ∃ v : Int, (ds : Int) = v := ⟨_, rfl⟩
 obtain ⟨ES, hES⟩ : ∃ v : Int, (es : Int) = v := ⟨_, rfl⟩
 have HSD := hid (fun w => Scale_as dn DC ds DS hds hDS w)
 have HSE := hid (fun w => Scale_as en EC es ES hes hES w)
 rw [hDC, hEC]
 obtain ⟨DD, hDD⟩ : ∃ v : Int, DS - ES = v := ⟨_, rfl⟩
 have hwd : IntKind.i64.wrap (DS - ES) = DD := by rw [hDD]; exact IntWalk.i64_in _ (by omega)
 obtain ⟨p, hmx⟩ : ∃ p : Nat, max (m : Int) DD = (p : Int) := ⟨(max (m : Int) DD).toNat, by omega⟩
 have hp19 : p ≤ 19 := by omega
 have HPP := hid (hP p (by omega) hp19)
 have HNS := hid (fun w => newSafe_flat false false 0 p ⟨by omega, by omega⟩ hp19 rfl w)
 have hzDC : (DC == 0) = true := by rw [← hDC, hdc0]; rfl
 have hzEC : (EC == 0) = false := by rw [← hEC]; exact beq_eq_false_iff_ne.2 (by omega)
 have hb1 : decide ((m : Int) < 0) = false := decide_eq_false (by omega)
 have hb2 : decide ((19 : Int) < (m : Int)) = false := decide_eq_false (by omega)
 have HID := hid (fun w => IsZero_any dn DC ds w)
 have HIE := hid (fun w => IsZero_any en EC es w)
 obtain ⟨HB, HBX, HC0, hk⟩ := bx3 w dn ds DC en es EC
 have HSS := hid (fun w' (h : Chg (fun _ => False) (((w.alloc (.cells #[.bool dn, .int .i8 ds, .int .u64 DC] 53)).alloc (.cells #[.bool en, .int .i8 es, .int .u64 EC] 53)).alloc (.cells #[.bool false, .int .i8 0, .int .u64 0] 53)) w') => (show w'.cell? ⟨w.heap.size, 0, none⟩ = some (.bool dn) ∧ w'.cell? ⟨w.heap.size, 1, none⟩ = some (.int .i8 ds) ∧ w'.cell? ⟨w.heap.size, 2, none⟩ = some (.int .u64 DC) ∧ w'.cell? ⟨w.heap.size + 1, 0, none⟩ = some (.bool en) ∧ w'.cell? ⟨w.heap.size + 1, 1, none⟩ = some (.int .i8 es) ∧ w'.cell? ⟨w.heap.size + 1, 2, none⟩ = some (.int .u64 EC) from ⟨(HB.out _ h).1, (HB.out _ h).2.1, (HB.out _ h).2.2.1, (HB.out _ h).2.2.2.1, (HB.out _ h).2.2.2.2.1, (HB.out _ h).2.2.2.2.2.1⟩))
 obtain ⟨d0, d1, d2, e0, e1, e2, r0, r1, r2, q0, q1, q2⟩ := HB.out _ (hk)
 clear he hP hm hds hes hdc0 hec0 hDC hEC hDS hES hDD hp19
 go_enter Tryz.func53, Tryz.ntmps53
 go_upto_region 6 with (go_at_call 89; (first | refine (HID.out _).mono ?_ | refine (HIE.out _).mono ?_); intro e w1 h; obtain ⟨he1, hc1⟩ := h; subst he1; replace hk := hk.trans hc1 sb_; clear hc1; clear d0 d1 d2 e0 e1 e2 r0 r1 r2 q0 q1 q2; obtain ⟨d0, d1, d2, e0, e1, e2, r0, r1, r2, q0, q1, q2⟩ := HB.out _ (hk))
 go_cut [2] (fun a wx => a = .int .i64 (p : Int) ∧ Hid (Chg (fun _ => False) (((w.alloc (.cells #[.bool dn, .int .i8 ds, .int .u64 DC] 53)).alloc (.cells #[.bool en, .int .i8 es, .int .u64 EC] 53)).alloc (.cells #[.bool false, .int .i8 0, .int .u64 0] 53)) wx))
 case first =>
  have hk := hk.drew
  first | (go_region_held3 (fun w' => w'.cell? ⟨w.heap.size, 0, none⟩ = some (.bool dn) ∧ w'.cell? ⟨w.heap.size, 1, none⟩ = some (.int .i8 ds) ∧ w'.cell? ⟨w.heap.size, 2, none⟩ = some (.int .u64 DC) ∧ w'.cell? ⟨w.heap.size + 1, 0, none⟩ = some (.bool en) ∧ w'.cell? ⟨w.heap.size + 1, 1, none⟩ = some (.int .i8 es) ∧ w'.cell? ⟨w.heap.size + 1, 2, none⟩ = some (.int .u64 EC)) (first | with_reducible exact HSS.out _ hk) (first | (go_at_call 77; (first | refine (HSD.out _).mono ?_ | refine (HSE.out _).mono ?_); intro e w1 h; obtain ⟨he1, hc1⟩ := h; subst he1; replace hk := hk.trans hc1 sb_; clear hc1))) | fail
  all_goals (go_wp2_with fail; go_meet; exact ⟨rfl, hk⟩)
 case rest =>
  obtain ⟨g1, hv⟩ := hcut
  subst g1
  clear hk d0 d1 d2 e0 e1 e2 r0 r1 r2 q0 q1 q2
  have hk := hv.out
  clear hv
  obtain ⟨d0, d1, d2, e0, e1, e2, r0, r1, r2, q0, q1, q2⟩ := HB.out _ (hk)
  go_wp2_with (go_at_call 90; refine (HNS.out _).mono ?_; intro e w1 h; obtain ⟨he1, hc1⟩ := h; subst he1; replace hk := hk.trans hc1 sb_; clear hc1; clear d0 d1 d2 e0 e1 e2 r0 r1 r2 q0 q1 q2; obtain ⟨d0, d1, d2, e0, e1, e2, r0, r1, r2, q0, q1, q2⟩ := HB.out _ (hk))
  exact bodyPost_ret (v := .tuple #[.agg #[.bool false, .int .i8 p, .int .u64 0], .nilIface]) (dec_result rfl _ _ (w.heap.size + 1 + 1) _ _ _ _ 53 rfl rfl (store3 (HBX.out _ hk) _ _ _)) rfl ⟨false, some (0, p), HPP.out, chg3 (HC0.out.trans hk sb_) (by omega) _ _ _, rfl⟩
theorem two_quo {w0 w2 : World} {p q : Nat} {a b : Nat} (h : Two w0 w2 p q (a : Int) (b : Int)) (ha : digs a ≤ 80) (hb0 : 0 < b) (hb : digs b ≤ 19) :
  Calls Tryz.prog 107 #[.pointer (some ⟨p, 0, none⟩), .pointer (some ⟨p, 0, none⟩), .pointer (some ⟨q, 0, none⟩)] w2 (fun e w3 => e = .returned (.tuple #[]) ∧ Two w0 w3 p q ((a / b : Nat) : Int) (b : Int)) := by
 obtain ⟨bp, bq, h1, h2, _⟩ := h.ex
 have e : ((a / b : Nat) : Int) = (a : Int) / (b : Int) := by omega
 rw [e]
 exact (bint_quo p q bp bq (a : Int) (b : Int) w2 h1 h2 h.env.env (digs_bp ha) (by omega) (nat_bp3 hb)).mono (fun e w3 k => ⟨k.1, h.step h1 k⟩)
theorem quo_dig2 {a k : Nat} (ha : a < 10 ^ 19) (hk : k ≤ 60) : digs (a * 10 ^ k) ≤ 80 := by
 have h1 : a * 10 ^ k ≤ a * 10 ^ 60 := Nat.mul_le_mul_left _ (pow_le' hk)
 have h2 : a * 10 ^ 60 < 10 ^ 19 * 10 ^ 60 := Nat.mul_lt_mul_of_pos_right ha (pow10_pos _)
 rw [← Nat.pow_add] at h2
 exact digs_le.2 (Nat.lt_of_le_of_lt h1 (Nat.lt_trans h2 (Nat.pow_lt_pow_right (by omega) (by omega))))
set_option maxHeartbeats 4000000 in
theorem quoBint_any (dn en nn : Bool) (dc ec ds es m : Nat) (hdc : dc < 10 ^ 19) (hec : ec < 10 ^ 19) (hec0 : 0 < ec) (hds : ds ≤ 19) (hes : es ≤ 19) (hm : m ≤ 19) (hnn : (!(dn == en)) = nn) (w : World) (he : EnvD w) :
  Calls Tryz.prog 91 #[.agg #[.bool dn, .int .i8 ds, .int .u64 (dc : Int)], .agg #[.bool en, .int .i8 es, .int .u64 (ec : Int)], .int .i64 m] w (PDecN w nn (from19 (10 ^ 19) 2 (dc * 10 ^ (41 + es - ds) / ec) 41 m)) := by
 have hdd := digs_le.2 hdc
 have hde := digs_le.2 hec
 have HWD := hid (fiN hdc).wd
 have HWE := hid (fiN hec).wd
 obtain ⟨j1, hj1⟩ : ∃ k, 41 + es = k := ⟨_, rfl⟩
 obtain ⟨k1, hk1⟩ : ∃ k, 41 + es - ds = k := ⟨_, rfl⟩
 have hw1 : IntKind.i64.wrap (41 + (es : Int)) = (j1 : Int) := by rw [show (41 : Int) + (es : Int) = (j1 : Int) by omega]; exact IntWalk.i64_in _ (by omega)
 have hw2 : IntKind.i64.wrap ((j1 : Int) - (ds : Int)) = (k1 : Int) := by rw [show (j1 : Int) - (ds : Int) = (k1 : Int) by omega]; exact IntWalk.i64_in _ (by omega)
 rw [hk1]
 have hYd := quo_dig2 (k := k1) hdc (by omega)
 have HL := hid (fun w0 w2 p q y (h : Two w0 w2 p q (dc : Int) y) => two_lsh (k := k1) h (Nat.le_trans hdd (by omega)) (by omega))
 generalize dc * 10 ^ k1 = Y at *
 have HQ := hid (fun w0 w2 p q (h : Two w0 w2 p q (Y : Int) (ec : Int)) => two_quo h hYd hec0 hde)
 have hCd : digs (Y / ec) ≤ 80 := digs_le.2 (Nat.lt_of_le_of_lt (Nat.div_le_self _ _) (digs_le.1 hYd))
 generalize Y / ec = C at *
 have HF := hid (fun w0 w2 p q y (h : Two w0 w2 p q (C : Int) y) => two_nfb (s := 41) nn h hCd (by omega) hm)
 generalize from19 (10 ^ 19) 2 C 41 m = o at *
 have HSD := hid (fun w => Scale_any dn (dc : Int) ds hds w)
 have HSE := hid (fun w => Scale_any en (ec : Int) es hes w)
 have HND := hid (fun w => IsNeg_any dn (dc : Int) ds w)
 have HNE := hid (fun w => IsNeg_any en (ec : Int) es w)
 obtain ⟨HB, HBX, HC0, hk⟩ := bx3 w dn ds (dc : Int) en es (ec : Int)
 have HE0 := hid (he.kept HC0.out)
 have HSS := hid (fun w' (h : Chg (fun _ => False) (((w.alloc (.cells #[.bool dn, .int .i8 ds, .int .u64 (dc : Int)] 53)).alloc (.cells #[.bool en, .int .i8 es, .int .u64 (ec : Int)] 53)).alloc (.cells #[.bool false, .int .i8 0, .int .u64 0] 53)) w') => (show w'.cell? ⟨w.heap.size, 0, none⟩ = some (.bool dn) ∧ w'.cell? ⟨w.heap.size, 1, none⟩ = some (.int .i8 ds) ∧ w'.cell? ⟨w.heap.size, 2, none⟩ = some (.int .u64 (dc : Int)) ∧ w'.cell? ⟨w.heap.size + 1, 0, none⟩ = some (.bool en) ∧ w'.cell? ⟨w.heap.size + 1, 1, none⟩ = some (.int .i8 es) ∧ w'.cell? ⟨w.heap.size + 1, 2, none⟩ = some (.int .u64 (ec : Int)) from ⟨(HB.out _ h).1, (HB.out _ h).2.1, (HB.out _ h).2.2.1, (HB.out _ h).2.2.2.1, (HB.out _ h).2.2.2.2.1, (HB.out _ h).2.2.2.2.2.1⟩))
 obtain ⟨d0, d1, d2, e0, e1, e2, r0, r1, r2, q0, q1, q2⟩ := HB.out _ (hk)
 clear hCd hYd hdd hde hdc hec hec0 hes hds hk1 hj1 he
 go_enter_defers Tryz.func91, Tryz.ntmps91
 go_upto_region 8 with (first | (go_at_call 103; refine (getBint_any _).mono ?_; intro e w1 h; obtain ⟨q, he1, hi2, hs2, hc2⟩ := h; subst he1; have HT := hid (Two.start HIP.out hsp hcp hi2 hs2 hc2 HE0.out); replace hk := hk.trans hc2 sb_; clear hi2 hs2 hc2; clear d0 d1 d2 e0 e1 e2 r0 r1 r2 q0 q1 q2; obtain ⟨d0, d1, d2, e0, e1, e2, r0, r1, r2, q0, q1, q2⟩ := HB.out _ (hk)) | (go_at_call 103; refine (getBint_any _).mono ?_; intro e w1 h; obtain ⟨p, he1, hip, hsp, hcp⟩ := h; subst he1; have HIP := hid hip; clear hip; replace hk := hk.trans hcp sb_; clear d0 d1 d2 e0 e1 e2 r0 r1 r2 q0 q1 q2; obtain ⟨d0, d1, d2, e0, e1, e2, r0, r1, r2, q0, q1, q2⟩ := HB.out _ (hk)) | (go_at_call 77; (first | refine (HSD.out _).mono ?_ | refine (HSE.out _).mono ?_); intro e w1 h; obtain ⟨he1, hc1⟩ := h; subst he1; have HT := hid (HT.out.same hc1); replace hk := hk.trans hc1 sb_; clear hc1; clear d0 d1 d2 e0 e1 e2 r0 r1 r2 q0 q1 q2; obtain ⟨d0, d1, d2, e0, e1, e2, r0, r1, r2, q0, q1, q2⟩ := HB.out _ (hk)) | (go_at_call 75; (first | refine (HND.out _).mono ?_ | refine (HNE.out _).mono ?_); intro e w1 h; obtain ⟨he1, hc1⟩ := h; subst he1; have HT := hid (HT.out.same hc1); replace hk := hk.trans hc1 sb_; clear hc1; clear d0 d1 d2 e0 e1 e2 r0 r1 r2 q0 q1 q2; obtain ⟨d0, d1, d2, e0, e1, e2, r0, r1, r2, q0, q1, q2⟩ := HB.out _ (hk)) | (go_at_call 105; (first | refine (two_setFint HT.out HWD.out).mono ?_ | refine (two_setFint' HT.out HWE.out).mono ?_); intro e w1 h; obtain ⟨he1, h⟩ := h; subst he1; have HT := hid h; clear h; replace hk := HT.out.chg; clear d0 d1 d2 e0 e1 e2 r0 r1 r2 q0 q1 q2; obtain ⟨d0, d1, d2, e0, e1, e2, r0, r1, r2, q0, q1, q2⟩ := HB.out _ (hk)))
 have hk := hk.drew
 have HT := hid (HT.out.same (Chg.refl _ _).drew)
 first | (go_region_held3 (fun w' => w'.cell? ⟨w.heap.size, 0, none⟩ = some (.bool dn) ∧ w'.cell? ⟨w.heap.size, 1, none⟩ = some (.int .i8 ds) ∧ w'.cell? ⟨w.heap.size, 2, none⟩ = some (.int .u64 (dc : Int)) ∧ w'.cell? ⟨w.heap.size + 1, 0, none⟩ = some (.bool en) ∧ w'.cell? ⟨w.heap.size + 1, 1, none⟩ = some (.int .i8 es) ∧ w'.cell? ⟨w.heap.size + 1, 2, none⟩ = some (.int .u64 (ec : Int))) (first | with_reducible exact HSS.out _ hk) (first | (go_at_call 77; (first | refine (HSD.out _).mono ?_ | refine (HSE.out _).mono ?_); intro e w1 h; obtain ⟨he1, hc1⟩ := h; subst he1; have HT := hid (HT.out.same hc1); replace hk := hk.trans hc1 sb_; clear hc1) | (go_at_call 106; refine (HL.out _ _ _ _ _ HT.out).mono ?_; intro e w1 h; obtain ⟨he1, h⟩ := h; subst he1; have HT := hid h; clear h; replace hk := HT.out.chg))) | fail
 clear d0 d1 d2 e0 e1 e2 r0 r1 r2 q0 q1 q2
 obtain ⟨d0, d1, d2, e0, e1, e2, r0, r1, r2, q0, q1, q2⟩ := HB.out _ (hk)
 go_wp2_with (first | (go_at_call 103; refine (getBint_any _).mono ?_; intro e w1 h; obtain ⟨q, he1, hi2, hs2, hc2⟩ := h; subst he1; have HT := hid (Two.start HIP.out hsp hcp hi2 hs2 hc2 HE0.out); replace hk := hk.trans hc2 sb_; clear hi2 hs2 hc2; clear d0 d1 d2 e0 e1 e2 r0 r1 r2 q0 q1 q2; obtain ⟨d0, d1, d2, e0, e1, e2, r0, r1, r2, q0, q1, q2⟩ := HB.out _ (hk)) | (go_at_call 103; refine (getBint_any _).mono ?_; intro e w1 h; obtain ⟨p, he1, hip, hsp, hcp⟩ := h; subst he1; have HIP := hid hip; clear hip; replace hk := hk.trans hcp sb_; clear d0 d1 d2 e0 e1 e2 r0 r1 r2 q0 q1 q2; obtain ⟨d0, d1, d2, e0, e1, e2, r0, r1, r2, q0, q1, q2⟩ := HB.out _ (hk)) | (go_at_call 77; (first | refine (HSD.out _).mono ?_ | refine (HSE.out _).mono ?_); intro e w1 h; obtain ⟨he1, hc1⟩ := h; subst he1; have HT := hid (HT.out.same hc1); replace hk := hk.trans hc1 sb_; clear hc1; clear d0 d1 d2 e0 e1 e2 r0 r1 r2 q0 q1 q2; obtain ⟨d0, d1, d2, e0, e1, e2, r0, r1, r2, q0, q1, q2⟩ := HB.out _ (hk)) | (go_at_call 75; (first | refine (HND.out _).mono ?_ | refine (HNE.out _).mono ?_); intro e w1 h; obtain ⟨he1, hc1⟩ := h; subst he1; have HT := hid (HT.out.same hc1); replace hk := hk.trans hc1 sb_; clear hc1; clear d0 d1 d2 e0 e1 e2 r0 r1 r2 q0 q1 q2; obtain ⟨d0, d1, d2, e0, e1, e2, r0, r1, r2, q0, q1, q2⟩ := HB.out _ (hk)) | (go_at_call 105; (first | refine (two_setFint HT.out HWD.out).mono ?_ | refine (two_setFint' HT.out HWE.out).mono ?_); intro e w1 h; obtain ⟨he1, h⟩ := h; subst he1; have HT := hid h; clear h; replace hk := HT.out.chg; clear d0 d1 d2 e0 e1 e2 r0 r1 r2 q0 q1 q2; obtain ⟨d0, d1, d2, e0, e1, e2, r0, r1, r2, q0, q1, q2⟩ := HB.out _ (hk)) | (go_at_call 107; refine (HQ.out _ _ _ _ HT.out).mono ?_; intro e w1 h; obtain ⟨he1, h⟩ := h; subst he1; have HT := hid h; clear h; replace hk := HT.out.chg; clear d0 d1 d2 e0 e1 e2 r0 r1 r2 q0 q1 q2; obtain ⟨d0, d1, d2, e0, e1, e2, r0, r1, r2, q0, q1, q2⟩ := HB.out _ (hk)) | (go_at_call 111; refine (HF.out _ _ _ _ _ HT.out).mono ?_; intro e w1 h; obtain ⟨na, nb, nc, nv, he1, hc1, hp⟩ := h.op; subst he1; replace hk := hc1; clear h hc1; clear d0 d1 d2 e0 e1 e2 r0 r1 r2 q0 q1 q2; obtain ⟨d0, d1, d2, e0, e1, e2, r0, r1, r2, q0, q1, q2⟩ := HB.out _ (hk); have HP := hid hp; clear hp))
 refine leaves_cons (f := 104) (args := #[.pointer (some ⟨q, 0, none⟩)]) (by simp) (by simp [go_sem]) ?_
 refine (putBint_d _ .returning _).mono ?_
 rintro e u' w'' ⟨rfl, rfl, rfl⟩
 refine leaves_cons (f := 104) (args := #[.pointer (some ⟨p, 0, none⟩)]) (by simp [settle]) (by simp [go_sem]) ?_
 refine (putBint_d _ .returning _).mono ?_
 rintro e u' w'' ⟨rfl, rfl, rfl⟩
 exact ⟨.tuple #[.agg #[.bool na, .int .i8 nb, .int .u64 nc], nv], dec_result rfl _ _ (w.heap.size + 1 + 1) _ _ _ _ 53 rfl rfl (store3 (HBX.out _ hk) _ _ _), HP.out.move (chg3 (HC0.out.trans hk sb_) (by omega) _ _ _)⟩
end Go.Proofs.YtldhfhloinlfaaaGreatDoor
namespace Go.Proofs.YtldhfhloinlfaaaGreatDoor
set_option linter.unusedVariables false
set_option linter.unusedSimpArgs false
theorem quo_exact {dc ec ds es j z F Q : Nat} (hec : 0 < ec) (hF : F * 10 ^ z = ec) (hQ : dc * 10 ^ j = Q * F) (n : Nat) :
  atP (dc * 10 ^ es) (10 ^ ds * ec) n = rnd (qC Q ((ds : Int) + j + z - es)) (qS ((ds : Int) + j + z - es)) n := by
 unfold atP rnd
 refine rhe_cross (Nat.mul_pos (pow10_pos _) hec) (pow10_pos _) ?_
 unfold qC qS
 rw [← hF]
 obtain ⟨u, hu⟩ : ∃ u, ((ds : Int) + j + z - es).toNat = u := ⟨_, rfl⟩
 obtain ⟨v, hv⟩ : ∃ v, (-((ds : Int) + j + z - es)).toNat = v := ⟨_, rfl⟩
 rw [hu, hv]
 have e1 : es + u = v + ds + z + j := by omega
 have e2 : 10 ^ es * 10 ^ u = 10 ^ v * 10 ^ ds * 10 ^ z * 10 ^ j := by rw [← Nat.pow_add, ← Nat.pow_add, ← Nat.pow_add, ← Nat.pow_add, e1]
 calc dc * 10 ^ es * 10 ^ n * 10 ^ u = dc * 10 ^ n * (10 ^ es * 10 ^ u) := by ac_rfl
  _ = dc * 10 ^ j * (10 ^ n * (10 ^ v * 10 ^ ds * 10 ^ z)) := by rw [e2]; ac_rfl
  _ = Q * 10 ^ v * 10 ^ n * (10 ^ ds * (F * 10 ^ z)) := by rw [hQ]; ac_rfl
end Go.Proofs.YtldhfhloinlfaaaGreatDoor
namespace Go.Proofs.YtldhfhloinlfaaaGreatDoor
open Go.RowKit
set_option linter.unusedVariables false
set_option linter.unusedSimpArgs false
set_option maxRecDepth 20000
theorem good_zero {n1 sg : Bool} {x m t : Nat} (hx : 0 < x) (h1 : m ≤ t) (h2 : t ≤ 19) : Good n1 0 x m sg (some (0, t)) := by
 refine ⟨0, t, fun n _ => ?_, .inr rfl, ?_⟩
 ·unfold atP rnd
  rw [Nat.zero_mul, rhe_z hx, rhe_z (pow10_pos _)]
 ·have h := from19_keep (c := 0) (by decide) h1 h2
  rw [h]
  exact .inr ⟨0, t, 0, t, rfl, rfl, h1, Nat.le_refl _, by rw [Nat.zero_mul]⟩
theorem good_small {dc ec ds es j z F Q m : Nat} (nn : Bool) (hm : m ≤ 19) (hec : 0 < ec) (hF : F * 10 ^ z = ec) (hQ : dc * 10 ^ j = Q * F) :
  Good (nn && dc * 10 ^ es != 0) (dc * 10 ^ es) (10 ^ ds * ec) m nn (from19 (10 ^ 19) 2 (qC Q ((ds : Int) + j + z - es)) (qS ((ds : Int) + j + z - es)) m) := by
 refine ⟨_, _, fun n _ => quo_exact hec hF hQ n, nz_sign nn (fun h => ?_), TrimOf.same hm⟩
 have h0 : dc = 0 := by
  rcases Nat.mul_eq_zero.1 h with h | h
  ·exact h
  ·have := pow10_pos es; omega
 subst h0
 rw [Nat.zero_mul] at hQ
 have hF0 : F ≠ 0 := by intro e; subst e; rw [Nat.zero_mul] at hF; omega
 have : Q = 0 := by
  rcases Nat.mul_eq_zero.1 hQ.symm with h | h
  ·exact h
  ·exact absurd h hF0
 subst this
 unfold qC
 rw [Nat.zero_mul]
theorem good_big {dc ec ds es m : Nat} (nn : Bool) (hm : m ≤ 19) (hec : 0 < ec) (hec1 : ec < 10 ^ 19) (hds : ds ≤ 19) (hes : es ≤ 19) :
  Good (nn && dc * 10 ^ es != 0) (dc * 10 ^ es) (10 ^ ds * ec) m nn (from19 (10 ^ 19) 2 (dc * 10 ^ (41 + es - ds) / ec) 41 m) := by
 refine ⟨_, _, fun n hn => (quo_rnd hec hec1 hds hes hn).symm, nz_sign nn (fun h => ?_), TrimOf.same hm⟩
 have h0 : dc = 0 := by
  rcases Nat.mul_eq_zero.1 h with h | h
  ·exact h
  ·have := pow10_pos es; omega
 rw [h0, Nat.zero_mul, Nat.zero_div]
theorem goodAt_in {n1 sg : Bool} {a x m : Nat} {o : Option (Nat × Nat)} (hm : m ≤ 19) : GoodAt n1 a x (m : Int) sg o ↔ Good n1 a x m sg o := by
 unfold GoodAt
 rw [if_neg (by omega), Int.toNat_natCast]
theorem quoFint_good (dn en : Bool) (dc ec ds es m : Nat) (hdc : dc < 10 ^ 19) (hec : ec < 10 ^ 19) (hec0 : 0 < ec) (hds : ds ≤ 19) (hes : es ≤ 19) (hm : m ≤ 19) (w : World) (he : EnvI w) :
  Calls Tryz.prog 87 #[.agg #[.bool dn, .int .i8 ds, .int .u64 (dc : Int)], .agg #[.bool en, .int .i8 es, .int .u64 (ec : Int)], .int .i64 m] w (PX (fun sg o => o = none ∨ Good ((dn != en) && dc * 10 ^ es != 0) (dc * 10 ^ es) (10 ^ ds * ec) m sg o) w) := by
 refine quoFint_gen dn en (dn != en) dc ec ds es m hdc hec hec0 hds hes hm rfl _ w he ?_ (fun _ _ _ _ => .inl rfl)
 intro z hz1 hz2 hx w1 he1
 obtain ⟨hF0, hF1, hF2⟩ := rd_facts hec hec0 hz2
 have hX := lsh_digs hdc
 have hd : digs dc ≤ 19 := digs_le.2 hdc
 have hQ : dc * 10 ^ (19 - digs dc) = dc * 10 ^ (19 - digs dc) / (ec / 10 ^ z) * (ec / 10 ^ z) := (Nat.div_mul_cancel (Nat.dvd_of_mod_eq_zero hx)).symm
 have hg := good_small (ds := ds) (es := es) (dn != en) hm hec0 hF2 hQ
 refine (nff_any (dn != en) (dc * 10 ^ (19 - digs dc) / (ec / 10 ^ z)) ((ds : Int) + ((19 - digs dc : Nat) : Int) + (z : Int) - (es : Int)) m (Nat.lt_of_le_of_lt (Nat.div_le_self _ _) hX) (by omega) (by omega) hm w1 he1).mono (fun e w' h => ?_)
 obtain ⟨hc, h | ⟨k, t, h1, h2⟩⟩ := h
 ·exact ⟨false, none, .inl rfl, hc, h⟩
 ·rw [h1] at hg
  exact ⟨_, some (k, t), .inr hg, hc, h2⟩
theorem QuoExact_in (dn en : Bool) (dc ec ds es : Nat) (m : Int) (hdc : dc < 10 ^ 19) (hec : ec < 10 ^ 19) (hds : ds ≤ 19) (hes : es ≤ 19) (hec0 : 0 < ec) (w : World) (he : EnvI w) :
  Calls Tryz.prog 53 #[.agg #[.bool dn, .int .i8 ds, .int .u64 (dc : Int)], .agg #[.bool en, .int .i8 es, .int .u64 (ec : Int)], .int .i64 m] w (PX (GoodAt ((dn != en) && dc * 10 ^ es != 0) (dc * 10 ^ es) (10 ^ ds * ec) m) w) := by
 by_cases hm : m < 0 ∨ 19 < m
 ·exact quoEx_bad dn en dc ec ds es m (.inl hm) _ (by unfold GoodAt; rw [if_pos hm]) w
 ·obtain ⟨k, rfl⟩ : ∃ k : Nat, m = k := ⟨m.toNat, by omega⟩
  have hk : k ≤ 19 := by omega
  have hx0 : 0 < 10 ^ ds * ec := Nat.mul_pos (pow10_pos _) hec0
  by_cases h0 : dc = 0
  ·refine quoEx_nil dn en dc ec ds es k hk hds hes h0 hec0 _ w he (fun t h1 h2 => (goodAt_in hk).2 ?_)
   rw [h0, Nat.zero_mul]
   exact good_zero hx0 h1 h2
  ·refine quoEx_in dn en dc ec ds es k hk hdc hec hds hes (by omega) hec0 _ (fun sg o => o = none ∨ Good ((dn != en) && dc * 10 ^ es != 0) (dc * 10 ^ es) (10 ^ ds * ec) k sg o) w he ?_ ?_ ?_ ?_ ?_
   ·exact fun sg k' t h => (goodAt_in hk).2 (h.resolve_left (by simp))
   ·exact fun sg k' t h => ((goodAt_in hk).1 h).bd hk |> fun h => ⟨h.1, h.2.1, h.2.2⟩
   ·exact fun sg a t a' t' h h1 h2 h3 => (goodAt_in hk).2 (((goodAt_in hk).1 h).trim h1 h2 h3)
   ·exact fun w1 he1 => quoFint_good dn en dc ec ds es k hdc hec hec0 hds hes hk w1 he1
   ·exact fun w1 he1 => (quoBint_any dn en (dn != en) dc ec ds es k hdc hec hec0 hds hes hk rfl w1 he1.1).mono (fun e w' h => ⟨_, _, (goodAt_in hk).2 (good_big (dn != en) hk hec0 hec hds hes), h⟩)
theorem QuoExact_zero (dn en : Bool) (dc ec ds es : Nat) (m : Int) (hdc : dc < 10 ^ 19) (hec : ec < 10 ^ 19) (hds : ds ≤ 19) (hes : es ≤ 19) (hec0 : ec = 0) (w : World) (he : EnvI w) :
  Calls Tryz.prog 53 #[.agg #[.bool dn, .int .i8 ds, .int .u64 (dc : Int)], .agg #[.bool en, .int .i8 es, .int .u64 (ec : Int)], .int .i64 m] w (PX (fun _ o => o = none) w) :=
 quoEx_bad dn en dc ec ds es m (.inr hec0) _ rfl w
end Go.Proofs.YtldhfhloinlfaaaGreatDoor
