/- Part 23 of the proof. -/
import Derived.Recover
import Derived.Lib.SmallJoins
import Derived.OpenVars
import Derived.Test.YthdkandofddohaaGreatDoorChecked
import Derived.Test.YthdkandofddohaaGreatDoorP22
namespace Go.Proofs.YthdkandofddohaaGreatDoor
open Go.RowKit
set_option linter.unusedVariables false
set_option linter.unusedSimpArgs false
set_option maxRecDepth 20000
def Var3 (w0 w1 : World) (g : Nat) (a b d : Value) : Prop := Chg (fun _ => False) w0 w1 ∧ w0.heap.size ≤ g ∧ w1.heap[g]? = some (.cells #[a, b, d] 54 (0, 0))
theorem Var3.mk' {w0 w1 : World} (h : Chg (fun _ => False) w0 w1) (a b d : Value) : Var3 w0 (w1.alloc (.cells #[a, b, d] 54)) w1.heap.size a b d :=
 ⟨h.alloc _, h.size, heap_alloc_new _ _⟩
set_option maxHeartbeats 2000000 in
theorem addExact_ok (dn en : Bool) (dc ec ds es m : Nat) (hm : m ≤ 19) (w : World) (k : Int) (t : Nat) (nb : Bool)
  (HA : Hid (Calls Tryz.prog 67 #[.agg #[.bool dn, .int .i8 ds, .int .u64 (dc : Int)], .agg #[.bool en, .int .i8 es, .int .u64 (ec : Int)], .int .i64 m] (((w.alloc (.cells #[.bool dn, .int .i8 ds, .int .u64 (dc : Int)] 54)).alloc (.cells #[.bool en, .int .i8 es, .int .u64 (ec : Int)] 54)).alloc (.cells #[.bool false, .int .i8 0, .int .u64 0] 54))
   (fun e w' => e = .returned (.tuple #[.agg #[.bool nb, .int .i8 t, .int .u64 k], .nilIface]) ∧ Chg (fun _ => False) (((w.alloc (.cells #[.bool dn, .int .i8 ds, .int .u64 (dc : Int)] 54)).alloc (.cells #[.bool en, .int .i8 es, .int .u64 (ec : Int)] 54)).alloc (.cells #[.bool false, .int .i8 0, .int .u64 0] 54)) w'))) :
  Calls Tryz.prog 44 #[.agg #[.bool dn, .int .i8 ds, .int .u64 (dc : Int)], .agg #[.bool en, .int .i8 es, .int .u64 (ec : Int)], .int .i64 m] w
   (fun e w' => e = .returned (.tuple #[.agg #[.bool nb, .int .i8 t, .int .u64 k], .nilIface]) ∧ Chg (fun _ => False) w w') := by
 have HBS := hid (Bx.start w dn ds (dc : Int) en es (ec : Int))
 have HC0 := hid (start3 w (.cells #[.bool dn, .int .i8 ds, .int .u64 (dc : Int)] 54) (.cells #[.bool en, .int .i8 es, .int .u64 (ec : Int)] 54) (.cells #[.bool false, .int .i8 0, .int .u64 0] 54))
 have hb1 : decide ((m : Int) < 0) = false := decide_eq_false (by omega)
 have hb2 : decide ((19 : Int) < (m : Int)) = false := decide_eq_false (by omega)
 obtain ⟨d0, d1, d2, e0, e1, e2, r0, r1, r2, q0, q1, q2⟩ := HBS.out.facts
 go_enter Tryz.func44, Tryz.ntmps44
 go_upto_region 3 with fail
 go_cut [8, 9] from 18 to 24 (fun a b wx => ∃ g : Nat, a = .pointer (some ⟨g, 0, none⟩) ∧ b = .nilIface ∧ Hid (Var3 (((w.alloc (.cells #[.bool dn, .int .i8 ds, .int .u64 (dc : Int)] 54)).alloc (.cells #[.bool en, .int .i8 es, .int .u64 (ec : Int)] 54)).alloc (.cells #[.bool false, .int .i8 0, .int .u64 0] 54)) wx g (.bool nb) (.int .i8 t) (.int .u64 k)))
 case first =>
  go_wp2_with fail
  go_at_call 67
  refine HA.out.mono ?_
  intro e w1 h
  obtain ⟨he1, hk⟩ := h
  subst he1
  clear d0 d1 d2 e0 e1 e2 r0 r1 r2 q0 q1 q2
  have HK := hid hk
  clear hk
  go_wp2_with fail
  go_meet
  exact ⟨w1.heap.size, rfl, rfl, Var3.mk' HK.out _ _ _⟩
 case rest =>
  obtain ⟨g, he1, he2, hv⟩ := hcut
  subst he1
  subst he2
  have HV := hid hv
  clear hv d0 d1 d2 e0 e1 e2 r0 r1 r2 q0 q1 q2
  obtain ⟨d0, d1, d2, e0, e1, e2, r0, r1, r2, q0, q1, q2⟩ := (HBS.out.kept HV.out.out.1).facts
  obtain ⟨k0, k1, k2, l0, l1, l2⟩ := cell3 HV.out.out.2.2
  go_wp2_with fail
  refine bodyPost_ret (v := .tuple #[.agg #[.bool nb, .int .i8 t, .int .u64 k], .nilIface]) (dec_result rfl _ _ (w.heap.size + 1 + 1) _ _ _ _ 54 rfl rfl (store3 (HBS.out.kept HV.out.out.1).h2 _ _ _)) rfl ⟨rfl, chg3 (HC0.out.trans HV.out.out.1 sb_) (by omega) _ _ _⟩
theorem Var3.set {w0 w1 w2 : World} {g : Nat} {x y z : Value} (h : Var3 w0 w1 g x y z) (hc : Chg (fun _ => False) w1 w2) (a b d : Value) :
  Var3 w0 (((w2.setCell ⟨g, 0, none⟩ a).setCell ⟨g, 1, none⟩ b).setCell ⟨g, 2, none⟩ d) g a b d := by
 obtain ⟨h1, h2, h3⟩ := h
 refine ⟨chg3 (h1.trans hc sb_) h2 _ _ _, h2, store3 ((hc.keep g (Array.getElem?_eq_some_iff.1 h3).1 (fun h => h)).trans h3) _ _ _⟩
theorem Var3.kept {w0 w1 w2 : World} {g : Nat} {x y z : Value} (h : Var3 w0 w1 g x y z) (hc : Chg (fun _ => False) w1 w2) : Var3 w0 w2 g x y z :=
 ⟨h.1.trans hc sb_, h.2.1, (hc.keep g (Array.getElem?_eq_some_iff.1 h.2.2).1 (fun h => h)).trans h.2.2⟩
def PErrD (w : World) (e : Ending) (w' : World) : Prop := Chg (fun _ => False) w w' ∧ ∃ t v, e = .returned (.tuple #[.agg #[.bool false, .int .i8 0, .int .u64 0], .iface t v])
set_option maxHeartbeats 2000000 in
theorem addExact_big (dn en : Bool) (dc ec ds es m : Nat) (hm : m ≤ 19) (w : World) (k : Int) (t : Nat) (nb : Bool) (he : EnvD w)
  (HA : Hid (Calls Tryz.prog 67 #[.agg #[.bool dn, .int .i8 ds, .int .u64 (dc : Int)], .agg #[.bool en, .int .i8 es, .int .u64 (ec : Int)], .int .i64 m] (((w.alloc (.cells #[.bool dn, .int .i8 ds, .int .u64 (dc : Int)] 54)).alloc (.cells #[.bool en, .int .i8 es, .int .u64 (ec : Int)] 54)).alloc (.cells #[.bool false, .int .i8 0, .int .u64 0] 54)) (PErrD (((w.alloc (.cells #[.bool dn, .int .i8 ds, .int .u64 (dc : Int)] 54)).alloc (.cells #[.bool en, .int .i8 es, .int .u64 (ec : Int)] 54)).alloc (.cells #[.bool false, .int .i8 0, .int .u64 0] 54)))))
  (HB : Hid (∀ w1, EnvD w1 → Calls Tryz.prog 68 #[.agg #[.bool dn, .int .i8 ds, .int .u64 (dc : Int)], .agg #[.bool en, .int .i8 es, .int .u64 (ec : Int)], .int .i64 m] w1
   (fun e w' => e = .returned (.tuple #[.agg #[.bool nb, .int .i8 t, .int .u64 k], .nilIface]) ∧ Chg (fun _ => False) w1 w'))) :
  Calls Tryz.prog 44 #[.agg #[.bool dn, .int .i8 ds, .int .u64 (dc : Int)], .agg #[.bool en, .int .i8 es, .int .u64 (ec : Int)], .int .i64 m] w
   (fun e w' => e = .returned (.tuple #[.agg #[.bool nb, .int .i8 t, .int .u64 k], .nilIface]) ∧ Chg (fun _ => False) w w') := by
 have HBS := hid (Bx.start w dn ds (dc : Int) en es (ec : Int))
 have HC0 := hid (start3 w (.cells #[.bool dn, .int .i8 ds, .int .u64 (dc : Int)] 54) (.cells #[.bool en, .int .i8 es, .int .u64 (ec : Int)] 54) (.cells #[.bool false, .int .i8 0, .int .u64 0] 54))
 have HE0 := hid (he.kept HC0.out)
 have hb1 : decide ((m : Int) < 0) = false := decide_eq_false (by omega)
 have hb2 : decide ((19 : Int) < (m : Int)) = false := decide_eq_false (by omega)
 obtain ⟨d0, d1, d2, e0, e1, e2, r0, r1, r2, q0, q1, q2⟩ := HBS.out.facts
 clear he
 go_enter Tryz.func44, Tryz.ntmps44
 go_upto_region 3 with fail
 go_cut [8, 9] from 18 to 24 (fun a b wx => ∃ g : Nat, a = .pointer (some ⟨g, 0, none⟩) ∧ (∃ et ev, b = .iface et ev) ∧ Hid (Var3 (((w.alloc (.cells #[.bool dn, .int .i8 ds, .int .u64 (dc : Int)] 54)).alloc (.cells #[.bool en, .int .i8 es, .int .u64 (ec : Int)] 54)).alloc (.cells #[.bool false, .int .i8 0, .int .u64 0] 54)) wx g (.bool false) (.int .i8 0) (.int .u64 0)))
 case first =>
  go_wp2_with fail
  go_at_call 67
  refine HA.out.mono ?_
  intro e w1 h
  obtain ⟨hk, et, ev, he1⟩ := h
  subst he1
  clear d0 d1 d2 e0 e1 e2 r0 r1 r2 q0 q1 q2
  have HK := hid hk
  clear hk
  go_wp2_with fail
  go_meet
  exact ⟨w1.heap.size, rfl, ⟨_, _, rfl⟩, Var3.mk' HK.out _ _ _⟩
 case rest =>
  obtain ⟨g, he1, ⟨et, ev, he2⟩, hv⟩ := hcut
  subst he1
  subst he2
  have HV := hid hv
  clear hv d0 d1 d2 e0 e1 e2 r0 r1 r2 q0 q1 q2
  obtain ⟨d0, d1, d2, e0, e1, e2, r0, r1, r2, q0, q1, q2⟩ := (HBS.out.kept HV.out.out.1).facts
  obtain ⟨k0, k1, k2, l0, l1, l2⟩ := cell3 HV.out.out.2.2
  go_upto_region 5 with fail
  go_cut [8, 9] from 27 to 33 (fun a b wx => a = .pointer (some ⟨g, 0, none⟩) ∧ b = .nilIface ∧ Hid (Var3 (((w.alloc (.cells #[.bool dn, .int .i8 ds, .int .u64 (dc : Int)] 54)).alloc (.cells #[.bool en, .int .i8 es, .int .u64 (ec : Int)] 54)).alloc (.cells #[.bool false, .int .i8 0, .int .u64 0] 54)) wx g (.bool nb) (.int .i8 t) (.int .u64 k)))
  case first =>
   go_wp2_with fail
   go_at_call 68
   refine (HB.out _ (HE0.out.kept HV.out.out.1)).mono ?_
   intro e w1 h
   obtain ⟨he1, hk⟩ := h
   subst he1
   clear d0 d1 d2 e0 e1 e2 r0 r1 r2 q0 q1 q2 k0 k1 k2 l0 l1 l2
   have HK := hid hk
   clear hk
   obtain ⟨k0, k1, k2, l0, l1, l2⟩ := cell3 (HV.out.out.kept HK.out).2.2
   go_wp2_with fail
   go_meet
   exact ⟨rfl, rfl, HV.out.out.set HK.out _ _ _⟩
  case rest =>
   obtain ⟨he1, he2, hv⟩ := hcut
   subst he1
   subst he2
   clear d0 d1 d2 e0 e1 e2 r0 r1 r2 q0 q1 q2 k0 k1 k2 l0 l1 l2
   have HV2 := hid hv
   clear hv HV
   obtain ⟨d0, d1, d2, e0, e1, e2, r0, r1, r2, q0, q1, q2⟩ := (HBS.out.kept HV2.out.out.1).facts
   obtain ⟨k0, k1, k2, l0, l1, l2⟩ := cell3 HV2.out.out.2.2
   go_wp2_with fail
   refine bodyPost_ret (v := .tuple #[.agg #[.bool nb, .int .i8 t, .int .u64 k], .nilIface]) (dec_result rfl _ _ (w.heap.size + 1 + 1) _ _ _ _ 54 rfl rfl (store3 (HBS.out.kept HV2.out.out.1).h2 _ _ _)) rfl ⟨rfl, chg3 (HC0.out.trans HV2.out.out.1 sb_) (by omega) _ _ _⟩
set_option maxHeartbeats 2000000 in
theorem addExact_none (dn en : Bool) (dc ec ds es m : Nat) (hm : m ≤ 19) (w : World) (he : EnvD w)
  (HA : Hid (Calls Tryz.prog 67 #[.agg #[.bool dn, .int .i8 ds, .int .u64 (dc : Int)], .agg #[.bool en, .int .i8 es, .int .u64 (ec : Int)], .int .i64 m] (((w.alloc (.cells #[.bool dn, .int .i8 ds, .int .u64 (dc : Int)] 54)).alloc (.cells #[.bool en, .int .i8 es, .int .u64 (ec : Int)] 54)).alloc (.cells #[.bool false, .int .i8 0, .int .u64 0] 54)) (PErrD (((w.alloc (.cells #[.bool dn, .int .i8 ds, .int .u64 (dc : Int)] 54)).alloc (.cells #[.bool en, .int .i8 es, .int .u64 (ec : Int)] 54)).alloc (.cells #[.bool false, .int .i8 0, .int .u64 0] 54)))))
  (HB : Hid (∀ w1, EnvD w1 → Calls Tryz.prog 68 #[.agg #[.bool dn, .int .i8 ds, .int .u64 (dc : Int)], .agg #[.bool en, .int .i8 es, .int .u64 (ec : Int)], .int .i64 m] w1 (PErrD w1))) :
  Calls Tryz.prog 44 #[.agg #[.bool dn, .int .i8 ds, .int .u64 (dc : Int)], .agg #[.bool en, .int .i8 es, .int .u64 (ec : Int)], .int .i64 m] w (PErrD w) := by
 have HBS := hid (Bx.start w dn ds (dc : Int) en es (ec : Int))
 have HC0 := hid (start3 w (.cells #[.bool dn, .int .i8 ds, .int .u64 (dc : Int)] 54) (.cells #[.bool en, .int .i8 es, .int .u64 (ec : Int)] 54) (.cells #[.bool false, .int .i8 0, .int .u64 0] 54))
 have HE0 := hid (he.kept HC0.out)
 have hb1 : decide ((m : Int) < 0) = false := decide_eq_false (by omega)
 have hb2 : decide ((19 : Int) < (m : Int)) = false := decide_eq_false (by omega)
 obtain ⟨d0, d1, d2, e0, e1, e2, r0, r1, r2, q0, q1, q2⟩ := HBS.out.facts
 clear he
 go_enter Tryz.func44, Tryz.ntmps44
 go_upto_region 3 with fail
 go_cut [8, 9] from 18 to 24 (fun a b wx => ∃ g : Nat, a = .pointer (some ⟨g, 0, none⟩) ∧ (∃ et ev, b = .iface et ev) ∧ Hid (Var3 (((w.alloc (.cells #[.bool dn, .int .i8 ds, .int .u64 (dc : Int)] 54)).alloc (.cells #[.bool en, .int .i8 es, .int .u64 (ec : Int)] 54)).alloc (.cells #[.bool false, .int .i8 0, .int .u64 0] 54)) wx g (.bool false) (.int .i8 0) (.int .u64 0)))
 case first =>
  go_wp2_with fail
  go_at_call 67
  refine HA.out.mono ?_
  intro e w1 h
  obtain ⟨hk, et, ev, he1⟩ := h
  subst he1
  clear d0 d1 d2 e0 e1 e2 r0 r1 r2 q0 q1 q2
  have HK := hid hk
  clear hk
  go_wp2_with fail
  go_meet
  exact ⟨w1.heap.size, rfl, ⟨_, _, rfl⟩, Var3.mk' HK.out _ _ _⟩
 case rest =>
  obtain ⟨g, he1, ⟨et, ev, he2⟩, hv⟩ := hcut
  subst he1
  subst he2
  have HV := hid hv
  clear hv d0 d1 d2 e0 e1 e2 r0 r1 r2 q0 q1 q2
  obtain ⟨d0, d1, d2, e0, e1, e2, r0, r1, r2, q0, q1, q2⟩ := (HBS.out.kept HV.out.out.1).facts
  obtain ⟨k0, k1, k2, l0, l1, l2⟩ := cell3 HV.out.out.2.2
  go_upto_region 5 with fail
  go_cut [8, 9] from 27 to 33 (fun a b wx => a = .pointer (some ⟨g, 0, none⟩) ∧ (∃ t2 v2, b = .iface t2 v2) ∧ Hid (Var3 (((w.alloc (.cells #[.bool dn, .int .i8 ds, .int .u64 (dc : Int)] 54)).alloc (.cells #[.bool en, .int .i8 es, .int .u64 (ec : Int)] 54)).alloc (.cells #[.bool false, .int .i8 0, .int .u64 0] 54)) wx g (.bool false) (.int .i8 0) (.int .u64 0)))
  case first =>
   go_wp2_with fail
   go_at_call 68
   refine (HB.out _ (HE0.out.kept HV.out.out.1)).mono ?_
   intro e w1 h
   obtain ⟨hk, t2, v2, he1⟩ := h
   subst he1
   clear d0 d1 d2 e0 e1 e2 r0 r1 r2 q0 q1 q2 k0 k1 k2 l0 l1 l2
   have HK := hid hk
   clear hk
   obtain ⟨k0, k1, k2, l0, l1, l2⟩ := cell3 (HV.out.out.kept HK.out).2.2
   go_wp2_with fail
   go_meet
   exact ⟨rfl, ⟨_, _, rfl⟩, HV.out.out.set HK.out _ _ _⟩
  case rest =>
   obtain ⟨he1, ⟨t2, v2, he2⟩, hv⟩ := hcut
   subst he1
   subst he2
   clear d0 d1 d2 e0 e1 e2 r0 r1 r2 q0 q1 q2 k0 k1 k2 l0 l1 l2
   have HV2 := hid hv
   clear hv HV
   obtain ⟨d0, d1, d2, e0, e1, e2, r0, r1, r2, q0, q1, q2⟩ := (HBS.out.kept HV2.out.out.1).facts
   obtain ⟨k0, k1, k2, l0, l1, l2⟩ := cell3 HV2.out.out.2.2
   go_wp2_with (go_at_call 54; refine (errorsNew_any _ _).mono ?_; intro e w3 h; obtain ⟨⟨t3, v3, he3⟩, hc3⟩ := h; subst he3; have HK3 := hid hc3; clear hc3; clear d0 d1 d2 e0 e1 e2 r0 r1 r2 q0 q1 q2 k0 k1 k2 l0 l1 l2; obtain ⟨d0, d1, d2, e0, e1, e2, r0, r1, r2, q0, q1, q2⟩ := (HBS.out.kept (HV2.out.out.kept HK3.out).1).facts)
   refine bodyPost_ret (v := .tuple #[.agg #[.bool false, .int .i8 0, .int .u64 0], .iface t3 v3]) (dec_result rfl _ _ (w.heap.size + 1 + 1) _ _ _ _ 54 rfl rfl (store3 (HBS.out.kept (HV2.out.out.kept HK3.out).1).h2 _ _ _)) rfl ⟨chg3 (HC0.out.trans (HV2.out.out.kept HK3.out).1 (fun _ _ h => h)) (by omega) _ _ _, t3, v3, rfl⟩
theorem addExact_places (dn en : Bool) (dc ec : Int) (ds es : Nat) (m : Int) (hm : m < 0 ∨ 19 < m) (w : World) :
  Calls Tryz.prog 44 #[.agg #[.bool dn, .int .i8 ds, .int .u64 dc], .agg #[.bool en, .int .i8 es, .int .u64 ec], .int .i64 m] w (PErrD w) := by
 have HBS := hid (Bx.start w dn ds dc en es ec)
 have HC0 := hid (start3 w (.cells #[.bool dn, .int .i8 ds, .int .u64 dc] 54) (.cells #[.bool en, .int .i8 es, .int .u64 ec] 54) (.cells #[.bool false, .int .i8 0, .int .u64 0] 54))
 by_cases h0 : m < 0
 ·have hb1 : decide (m < 0) = true := decide_eq_true h0
  clear hm
  obtain ⟨d0, d1, d2, e0, e1, e2, r0, r1, r2, q0, q1, q2⟩ := HBS.out.facts
  go_enter Tryz.func44, Tryz.ntmps44
  go_wp2_with (go_at_call 54; refine (errorsNew_any _ _).mono ?_; intro e w3 h; obtain ⟨⟨t3, v3, he3⟩, hc3⟩ := h; subst he3; have HK3 := hid hc3; clear hc3; clear d0 d1 d2 e0 e1 e2 r0 r1 r2 q0 q1 q2; obtain ⟨d0, d1, d2, e0, e1, e2, r0, r1, r2, q0, q1, q2⟩ := (HBS.out.kept HK3.out).facts)
  refine bodyPost_ret (v := .tuple #[.agg #[.bool false, .int .i8 0, .int .u64 0], .iface t3 v3]) (dec_result rfl _ _ (w.heap.size + 1 + 1) _ _ _ _ 54 rfl rfl (store3 (HBS.out.kept HK3.out).h2 _ _ _)) rfl ⟨chg3 (HC0.out.trans HK3.out sb_) (by omega) _ _ _, t3, v3, rfl⟩
 ·have hb1 : decide (m < 0) = false := decide_eq_false h0
  have hb2 : decide (19 < m) = true := decide_eq_true (by omega)
  clear hm
  obtain ⟨d0, d1, d2, e0, e1, e2, r0, r1, r2, q0, q1, q2⟩ := HBS.out.facts
  go_enter Tryz.func44, Tryz.ntmps44
  go_wp2_with (go_at_call 54; refine (errorsNew_any _ _).mono ?_; intro e w3 h; obtain ⟨⟨t3, v3, he3⟩, hc3⟩ := h; subst he3; have HK3 := hid hc3; clear hc3; clear d0 d1 d2 e0 e1 e2 r0 r1 r2 q0 q1 q2; obtain ⟨d0, d1, d2, e0, e1, e2, r0, r1, r2, q0, q1, q2⟩ := (HBS.out.kept HK3.out).facts)
  refine bodyPost_ret (v := .tuple #[.agg #[.bool false, .int .i8 0, .int .u64 0], .iface t3 v3]) (dec_result rfl _ _ (w.heap.size + 1 + 1) _ _ _ _ 54 rfl rfl (store3 (HBS.out.kept HK3.out).h2 _ _ _)) rfl ⟨chg3 (HC0.out.trans HK3.out sb_) (by omega) _ _ _, t3, v3, rfl⟩
theorem addExact_any (dn en : Bool) (dc ec ds es m : Nat) (hdc : dc < 10 ^ 19) (hec : ec < 10 ^ 19) (hds : ds ≤ 19) (hes : es ≤ 19) (hm : m ≤ 19) (w : World) (he : EnvD w) :
  Calls Tryz.prog 44 #[.agg #[.bool dn, .int .i8 ds, .int .u64 (dc : Int)], .agg #[.bool en, .int .i8 es, .int .u64 (ec : Int)], .int .i64 m] w
   (PDecN w (sumD dn dc ds en ec es).1 (from19 (10 ^ 19) 2 (sumD dn dc ds en ec es).2 (mxp ds es) m)) := by
 have hE0 := he.kept (start3 w (.cells #[.bool dn, .int .i8 ds, .int .u64 (dc : Int)] 54) (.cells #[.bool en, .int .i8 es, .int .u64 (ec : Int)] 54) (.cells #[.bool false, .int .i8 0, .int .u64 0] 54))
 have hA := addFint_any dn en dc ec ds es m hdc hec hds hes hm _ hE0
 have hB := fun w1 he1 => addBint_any dn en dc ec ds es m hdc hec hds hes hm w1 he1
 cases hF : addF dn dc ds en ec es m with
 | some kt =>
  obtain ⟨k, t⟩ := kt
  obtain ⟨k', rfl, h19⟩ := addF_from19 hds hes hm hF
  rw [hF] at hA
  rw [h19]
  refine (addExact_ok dn en dc ec ds es m hm w (k' : Int) t _ (hid (hA.mono (fun e w' h => ⟨h.2, h.1⟩)))).mono (fun e w' h => ⟨h.2, h.1⟩)
 | none =>
  rw [hF] at hA
  have hA2 := hid (hA.mono (fun e w' (h : PDec _ _ none e w') => (show PErrD _ e w' from ⟨h.1, h.2⟩)))
  cases h19 : from19 (10 ^ 19) 2 (sumD dn dc ds en ec es).2 (mxp ds es) m with
  | some kt =>
   obtain ⟨k, t⟩ := kt
   rw [h19] at hB
   exact (addExact_big dn en dc ec ds es m hm w (k : Int) t _ he hA2 (hid (fun w1 he1 => (hB w1 he1).mono (fun e w' h => ⟨h.2, h.1⟩)))).mono (fun e w' h => ⟨h.2, h.1⟩)
  | none =>
   rw [h19] at hB
   exact (addExact_none dn en dc ec ds es m hm w he hA2 (hid (fun w1 he1 => (hB w1 he1).mono (fun e w' h => ⟨h.1, h.2⟩)))).mono (fun e w' h => ⟨h.1, h.2⟩)
def PAdd (w : World) (dn : Bool) (dc ds : Nat) (en : Bool) (ec es : Nat) (m : Int) (e : Ending) (w' : World) : Prop :=
 if m < 0 ∨ 19 < m then PErrD w e w' else PDecN w (sumD dn dc ds en ec es).1 (from19 (10 ^ 19) 2 (sumD dn dc ds en ec es).2 (mxp ds es) m.toNat) e w'
theorem AddExact_all (dn en : Bool) (dc ec ds es : Nat) (m : Int) (hdc : dc < 10 ^ 19) (hec : ec < 10 ^ 19) (hds : ds ≤ 19) (hes : es ≤ 19) (w : World) (he : EnvD w) :
  Calls Tryz.prog 44 #[.agg #[.bool dn, .int .i8 ds, .int .u64 (dc : Int)], .agg #[.bool en, .int .i8 es, .int .u64 (ec : Int)], .int .i64 m] w (PAdd w dn dc ds en ec es m) := by
 by_cases h : m < 0 ∨ 19 < m
 ·exact (addExact_places dn en (dc : Int) (ec : Int) ds es m h w).mono (fun e w' k => by unfold PAdd; rw [if_pos h]; exact k)
 ·obtain ⟨k, rfl⟩ : ∃ k : Nat, m = (k : Int) := ⟨m.toNat, by omega⟩
  exact (addExact_any dn en dc ec ds es k hdc hec hds hes (by omega) w he).mono (fun e w' q => by unfold PAdd; rw [if_neg h, Int.toNat_natCast]; exact q)
theorem PAdd.op {w w' : World} {dn en : Bool} {dc ds ec es : Nat} {m : Int} {e : Ending} (h : PAdd w dn dc ds en ec es m e w') :
  ∃ (a : Bool) (b c : Int) (v : Value), e = .returned (.tuple #[.agg #[.bool a, .int .i8 b, .int .u64 c], v]) ∧ Chg (fun _ => False) w w' ∧ PAdd w dn dc ds en ec es m (.returned (.tuple #[.agg #[.bool a, .int .i8 b, .int .u64 c], v])) w' := by
 have hh := h
 unfold PAdd at h
 split at h
 ·obtain ⟨h1, t, v, rfl⟩ := h
  exact ⟨_, _, _, _, rfl, h1, hh⟩
 ·obtain ⟨a, b, c, v, rfl, h1, _⟩ := h.op
  exact ⟨a, b, c, v, rfl, h1, hh⟩
theorem PAdd.move {w w1 w' w'' : World} {dn en : Bool} {dc ds ec es : Nat} {m : Int} {e : Ending} (h : PAdd w1 dn dc ds en ec es m e w'') (c : Chg (fun _ => False) w w') : PAdd w dn dc ds en ec es m e w' := by
 unfold PAdd at *
 split
 ·next k => rw [if_pos k] at h; exact ⟨c, h.2⟩
 ·next k => rw [if_neg k] at h; exact h.move c
theorem Coef_any (neg : Bool) (c : Int) (s : Nat) (w : World) :
  Calls Tryz.prog 47 #[.agg #[.bool neg, .int .i8 s, .int .u64 c]] w (fun e w' => e = .returned (.int .u64 c) ∧ Chg (fun _ => False) w w') := by
 go_enter Tryz.func47, Tryz.ntmps47
 go_wp2_with fail
 go_ret
 exact ⟨rfl, (Chg.refl _ _).alloc _⟩
theorem fix_size : (Tryz.prog.info? 24).map (·.size) = some 3 := by kernel_rfl
set_option maxHeartbeats 2000000 in
theorem fix_any (n1 : Bool) (c : Int) (s : Nat) (hs : s ≤ 19) (w : World) :
  Calls Tryz.prog 23 #[.agg #[.bool n1, .int .i8 s, .int .u64 c]] w (PV w (.agg #[.bool n1, .int .u64 c, .int .i64 s])) := by
 have H1 := hid (fun w => IsNeg_any n1 c s w)
 have H2 := hid (fun w => Coef_any n1 c s w)
 have H3 := hid (fun w => Scale_any n1 c s hs w)
 clear hs
 obtain ⟨HC0, HD, hB0, hB1⟩ := box2 w #[.bool n1, .int .i8 s, .int .u64 c] 54 #[.bool false, .int .u64 0, .int .i64 0] 24
 have HZ := hid hB1
 have HSS := hid (fun (w1 : World) h => c3_ (cell3 (kept_heap (w' := w1) h hB0)))
 have HST := hid (fun w1 x0 x1 x2 h => And.intro (fr_ (w.heap.size + 1) x0 x1 x2 (HSS.out w1 h).1) (And.intro (fr_ (w.heap.size + 1) x0 x1 x2 (HSS.out w1 h).2.1) (fr_ (w.heap.size + 1) x0 x1 x2 (HSS.out w1 h).2.2)))
 clear hB0 hB1
 have hk := HD.out
 go_enter Tryz.func23, Tryz.ntmps23
 go_wp2_with fail
 first | (go_region_held3 (fun w' => w'.cell? ⟨w.heap.size, 0, none⟩ = some (.bool n1) ∧ w'.cell? ⟨w.heap.size, 1, none⟩ = some (.int .i8 s) ∧ w'.cell? ⟨w.heap.size, 2, none⟩ = some (.int .u64 c)) (first | with_reducible exact HSS.out _ hk | with_reducible exact HST.out _ _ _ _ hk | go_keep) (first | (go_at_call 46; refine (H1.out _).mono ?_; intro e w1 h; obtain ⟨he, hc⟩ := h; subst he; replace hk := hk.trans hc sb_; skip; skip; clear hc; obtain ⟨k0, k1, k2, f0, f1, f2⟩ := cell3 (kept_heap hk HZ.out)) | (go_at_call 47; refine (H2.out _).mono ?_; intro e w1 h; obtain ⟨he, hc⟩ := h; subst he; replace hk := hk.trans hc sb_; skip; skip; clear hc; obtain ⟨k0, k1, k2, f0, f1, f2⟩ := cell3 (kept_heap hk HZ.out)) | (go_at_call 48; refine (H3.out _).mono ?_; intro e w1 h; obtain ⟨he, hc⟩ := h; subst he; replace hk := hk.trans hc sb_; skip; skip; clear hc; obtain ⟨k0, k1, k2, f0, f1, f2⟩ := cell3 (kept_heap hk HZ.out)))) | fail
 all_goals (go_wp2_with fail; refine bodyPost_ret (v := .agg #[.bool n1, .int .u64 c, .int .i64 s]) (by rw [results_cell_row rfl _ _ (w.heap.size + 1) _ _ _ _ rfl (store3 (kept_heap hk HZ.out) _ _ _) Tryz.underlying24 rfl fix_size]) rfl ⟨rfl, chg3 (HC0.out.trans hk sb_) (by omega) _ _ _⟩)
theorem results_two {fn : Func} {p u : Tmp} {ty ty2 : TypeId} (h : fn.results = #[.cell p ty, .cell u ty2]) (tmps : Array Value) (P : Program) (w : World) :
  (results fn tmps).run P w =
   ((asAddr (tmps.getD p undef)).run P w).andThen fun a w₁ => ((loadVar ty a).run P w₁).andThen fun v w₂ => ((asAddr (tmps.getD u undef)).run P w₂).andThen fun a2 w₃ => ((loadVar ty2 a2).run P w₃).andThen fun v2 w₄ => .ok (.tuple #[v, v2]) w₄ := by
 simp only [results, h]
 simp [Sem.run_bind, Result.andThen]
theorem fix_result {fn : Func} {p u : Tmp} (h : fn.results = #[.cell p 24, .cell u 3]) (tmps : Array Value) (w : World) (g g2 : Nat) (a b d v : Value) (T T2 : TypeId)
  (hp : tmps.getD p undef = .pointer (some ⟨g, 0, none⟩)) (hu : tmps.getD u undef = .pointer (some ⟨g2, 0, none⟩)) (hg : w.heap[g]? = some (.cells #[a, b, d] T (0, 0))) (hg2 : w.heap[g2]? = some (.cells #[v] T2 (0, 0))) :
  (results fn tmps).run Tryz.prog w = .ok (.tuple #[.agg #[a, b, d], v]) w := by
 have hl := run_loadVar_row (P := Tryz.prog) w g T 24 #[a, b, d] (0, 0) _ hg Tryz.underlying24 rfl fix_size
 have hc : w.cell? ⟨g2, 0, none⟩ = some v := by simp [World.cell?, hg2]
 have hl2 : (loadVar 3 ⟨g2, 0, none⟩).run Tryz.prog w = .ok v w := by simp [go_sem, hc]
 rw [results_two h, hp, hu]
 simp [asAddr, hl, hl2, Result.andThen]
theorem cell1 {w1 : World} {z : Nat} {x0 : Value} {T : TypeId} (hh : w1.heap[z]? = some (.cells #[x0] T (0, 0))) : w1.cell? ⟨z, 0, none⟩ = some x0 ∧ w1.frozen? ⟨z, 0, none⟩ = false := by
 refine ⟨?_, ?_⟩ <;> simp [World.cell?, World.frozen?, hh]
theorem fix_far {w1 : World} {z y : Nat} {o : Obj} {v : Value} (h : w1.heap[z]? = some o) (hne : z ≠ y) : (w1.setCell ⟨y, 0, none⟩ v).heap[z]? = some o := by
 rw [Below.heap_setCell _ _ _ _ (by simpa using hne)]; exact h
theorem fix_far' {w1 : World} {z y i : Nat} {o : Obj} {v : Value} (h : w1.heap[z]? = some o) (hne : z ≠ y) : (w1.setCell ⟨y, i, none⟩ v).heap[z]? = some o := by
 rw [Below.heap_setCell _ _ _ _ (by simpa using hne)]; exact h
theorem fix_near {w1 : World} {z y : Nat} {o : Obj} {a b c : Value} (h : w1.heap[z]? = some o) (hne : z ≠ y) : (((w1.setCell ⟨y, 0, none⟩ a).setCell ⟨y, 1, none⟩ b).setCell ⟨y, 2, none⟩ c).heap[z]? = some o :=
 fix_far' (fix_far' (fix_far' h hne) hne) hne
theorem int_set {w1 : World} {z : Nat} {x v : Value} {T : TypeId} (h : w1.heap[z]? = some (.cells #[x] T (0, 0))) : (w1.setCell ⟨z, 0, none⟩ v).heap[z]? = some (.cells #[v] T (0, 0)) := by
 simp [World.setCell, Array.getElem?_modify, h]
theorem fix_chg {w w1 : World} {z y : Nat} {a b c v : Value} (h : Chg (fun _ => False) w w1) (hz : w.heap.size ≤ z) (hy : w.heap.size ≤ y) : Chg (fun _ => False) w ((((w1.setCell ⟨z, 0, none⟩ a).setCell ⟨z, 1, none⟩ b).setCell ⟨z, 2, none⟩ c).setCell ⟨y, 0, none⟩ v) :=
 Chg.setCell (p := ⟨y, 0, none⟩) (chg3 h hz a b c) (fun h => by simp only at h; omega) v
def fixOut (n : Bool) (o : Option (Nat × Nat)) : Value := match o with
 | some (k, t) => .tuple #[.agg #[.bool (n && (k : Int) != 0), .int .u64 (k : Int), .int .i64 (t : Int)], .int .i64 0]
 | none => .tuple #[.agg #[.bool false, .int .u64 0, .int .i64 0], .int .i64 1]
set_option maxHeartbeats 2000000 in
theorem Add_any (dn en : Bool) (dc ec ds es : Nat) (hdc : dc < 10 ^ 19) (hec : ec < 10 ^ 19) (hds : ds ≤ 19) (hes : es ≤ 19) (w : World) (he : EnvD w) :
  Calls Tryz.prog 52 #[.agg #[.bool dn, .int .i8 ds, .int .u64 (dc : Int)], .agg #[.bool en, .int .i8 es, .int .u64 (ec : Int)]] w (PAdd w dn dc ds en ec es 0) := by
 have HA := hid (fun w1 (he : EnvD w1) => AddExact_all dn en dc ec ds es 0 hdc hec hds hes w1 he)
 have HE := hid he
 obtain ⟨DC, hDC⟩ : ∃ v : Int, (dc : Int) = v := ⟨_, rfl⟩
 obtain ⟨EC, hEC⟩ : ∃ v : Int, (ec : Int) = v := ⟨_, rfl⟩
 rw [hDC, hEC] at HA
 rw [hDC, hEC]
 clear hdc hec hds hes he hDC hEC
 obtain ⟨HC0, HD, hB0, hB1, hB2⟩ := box3 w #[.bool dn, .int .i8 ds, .int .u64 DC] 54 #[.bool en, .int .i8 es, .int .u64 EC] 54 #[.bool false, .int .i8 0, .int .u64 0] 54
 have HZ := hid hB2
 have HSS := hid (fun (w1 : World) h => d3_ (cell3 (kept_heap (w' := w1) h hB0)) (c3_ (cell3 (kept_heap (w' := w1) h hB1))))
 have HST := hid (fun w1 x0 x1 x2 h => And.intro (fr_ (w.heap.size + 1 + 1) x0 x1 x2 (HSS.out w1 h).1) (And.intro (fr_ (w.heap.size + 1 + 1) x0 x1 x2 (HSS.out w1 h).2.1) (And.intro (fr_ (w.heap.size + 1 + 1) x0 x1 x2 (HSS.out w1 h).2.2.1) (And.intro (fr_ (w.heap.size + 1 + 1) x0 x1 x2 (HSS.out w1 h).2.2.2.1) (And.intro (fr_ (w.heap.size + 1 + 1) x0 x1 x2 (HSS.out w1 h).2.2.2.2.1) (fr_ (w.heap.size + 1 + 1) x0 x1 x2 (HSS.out w1 h).2.2.2.2.2))))))
 clear hB0 hB1 hB2
 have hk := Chg.refl (fun _ => False) (((w.alloc (.cells #[.bool dn, .int .i8 ds, .int .u64 DC] 54)).alloc (.cells #[.bool en, .int .i8 es, .int .u64 EC] 54)).alloc (.cells #[.bool false, .int .i8 0, .int .u64 0] 54))
 obtain ⟨d0, d1, d2, e0, e1, e2⟩ := HSS.out _ hk
 go_enter Tryz.func52, Tryz.ntmps52
 go_wp2_with (go_at_call 44; refine (HA.out _ (HE.out.kept (HC0.out.trans hk sb_))).mono ?_; intro e w1 h; obtain ⟨na, nb, nc, nv, he, hc, hp⟩ := h.op; subst he; replace hk := hk.trans hc sb_; skip; have HP := hid hp; clear hp; clear hc; obtain ⟨k0, k1, k2, f0, f1, f2⟩ := cell3 (kept_heap hk HZ.out))
 refine bodyPost_ret (v := .tuple #[.agg #[.bool na, .int .i8 nb, .int .u64 nc], nv]) (dec_result rfl _ _ (w.heap.size + 1 + 1) _ _ _ _ 54 rfl rfl (store3 (kept_heap hk HZ.out) _ _ _)) rfl (HP.out.move (chg3 (HC0.out.trans hk sb_) (by omega) _ _ _))
end Go.Proofs.YthdkandofddohaaGreatDoor
namespace Go.Proofs.YthdkandofddohaaGreatDoor
open Go.ChangeShapes Go.WideShapes Go.ChangeAt Go.WideMaps Go.WideElems Go.RowKit
theorem gDiv : Tryz.prog.globalNamed "given.example/pub-alexandrine/pub/bigall.divRecursiveThreshold" = some 6 := by kernel_rfl
theorem gKar : Tryz.prog.globalNamed "given.example/pub-alexandrine/pub/bigall.karatsubaThreshold" = some 5 := by kernel_rfl
theorem gOvf : Tryz.prog.globalNamed "given.example/pub-alexandrine/pub/govalues.errDecimalOverflow" = some 2 := by kernel_rfl
theorem gPow : Tryz.prog.globalNamed "given.example/pub-alexandrine/pub/govalues.pow10" = some 0 := by kernel_rfl
theorem tDiv : (Tryz.prog.globals[6]?).map (·.type) = some 3 := by kernel_rfl
theorem tKar : (Tryz.prog.globals[5]?).map (·.type) = some 3 := by kernel_rfl
theorem tOvf : (Tryz.prog.globals[2]?).map (·.type) = some 58 := by kernel_rfl
theorem tPow : (Tryz.prog.globals[0]?).map (·.type) = some 98 := by kernel_rfl
theorem of_laid {W : World} (hsh : W.ShapedOpen Tryz.prog) (h : laidMetH Tryz.prog Rows.fnFixSubExactRow.laid W) : EnvD W := by
 rw [MakeChecks.laidMetH_plain _ _ _ kr_] at h
 obtain ⟨ps, ⟨_, _, _, _, _, _, _, _, _, _, ⟨_, _, _, _, _, _, _, _, _, _, ⟨_, _, _, _, _, _, _, _, _, _, ⟨g3, t3, cs3, f3, p3, q3, hg3, ht3, hv3, hd3, ⟨g4, t4, cs4, f4, p4, q4, hg4, ht4, hv4, hd4, ⟨_, _, _, _, _, _, _, _, _, _, ⟨_, _, _, _, _, _, _, _, _, _, ⟨g7, t7, cs7, f7, p7, q7, hg7, ht7, hv7, hd7, ⟨_, _, _, _, _, _, _, _, _, _, ⟨g9, t9, cs9, f9, p9, q9, hg9, ht9, hv9, hd9, hrest, _⟩, _⟩, _⟩, _⟩, _⟩, _⟩, _⟩, _⟩, _⟩, _⟩, hps, _⟩ := h
 obtain rfl := Option.some.inj (gDiv.symm.trans hg3)
 obtain rfl := Option.some.inj (gKar.symm.trans hg4)
 obtain rfl := Option.some.inj (gOvf.symm.trans hg7)
 obtain rfl := Option.some.inj (gPow.symm.trans hg9)
 obtain rfl := Option.some.inj (tDiv.symm.trans ht3)
 obtain rfl := Option.some.inj (tKar.symm.trans ht4)
 have hdiv : W.cell? ⟨6, 0, none⟩ = some (.int .i64 40) := by
  obtain ⟨k, e1, e2, _⟩ := DataW.trod_int Tryz.underlying3 hd3
  have hk : k = 40 := by
   have := congrArg Prod.fst e2
   simpa [Rows.laid_given_example_pub_alexandrine_pub_bigall_divRecursiveThreshold] using this.symm
  subst hk
  have := World.var?_cell hg3 hv3 0
  obtain ⟨l1⟩ := cs3
  simp at e1
  subst e1
  simpa using this
 have hkar : W.cell? ⟨5, 0, none⟩ = some (.int .i64 40) := by
  obtain ⟨k, e1, e2, _⟩ := DataW.trod_int Tryz.underlying3 hd4
  have hk : k = 40 := by
   have := congrArg Prod.fst e2
   simpa [Rows.laid_given_example_pub_alexandrine_pub_bigall_karatsubaThreshold] using this.symm
  subst hk
  have := World.var?_cell hg4 hv4 0
  obtain ⟨l1⟩ := cs4
  simp at e1
  subst e1
  simpa using this
 have htab : Tab W := by
  obtain rfl := Option.some.inj (tPow.symm.trans ht9)
  obtain ⟨xs, m, _, hx, hlen, hn, hel⟩ := DataW.trod_array Tryz.underlying98 hd9
  have c1 : Tryz.prog.cellsOf 52 = 1 := by kernel_rfl
  rw [c1] at hel
  have hxs := congrArg Prod.fst hx
  simp only [Rows.laid_given_example_pub_alexandrine_pub_govalues_pow10, DataW.agg.injEq] at hxs
  intro k hk
  have hk' := hel k hk
  have hxk : (xs.map (·.1))[k]? = some (.lit (.int .u64 (10 ^ k))) := by
   rw [← hxs]
   have : ∀ j : Fin 20, ([DataW.lit (.int .u64 1), .lit (.int .u64 10), .lit (.int .u64 100), .lit (.int .u64 1000), .lit (.int .u64 10000), .lit (.int .u64 100000), .lit (.int .u64 1000000), .lit (.int .u64 10000000), .lit (.int .u64 100000000), .lit (.int .u64 1000000000), .lit (.int .u64 10000000000), .lit (.int .u64 100000000000), .lit (.int .u64 1000000000000), .lit (.int .u64 10000000000000), .lit (.int .u64 100000000000000), .lit (.int .u64 1000000000000000), .lit (.int .u64 10000000000000000), .lit (.int .u64 100000000000000000), .lit (.int .u64 1000000000000000000), .lit (.int .u64 10000000000000000000)] : List (DataW Unit))[(j : Nat)]? = some (.lit (.int .u64 (10 ^ (j : Nat)))) := by
    rintro ⟨j, hj⟩
    rcases (show j = 0 ∨ j = 1 ∨ j = 2 ∨ j = 3 ∨ j = 4 ∨ j = 5 ∨ j = 6 ∨ j = 7 ∨ j = 8 ∨ j = 9 ∨ j = 10 ∨ j = 11 ∨ j = 12 ∨ j = 13 ∨ j = 14 ∨ j = 15 ∨ j = 16 ∨ j = 17 ∨ j = 18 ∨ j = 19 by omega) with rfl | rfl | rfl | rfl | rfl | rfl | rfl | rfl | rfl | rfl | rfl | rfl | rfl | rfl | rfl | rfl | rfl | rfl | rfl | rfl <;> rfl
   exact this ⟨k, hk⟩
  rw [List.getElem?_map] at hxk
  cases hy : xs[k]? with
  | none => rw [hy] at hxk; cases hxk
  | some y =>
   rw [hy] at hxk
   simp only [Option.map_some, Option.some.injEq] at hxk
   rw [hy] at hk'
   obtain ⟨z, e1, e2, _⟩ := DataW.trod_int Tryz.underlying52 hk'
   have hz : z = 10 ^ k := by
    have := congrArg Prod.fst e2
    rw [hxk] at this
    simpa using this.symm
   subst hz
   have := World.var?_cell hg9 hv9 k
   rw [this]
   rw [Nat.mul_one] at e1
   have h3 : (cs9.toList.drop k)[0]? = some (.int .u64 (10 ^ k)) := by
    have := congrArg (fun l => l[0]?) e1
    simpa using this
   simpa using h3
 have hovf : ∃ u y, W.cell? ⟨2, 0, none⟩ = some (.iface u y) := by
  obtain rfl := Option.some.inj (tOvf.symm.trans ht7)
  obtain ⟨_, u, y, e1, _, _⟩ := iface_of_trod Tryz.underlying58 hd7
  have := World.var?_cell hg7 hv7 0
  obtain ⟨l1⟩ := cs7
  simp at e1
  subst e1
  exact ⟨u, y, by simpa using this⟩
 refine ⟨⟨htab, hkar, hdiv, fun xs hr => ?_⟩, hovf⟩
 obtain ⟨cs, t, k1, k2⟩ := pow_typed hsh
 have := hr.1.symm.trans k1
 simp only [Option.some.injEq, Obj.cells.injEq] at this
 exact k2 this.2.1.symm
end Go.Proofs.YthdkandofddohaaGreatDoor
namespace Go.Proofs.YthdkandofddohaaGreatDoor
open Go Go.ChangeShapes Go.WideShapes Go.ChangeAt Go.WideMaps Go.WideElems Go.RowKit Go.Joins
theorem trod_iface {H : Type} {enc : TypeId × Value → H} {P : Program} {W W' : World} {ti : TypeId} {ms : Array (String × TypeId)} {fuel : Nat} {cs : List Value} {x : DataW H × List MemPlace} {sp sp' : Nat → Bool}
  (hi : P.underlying ti = some (.interface ms)) (h : DataW.trod enc P W 0 sp true fuel ti cs = some x) : DataW.trod enc P W' 0 sp' true fuel ti cs = some x := by
 cases fuel with
 | zero => simp [DataW.trod] at h
 | succ f =>
  match cs, h with
  | [], h => simp [DataW.trod, hi] at h
  | _ :: _ :: _, h => simp [DataW.trod, hi] at h
  | [c], h => cases c <;> simp_all [DataW.trod]
theorem vars_iface {H : Type} {enc : TypeId × Value → H} {P : Program} {W W' : World} (hb : Below W.heap.size W W') {n : String} {ns : List String} {g : Nat} {ti : TypeId} {ms : Array (String × TypeId)} {sp sp' : Nat → Bool}
  (hn : P.globalNamed n = some g) (ht : (P.globals[g]?).map (·.type) = some ti) (hi : P.underlying ti = some (.interface ms))
  (hr : ∀ (gs : List (DataW H)) (q : List MemPlace), DataW.TrodVars enc P W sp ns gs q → DataW.TrodVars enc P W' sp' ns gs q) {gs : List (DataW H)} {ps : List MemPlace} (h : DataW.TrodVars enc P W sp (n :: ns) gs ps) :
  DataW.TrodVars enc P W' sp' (n :: ns) gs ps := by
 cases gs with
 | nil => exact h.elim
 | cons d ds =>
  obtain ⟨g0, t, cs, fuel, p, q, h1, h2, h3, h4, hs, e⟩ := h
  obtain rfl := Option.some.inj (hn.symm.trans h1)
  obtain rfl := Option.some.inj (ht.symm.trans h2)
  refine ⟨g, ti, cs, fuel, p, q, h1, h2, ?_, trod_iface hi h4, hr _ _ hs, e⟩
  unfold World.var? at h3 ⊢
  rw [h1] at h3 ⊢
  simp only [Option.bind_some] at h3 ⊢
  have hg : g < W.heap.size := by
   cases hh : W.heap[g]? with
   | none => rw [hh] at h3; cases h3
   | some o => exact (Array.getElem?_eq_some_iff.1 hh).1
  rw [hb.block g hg]; exact h3
theorem trodVars_length {H : Type} {enc : TypeId × Value → H} {P : Program} {W : World} {sp : Nat → Bool} : ∀ {ns : List String} {gs : List (DataW H)} {ps : List MemPlace}, DataW.TrodVars enc P W sp ns gs ps → gs.length = ns.length
 | [], [], _, _ => rfl
 | [], _ :: _, _, h => h.elim
 | _ :: _, [], _, h => h.elim
 | _ :: ns, _ :: ds, _, h => by
  obtain ⟨_, _, _, _, _, _, _, _, _, _, hs, _⟩ := h
  simp [trodVars_length hs]
theorem gScl : Tryz.prog.globalNamed "given.example/pub-alexandrine/pub/govalues.errScaleRange" = some 1 := by kernel_rfl
theorem tScl : (Tryz.prog.globals[1]?).map (·.type) = some 58 := by kernel_rfl
theorem laidOk : laidOutB Tryz.prog = true := by kernel_rfl
end Go.Proofs.YthdkandofddohaaGreatDoor
namespace Go.Proofs.YthdkandofddohaaGreatDoor
open Go Go.ChangeShapes Go.WideShapes Go.ChangeAt Go.WideMaps Go.WideElems Go.RowKit
set_option maxRecDepth 100000
theorem wit_shapedp (os : Os) : (((World.doorLaid Tryz.prog 400 os).forCall (fun _ _ => 0) ⟨#[], #[.int .i64 0, .int .i64 0, .int .i64 0], []⟩)).Shaped Tryz.prog :=
 World.shaped_of_RefB (by as_aux_lemma => kernel_rfl) (by as_aux_lemma => kernel_rfl)
theorem wit_okp (os : Os) : Input.okWideB Tryz.prog ((World.doorLaid Tryz.prog 400 os).forCall (fun _ _ => 0) ⟨#[], #[.int .i64 0, .int .i64 0, .int .i64 0], []⟩) 4 ⟨#[], #[.int .i64 0, .int .i64 0, .int .i64 0], []⟩ = true := by kernel_rfl
theorem wit_prep (os : Os) (H : Type) (enc : TypeId × Value → H) : Rows.fnFixFromIntsSpec.preB enc Tryz.prog Tryz.f4 [] false (((World.doorLaid Tryz.prog 400 os).forCall (fun _ _ => 0) ⟨#[], #[.int .i64 0, .int .i64 0, .int .i64 0], []⟩)).memory #[.int .i64 0, .int .i64 0, .int .i64 0] 8 = true := by kernel_rfl
theorem wit_sizep (os : Os) (H : Type) (enc : TypeId × Value → H) : Rows.fnFixFromIntsSpec.sizedB enc Tryz.prog Tryz.f4 false (((World.doorLaid Tryz.prog 400 os).forCall (fun _ _ => 0) ⟨#[], #[.int .i64 0, .int .i64 0, .int .i64 0], []⟩)).memory #[.int .i64 0, .int .i64 0, .int .i64 0] 8 = true := by kernel_rfl
end Go.Proofs.YthdkandofddohaaGreatDoor
