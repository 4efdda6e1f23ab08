/- Part 22 of the proof: the lemmas of Dec3, Dec4, Dec5, Imp1, Imp2, Imp3, Law0. -/
import Derived.Deep.RegionHeld3
import Derived.Recover
import Derived.Test.YtmpkgkjnoanlhaaGreatDoorK00
import Derived.Test.YtmpkgkjnoanlhaaGreatDoorK17
import Derived.Test.YtmpkgkjnoanlhaaGreatDoorK19
import Derived.Test.YtmpkgkjnoanlhaaGreatDoorK21
namespace Go.Proofs.YtmpkgkjnoanlhaaGreatDoor
open Go.RowKit
set_option linter.unusedVariables false
set_option linter.unusedSimpArgs false
set_option maxRecDepth 20000
def Var3 (w0 w1 : World) (g : Nat) (a b d : Value) : Prop := Chg (fun _ => False) w0 w1 ∧ w0.heap.size ≤ g ∧ w1.heap[g]? = some (.cells #[a, b, d] 46 (0, 0))
theorem Var3.mk' {w0 w1 : World} (h : Chg (fun _ => False) w0 w1) (a b d : Value) : Var3 w0 (w1.alloc (.cells #[a, b, d] 46)) w1.heap.size a b d :=
 ⟨h.alloc _, h.size, heap_alloc_new _ _⟩
set_option maxHeartbeats 2000000 in
theorem addExact_ok (dn en : Bool) (dc ec ds es m : Nat) (hm : m ≤ 19) (w : World) (k : Int) (t : Nat) (nb : Bool)
  (HA : Hid (Calls Tryz.prog 64 #[.agg #[.bool dn, .int .i8 ds, .int .u64 (dc : Int)], .agg #[.bool en, .int .i8 es, .int .u64 (ec : Int)], .int .i64 m] (((w.alloc (.cells #[.bool dn, .int .i8 ds, .int .u64 (dc : Int)] 46)).alloc (.cells #[.bool en, .int .i8 es, .int .u64 (ec : Int)] 46)).alloc (.cells #[.bool false, .int .i8 0, .int .u64 0] 46))
   (fun e w' => e = .returned (.tuple #[.agg #[.bool nb, .int .i8 t, .int .u64 k], .nilIface]) ∧ Chg (fun _ => False) (((w.alloc (.cells #[.bool dn, .int .i8 ds, .int .u64 (dc : Int)] 46)).alloc (.cells #[.bool en, .int .i8 es, .int .u64 (ec : Int)] 46)).alloc (.cells #[.bool false, .int .i8 0, .int .u64 0] 46)) w'))) :
  Calls Tryz.prog 40 #[.agg #[.bool dn, .int .i8 ds, .int .u64 (dc : Int)], .agg #[.bool en, .int .i8 es, .int .u64 (ec : Int)], .int .i64 m] w
   (fun e w' => e = .returned (.tuple #[.agg #[.bool nb, .int .i8 t, .int .u64 k], .nilIface]) ∧ Chg (fun _ => False) w w') := by
 have HBS := hid (Bx.start w dn ds (dc : Int) en es (ec : Int))
 have HC0 := hid (start3 w (.cells #[.bool dn, .int .i8 ds, .int .u64 (dc : Int)] 46) (.cells #[.bool en, .int .i8 es, .int .u64 (ec : Int)] 46) (.cells #[.bool false, .int .i8 0, .int .u64 0] 46))
 have hb1 : decide ((m : Int) < 0) = false := decide_eq_false (by omega)
 have hb2 : decide ((19 : Int) < (m : Int)) = false := decide_eq_false (by omega)
 obtain ⟨d0, d1, d2, e0, e1, e2, r0, r1, r2, q0, q1, q2⟩ := HBS.out.facts
 go_enter Tryz.func40, Tryz.ntmps40
 go_upto_region 3 with fail
 go_cut [8, 9] from 18 to 24 (fun a b wx => ∃ g : Nat, a = .pointer (some ⟨g, 0, none⟩) ∧ b = .nilIface ∧ Hid (Var3 (((w.alloc (.cells #[.bool dn, .int .i8 ds, .int .u64 (dc : Int)] 46)).alloc (.cells #[.bool en, .int .i8 es, .int .u64 (ec : Int)] 46)).alloc (.cells #[.bool false, .int .i8 0, .int .u64 0] 46)) wx g (.bool nb) (.int .i8 t) (.int .u64 k)))
 case first =>
  go_wp2_with fail
  go_at_call 64
  refine HA.out.mono ?_
  intro e w1 h
  obtain ⟨he1, hk⟩ := h
  subst he1
  clear d0 d1 d2 e0 e1 e2 r0 r1 r2 q0 q1 q2
  have HK := hid hk
  clear hk
  go_wp2_with fail
  go_meet
  exact ⟨w1.heap.size, rfl, rfl, Var3.mk' HK.out _ _ _⟩
 case rest =>
  obtain ⟨g, he1, he2, hv⟩ := hcut
  subst he1
  subst he2
  have HV := hid hv
  clear hv d0 d1 d2 e0 e1 e2 r0 r1 r2 q0 q1 q2
  obtain ⟨d0, d1, d2, e0, e1, e2, r0, r1, r2, q0, q1, q2⟩ := (HBS.out.kept HV.out.out.1).facts
  obtain ⟨k0, k1, k2, l0, l1, l2⟩ := cell3 HV.out.out.2.2
  go_wp2_with fail
  refine bodyPost_ret (v := .tuple #[.agg #[.bool nb, .int .i8 t, .int .u64 k], .nilIface]) (dec_result rfl _ _ (w.heap.size + 1 + 1) _ _ _ _ 46 rfl rfl (store3 (HBS.out.kept HV.out.out.1).h2 _ _ _)) rfl ⟨rfl, chg3 (HC0.out.trans HV.out.out.1 sb_) (by omega) _ _ _⟩
theorem Var3.set {w0 w1 w2 : World} {g : Nat} {x y z : Value} (h : Var3 w0 w1 g x y z) (hc : Chg (fun _ => False) w1 w2) (a b d : Value) :
  Var3 w0 (((w2.setCell ⟨g, 0, none⟩ a).setCell ⟨g, 1, none⟩ b).setCell ⟨g, 2, none⟩ d) g a b d := by
 obtain ⟨h1, h2, h3⟩ := h
 refine ⟨chg3 (h1.trans hc sb_) h2 _ _ _, h2, store3 ((hc.keep g (Array.getElem?_eq_some_iff.1 h3).1 (fun h => h)).trans h3) _ _ _⟩
theorem Var3.kept {w0 w1 w2 : World} {g : Nat} {x y z : Value} (h : Var3 w0 w1 g x y z) (hc : Chg (fun _ => False) w1 w2) : Var3 w0 w2 g x y z :=
 ⟨h.1.trans hc sb_, h.2.1, (hc.keep g (Array.getElem?_eq_some_iff.1 h.2.2).1 (fun h => h)).trans h.2.2⟩
def PErrD (w : World) (e : Ending) (w' : World) : Prop := Chg (fun _ => False) w w' ∧ ∃ t v, e = .returned (.tuple #[.agg #[.bool false, .int .i8 0, .int .u64 0], .iface t v])
set_option maxHeartbeats 2000000 in
theorem addExact_big (dn en : Bool) (dc ec ds es m : Nat) (hm : m ≤ 19) (w : World) (k : Int) (t : Nat) (nb : Bool) (he : EnvD w)
  (HA : Hid (Calls Tryz.prog 64 #[.agg #[.bool dn, .int .i8 ds, .int .u64 (dc : Int)], .agg #[.bool en, .int .i8 es, .int .u64 (ec : Int)], .int .i64 m] (((w.alloc (.cells #[.bool dn, .int .i8 ds, .int .u64 (dc : Int)] 46)).alloc (.cells #[.bool en, .int .i8 es, .int .u64 (ec : Int)] 46)).alloc (.cells #[.bool false, .int .i8 0, .int .u64 0] 46)) (PErrD (((w.alloc (.cells #[.bool dn, .int .i8 ds, .int .u64 (dc : Int)] 46)).alloc (.cells #[.bool en, .int .i8 es, .int .u64 (ec : Int)] 46)).alloc (.cells #[.bool false, .int .i8 0, .int .u64 0] 46)))))
  (HB : Hid (∀ w1, EnvD w1 → Calls Tryz.prog 65 #[.agg #[.bool dn, .int .i8 ds, .int .u64 (dc : Int)], .agg #[.bool en, .int .i8 es, .int .u64 (ec : Int)], .int .i64 m] w1
   (fun e w' => e = .returned (.tuple #[.agg #[.bool nb, .int .i8 t, .int .u64 k], .nilIface]) ∧ Chg (fun _ => False) w1 w'))) :
  Calls Tryz.prog 40 #[.agg #[.bool dn, .int .i8 ds, .int .u64 (dc : Int)], .agg #[.bool en, .int .i8 es, .int .u64 (ec : Int)], .int .i64 m] w
   (fun e w' => e = .returned (.tuple #[.agg #[.bool nb, .int .i8 t, .int .u64 k], .nilIface]) ∧ Chg (fun _ => False) w w') := by
 have HBS := hid (Bx.start w dn ds (dc : Int) en es (ec : Int))
 have HC0 := hid (start3 w (.cells #[.bool dn, .int .i8 ds, .int .u64 (dc : Int)] 46) (.cells #[.bool en, .int .i8 es, .int .u64 (ec : Int)] 46) (.cells #[.bool false, .int .i8 0, .int .u64 0] 46))
 have HE0 := hid (he.kept HC0.out)
 have hb1 : decide ((m : Int) < 0) = false := decide_eq_false (by omega)
 have hb2 : decide ((19 : Int) < (m : Int)) = false := decide_eq_false (by omega)
 obtain ⟨d0, d1, d2, e0, e1, e2, r0, r1, r2, q0, q1, q2⟩ := HBS.out.facts
 clear he
 go_enter Tryz.func40, Tryz.ntmps40
 go_upto_region 3 with fail
 go_cut [8, 9] from 18 to 24 (fun a b wx => ∃ g : Nat, a = .pointer (some ⟨g, 0, none⟩) ∧ (∃ et ev, b = .iface et ev) ∧ Hid (Var3 (((w.alloc (.cells #[.bool dn, .int .i8 ds, .int .u64 (dc : Int)] 46)).alloc (.cells #[.bool en, .int .i8 es, .int .u64 (ec : Int)] 46)).alloc (.cells #[.bool false, .int .i8 0, .int .u64 0] 46)) wx g (.bool false) (.int .i8 0) (.int .u64 0)))
 case first =>
  go_wp2_with fail
  go_at_call 64
  refine HA.out.mono ?_
  intro e w1 h
  obtain ⟨hk, et, ev, he1⟩ := h
  subst he1
  clear d0 d1 d2 e0 e1 e2 r0 r1 r2 q0 q1 q2
  have HK := hid hk
  clear hk
  go_wp2_with fail
  go_meet
  exact ⟨w1.heap.size, rfl, ⟨_, _, rfl⟩, Var3.mk' HK.out _ _ _⟩
 case rest =>
  obtain ⟨g, he1, ⟨et, ev, he2⟩, hv⟩ := hcut
  subst he1
  subst he2
  have HV := hid hv
  clear hv d0 d1 d2 e0 e1 e2 r0 r1 r2 q0 q1 q2
  obtain ⟨d0, d1, d2, e0, e1, e2, r0, r1, r2, q0, q1, q2⟩ := (HBS.out.kept HV.out.out.1).facts
  obtain ⟨k0, k1, k2, l0, l1, l2⟩ := cell3 HV.out.out.2.2
  go_upto_region 5 with fail
  go_cut [8, 9] from 27 to 33 (fun a b wx => a = .pointer (some ⟨g, 0, none⟩) ∧ b = .nilIface ∧ Hid (Var3 (((w.alloc (.cells #[.bool dn, .int .i8 ds, .int .u64 (dc : Int)] 46)).alloc (.cells #[.bool en, .int .i8 es, .int .u64 (ec : Int)] 46)).alloc (.cells #[.bool false, .int .i8 0, .int .u64 0] 46)) wx g (.bool nb) (.int .i8 t) (.int .u64 k)))
  case first =>
   go_wp2_with fail
   go_at_call 65
   refine (HB.out _ (HE0.out.kept HV.out.out.1)).mono ?_
   intro e w1 h
   obtain ⟨he1, hk⟩ := h
   subst he1
   clear d0 d1 d2 e0 e1 e2 r0 r1 r2 q0 q1 q2 k0 k1 k2 l0 l1 l2
   have HK := hid hk
   clear hk
   obtain ⟨k0, k1, k2, l0, l1, l2⟩ := cell3 (HV.out.out.kept HK.out).2.2
   go_wp2_with fail
   go_meet
   exact ⟨rfl, rfl, HV.out.out.set HK.out _ _ _⟩
  case rest =>
   obtain ⟨he1, he2, hv⟩ := hcut
   subst he1
   subst he2
   clear d0 d1 d2 e0 e1 e2 r0 r1 r2 q0 q1 q2 k0 k1 k2 l0 l1 l2
   have HV2 := hid hv
   clear hv HV
   obtain ⟨d0, d1, d2, e0, e1, e2, r0, r1, r2, q0, q1, q2⟩ := (HBS.out.kept HV2.out.out.1).facts
   obtain ⟨k0, k1, k2, l0, l1, l2⟩ := cell3 HV2.out.out.2.2
   go_wp2_with fail
   refine bodyPost_ret (v := .tuple #[.agg #[.bool nb, .int .i8 t, .int .u64 k], .nilIface]) (dec_result rfl _ _ (w.heap.size + 1 + 1) _ _ _ _ 46 rfl rfl (store3 (HBS.out.kept HV2.out.out.1).h2 _ _ _)) rfl ⟨rfl, chg3 (HC0.out.trans HV2.out.out.1 sb_) (by omega) _ _ _⟩
set_option maxHeartbeats 2000000 in
theorem addExact_none (dn en : Bool) (dc ec ds es m : Nat) (hm : m ≤ 19) (w : World) (he : EnvD w)
  (HA : Hid (Calls Tryz.prog 64 #[.agg #[.bool dn, .int .i8 ds, .int .u64 (dc : Int)], .agg #[.bool en, .int .i8 es, .int .u64 (ec : Int)], .int .i64 m] (((w.alloc (.cells #[.bool dn, .int .i8 ds, .int .u64 (dc : Int)] 46)).alloc (.cells #[.bool en, .int .i8 es, .int .u64 (ec : Int)] 46)).alloc (.cells #[.bool false, .int .i8 0, .int .u64 0] 46)) (PErrD (((w.alloc (.cells #[.bool dn, .int .i8 ds, .int .u64 (dc : Int)] 46)).alloc (.cells #[.bool en, .int .i8 es, .int .u64 (ec : Int)] 46)).alloc (.cells #[.bool false, .int .i8 0, .int .u64 0] 46)))))
  (HB : Hid (∀ w1, EnvD w1 → Calls Tryz.prog 65 #[.agg #[.bool dn, .int .i8 ds, .int .u64 (dc : Int)], .agg #[.bool en, .int .i8 es, .int .u64 (ec : Int)], .int .i64 m] w1 (PErrD w1))) :
  Calls Tryz.prog 40 #[.agg #[.bool dn, .int .i8 ds, .int .u64 (dc : Int)], .agg #[.bool en, .int .i8 es, .int .u64 (ec : Int)], .int .i64 m] w (PErrD w) := by
 have HBS := hid (Bx.start w dn ds (dc : Int) en es (ec : Int))
 have HC0 := hid (start3 w (.cells #[.bool dn, .int .i8 ds, .int .u64 (dc : Int)] 46) (.cells #[.bool en, .int .i8 es, .int .u64 (ec : Int)] 46) (.cells #[.bool false, .int .i8 0, .int .u64 0] 46))
 have HE0 := hid (he.kept HC0.out)
 have hb1 : decide ((m : Int) < 0) = false := decide_eq_false (by omega)
 have hb2 : decide ((19 : Int) < (m : Int)) = false := decide_eq_false (by omega)
 obtain ⟨d0, d1, d2, e0, e1, e2, r0, r1, r2, q0, q1, q2⟩ := HBS.out.facts
 clear he
 go_enter Tryz.func40, Tryz.ntmps40
 go_upto_region 3 with fail
 go_cut [8, 9] from 18 to 24 (fun a b wx => ∃ g : Nat, a = .pointer (some ⟨g, 0, none⟩) ∧ (∃ et ev, b = .iface et ev) ∧ Hid (Var3 (((w.alloc (.cells #[.bool dn, .int .i8 ds, .int .u64 (dc : Int)] 46)).alloc (.cells #[.bool en, .int .i8 es, .int .u64 (ec : Int)] 46)).alloc (.cells #[.bool false, .int .i8 0, .int .u64 0] 46)) wx g (.bool false) (.int .i8 0) (.int .u64 0)))
 case first =>
  go_wp2_with fail
  go_at_call 64
  refine HA.out.mono ?_
  intro e w1 h
  obtain ⟨hk, et, ev, he1⟩ := h
  subst he1
  clear d0 d1 d2 e0 e1 e2 r0 r1 r2 q0 q1 q2
  have HK := hid hk
  clear hk
  go_wp2_with fail
  go_meet
  exact ⟨w1.heap.size, rfl, ⟨_, _, rfl⟩, Var3.mk' HK.out _ _ _⟩
 case rest =>
  obtain ⟨g, he1, ⟨et, ev, he2⟩, hv⟩ := hcut
  subst he1
  subst he2
  have HV := hid hv
  clear hv d0 d1 d2 e0 e1 e2 r0 r1 r2 q0 q1 q2
  obtain ⟨d0, d1, d2, e0, e1, e2, r0, r1, r2, q0, q1, q2⟩ := (HBS.out.kept HV.out.out.1).facts
  obtain ⟨k0, k1, k2, l0, l1, l2⟩ := cell3 HV.out.out.2.2
  go_upto_region 5 with fail
  go_cut [8, 9] from 27 to 33 (fun a b wx => a = .pointer (some ⟨g, 0, none⟩) ∧ (∃ t2 v2, b = .iface t2 v2) ∧ Hid (Var3 (((w.alloc (.cells #[.bool dn, .int .i8 ds, .int .u64 (dc : Int)] 46)).alloc (.cells #[.bool en, .int .i8 es, .int .u64 (ec : Int)] 46)).alloc (.cells #[.bool false, .int .i8 0, .int .u64 0] 46)) wx g (.bool false) (.int .i8 0) (.int .u64 0)))
  case first =>
   go_wp2_with fail
   go_at_call 65
   refine (HB.out _ (HE0.out.kept HV.out.out.1)).mono ?_
   intro e w1 h
   obtain ⟨hk, t2, v2, he1⟩ := h
   subst he1
   clear d0 d1 d2 e0 e1 e2 r0 r1 r2 q0 q1 q2 k0 k1 k2 l0 l1 l2
   have HK := hid hk
   clear hk
   obtain ⟨k0, k1, k2, l0, l1, l2⟩ := cell3 (HV.out.out.kept HK.out).2.2
   go_wp2_with fail
   go_meet
   exact ⟨rfl, ⟨_, _, rfl⟩, HV.out.out.set HK.out _ _ _⟩
  case rest =>
   obtain ⟨he1, ⟨t2, v2, he2⟩, hv⟩ := hcut
   subst he1
   subst he2
   clear d0 d1 d2 e0 e1 e2 r0 r1 r2 q0 q1 q2 k0 k1 k2 l0 l1 l2
   have HV2 := hid hv
   clear hv HV
   obtain ⟨d0, d1, d2, e0, e1, e2, r0, r1, r2, q0, q1, q2⟩ := (HBS.out.kept HV2.out.out.1).facts
   obtain ⟨k0, k1, k2, l0, l1, l2⟩ := cell3 HV2.out.out.2.2
   go_wp2_with (go_at_call 61; refine (errorsNew_any _ _).mono ?_; intro e w3 h; obtain ⟨⟨t3, v3, he3⟩, hc3⟩ := h; subst he3; have HK3 := hid hc3; clear hc3; clear d0 d1 d2 e0 e1 e2 r0 r1 r2 q0 q1 q2 k0 k1 k2 l0 l1 l2; obtain ⟨d0, d1, d2, e0, e1, e2, r0, r1, r2, q0, q1, q2⟩ := (HBS.out.kept (HV2.out.out.kept HK3.out).1).facts)
   refine bodyPost_ret (v := .tuple #[.agg #[.bool false, .int .i8 0, .int .u64 0], .iface t3 v3]) (dec_result rfl _ _ (w.heap.size + 1 + 1) _ _ _ _ 46 rfl rfl (store3 (HBS.out.kept (HV2.out.out.kept HK3.out).1).h2 _ _ _)) rfl ⟨chg3 (HC0.out.trans (HV2.out.out.kept HK3.out).1 (fun _ _ h => h)) (by omega) _ _ _, t3, v3, rfl⟩
theorem addExact_places (dn en : Bool) (dc ec : Int) (ds es : Nat) (m : Int) (hm : m < 0 ∨ 19 < m) (w : World) :
  Calls Tryz.prog 40 #[.agg #[.bool dn, .int .i8 ds, .int .u64 dc], .agg #[.bool en, .int .i8 es, .int .u64 ec], .int .i64 m] w (PErrD w) := by
 have HBS := hid (Bx.start w dn ds dc en es ec)
 have HC0 := hid (start3 w (.cells #[.bool dn, .int .i8 ds, .int .u64 dc] 46) (.cells #[.bool en, .int .i8 es, .int .u64 ec] 46) (.cells #[.bool false, .int .i8 0, .int .u64 0] 46))
 by_cases h0 : m < 0
 ·have hb1 : decide (m < 0) = true := decide_eq_true h0
  clear hm
  obtain ⟨d0, d1, d2, e0, e1, e2, r0, r1, r2, q0, q1, q2⟩ := HBS.out.facts
  go_enter Tryz.func40, Tryz.ntmps40
  go_wp2_with (go_at_call 61; refine (errorsNew_any _ _).mono ?_; intro e w3 h; obtain ⟨⟨t3, v3, he3⟩, hc3⟩ := h; subst he3; have HK3 := hid hc3; clear hc3; clear d0 d1 d2 e0 e1 e2 r0 r1 r2 q0 q1 q2; obtain ⟨d0, d1, d2, e0, e1, e2, r0, r1, r2, q0, q1, q2⟩ := (HBS.out.kept HK3.out).facts)
  refine bodyPost_ret (v := .tuple #[.agg #[.bool false, .int .i8 0, .int .u64 0], .iface t3 v3]) (dec_result rfl _ _ (w.heap.size + 1 + 1) _ _ _ _ 46 rfl rfl (store3 (HBS.out.kept HK3.out).h2 _ _ _)) rfl ⟨chg3 (HC0.out.trans HK3.out sb_) (by omega) _ _ _, t3, v3, rfl⟩
 ·have hb1 : decide (m < 0) = false := decide_eq_false h0
  have hb2 : decide (19 < m) = true := decide_eq_true (by omega)
  clear hm
  obtain ⟨d0, d1, d2, e0, e1, e2, r0, r1, r2, q0, q1, q2⟩ := HBS.out.facts
  go_enter Tryz.func40, Tryz.ntmps40
  go_wp2_with (go_at_call 61; refine (errorsNew_any _ _).mono ?_; intro e w3 h; obtain ⟨⟨t3, v3, he3⟩, hc3⟩ := h; subst he3; have HK3 := hid hc3; clear hc3; clear d0 d1 d2 e0 e1 e2 r0 r1 r2 q0 q1 q2; obtain ⟨d0, d1, d2, e0, e1, e2, r0, r1, r2, q0, q1, q2⟩ := (HBS.out.kept HK3.out).facts)
  refine bodyPost_ret (v := .tuple #[.agg #[.bool false, .int .i8 0, .int .u64 0], .iface t3 v3]) (dec_result rfl _ _ (w.heap.size + 1 + 1) _ _ _ _ 46 rfl rfl (store3 (HBS.out.kept HK3.out).h2 _ _ _)) rfl ⟨chg3 (HC0.out.trans HK3.out sb_) (by omega) _ _ _, t3, v3, rfl⟩
theorem addExact_any (dn en : Bool) (dc ec ds es m : Nat) (hdc : dc < 10 ^ 19) (hec : ec < 10 ^ 19) (hds : ds ≤ 19) (hes : es ≤ 19) (hm : m ≤ 19) (w : World) (he : EnvD w) :
  Calls Tryz.prog 40 #[.agg #[.bool dn, .int .i8 ds, .int .u64 (dc : Int)], .agg #[.bool en, .int .i8 es, .int .u64 (ec : Int)], .int .i64 m] w
   (PDecN w (sumD dn dc ds en ec es).1 (from19 (10 ^ 19) 2 (sumD dn dc ds en ec es).2 (mxp ds es) m)) := by
 have hE0 := he.kept (start3 w (.cells #[.bool dn, .int .i8 ds, .int .u64 (dc : Int)] 46) (.cells #[.bool en, .int .i8 es, .int .u64 (ec : Int)] 46) (.cells #[.bool false, .int .i8 0, .int .u64 0] 46))
 have hA := addFint_any dn en dc ec ds es m hdc hec hds hes hm _ hE0
 have hB := fun w1 he1 => addBint_any dn en dc ec ds es m hdc hec hds hes hm w1 he1
 cases hF : addF dn dc ds en ec es m with
 | some kt =>
  obtain ⟨k, t⟩ := kt
  obtain ⟨k', rfl, h19⟩ := addF_from19 hds hes hm hF
  rw [hF] at hA
  rw [h19]
  refine (addExact_ok dn en dc ec ds es m hm w (k' : Int) t _ (hid (hA.mono (fun e w' h => ⟨h.2, h.1⟩)))).mono (fun e w' h => ⟨h.2, h.1⟩)
 | none =>
  rw [hF] at hA
  have hA2 := hid (hA.mono (fun e w' (h : PDec _ _ none e w') => (show PErrD _ e w' from ⟨h.1, h.2⟩)))
  cases h19 : from19 (10 ^ 19) 2 (sumD dn dc ds en ec es).2 (mxp ds es) m with
  | some kt =>
   obtain ⟨k, t⟩ := kt
   rw [h19] at hB
   exact (addExact_big dn en dc ec ds es m hm w (k : Int) t _ he hA2 (hid (fun w1 he1 => (hB w1 he1).mono (fun e w' h => ⟨h.2, h.1⟩)))).mono (fun e w' h => ⟨h.2, h.1⟩)
  | none =>
   rw [h19] at hB
   exact (addExact_none dn en dc ec ds es m hm w he hA2 (hid (fun w1 he1 => (hB w1 he1).mono (fun e w' h => ⟨h.1, h.2⟩)))).mono (fun e w' h => ⟨h.1, h.2⟩)
def PAdd (w : World) (dn : Bool) (dc ds : Nat) (en : Bool) (ec es : Nat) (m : Int) (e : Ending) (w' : World) : Prop :=
 if m < 0 ∨ 19 < m then PErrD w e w' else PDecN w (sumD dn dc ds en ec es).1 (from19 (10 ^ 19) 2 (sumD dn dc ds en ec es).2 (mxp ds es) m.toNat) e w'
theorem AddExact_all (dn en : Bool) (dc ec ds es : Nat) (m : Int) (hdc : dc < 10 ^ 19) (hec : ec < 10 ^ 19) (hds : ds ≤ 19) (hes : es ≤ 19) (w : World) (he : EnvD w) :
  Calls Tryz.prog 40 #[.agg #[.bool dn, .int .i8 ds, .int .u64 (dc : Int)], .agg #[.bool en, .int .i8 es, .int .u64 (ec : Int)], .int .i64 m] w (PAdd w dn dc ds en ec es m) := by
 by_cases h : m < 0 ∨ 19 < m
 ·exact (addExact_places dn en (dc : Int) (ec : Int) ds es m h w).mono (fun e w' k => by unfold PAdd; rw [if_pos h]; exact k)
 ·obtain ⟨k, rfl⟩ : ∃ k : Nat, m = (k : Int) := ⟨m.toNat, by omega⟩
  exact (addExact_any dn en dc ec ds es k hdc hec hds hes (by omega) w he).mono (fun e w' q => by unfold PAdd; rw [if_neg h, Int.toNat_natCast]; exact q)
theorem PAdd.op {w w' : World} {dn en : Bool} {dc ds ec es : Nat} {m : Int} {e : Ending} (h : PAdd w dn dc ds en ec es m e w') :
  ∃ (a : Bool) (b c : Int) (v : Value), e = .returned (.tuple #[.agg #[.bool a, .int .i8 b, .int .u64 c], v]) ∧ Chg (fun _ => False) w w' ∧ PAdd w dn dc ds en ec es m (.returned (.tuple #[.agg #[.bool a, .int .i8 b, .int .u64 c], v])) w' := by
 have hh := h
 unfold PAdd at h
 split at h
 ·obtain ⟨h1, t, v, rfl⟩ := h
  exact ⟨_, _, _, _, rfl, h1, hh⟩
 ·obtain ⟨a, b, c, v, rfl, h1, _⟩ := h.op
  exact ⟨a, b, c, v, rfl, h1, hh⟩
theorem PAdd.move {w w1 w' w'' : World} {dn en : Bool} {dc ds ec es : Nat} {m : Int} {e : Ending} (h : PAdd w1 dn dc ds en ec es m e w'') (c : Chg (fun _ => False) w w') : PAdd w dn dc ds en ec es m e w' := by
 unfold PAdd at *
 split
 ·next k => rw [if_pos k] at h; exact ⟨c, h.2⟩
 ·next k => rw [if_neg k] at h; exact h.move c
set_option maxHeartbeats 2000000 in
theorem SubExact_any (dn en : Bool) (dc ec ds es : Nat) (m : Int) (hdc : dc < 10 ^ 19) (hec : ec < 10 ^ 19) (hds : ds ≤ 19) (hes : es ≤ 19) (w : World) (he : EnvD w) :
  Calls Tryz.prog 22 #[.agg #[.bool dn, .int .i8 ds, .int .u64 (dc : Int)], .agg #[.bool en, .int .i8 es, .int .u64 (ec : Int)], .int .i64 m] w (PAdd w dn dc ds (!en && (ec : Int) != 0) ec es m) := by
 have HN := hid (fun w => Neg_any en (ec : Int) es (fiN hec) hes w)
 obtain ⟨en2, hen⟩ : ∃ b, (!en && (ec : Int) != 0) = b := ⟨_, rfl⟩
 rw [hen] at HN ⊢
 have HA := hid (fun w1 (he : EnvD w1) => AddExact_all dn en2 dc ec ds es m hdc hec hds hes w1 he)
 have HE := hid he
 obtain ⟨DC, hDC⟩ : ∃ v : Int, (dc : Int) = v := ⟨_, rfl⟩
 obtain ⟨EC, hEC⟩ : ∃ v : Int, (ec : Int) = v := ⟨_, rfl⟩
 rw [hDC, hEC] at HA
 rw [hEC] at HN
 rw [hDC, hEC]
 clear hdc hec hds hes he hen hDC hEC
 have HC0 := hid ((((Chg.refl (fun _ => False) w).alloc (.cells #[.bool dn, .int .i8 ds, .int .u64 DC] 46)).alloc (.cells #[.bool en, .int .i8 es, .int .u64 EC] 46)).alloc (.cells #[.bool false, .int .i8 0, .int .u64 0] 46))
 have hB0 : (((w.alloc (.cells #[.bool dn, .int .i8 ds, .int .u64 DC] 46)).alloc (.cells #[.bool en, .int .i8 es, .int .u64 EC] 46)).alloc (.cells #[.bool false, .int .i8 0, .int .u64 0] 46)).heap[w.heap.size]? = some (.cells #[.bool dn, .int .i8 ds, .int .u64 DC] 46 (0, 0)) := by
  rw [Below.heap_alloc _ _ _ (by simp; omega)]
  rw [Below.heap_alloc _ _ _ (by simp)]
  have := heap_alloc_new w (.cells #[.bool dn, .int .i8 ds, .int .u64 DC] 46)
  simpa using this
 have hB1 : (((w.alloc (.cells #[.bool dn, .int .i8 ds, .int .u64 DC] 46)).alloc (.cells #[.bool en, .int .i8 es, .int .u64 EC] 46)).alloc (.cells #[.bool false, .int .i8 0, .int .u64 0] 46)).heap[w.heap.size + 1]? = some (.cells #[.bool en, .int .i8 es, .int .u64 EC] 46 (0, 0)) := by
  rw [Below.heap_alloc _ _ _ (by simp)]
  have := heap_alloc_new (w.alloc (.cells #[.bool dn, .int .i8 ds, .int .u64 DC] 46)) (.cells #[.bool en, .int .i8 es, .int .u64 EC] 46)
  simpa using this
 have hB2 : (((w.alloc (.cells #[.bool dn, .int .i8 ds, .int .u64 DC] 46)).alloc (.cells #[.bool en, .int .i8 es, .int .u64 EC] 46)).alloc (.cells #[.bool false, .int .i8 0, .int .u64 0] 46)).heap[w.heap.size + 1 + 1]? = some (.cells #[.bool false, .int .i8 0, .int .u64 0] 46 (0, 0)) := by
  have := heap_alloc_new ((w.alloc (.cells #[.bool dn, .int .i8 ds, .int .u64 DC] 46)).alloc (.cells #[.bool en, .int .i8 es, .int .u64 EC] 46)) (.cells #[.bool false, .int .i8 0, .int .u64 0] 46)
  simpa using this
 have HZ := hid hB2
 have HSS := hid (fun w1 (h : Chg (fun _ => False) (((w.alloc (.cells #[.bool dn, .int .i8 ds, .int .u64 DC] 46)).alloc (.cells #[.bool en, .int .i8 es, .int .u64 EC] 46)).alloc (.cells #[.bool false, .int .i8 0, .int .u64 0] 46)) w1) => (show w1.cell? ⟨w.heap.size, 0, none⟩ = some (.bool dn) ∧ w1.cell? ⟨w.heap.size, 1, none⟩ = some (.int .i8 ds) ∧ w1.cell? ⟨w.heap.size, 2, none⟩ = some (.int .u64 DC) ∧ w1.cell? ⟨w.heap.size + 1, 0, none⟩ = some (.bool en) ∧ w1.cell? ⟨w.heap.size + 1, 1, none⟩ = some (.int .i8 es) ∧ w1.cell? ⟨w.heap.size + 1, 2, none⟩ = some (.int .u64 EC) from ⟨(cell3 (kept_heap h hB0)).1, (cell3 (kept_heap h hB0)).2.1, (cell3 (kept_heap h hB0)).2.2.1, (cell3 (kept_heap h hB1)).1, (cell3 (kept_heap h hB1)).2.1, (cell3 (kept_heap h hB1)).2.2.1⟩))
 have HST := hid (fun w1 (x0 x1 x2 : Value) (h : Chg (fun _ => False) (((w.alloc (.cells #[.bool dn, .int .i8 ds, .int .u64 DC] 46)).alloc (.cells #[.bool en, .int .i8 es, .int .u64 EC] 46)).alloc (.cells #[.bool false, .int .i8 0, .int .u64 0] 46)) w1) => (show (((w1.setCell ⟨w.heap.size + 1 + 1, 0, none⟩ x0).setCell ⟨w.heap.size + 1 + 1, 1, none⟩ x1).setCell ⟨w.heap.size + 1 + 1, 2, none⟩ x2).cell? ⟨w.heap.size, 0, none⟩ = some (.bool dn) ∧ (((w1.setCell ⟨w.heap.size + 1 + 1, 0, none⟩ x0).setCell ⟨w.heap.size + 1 + 1, 1, none⟩ x1).setCell ⟨w.heap.size + 1 + 1, 2, none⟩ x2).cell? ⟨w.heap.size, 1, none⟩ = some (.int .i8 ds) ∧ (((w1.setCell ⟨w.heap.size + 1 + 1, 0, none⟩ x0).setCell ⟨w.heap.size + 1 + 1, 1, none⟩ x1).setCell ⟨w.heap.size + 1 + 1, 2, none⟩ x2).cell? ⟨w.heap.size, 2, none⟩ = some (.int .u64 DC) ∧ (((w1.setCell ⟨w.heap.size + 1 + 1, 0, none⟩ x0).setCell ⟨w.heap.size + 1 + 1, 1, none⟩ x1).setCell ⟨w.heap.size + 1 + 1, 2, none⟩ x2).cell? ⟨w.heap.size + 1, 0, none⟩ = some (.bool en) ∧ (((w1.setCell ⟨w.heap.size + 1 + 1, 0, none⟩ x0).setCell ⟨w.heap.size + 1 + 1, 1, none⟩ x1).setCell ⟨w.heap.size + 1 + 1, 2, none⟩ x2).cell? ⟨w.heap.size + 1, 1, none⟩ = some (.int .i8 es) ∧ (((w1.setCell ⟨w.heap.size + 1 + 1, 0, none⟩ x0).setCell ⟨w.heap.size + 1 + 1, 1, none⟩ x1).setCell ⟨w.heap.size + 1 + 1, 2, none⟩ x2).cell? ⟨w.heap.size + 1, 2, none⟩ = some (.int .u64 EC) from by
  have hh := HSS.out w1 h
  refine ⟨?_, ?_, ?_, ?_, ?_, ?_⟩ <;> (repeat rw [far_cell (by omega)])
  ·exact hh.1
  ·exact hh.2.1
  ·exact hh.2.2.1
  ·exact hh.2.2.2.1
  ·exact hh.2.2.2.2.1
  ·exact hh.2.2.2.2.2))
 have HD := hid (Chg.drew (Chg.refl (fun _ => False) (((w.alloc (.cells #[.bool dn, .int .i8 ds, .int .u64 DC] 46)).alloc (.cells #[.bool en, .int .i8 es, .int .u64 EC] 46)).alloc (.cells #[.bool false, .int .i8 0, .int .u64 0] 46))))
 clear hB0 hB1 hB2
 have hk := HD.out
 go_enter Tryz.func22, Tryz.ntmps22
 go_wp2_with fail
 first | (go_region_held3 (fun w' => w'.cell? ⟨w.heap.size, 0, none⟩ = some (.bool dn) ∧ w'.cell? ⟨w.heap.size, 1, none⟩ = some (.int .i8 ds) ∧ w'.cell? ⟨w.heap.size, 2, none⟩ = some (.int .u64 DC) ∧ w'.cell? ⟨w.heap.size + 1, 0, none⟩ = some (.bool en) ∧ w'.cell? ⟨w.heap.size + 1, 1, none⟩ = some (.int .i8 es) ∧ w'.cell? ⟨w.heap.size + 1, 2, none⟩ = some (.int .u64 EC)) (first | with_reducible exact HSS.out _ hk | with_reducible exact HST.out _ _ _ _ hk | go_keep) (first | (go_at_call 41; refine (HN.out _).mono ?_; intro e w1 h; obtain ⟨he, hc⟩ := h; subst he; replace hk := hk.trans hc sb_; skip; skip; clear hc; obtain ⟨k0, k1, k2, f0, f1, f2⟩ := cell3 (kept_heap hk HZ.out)) | (go_at_call 40; refine (HA.out _ (HE.out.kept (HC0.out.trans hk sb_))).mono ?_; intro e w1 h; obtain ⟨na, nb, nc, nv, he, hc, hp⟩ := h.op; subst he; replace hk := hk.trans hc sb_; skip; have HP := hid hp; clear hp; clear hc; obtain ⟨k0, k1, k2, f0, f1, f2⟩ := cell3 (kept_heap hk HZ.out)))) | fail
 all_goals (go_wp2_with fail; refine bodyPost_ret (v := .tuple #[.agg #[.bool na, .int .i8 nb, .int .u64 nc], nv]) (dec_result rfl _ _ (w.heap.size + 1 + 1) _ _ _ _ 46 rfl rfl (store3 (kept_heap hk HZ.out) _ _ _)) rfl (HP.out.move (chg3 (HC0.out.trans hk sb_) (by omega) _ _ _)))
theorem Coef_any (neg : Bool) (c : Int) (s : Nat) (w : World) :
  Calls Tryz.prog 43 #[.agg #[.bool neg, .int .i8 s, .int .u64 c]] w (fun e w' => e = .returned (.int .u64 c) ∧ Chg (fun _ => False) w w') := by
 go_enter Tryz.func43, Tryz.ntmps43
 go_wp2_with fail
 go_ret
 exact ⟨rfl, (Chg.refl _ _).alloc _⟩
theorem ZzMake_any (neg nb : Bool) (c : Int) (s : Nat) (hc : Fi c) (hs : s ≤ 19) (hnb : (neg && c != 0) = nb) (w : World) :
  Calls Tryz.prog 39 #[.bool neg, .int .u64 c, .int .i64 s] w (fun e w' => e = .returned (.tuple #[.agg #[.bool nb, .int .i8 s, .int .u64 c], .nilIface]) ∧ Chg (fun _ => False) w w') := by
 have HN := hid (fun w => newSafe_flat neg nb c s hc hs hnb w)
 have HZ := hid (heap_alloc_new w (.cells #[.bool false, .int .i8 0, .int .u64 0] 46))
 have HC0 := hid ((Chg.refl (fun _ => False) w).alloc (.cells #[.bool false, .int .i8 0, .int .u64 0] 46))
 clear hc hs hnb
 go_enter Tryz.func39, Tryz.ntmps39
 go_wp2_with (go_at_call 63; refine (HN.out _).mono ?_; intro e w1 h; obtain ⟨he, hc⟩ := h; subst he; have hk := hc; clear hc; obtain ⟨k0, k1, k2, f0, f1, f2⟩ := cell3 (kept_heap hk HZ.out))
 refine bodyPost_ret (v := .tuple #[.agg #[.bool nb, .int .i8 s, .int .u64 c], .nilIface]) (dec_result rfl _ _ w.heap.size _ _ _ _ 46 rfl rfl (store3 (kept_heap hk HZ.out) _ _ _)) rfl ⟨rfl, chg3 (HC0.out.trans hk sb_) (Nat.le_refl _) _ _ _⟩
theorem fix_size : (Tryz.prog.info? 24).map (·.size) = some 3 := by kernel_rfl
set_option maxHeartbeats 2000000 in
theorem fix_any (n1 : Bool) (c : Int) (s : Nat) (hs : s ≤ 19) (w : World) :
  Calls Tryz.prog 23 #[.agg #[.bool n1, .int .i8 s, .int .u64 c]] w (PV w (.agg #[.bool n1, .int .u64 c, .int .i64 s])) := by
 have H1 := hid (fun w => IsNeg_any n1 c s w)
 have H2 := hid (fun w => Coef_any n1 c s w)
 have H3 := hid (fun w => Scale_any n1 c s hs w)
 clear hs
 have HC0 := hid (((Chg.refl (fun _ => False) w).alloc (.cells #[.bool n1, .int .i8 s, .int .u64 c] 46)).alloc (.cells #[.bool false, .int .u64 0, .int .i64 0] 24))
 have hB0 : ((w.alloc (.cells #[.bool n1, .int .i8 s, .int .u64 c] 46)).alloc (.cells #[.bool false, .int .u64 0, .int .i64 0] 24)).heap[w.heap.size]? = some (.cells #[.bool n1, .int .i8 s, .int .u64 c] 46 (0, 0)) := by
  rw [Below.heap_alloc _ _ _ (by simp)]
  have := heap_alloc_new w (.cells #[.bool n1, .int .i8 s, .int .u64 c] 46)
  simpa using this
 have hB1 : ((w.alloc (.cells #[.bool n1, .int .i8 s, .int .u64 c] 46)).alloc (.cells #[.bool false, .int .u64 0, .int .i64 0] 24)).heap[w.heap.size + 1]? = some (.cells #[.bool false, .int .u64 0, .int .i64 0] 24 (0, 0)) := by
  have := heap_alloc_new (w.alloc (.cells #[.bool n1, .int .i8 s, .int .u64 c] 46)) (.cells #[.bool false, .int .u64 0, .int .i64 0] 24)
  simpa using this
 have HZ := hid hB1
 have HSS := hid (fun w1 (h : Chg (fun _ => False) ((w.alloc (.cells #[.bool n1, .int .i8 s, .int .u64 c] 46)).alloc (.cells #[.bool false, .int .u64 0, .int .i64 0] 24)) w1) => (show w1.cell? ⟨w.heap.size, 0, none⟩ = some (.bool n1) ∧ w1.cell? ⟨w.heap.size, 1, none⟩ = some (.int .i8 s) ∧ w1.cell? ⟨w.heap.size, 2, none⟩ = some (.int .u64 c) from ⟨(cell3 (kept_heap h hB0)).1, (cell3 (kept_heap h hB0)).2.1, (cell3 (kept_heap h hB0)).2.2.1⟩))
 have HST := hid (fun w1 (x0 x1 x2 : Value) (h : Chg (fun _ => False) ((w.alloc (.cells #[.bool n1, .int .i8 s, .int .u64 c] 46)).alloc (.cells #[.bool false, .int .u64 0, .int .i64 0] 24)) w1) => (show (((w1.setCell ⟨w.heap.size + 1, 0, none⟩ x0).setCell ⟨w.heap.size + 1, 1, none⟩ x1).setCell ⟨w.heap.size + 1, 2, none⟩ x2).cell? ⟨w.heap.size, 0, none⟩ = some (.bool n1) ∧ (((w1.setCell ⟨w.heap.size + 1, 0, none⟩ x0).setCell ⟨w.heap.size + 1, 1, none⟩ x1).setCell ⟨w.heap.size + 1, 2, none⟩ x2).cell? ⟨w.heap.size, 1, none⟩ = some (.int .i8 s) ∧ (((w1.setCell ⟨w.heap.size + 1, 0, none⟩ x0).setCell ⟨w.heap.size + 1, 1, none⟩ x1).setCell ⟨w.heap.size + 1, 2, none⟩ x2).cell? ⟨w.heap.size, 2, none⟩ = some (.int .u64 c) from by
  have hh := HSS.out w1 h
  refine ⟨?_, ?_, ?_⟩ <;> (repeat rw [far_cell (by omega)])
  ·exact hh.1
  ·exact hh.2.1
  ·exact hh.2.2))
 have HD := hid (Chg.drew (Chg.refl (fun _ => False) ((w.alloc (.cells #[.bool n1, .int .i8 s, .int .u64 c] 46)).alloc (.cells #[.bool false, .int .u64 0, .int .i64 0] 24))))
 clear hB0 hB1
 have hk := HD.out
 go_enter Tryz.func23, Tryz.ntmps23
 go_wp2_with fail
 first | (go_region_held3 (fun w' => w'.cell? ⟨w.heap.size, 0, none⟩ = some (.bool n1) ∧ w'.cell? ⟨w.heap.size, 1, none⟩ = some (.int .i8 s) ∧ w'.cell? ⟨w.heap.size, 2, none⟩ = some (.int .u64 c)) (first | with_reducible exact HSS.out _ hk | with_reducible exact HST.out _ _ _ _ hk | go_keep) (first | (go_at_call 42; refine (H1.out _).mono ?_; intro e w1 h; obtain ⟨he, hc⟩ := h; subst he; replace hk := hk.trans hc sb_; skip; skip; clear hc; obtain ⟨k0, k1, k2, f0, f1, f2⟩ := cell3 (kept_heap hk HZ.out)) | (go_at_call 43; refine (H2.out _).mono ?_; intro e w1 h; obtain ⟨he, hc⟩ := h; subst he; replace hk := hk.trans hc sb_; skip; skip; clear hc; obtain ⟨k0, k1, k2, f0, f1, f2⟩ := cell3 (kept_heap hk HZ.out)) | (go_at_call 44; refine (H3.out _).mono ?_; intro e w1 h; obtain ⟨he, hc⟩ := h; subst he; replace hk := hk.trans hc sb_; skip; skip; clear hc; obtain ⟨k0, k1, k2, f0, f1, f2⟩ := cell3 (kept_heap hk HZ.out)))) | fail
 all_goals (go_wp2_with fail; refine bodyPost_ret (v := .agg #[.bool n1, .int .u64 c, .int .i64 s]) (by rw [results_cell_row rfl _ _ (w.heap.size + 1) _ _ _ _ rfl (store3 (kept_heap hk HZ.out) _ _ _) Tryz.underlying24 rfl fix_size]) rfl ⟨rfl, chg3 (HC0.out.trans hk sb_) (by omega) _ _ _⟩)
set_option maxHeartbeats 2000000 in
theorem fixed_any (n1 nb : Bool) (c : Int) (s : Nat) (hc : Fi c) (hs : s ≤ 19) (hnb : (n1 && c != 0) = nb) (w : World) :
  Calls Tryz.prog 21 #[.agg #[.bool n1, .int .u64 c, .int .i64 s]] w (PV w (.tuple #[.agg #[.bool nb, .int .i8 s, .int .u64 c], .bool true])) := by
 have HM := hid (fun w => ZzMake_any n1 nb c s hc hs hnb w)
 clear hc hs hnb
 have HC0 := hid (((Chg.refl (fun _ => False) w).alloc (.cells #[.bool n1, .int .u64 c, .int .i64 s] 24)).alloc (.cells #[.bool false, .int .i8 0, .int .u64 0] 46))
 have hB0 : ((w.alloc (.cells #[.bool n1, .int .u64 c, .int .i64 s] 24)).alloc (.cells #[.bool false, .int .i8 0, .int .u64 0] 46)).heap[w.heap.size]? = some (.cells #[.bool n1, .int .u64 c, .int .i64 s] 24 (0, 0)) := by
  rw [Below.heap_alloc _ _ _ (by simp)]
  have := heap_alloc_new w (.cells #[.bool n1, .int .u64 c, .int .i64 s] 24)
  simpa using this
 have hB1 : ((w.alloc (.cells #[.bool n1, .int .u64 c, .int .i64 s] 24)).alloc (.cells #[.bool false, .int .i8 0, .int .u64 0] 46)).heap[w.heap.size + 1]? = some (.cells #[.bool false, .int .i8 0, .int .u64 0] 46 (0, 0)) := by
  have := heap_alloc_new (w.alloc (.cells #[.bool n1, .int .u64 c, .int .i64 s] 24)) (.cells #[.bool false, .int .i8 0, .int .u64 0] 46)
  simpa using this
 have HZ := hid hB1
 have HSS := hid (fun w1 (h : Chg (fun _ => False) ((w.alloc (.cells #[.bool n1, .int .u64 c, .int .i64 s] 24)).alloc (.cells #[.bool false, .int .i8 0, .int .u64 0] 46)) w1) => (show w1.cell? ⟨w.heap.size, 0, none⟩ = some (.bool n1) ∧ w1.cell? ⟨w.heap.size, 1, none⟩ = some (.int .u64 c) ∧ w1.cell? ⟨w.heap.size, 2, none⟩ = some (.int .i64 s) from ⟨(cell3 (kept_heap h hB0)).1, (cell3 (kept_heap h hB0)).2.1, (cell3 (kept_heap h hB0)).2.2.1⟩))
 have HST := hid (fun w1 (x0 x1 x2 : Value) (h : Chg (fun _ => False) ((w.alloc (.cells #[.bool n1, .int .u64 c, .int .i64 s] 24)).alloc (.cells #[.bool false, .int .i8 0, .int .u64 0] 46)) w1) => (show (((w1.setCell ⟨w.heap.size + 1, 0, none⟩ x0).setCell ⟨w.heap.size + 1, 1, none⟩ x1).setCell ⟨w.heap.size + 1, 2, none⟩ x2).cell? ⟨w.heap.size, 0, none⟩ = some (.bool n1) ∧ (((w1.setCell ⟨w.heap.size + 1, 0, none⟩ x0).setCell ⟨w.heap.size + 1, 1, none⟩ x1).setCell ⟨w.heap.size + 1, 2, none⟩ x2).cell? ⟨w.heap.size, 1, none⟩ = some (.int .u64 c) ∧ (((w1.setCell ⟨w.heap.size + 1, 0, none⟩ x0).setCell ⟨w.heap.size + 1, 1, none⟩ x1).setCell ⟨w.heap.size + 1, 2, none⟩ x2).cell? ⟨w.heap.size, 2, none⟩ = some (.int .i64 s) from by
  have hh := HSS.out w1 h
  refine ⟨?_, ?_, ?_⟩ <;> (repeat rw [far_cell (by omega)])
  ·exact hh.1
  ·exact hh.2.1
  ·exact hh.2.2))
 have HD := hid (Chg.drew (Chg.refl (fun _ => False) ((w.alloc (.cells #[.bool n1, .int .u64 c, .int .i64 s] 24)).alloc (.cells #[.bool false, .int .i8 0, .int .u64 0] 46))))
 clear hB0 hB1
 have hk := Chg.refl (fun _ => False) ((w.alloc (.cells #[.bool n1, .int .u64 c, .int .i64 s] 24)).alloc (.cells #[.bool false, .int .i8 0, .int .u64 0] 46))
 obtain ⟨d0, d1, d2⟩ := HSS.out _ hk
 go_enter Tryz.func21, Tryz.ntmps21
 go_wp2_with (go_at_call 39; refine (HM.out _).mono ?_; intro e w1 h; obtain ⟨he, hc⟩ := h; subst he; replace hk := hk.trans hc sb_; have HG := hid (heap_alloc_new w1 (.cells #[.bool nb, .int .i8 s, .int .u64 c] 46)); have hk2 := hk.alloc (.cells #[.bool nb, .int .i8 s, .int .u64 c] 46); clear hc d0 d1 d2; obtain ⟨k0, k1, k2, f0, f1, f2⟩ := cell3 (kept_heap hk2 HZ.out); obtain ⟨g0, g1, g2, _, _, _⟩ := cell3 HG.out)
 go_region
 all_goals (go_wp2_with fail; refine bodyPost_ret (v := .tuple #[.agg #[.bool nb, .int .i8 s, .int .u64 c], .bool true]) (dec_result rfl _ _ (w.heap.size + 1) _ _ _ _ 46 rfl rfl (store3 (kept_heap hk2.drew HZ.out) _ _ _)) rfl ⟨rfl, chg3 (HC0.out.trans hk2.drew sb_) (by omega) _ _ _⟩)
theorem subIdle (p q : Addr) (w : World) : CallsD Tryz.prog 20 #[.pointer (some p), .pointer (some q)] .returning w fun e u' w' => e = .returned (.tuple #[]) ∧ u' = .returning ∧ w' = w := by
 refine callsD_of_wpS Tryz.func20 rfl fun c₀ cs hu => ?_
 apply wpS_seq
 apply wpS_region
 simp [wpOpsS, go_sem, recoverD, hu, Tryz.ntmps20, Exit.thenS]
 refine wpS_cond (t := false) (by simp [Act.eval, Array.replicate]) ?_
 simp only [Bool.false_eq_true, if_false]
 refine wpS_of_wp (wp_skip ?_)
 cases c₀
 simp_all [bodyPostS, results, Tryz.results20]
theorem addIdle (p q : Addr) (w : World) : CallsD Tryz.prog 54 #[.pointer (some p), .pointer (some q)] .returning w fun e u' w' => e = .returned (.tuple #[]) ∧ u' = .returning ∧ w' = w := by
 refine callsD_of_wpS Tryz.func54 rfl fun c₀ cs hu => ?_
 apply wpS_seq
 apply wpS_region
 simp [wpOpsS, go_sem, recoverD, hu, Tryz.ntmps54, Exit.thenS]
 refine wpS_cond (t := false) (by simp [Act.eval, Array.replicate]) ?_
 simp only [Bool.false_eq_true, if_false]
 refine wpS_of_wp (wp_skip ?_)
 cases c₀
 simp_all [bodyPostS, results, Tryz.results54]
theorem results_two {fn : Func} {p u : Tmp} {ty ty2 : TypeId} (h : fn.results = #[.cell p ty, .cell u ty2]) (tmps : Array Value) (P : Program) (w : World) :
  (results fn tmps).run P w =
   ((asAddr (tmps.getD p undef)).run P w).andThen fun a w₁ => ((loadVar ty a).run P w₁).andThen fun v w₂ => ((asAddr (tmps.getD u undef)).run P w₂).andThen fun a2 w₃ => ((loadVar ty2 a2).run P w₃).andThen fun v2 w₄ => .ok (.tuple #[v, v2]) w₄ := by
 simp only [results, h]
 simp [Sem.run_bind, Result.andThen]
theorem fix_result {fn : Func} {p u : Tmp} (h : fn.results = #[.cell p 24, .cell u 3]) (tmps : Array Value) (w : World) (g g2 : Nat) (a b d v : Value) (T T2 : TypeId)
  (hp : tmps.getD p undef = .pointer (some ⟨g, 0, none⟩)) (hu : tmps.getD u undef = .pointer (some ⟨g2, 0, none⟩)) (hg : w.heap[g]? = some (.cells #[a, b, d] T (0, 0))) (hg2 : w.heap[g2]? = some (.cells #[v] T2 (0, 0))) :
  (results fn tmps).run Tryz.prog w = .ok (.tuple #[.agg #[a, b, d], v]) w := by
 have hl := run_loadVar_row (P := Tryz.prog) w g T 24 #[a, b, d] (0, 0) _ hg Tryz.underlying24 rfl fix_size
 have hc : w.cell? ⟨g2, 0, none⟩ = some v := by simp [World.cell?, hg2]
 have hl2 : (loadVar 3 ⟨g2, 0, none⟩).run Tryz.prog w = .ok v w := by simp [go_sem, hc]
 rw [results_two h, hp, hu]
 simp [asAddr, hl, hl2, Result.andThen]
theorem cell1 {w1 : World} {z : Nat} {x0 : Value} {T : TypeId} (hh : w1.heap[z]? = some (.cells #[x0] T (0, 0))) : w1.cell? ⟨z, 0, none⟩ = some x0 ∧ w1.frozen? ⟨z, 0, none⟩ = false := by
 refine ⟨?_, ?_⟩ <;> simp [World.cell?, World.frozen?, hh]
theorem fix_far {w1 : World} {z y : Nat} {o : Obj} {v : Value} (h : w1.heap[z]? = some o) (hne : z ≠ y) : (w1.setCell ⟨y, 0, none⟩ v).heap[z]? = some o := by
 rw [Below.heap_setCell _ _ _ _ (by simpa using hne)]; exact h
theorem fix_far' {w1 : World} {z y i : Nat} {o : Obj} {v : Value} (h : w1.heap[z]? = some o) (hne : z ≠ y) : (w1.setCell ⟨y, i, none⟩ v).heap[z]? = some o := by
 rw [Below.heap_setCell _ _ _ _ (by simpa using hne)]; exact h
theorem fix_near {w1 : World} {z y : Nat} {o : Obj} {a b c : Value} (h : w1.heap[z]? = some o) (hne : z ≠ y) : (((w1.setCell ⟨y, 0, none⟩ a).setCell ⟨y, 1, none⟩ b).setCell ⟨y, 2, none⟩ c).heap[z]? = some o :=
 fix_far' (fix_far' (fix_far' h hne) hne) hne
theorem int_set {w1 : World} {z : Nat} {x v : Value} {T : TypeId} (h : w1.heap[z]? = some (.cells #[x] T (0, 0))) : (w1.setCell ⟨z, 0, none⟩ v).heap[z]? = some (.cells #[v] T (0, 0)) := by
 simp [World.setCell, Array.getElem?_modify, h]
theorem fix_chg {w w1 : World} {z y : Nat} {a b c v : Value} (h : Chg (fun _ => False) w w1) (hz : w.heap.size ≤ z) (hy : w.heap.size ≤ y) : Chg (fun _ => False) w ((((w1.setCell ⟨z, 0, none⟩ a).setCell ⟨z, 1, none⟩ b).setCell ⟨z, 2, none⟩ c).setCell ⟨y, 0, none⟩ v) :=
 Chg.setCell (p := ⟨y, 0, none⟩) (chg3 h hz a b c) (fun h => by simp only at h; omega) v
set_option maxHeartbeats 4000000 in
theorem FixSubExact_ok (n1 n2 d1 d2 : Bool) (dc ec ds es : Nat) (m : Int) (hdc : dc < 10 ^ 19) (hec : ec < 10 ^ 19) (hds : ds ≤ 19) (hes : es ≤ 19) (hd1 : (n1 && (dc : Int) != 0) = d1) (hd2 : (n2 && (ec : Int) != 0) = d2) (w : World) (he : EnvD w)
  (nb : Bool) (k : Int) (t : Nat) (ht : t ≤ 19) (HS : ∀ w1, EnvD w1 → Calls Tryz.prog 22 #[.agg #[.bool d1, .int .i8 ds, .int .u64 (dc : Int)], .agg #[.bool d2, .int .i8 es, .int .u64 (ec : Int)], .int .i64 m] w1 (fun e w' => e = .returned (.tuple #[.agg #[.bool nb, .int .i8 t, .int .u64 k], .nilIface]) ∧ Chg (fun _ => False) w1 w')) :
  Calls Tryz.prog 8 #[.agg #[.bool n1, .int .u64 (dc : Int), .int .i64 (ds : Int)], .agg #[.bool n2, .int .u64 (ec : Int), .int .i64 (es : Int)], .int .i64 m] w (PV w (.tuple #[.agg #[.bool nb, .int .u64 k, .int .i64 t], .int .i64 0])) := by
 have HF1 := hid (fun w => fixed_any n1 d1 (dc : Int) ds (fiN hdc) hds hd1 w)
 have HF2 := hid (fun w => fixed_any n2 d2 (ec : Int) es (fiN hec) hes hd2 w)
 have HE := hid he
 obtain ⟨DC, hDC⟩ : ∃ v : Int, (dc : Int) = v := ⟨_, rfl⟩
 obtain ⟨EC, hEC⟩ : ∃ v : Int, (ec : Int) = v := ⟨_, rfl⟩
 rw [hDC] at HF1
 rw [hEC] at HF2
 rw [hDC, hEC] at HS
 rw [hDC, hEC]
 have HSX := hid HS
 clear HS hdc hec hds hes hd1 hd2 he hDC hEC
 have HFX := hid (fun w => fix_any nb k t ht w)
 clear ht
 have HC0 := hid (((((Chg.refl (fun _ => False) w).alloc (.cells #[.bool n1, .int .u64 DC, .int .i64 ds] 24)).alloc (.cells #[.bool n2, .int .u64 EC, .int .i64 es] 24)).alloc (.cells #[.bool false, .int .u64 0, .int .i64 0] 24)).alloc (.cells #[.int .i64 0] 3))
 have hB1 : ((((w.alloc (.cells #[.bool n1, .int .u64 DC, .int .i64 ds] 24)).alloc (.cells #[.bool n2, .int .u64 EC, .int .i64 es] 24)).alloc (.cells #[.bool false, .int .u64 0, .int .i64 0] 24)).alloc (.cells #[.int .i64 0] 3)).heap[w.heap.size + 1]? = some (.cells #[.bool n2, .int .u64 EC, .int .i64 es] 24 (0, 0)) := by
  rw [Below.heap_alloc _ _ _ (by first | (simp; done) | (simp; omega))]
  rw [Below.heap_alloc _ _ _ (by first | (simp; done) | (simp; omega))]
  have := heap_alloc_new (w.alloc (.cells #[.bool n1, .int .u64 DC, .int .i64 ds] 24)) (.cells #[.bool n2, .int .u64 EC, .int .i64 es] 24)
  simpa using this
 have HB1 := hid hB1
 clear hB1
 have hB2 : ((((w.alloc (.cells #[.bool n1, .int .u64 DC, .int .i64 ds] 24)).alloc (.cells #[.bool n2, .int .u64 EC, .int .i64 es] 24)).alloc (.cells #[.bool false, .int .u64 0, .int .i64 0] 24)).alloc (.cells #[.int .i64 0] 3)).heap[w.heap.size + 1 + 1]? = some (.cells #[.bool false, .int .u64 0, .int .i64 0] 24 (0, 0)) := by
  rw [Below.heap_alloc _ _ _ (by first | (simp; done) | (simp; omega))]
  have := heap_alloc_new ((w.alloc (.cells #[.bool n1, .int .u64 DC, .int .i64 ds] 24)).alloc (.cells #[.bool n2, .int .u64 EC, .int .i64 es] 24)) (.cells #[.bool false, .int .u64 0, .int .i64 0] 24)
  simpa using this
 have HB2 := hid hB2
 clear hB2
 have hB3 : ((((w.alloc (.cells #[.bool n1, .int .u64 DC, .int .i64 ds] 24)).alloc (.cells #[.bool n2, .int .u64 EC, .int .i64 es] 24)).alloc (.cells #[.bool false, .int .u64 0, .int .i64 0] 24)).alloc (.cells #[.int .i64 0] 3)).heap[w.heap.size + 1 + 1 + 1]? = some (.cells #[.int .i64 0] 3 (0, 0)) := by
  have := heap_alloc_new (((w.alloc (.cells #[.bool n1, .int .u64 DC, .int .i64 ds] 24)).alloc (.cells #[.bool n2, .int .u64 EC, .int .i64 es] 24)).alloc (.cells #[.bool false, .int .u64 0, .int .i64 0] 24)) (.cells #[.int .i64 0] 3)
  simpa using this
 have HB3 := hid hB3
 clear hB3
 have hk := Chg.refl (fun _ => False) ((((w.alloc (.cells #[.bool n1, .int .u64 DC, .int .i64 ds] 24)).alloc (.cells #[.bool n2, .int .u64 EC, .int .i64 es] 24)).alloc (.cells #[.bool false, .int .u64 0, .int .i64 0] 24)).alloc (.cells #[.int .i64 0] 3))
 have hmf : ∀ (fn : Fn) (first cap : Array Value) (w : World), (Instr.makeFunc fn first cap).run Tryz.prog w = .ok (.func fn first cap) w := fun _ _ _ _ => rfl
 go_enter_defers Tryz.func8, Tryz.ntmps8
 go_wp2_with (first | (go_at_call_of 21 (Value.agg #[Value.bool n1, Value.int .u64 DC, Value.int .i64 (ds : Int)]); refine (HF1.out _).mono ?_; intro e w1 h; obtain ⟨he, hc⟩ := h; subst he; replace hk := (hk.trans hc sb_).alloc (.cells #[.bool d1, .int .i8 ds, .int .u64 DC] 46); have HG1 := hid (heap_alloc_new w1 (.cells #[.bool d1, .int .i8 ds, .int .u64 DC] 46)); clear hc; obtain ⟨e0, e1, e2, _, _, _⟩ := cell3 (kept_heap hk HB1.out)) | (go_at_call_of 21 (Value.agg #[Value.bool n2, Value.int .u64 EC, Value.int .i64 (es : Int)]); refine (HF2.out _).mono ?_; intro e w2 h; obtain ⟨he, hc⟩ := h; subst he; replace hk := (hk.trans hc sb_).alloc (.cells #[.bool d2, .int .i8 es, .int .u64 EC] 46); replace HG1 := hid (kept_heap (hc.alloc (.cells #[.bool d2, .int .i8 es, .int .u64 EC] 46)) HG1.out); have HG2 := hid (heap_alloc_new w2 (.cells #[.bool d2, .int .i8 es, .int .u64 EC] 46)); clear hc e0 e1 e2; obtain ⟨g0, g1, g2, _, _, _⟩ := cell3 HG1.out; obtain ⟨j0, j1, j2, _, _, _⟩ := cell3 HG2.out) | (go_at_call 22; refine (HSX.out _ (HE.out.kept (HC0.out.trans hk sb_))).mono ?_; intro e w3 h; obtain ⟨he, hc⟩ := h; subst he; replace hk := (hk.trans hc sb_).alloc (.cells #[.bool nb, .int .i8 t, .int .u64 k] 46); clear hc g0 g1 g2 j0 j1 j2) | (go_at_call 23; refine (HFX.out _).mono ?_; intro e w4 h; obtain ⟨he, hc⟩ := h; subst he; replace hk := hk.trans hc sb_; clear hc; obtain ⟨r0, r1, r2, q0, q1, q2⟩ := cell3 (kept_heap hk HB2.out); obtain ⟨i0, i1⟩ := cell1 (kept_heap hk HB3.out)))
 refine leaves_cons (f := 20) (args := #[.pointer (some ⟨w.heap.size + 1 + 1, 0, none⟩), .pointer (some ⟨w.heap.size + 1 + 1 + 1, 0, none⟩)]) (by simp) (by simp [go_sem]) ?_
 refine (subIdle _ _ _).mono ?_
 rintro e u' w'' ⟨rfl, rfl, rfl⟩
 exact ⟨.tuple #[.agg #[.bool nb, .int .u64 k, .int .i64 t], .int .i64 0], fix_result rfl _ _ (w.heap.size + 1 + 1) (w.heap.size + 1 + 1 + 1) _ _ _ _ _ _ rfl rfl (fix_far (store3 (kept_heap hk HB2.out) _ _ _) (by omega)) (int_set (fix_near (kept_heap hk HB3.out) (by omega))), rfl, fix_chg (HC0.out.trans hk sb_) (by omega) (by omega)⟩
set_option maxHeartbeats 4000000 in
theorem FixSubExact_err (n1 n2 d1 d2 : Bool) (dc ec ds es : Nat) (m : Int) (hdc : dc < 10 ^ 19) (hec : ec < 10 ^ 19) (hds : ds ≤ 19) (hes : es ≤ 19) (hd1 : (n1 && (dc : Int) != 0) = d1) (hd2 : (n2 && (ec : Int) != 0) = d2) (w : World) (he : EnvD w)
  (HS : ∀ w1, EnvD w1 → Calls Tryz.prog 22 #[.agg #[.bool d1, .int .i8 ds, .int .u64 (dc : Int)], .agg #[.bool d2, .int .i8 es, .int .u64 (ec : Int)], .int .i64 m] w1 (fun e w' => Chg (fun _ => False) w1 w' ∧ ∃ t v, e = .returned (.tuple #[.agg #[.bool false, .int .i8 0, .int .u64 0], .iface t v]))) :
  Calls Tryz.prog 8 #[.agg #[.bool n1, .int .u64 (dc : Int), .int .i64 (ds : Int)], .agg #[.bool n2, .int .u64 (ec : Int), .int .i64 (es : Int)], .int .i64 m] w (PV w (.tuple #[.agg #[.bool false, .int .u64 0, .int .i64 0], .int .i64 1])) := by
 have HF1 := hid (fun w => fixed_any n1 d1 (dc : Int) ds (fiN hdc) hds hd1 w)
 have HF2 := hid (fun w => fixed_any n2 d2 (ec : Int) es (fiN hec) hes hd2 w)
 have HE := hid he
 obtain ⟨DC, hDC⟩ : ∃ v : Int, (dc : Int) = v := ⟨_, rfl⟩
 obtain ⟨EC, hEC⟩ : ∃ v : Int, (ec : Int) = v := ⟨_, rfl⟩
 rw [hDC] at HF1
 rw [hEC] at HF2
 rw [hDC, hEC] at HS
 rw [hDC, hEC]
 have HSX := hid HS
 clear HS hdc hec hds hes hd1 hd2 he hDC hEC
 have HC0 := hid (((((Chg.refl (fun _ => False) w).alloc (.cells #[.bool n1, .int .u64 DC, .int .i64 ds] 24)).alloc (.cells #[.bool n2, .int .u64 EC, .int .i64 es] 24)).alloc (.cells #[.bool false, .int .u64 0, .int .i64 0] 24)).alloc (.cells #[.int .i64 0] 3))
 have hB1 : ((((w.alloc (.cells #[.bool n1, .int .u64 DC, .int .i64 ds] 24)).alloc (.cells #[.bool n2, .int .u64 EC, .int .i64 es] 24)).alloc (.cells #[.bool false, .int .u64 0, .int .i64 0] 24)).alloc (.cells #[.int .i64 0] 3)).heap[w.heap.size + 1]? = some (.cells #[.bool n2, .int .u64 EC, .int .i64 es] 24 (0, 0)) := by
  rw [Below.heap_alloc _ _ _ (by first | (simp; done) | (simp; omega))]
  rw [Below.heap_alloc _ _ _ (by first | (simp; done) | (simp; omega))]
  have := heap_alloc_new (w.alloc (.cells #[.bool n1, .int .u64 DC, .int .i64 ds] 24)) (.cells #[.bool n2, .int .u64 EC, .int .i64 es] 24)
  simpa using this
 have HB1 := hid hB1
 clear hB1
 have hB2 : ((((w.alloc (.cells #[.bool n1, .int .u64 DC, .int .i64 ds] 24)).alloc (.cells #[.bool n2, .int .u64 EC, .int .i64 es] 24)).alloc (.cells #[.bool false, .int .u64 0, .int .i64 0] 24)).alloc (.cells #[.int .i64 0] 3)).heap[w.heap.size + 1 + 1]? = some (.cells #[.bool false, .int .u64 0, .int .i64 0] 24 (0, 0)) := by
  rw [Below.heap_alloc _ _ _ (by first | (simp; done) | (simp; omega))]
  have := heap_alloc_new ((w.alloc (.cells #[.bool n1, .int .u64 DC, .int .i64 ds] 24)).alloc (.cells #[.bool n2, .int .u64 EC, .int .i64 es] 24)) (.cells #[.bool false, .int .u64 0, .int .i64 0] 24)
  simpa using this
 have HB2 := hid hB2
 clear hB2
 have hB3 : ((((w.alloc (.cells #[.bool n1, .int .u64 DC, .int .i64 ds] 24)).alloc (.cells #[.bool n2, .int .u64 EC, .int .i64 es] 24)).alloc (.cells #[.bool false, .int .u64 0, .int .i64 0] 24)).alloc (.cells #[.int .i64 0] 3)).heap[w.heap.size + 1 + 1 + 1]? = some (.cells #[.int .i64 0] 3 (0, 0)) := by
  have := heap_alloc_new (((w.alloc (.cells #[.bool n1, .int .u64 DC, .int .i64 ds] 24)).alloc (.cells #[.bool n2, .int .u64 EC, .int .i64 es] 24)).alloc (.cells #[.bool false, .int .u64 0, .int .i64 0] 24)) (.cells #[.int .i64 0] 3)
  simpa using this
 have HB3 := hid hB3
 clear hB3
 have hk := Chg.refl (fun _ => False) ((((w.alloc (.cells #[.bool n1, .int .u64 DC, .int .i64 ds] 24)).alloc (.cells #[.bool n2, .int .u64 EC, .int .i64 es] 24)).alloc (.cells #[.bool false, .int .u64 0, .int .i64 0] 24)).alloc (.cells #[.int .i64 0] 3))
 have hmf : ∀ (fn : Fn) (first cap : Array Value) (w : World), (Instr.makeFunc fn first cap).run Tryz.prog w = .ok (.func fn first cap) w := fun _ _ _ _ => rfl
 go_enter_defers Tryz.func8, Tryz.ntmps8
 go_wp2_with (first | (go_at_call_of 21 (Value.agg #[Value.bool n1, Value.int .u64 DC, Value.int .i64 (ds : Int)]); refine (HF1.out _).mono ?_; intro e w1 h; obtain ⟨he, hc⟩ := h; subst he; replace hk := (hk.trans hc sb_).alloc (.cells #[.bool d1, .int .i8 ds, .int .u64 DC] 46); have HG1 := hid (heap_alloc_new w1 (.cells #[.bool d1, .int .i8 ds, .int .u64 DC] 46)); clear hc; obtain ⟨e0, e1, e2, _, _, _⟩ := cell3 (kept_heap hk HB1.out)) | (go_at_call_of 21 (Value.agg #[Value.bool n2, Value.int .u64 EC, Value.int .i64 (es : Int)]); refine (HF2.out _).mono ?_; intro e w2 h; obtain ⟨he, hc⟩ := h; subst he; replace hk := (hk.trans hc sb_).alloc (.cells #[.bool d2, .int .i8 es, .int .u64 EC] 46); replace HG1 := hid (kept_heap (hc.alloc (.cells #[.bool d2, .int .i8 es, .int .u64 EC] 46)) HG1.out); have HG2 := hid (heap_alloc_new w2 (.cells #[.bool d2, .int .i8 es, .int .u64 EC] 46)); clear hc e0 e1 e2; obtain ⟨g0, g1, g2, _, _, _⟩ := cell3 HG1.out; obtain ⟨j0, j1, j2, _, _, _⟩ := cell3 HG2.out) | (go_at_call 22; refine (HSX.out _ (HE.out.kept (HC0.out.trans hk sb_))).mono ?_; intro e w3 h; obtain ⟨hc, t3, v3, he⟩ := h; subst he; replace hk := (hk.trans hc sb_).alloc (.cells #[.bool false, .int .i8 0, .int .u64 0] 46); clear hc g0 g1 g2 j0 j1 j2; obtain ⟨r0, r1, r2, q0, q1, q2⟩ := cell3 (kept_heap hk HB2.out); obtain ⟨i0, i1⟩ := cell1 (kept_heap hk HB3.out)))
 refine leaves_cons (f := 20) (args := #[.pointer (some ⟨w.heap.size + 1 + 1, 0, none⟩), .pointer (some ⟨w.heap.size + 1 + 1 + 1, 0, none⟩)]) (by simp) (by simp [go_sem]) ?_
 refine (subIdle _ _ _).mono ?_
 rintro e u' w'' ⟨rfl, rfl, rfl⟩
 exact ⟨.tuple #[.agg #[.bool false, .int .u64 0, .int .i64 0], .int .i64 1], fix_result rfl _ _ (w.heap.size + 1 + 1) (w.heap.size + 1 + 1 + 1) _ _ _ _ _ _ rfl rfl (fix_far (store3 (kept_heap hk HB2.out) _ _ _) (by omega)) (int_set (fix_near (kept_heap hk HB3.out) (by omega))), rfl, fix_chg (HC0.out.trans hk sb_) (by omega) (by omega)⟩
def fixOut (n : Bool) (o : Option (Nat × Nat)) : Value := match o with
 | some (k, t) => .tuple #[.agg #[.bool (n && (k : Int) != 0), .int .u64 (k : Int), .int .i64 (t : Int)], .int .i64 0]
 | none => .tuple #[.agg #[.bool false, .int .u64 0, .int .i64 0], .int .i64 1]
def subO (n1 : Bool) (dc ds : Nat) (n2 : Bool) (ec es : Nat) (m : Int) : Option (Nat × Nat) :=
 if m < 0 ∨ 19 < m then none else from19 (10 ^ 19) 2 (sumD n1 dc ds n2 ec es).2 (mxp ds es) m.toNat
theorem FixSubExact_any (n1 n2 d1 d2 e2 : Bool) (dc ec ds es : Nat) (m : Int) (hdc : dc < 10 ^ 19) (hec : ec < 10 ^ 19) (hds : ds ≤ 19) (hes : es ≤ 19) (hd1 : (n1 && (dc : Int) != 0) = d1) (hd2 : (n2 && (ec : Int) != 0) = d2) (he2 : (!d2 && (ec : Int) != 0) = e2) (w : World) (he : EnvD w) :
  Calls Tryz.prog 8 #[.agg #[.bool n1, .int .u64 (dc : Int), .int .i64 (ds : Int)], .agg #[.bool n2, .int .u64 (ec : Int), .int .i64 (es : Int)], .int .i64 m] w (PV w (fixOut (sumD d1 dc ds e2 ec es).1 (subO d1 dc ds e2 ec es m))) := by
 have hS := fun w1 he1 => SubExact_any d1 d2 dc ec ds es m hdc hec hds hes w1 he1
 rw [he2] at hS
 unfold subO
 by_cases hm : m < 0 ∨ 19 < m
 ·rw [if_pos hm]
  exact FixSubExact_err n1 n2 d1 d2 dc ec ds es m hdc hec hds hes hd1 hd2 w he (fun w1 he1 => (hS w1 he1).mono (fun e w' h => by unfold PAdd at h; rw [if_pos hm] at h; exact h))
 ·rw [if_neg hm]
  cases h19 : from19 (10 ^ 19) 2 (sumD d1 dc ds e2 ec es).2 (mxp ds es) m.toNat with
  | none =>
   exact FixSubExact_err n1 n2 d1 d2 dc ec ds es m hdc hec hds hes hd1 hd2 w he (fun w1 he1 => (hS w1 he1).mono (fun e w' h => by unfold PAdd at h; rw [if_neg hm, h19] at h; exact ⟨h.1, h.2⟩))
  | some kt =>
   obtain ⟨k, t⟩ := kt
   obtain ⟨b1, b2, b3⟩ := from19_bd (by omega) h19
   exact FixSubExact_ok n1 n2 d1 d2 dc ec ds es m hdc hec hds hes hd1 hd2 w he _ (k : Int) t b1 (fun w1 he1 => (hS w1 he1).mono (fun e w' h => by unfold PAdd at h; rw [if_neg hm, h19] at h; exact ⟨h.2, h.1⟩))
set_option maxHeartbeats 2000000 in
theorem Add_any (dn en : Bool) (dc ec ds es : Nat) (hdc : dc < 10 ^ 19) (hec : ec < 10 ^ 19) (hds : ds ≤ 19) (hes : es ≤ 19) (w : World) (he : EnvD w) :
  Calls Tryz.prog 55 #[.agg #[.bool dn, .int .i8 ds, .int .u64 (dc : Int)], .agg #[.bool en, .int .i8 es, .int .u64 (ec : Int)]] w (PAdd w dn dc ds en ec es 0) := by
 have HA := hid (fun w1 (he : EnvD w1) => AddExact_all dn en dc ec ds es 0 hdc hec hds hes w1 he)
 have HE := hid he
 obtain ⟨DC, hDC⟩ : ∃ v : Int, (dc : Int) = v := ⟨_, rfl⟩
 obtain ⟨EC, hEC⟩ : ∃ v : Int, (ec : Int) = v := ⟨_, rfl⟩
 rw [hDC, hEC] at HA
 rw [hDC, hEC]
 clear hdc hec hds hes he hDC hEC
 have HC0 := hid ((((Chg.refl (fun _ => False) w).alloc (.cells #[.bool dn, .int .i8 ds, .int .u64 DC] 46)).alloc (.cells #[.bool en, .int .i8 es, .int .u64 EC] 46)).alloc (.cells #[.bool false, .int .i8 0, .int .u64 0] 46))
 have hB0 : (((w.alloc (.cells #[.bool dn, .int .i8 ds, .int .u64 DC] 46)).alloc (.cells #[.bool en, .int .i8 es, .int .u64 EC] 46)).alloc (.cells #[.bool false, .int .i8 0, .int .u64 0] 46)).heap[w.heap.size]? = some (.cells #[.bool dn, .int .i8 ds, .int .u64 DC] 46 (0, 0)) := by
  rw [Below.heap_alloc _ _ _ (by simp; omega)]
  rw [Below.heap_alloc _ _ _ (by simp)]
  have := heap_alloc_new w (.cells #[.bool dn, .int .i8 ds, .int .u64 DC] 46)
  simpa using this
 have hB1 : (((w.alloc (.cells #[.bool dn, .int .i8 ds, .int .u64 DC] 46)).alloc (.cells #[.bool en, .int .i8 es, .int .u64 EC] 46)).alloc (.cells #[.bool false, .int .i8 0, .int .u64 0] 46)).heap[w.heap.size + 1]? = some (.cells #[.bool en, .int .i8 es, .int .u64 EC] 46 (0, 0)) := by
  rw [Below.heap_alloc _ _ _ (by simp)]
  have := heap_alloc_new (w.alloc (.cells #[.bool dn, .int .i8 ds, .int .u64 DC] 46)) (.cells #[.bool en, .int .i8 es, .int .u64 EC] 46)
  simpa using this
 have hB2 : (((w.alloc (.cells #[.bool dn, .int .i8 ds, .int .u64 DC] 46)).alloc (.cells #[.bool en, .int .i8 es, .int .u64 EC] 46)).alloc (.cells #[.bool false, .int .i8 0, .int .u64 0] 46)).heap[w.heap.size + 1 + 1]? = some (.cells #[.bool false, .int .i8 0, .int .u64 0] 46 (0, 0)) := by
  have := heap_alloc_new ((w.alloc (.cells #[.bool dn, .int .i8 ds, .int .u64 DC] 46)).alloc (.cells #[.bool en, .int .i8 es, .int .u64 EC] 46)) (.cells #[.bool false, .int .i8 0, .int .u64 0] 46)
  simpa using this
 have HZ := hid hB2
 have HSS := hid (fun w1 (h : Chg (fun _ => False) (((w.alloc (.cells #[.bool dn, .int .i8 ds, .int .u64 DC] 46)).alloc (.cells #[.bool en, .int .i8 es, .int .u64 EC] 46)).alloc (.cells #[.bool false, .int .i8 0, .int .u64 0] 46)) w1) => (show w1.cell? ⟨w.heap.size, 0, none⟩ = some (.bool dn) ∧ w1.cell? ⟨w.heap.size, 1, none⟩ = some (.int .i8 ds) ∧ w1.cell? ⟨w.heap.size, 2, none⟩ = some (.int .u64 DC) ∧ w1.cell? ⟨w.heap.size + 1, 0, none⟩ = some (.bool en) ∧ w1.cell? ⟨w.heap.size + 1, 1, none⟩ = some (.int .i8 es) ∧ w1.cell? ⟨w.heap.size + 1, 2, none⟩ = some (.int .u64 EC) from ⟨(cell3 (kept_heap h hB0)).1, (cell3 (kept_heap h hB0)).2.1, (cell3 (kept_heap h hB0)).2.2.1, (cell3 (kept_heap h hB1)).1, (cell3 (kept_heap h hB1)).2.1, (cell3 (kept_heap h hB1)).2.2.1⟩))
 have HST := hid (fun w1 (x0 x1 x2 : Value) (h : Chg (fun _ => False) (((w.alloc (.cells #[.bool dn, .int .i8 ds, .int .u64 DC] 46)).alloc (.cells #[.bool en, .int .i8 es, .int .u64 EC] 46)).alloc (.cells #[.bool false, .int .i8 0, .int .u64 0] 46)) w1) => (show (((w1.setCell ⟨w.heap.size + 1 + 1, 0, none⟩ x0).setCell ⟨w.heap.size + 1 + 1, 1, none⟩ x1).setCell ⟨w.heap.size + 1 + 1, 2, none⟩ x2).cell? ⟨w.heap.size, 0, none⟩ = some (.bool dn) ∧ (((w1.setCell ⟨w.heap.size + 1 + 1, 0, none⟩ x0).setCell ⟨w.heap.size + 1 + 1, 1, none⟩ x1).setCell ⟨w.heap.size + 1 + 1, 2, none⟩ x2).cell? ⟨w.heap.size, 1, none⟩ = some (.int .i8 ds) ∧ (((w1.setCell ⟨w.heap.size + 1 + 1, 0, none⟩ x0).setCell ⟨w.heap.size + 1 + 1, 1, none⟩ x1).setCell ⟨w.heap.size + 1 + 1, 2, none⟩ x2).cell? ⟨w.heap.size, 2, none⟩ = some (.int .u64 DC) ∧ (((w1.setCell ⟨w.heap.size + 1 + 1, 0, none⟩ x0).setCell ⟨w.heap.size + 1 + 1, 1, none⟩ x1).setCell ⟨w.heap.size + 1 + 1, 2, none⟩ x2).cell? ⟨w.heap.size + 1, 0, none⟩ = some (.bool en) ∧ (((w1.setCell ⟨w.heap.size + 1 + 1, 0, none⟩ x0).setCell ⟨w.heap.size + 1 + 1, 1, none⟩ x1).setCell ⟨w.heap.size + 1 + 1, 2, none⟩ x2).cell? ⟨w.heap.size + 1, 1, none⟩ = some (.int .i8 es) ∧ (((w1.setCell ⟨w.heap.size + 1 + 1, 0, none⟩ x0).setCell ⟨w.heap.size + 1 + 1, 1, none⟩ x1).setCell ⟨w.heap.size + 1 + 1, 2, none⟩ x2).cell? ⟨w.heap.size + 1, 2, none⟩ = some (.int .u64 EC) from by
  have hh := HSS.out w1 h
  refine ⟨?_, ?_, ?_, ?_, ?_, ?_⟩ <;> (repeat rw [far_cell (by omega)])
  ·exact hh.1
  ·exact hh.2.1
  ·exact hh.2.2.1
  ·exact hh.2.2.2.1
  ·exact hh.2.2.2.2.1
  ·exact hh.2.2.2.2.2))
 have HD := hid (Chg.drew (Chg.refl (fun _ => False) (((w.alloc (.cells #[.bool dn, .int .i8 ds, .int .u64 DC] 46)).alloc (.cells #[.bool en, .int .i8 es, .int .u64 EC] 46)).alloc (.cells #[.bool false, .int .i8 0, .int .u64 0] 46))))
 clear hB0 hB1 hB2
 have hk := Chg.refl (fun _ => False) (((w.alloc (.cells #[.bool dn, .int .i8 ds, .int .u64 DC] 46)).alloc (.cells #[.bool en, .int .i8 es, .int .u64 EC] 46)).alloc (.cells #[.bool false, .int .i8 0, .int .u64 0] 46))
 obtain ⟨d0, d1, d2, e0, e1, e2⟩ := HSS.out _ hk
 go_enter Tryz.func55, Tryz.ntmps55
 go_wp2_with (go_at_call 40; refine (HA.out _ (HE.out.kept (HC0.out.trans hk sb_))).mono ?_; intro e w1 h; obtain ⟨na, nb, nc, nv, he, hc, hp⟩ := h.op; subst he; replace hk := hk.trans hc sb_; skip; have HP := hid hp; clear hp; clear hc; obtain ⟨k0, k1, k2, f0, f1, f2⟩ := cell3 (kept_heap hk HZ.out))
 refine bodyPost_ret (v := .tuple #[.agg #[.bool na, .int .i8 nb, .int .u64 nc], nv]) (dec_result rfl _ _ (w.heap.size + 1 + 1) _ _ _ _ 46 rfl rfl (store3 (kept_heap hk HZ.out) _ _ _)) rfl (HP.out.move (chg3 (HC0.out.trans hk sb_) (by omega) _ _ _))
set_option maxHeartbeats 4000000 in
theorem FixAdd_ok (n1 n2 d1 d2 : Bool) (dc ec ds es : Nat) (hdc : dc < 10 ^ 19) (hec : ec < 10 ^ 19) (hds : ds ≤ 19) (hes : es ≤ 19) (hd1 : (n1 && (dc : Int) != 0) = d1) (hd2 : (n2 && (ec : Int) != 0) = d2) (w : World) (he : EnvD w)
  (nb : Bool) (k : Int) (t : Nat) (ht : t ≤ 19) (HS : ∀ w1, EnvD w1 → Calls Tryz.prog 55 #[.agg #[.bool d1, .int .i8 ds, .int .u64 (dc : Int)], .agg #[.bool d2, .int .i8 es, .int .u64 (ec : Int)]] w1 (fun e w' => e = .returned (.tuple #[.agg #[.bool nb, .int .i8 t, .int .u64 k], .nilIface]) ∧ Chg (fun _ => False) w1 w')) :
  Calls Tryz.prog 29 #[.agg #[.bool n1, .int .u64 (dc : Int), .int .i64 (ds : Int)], .agg #[.bool n2, .int .u64 (ec : Int), .int .i64 (es : Int)]] w (PV w (.tuple #[.agg #[.bool nb, .int .u64 k, .int .i64 t], .int .i64 0])) := by
 have HF1 := hid (fun w => fixed_any n1 d1 (dc : Int) ds (fiN hdc) hds hd1 w)
 have HF2 := hid (fun w => fixed_any n2 d2 (ec : Int) es (fiN hec) hes hd2 w)
 have HE := hid he
 obtain ⟨DC, hDC⟩ : ∃ v : Int, (dc : Int) = v := ⟨_, rfl⟩
 obtain ⟨EC, hEC⟩ : ∃ v : Int, (ec : Int) = v := ⟨_, rfl⟩
 rw [hDC] at HF1
 rw [hEC] at HF2
 rw [hDC, hEC] at HS
 rw [hDC, hEC]
 have HSX := hid HS
 clear HS hdc hec hds hes hd1 hd2 he hDC hEC
 have HFX := hid (fun w => fix_any nb k t ht w)
 clear ht
 have HC0 := hid (((((Chg.refl (fun _ => False) w).alloc (.cells #[.bool n1, .int .u64 DC, .int .i64 ds] 24)).alloc (.cells #[.bool n2, .int .u64 EC, .int .i64 es] 24)).alloc (.cells #[.bool false, .int .u64 0, .int .i64 0] 24)).alloc (.cells #[.int .i64 0] 3))
 have hB1 : ((((w.alloc (.cells #[.bool n1, .int .u64 DC, .int .i64 ds] 24)).alloc (.cells #[.bool n2, .int .u64 EC, .int .i64 es] 24)).alloc (.cells #[.bool false, .int .u64 0, .int .i64 0] 24)).alloc (.cells #[.int .i64 0] 3)).heap[w.heap.size + 1]? = some (.cells #[.bool n2, .int .u64 EC, .int .i64 es] 24 (0, 0)) := by
  rw [Below.heap_alloc _ _ _ (by first | (simp; done) | (simp; omega))]
  rw [Below.heap_alloc _ _ _ (by first | (simp; done) | (simp; omega))]
  have := heap_alloc_new (w.alloc (.cells #[.bool n1, .int .u64 DC, .int .i64 ds] 24)) (.cells #[.bool n2, .int .u64 EC, .int .i64 es] 24)
  simpa using this
 have HB1 := hid hB1
 clear hB1
 have hB2 : ((((w.alloc (.cells #[.bool n1, .int .u64 DC, .int .i64 ds] 24)).alloc (.cells #[.bool n2, .int .u64 EC, .int .i64 es] 24)).alloc (.cells #[.bool false, .int .u64 0, .int .i64 0] 24)).alloc (.cells #[.int .i64 0] 3)).heap[w.heap.size + 1 + 1]? = some (.cells #[.bool false, .int .u64 0, .int .i64 0] 24 (0, 0)) := by
  rw [Below.heap_alloc _ _ _ (by first | (simp; done) | (simp; omega))]
  have := heap_alloc_new ((w.alloc (.cells #[.bool n1, .int .u64 DC, .int .i64 ds] 24)).alloc (.cells #[.bool n2, .int .u64 EC, .int .i64 es] 24)) (.cells #[.bool false, .int .u64 0, .int .i64 0] 24)
  simpa using this
 have HB2 := hid hB2
 clear hB2
 have hB3 : ((((w.alloc (.cells #[.bool n1, .int .u64 DC, .int .i64 ds] 24)).alloc (.cells #[.bool n2, .int .u64 EC, .int .i64 es] 24)).alloc (.cells #[.bool false, .int .u64 0, .int .i64 0] 24)).alloc (.cells #[.int .i64 0] 3)).heap[w.heap.size + 1 + 1 + 1]? = some (.cells #[.int .i64 0] 3 (0, 0)) := by
  have := heap_alloc_new (((w.alloc (.cells #[.bool n1, .int .u64 DC, .int .i64 ds] 24)).alloc (.cells #[.bool n2, .int .u64 EC, .int .i64 es] 24)).alloc (.cells #[.bool false, .int .u64 0, .int .i64 0] 24)) (.cells #[.int .i64 0] 3)
  simpa using this
 have HB3 := hid hB3
 clear hB3
 have hk := Chg.refl (fun _ => False) ((((w.alloc (.cells #[.bool n1, .int .u64 DC, .int .i64 ds] 24)).alloc (.cells #[.bool n2, .int .u64 EC, .int .i64 es] 24)).alloc (.cells #[.bool false, .int .u64 0, .int .i64 0] 24)).alloc (.cells #[.int .i64 0] 3))
 have hmf : ∀ (fn : Fn) (first cap : Array Value) (w : World), (Instr.makeFunc fn first cap).run Tryz.prog w = .ok (.func fn first cap) w := fun _ _ _ _ => rfl
 go_enter_defers Tryz.func29, Tryz.ntmps29
 go_wp2_with (first | (go_at_call_of 21 (Value.agg #[Value.bool n1, Value.int .u64 DC, Value.int .i64 (ds : Int)]); refine (HF1.out _).mono ?_; intro e w1 h; obtain ⟨he, hc⟩ := h; subst he; replace hk := (hk.trans hc sb_).alloc (.cells #[.bool d1, .int .i8 ds, .int .u64 DC] 46); have HG1 := hid (heap_alloc_new w1 (.cells #[.bool d1, .int .i8 ds, .int .u64 DC] 46)); clear hc; obtain ⟨e0, e1, e2, _, _, _⟩ := cell3 (kept_heap hk HB1.out)) | (go_at_call_of 21 (Value.agg #[Value.bool n2, Value.int .u64 EC, Value.int .i64 (es : Int)]); refine (HF2.out _).mono ?_; intro e w2 h; obtain ⟨he, hc⟩ := h; subst he; replace hk := (hk.trans hc sb_).alloc (.cells #[.bool d2, .int .i8 es, .int .u64 EC] 46); replace HG1 := hid (kept_heap (hc.alloc (.cells #[.bool d2, .int .i8 es, .int .u64 EC] 46)) HG1.out); have HG2 := hid (heap_alloc_new w2 (.cells #[.bool d2, .int .i8 es, .int .u64 EC] 46)); clear hc e0 e1 e2; obtain ⟨g0, g1, g2, _, _, _⟩ := cell3 HG1.out; obtain ⟨j0, j1, j2, _, _, _⟩ := cell3 HG2.out) | (go_at_call 55; refine (HSX.out _ (HE.out.kept (HC0.out.trans hk sb_))).mono ?_; intro e w3 h; obtain ⟨he, hc⟩ := h; subst he; replace hk := (hk.trans hc sb_).alloc (.cells #[.bool nb, .int .i8 t, .int .u64 k] 46); clear hc g0 g1 g2 j0 j1 j2) | (go_at_call 23; refine (HFX.out _).mono ?_; intro e w4 h; obtain ⟨he, hc⟩ := h; subst he; replace hk := hk.trans hc sb_; clear hc; obtain ⟨r0, r1, r2, q0, q1, q2⟩ := cell3 (kept_heap hk HB2.out); obtain ⟨i0, i1⟩ := cell1 (kept_heap hk HB3.out)))
 refine leaves_cons (f := 54) (args := #[.pointer (some ⟨w.heap.size + 1 + 1, 0, none⟩), .pointer (some ⟨w.heap.size + 1 + 1 + 1, 0, none⟩)]) (by simp) (by simp [go_sem]) ?_
 refine (addIdle _ _ _).mono ?_
 rintro e u' w'' ⟨rfl, rfl, rfl⟩
 exact ⟨.tuple #[.agg #[.bool nb, .int .u64 k, .int .i64 t], .int .i64 0], fix_result rfl _ _ (w.heap.size + 1 + 1) (w.heap.size + 1 + 1 + 1) _ _ _ _ _ _ rfl rfl (fix_far (store3 (kept_heap hk HB2.out) _ _ _) (by omega)) (int_set (fix_near (kept_heap hk HB3.out) (by omega))), rfl, fix_chg (HC0.out.trans hk sb_) (by omega) (by omega)⟩
theorem FixHas_any {w : World} {B D2 : Option Addr} {m d p2 q2 a b s y : Nat} (N1 n2 : Bool) (ha : a < 10 ^ 19) (hs : s ≤ 19) (hN : (N1 && a != 0) = N1) (hb : SN w B m d b) (hy : SN w D2 p2 q2 y) (hb1 : b < 10 ^ 100) (hy1 : y < 10 ^ 100)
  (hcmp : (N1 && a * y != 0) = (n2 && b * 10 ^ s != 0) ∧ a * y = b * 10 ^ s) :
  Calls Tryz.prog 48 #[.agg #[.bool N1, .int .u64 (a : Int), .int .i64 (s : Int)], .agg #[.bool n2, .slice B m d, .slice D2 p2 q2]] w (PV w (.bool true)) := by
 cases N1 with
 | true => exact FixHas_neg n2 ha hs (by rw [Bool.true_and] at hN; exact bne_iff_ne.1 hN) hb hy hb1 hy1 hcmp
 | false => exact FixHas_pos n2 ha hs hb hy hb1 hy1 hcmp
set_option maxHeartbeats 4000000 in
theorem gvNear_some {w : World} {A D1 : Option Addr} {n c p1 q1 a x : Nat} (n1 : Bool) (ha : SN w A n c a) (hx : SN w D1 p1 q1 x) (ha1 : a < 10 ^ 100) (hx1 : x < 10 ^ 100) (hpl : Places a x) (N1 : Bool) (k t R : Nat) (hk1 : k < 10 ^ 19) (ht : t ≤ 19) (hN : (N1 && k != 0) = N1) (hR : room (10 ^ 19) (atP a x) 19 = some R) (hR19 : R ≤ 19) (hq : atP a x R < 10 ^ 19) (hcmp : (N1 && k * 10 ^ R != 0) = ((n1 && atP a x R != 0) && atP a x R * 10 ^ t != 0) ∧ k * 10 ^ R = atP a x R * 10 ^ t) :
  Calls Tryz.prog 25 #[.agg #[.bool N1, .int .u64 (k : Int), .int .i64 (t : Int)], .int .i64 0, .agg #[.bool n1, .slice A n c, .slice D1 p1 q1]] w (PV w (.bool true)) := by
 have HFX := hid (fun w1 (h : Chg (fun _ => False) w w1) => Fixed_any n1 (ha.kept h) (hx.kept h) ha1 hx1 hpl _ hR)
 have h100 : (10 : Nat) ^ R < 10 ^ 100 := Nat.pow_lt_pow_right (by omega) (by omega)
 have hq100 : atP a x R < 10 ^ 100 := Nat.lt_of_lt_of_le hq (Nat.pow_le_pow_right (by omega) (by omega))
 have HDF := hid (fun w1 (sb : Bool) (E : Option Addr) (k l : Nat) (hsb : (n1 && atP a x R != 0) = sb) (h : SN w1 E k l (atP a x R)) => DecFrac_any sb (-(R : Int)) R h (up240 hq100 (by omega)) (by omega) (by rw [← hsb]; cases n1 <;> simp) rfl)
 have HFH := hid (fun w1 (sb : Bool) (hsb : (n1 && atP a x R != 0) = sb) (E : Option Addr) (k1 l : Nat) (G : Option Addr) (i j : Nat) (h1 : SN w1 E k1 l (atP a x R)) (h2 : SN w1 G i j (10 ^ R)) => FixHas_any N1 sb hk1 ht hN h1 h2 hq100 h100 (by rw [← hsb]; exact hcmp))
 obtain ⟨v, hv⟩ : ∃ v : Int, (k : Int) = v := ⟨_, rfl⟩
 obtain ⟨s0, hs0⟩ : ∃ s0 : Int, (t : Int) = s0 := ⟨_, rfl⟩
 obtain ⟨e0, he0⟩ : ∃ e0 : Int, -(R : Int) = e0 := ⟨_, rfl⟩
 rw [hv, hs0] at HFH
 rw [hv, hs0]
 rw [he0] at HDF
 have HE0 := hid he0
 clear ha hx ha1 hx1 hpl hk1 ht hN hR hR19 hq hcmp h100 hq100 hv hs0 he0
 have HC0 := hid (((Chg.refl (fun _ => False) w).alloc (.cells #[.bool N1, .int .u64 v, .int .i64 s0] 24)).alloc (.cells #[.bool n1, .slice A n c, .slice D1 p1 q1] 34))
 have hB0 : ((w.alloc (.cells #[.bool N1, .int .u64 v, .int .i64 s0] 24)).alloc (.cells #[.bool n1, .slice A n c, .slice D1 p1 q1] 34)).heap[w.heap.size]? = some (.cells #[.bool N1, .int .u64 v, .int .i64 s0] 24 (0, 0)) := by
  rw [Below.heap_alloc _ _ _ (by simp)]
  have := heap_alloc_new w (.cells #[.bool N1, .int .u64 v, .int .i64 s0] 24)
  simpa using this
 have hB1 : ((w.alloc (.cells #[.bool N1, .int .u64 v, .int .i64 s0] 24)).alloc (.cells #[.bool n1, .slice A n c, .slice D1 p1 q1] 34)).heap[w.heap.size + 1]? = some (.cells #[.bool n1, .slice A n c, .slice D1 p1 q1] 34 (0, 0)) := by
  have := heap_alloc_new (w.alloc (.cells #[.bool N1, .int .u64 v, .int .i64 s0] 24)) (.cells #[.bool n1, .slice A n c, .slice D1 p1 q1] 34)
  simpa using this
 have HSS := hid (fun w1 (h : Chg (fun _ => False) ((w.alloc (.cells #[.bool N1, .int .u64 v, .int .i64 s0] 24)).alloc (.cells #[.bool n1, .slice A n c, .slice D1 p1 q1] 34)) w1) => (show w1.cell? ⟨w.heap.size, 0, none⟩ = some (.bool N1) ∧ w1.cell? ⟨w.heap.size, 1, none⟩ = some (.int .u64 v) ∧ w1.cell? ⟨w.heap.size, 2, none⟩ = some (.int .i64 s0) ∧ w1.cell? ⟨w.heap.size + 1, 0, none⟩ = some (.bool n1) ∧ w1.cell? ⟨w.heap.size + 1, 1, none⟩ = some (.slice A n c) ∧ w1.cell? ⟨w.heap.size + 1, 2, none⟩ = some (.slice D1 p1 q1) from ⟨(cell3 (kept_heap h hB0)).1, (cell3 (kept_heap h hB0)).2.1, (cell3 (kept_heap h hB0)).2.2.1, (cell3 (kept_heap h hB1)).1, (cell3 (kept_heap h hB1)).2.1, (cell3 (kept_heap h hB1)).2.2.1⟩))
 have HD := hid (Chg.drew (Chg.refl (fun _ => False) ((w.alloc (.cells #[.bool N1, .int .u64 v, .int .i64 s0] 24)).alloc (.cells #[.bool n1, .slice A n c, .slice D1 p1 q1] 34))))
 clear hB0 hB1
 have hk := Chg.refl (fun _ => False) ((w.alloc (.cells #[.bool N1, .int .u64 v, .int .i64 s0] 24)).alloc (.cells #[.bool n1, .slice A n c, .slice D1 p1 q1] 34))
 obtain ⟨d0, d1, d2, e0_, e1, e2⟩ := HSS.out _ hk
 go_enter Tryz.func25, Tryz.ntmps25
 go_wp2_with fail
 go_at_call 47
 refine (HFX.out _ HC0.out).mono ?_
 intro e w1 h
 obtain ⟨hc, sb, E, kk, l, he, hsn, hsb⟩ := h
 rw [HE0.out] at he
 subst he
 replace hk := (hk.trans hc sb_).alloc (.cells #[.bool sb, .slice E kk l, .int .i64 e0] 57)
 have HN1 := hid (hsn.kept ((Chg.refl (fun _ => False) w1).alloc (.cells #[.bool sb, .slice E kk l, .int .i64 e0] 57)))
 have HSB := hid hsb
 obtain ⟨g, hg⟩ : ∃ g, w1.heap.size = g := ⟨_, rfl⟩
 have hG := heap_alloc_new w1 (.cells #[.bool sb, .slice E kk l, .int .i64 e0] 57)
 rw [hg] at hG
 have HG := hid hG
 clear hc d0 d1 d2 e0_ e1 e2 hsn hsb hG
 obtain ⟨d0, d1, d2, e0_, e1, e2⟩ := HSS.out _ hk
 obtain ⟨j0, j1, j2, _, _, _⟩ := cell3 HG.out
 go_wp2_with fail
 have HW := hid (Chg.refl (fun _ => False) (w1.alloc (.cells #[.bool sb, .slice E kk l, .int .i64 e0] 57))).drew
 have hw6 := HW.out
 have hk := hk.drew
 replace HN1 := hid (HN1.out.kept HW.out)
 have HS6 := hid (fun w2 (h1 : Chg (fun _ => False) ((w.alloc (.cells #[.bool N1, .int .u64 v, .int .i64 s0] 24)).alloc (.cells #[.bool n1, .slice A n c, .slice D1 p1 q1] 34)) w2) (h2 : Chg (fun _ => False) (w1.alloc (.cells #[.bool sb, .slice E kk l, .int .i64 e0] 57)) w2) => (show w2.cell? ⟨w.heap.size, 0, none⟩ = some (.bool N1) ∧ w2.cell? ⟨w.heap.size, 1, none⟩ = some (.int .u64 v) ∧ w2.cell? ⟨w.heap.size, 2, none⟩ = some (.int .i64 s0) ∧ w2.cell? ⟨g, 0, none⟩ = some (.bool sb) ∧ w2.cell? ⟨g, 1, none⟩ = some (.slice E kk l) ∧ w2.cell? ⟨g, 2, none⟩ = some (.int .i64 e0) from ⟨(HSS.out _ h1).1, (HSS.out _ h1).2.1, (HSS.out _ h1).2.2.1, (cell3 (kept_heap h2 HG.out)).1, (cell3 (kept_heap h2 HG.out)).2.1, (cell3 (kept_heap h2 HG.out)).2.2.1⟩))
 first | (go_region_held3 (fun w' => w'.cell? ⟨w.heap.size, 0, none⟩ = some (.bool N1) ∧ w'.cell? ⟨w.heap.size, 1, none⟩ = some (.int .u64 v) ∧ w'.cell? ⟨w.heap.size, 2, none⟩ = some (.int .i64 s0) ∧ w'.cell? ⟨g, 0, none⟩ = some (.bool sb) ∧ w'.cell? ⟨g, 1, none⟩ = some (.slice E kk l) ∧ w'.cell? ⟨g, 2, none⟩ = some (.int .i64 e0)) (first | with_reducible exact HS6.out _ hk hw6) (first | (go_at_call 27; refine (HDF.out _ sb _ _ _ HSB.out HN1.out).mono ?_; intro e w3 h; obtain ⟨E2, k2_, l2_, E3, k3_, l3_, he, hs1, hs2, hc⟩ := h; subst he; have HN2 := hid hs1; have HN3 := hid hs2; clear hs1 hs2; replace hk := hk.trans hc sb_; replace hw6 := hw6.trans hc sb_; clear hc) | (go_at_call 48; refine (HFH.out _ sb HSB.out _ _ _ _ _ _ HN2.out HN3.out).mono ?_; intro e w3 h; obtain ⟨he, hc⟩ := h; subst he; replace hk := hk.trans hc sb_; replace hw6 := hw6.trans hc sb_; clear hc))) | fail
 all_goals (go_wp2_with fail; go_ret; exact ⟨rfl, HC0.out.trans hk sb_⟩)
end Go.Proofs.YtmpkgkjnoanlhaaGreatDoor
