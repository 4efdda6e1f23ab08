/- For every two decimals and every number of places, the law FnFixSubExact answers true, and its arguments read as they did. No condition beyond the row's own: the package's variables hold what the program's text lays (tied). -/
import Derived.Lib.SmallJoins
import Derived.OpenVars
import Derived.Test.YtmpkgkjnoanlhaaGreatDoorChecked
import Derived.Test.YtmpkgkjnoanlhaaGreatDoorRows
import Derived.Test.YtmpkgkjnoanlhaaGreatDoorProg
import Derived.JoinedOf
import Derived.KernelRfl
import GoSem.ClaimSeven
import GoSem.ClaimGoes
import GoSem.ClaimLaidByText
import Derived.Test.YtmpkgkjnoanlhaaGreatDoorTie
import Derived.Test.YtmpkgkjnoanlhaaGreatDoorCards
import Derived.SevenTiedAt
import Derived.Test.YtmpkgkjnoanlhaaGreatDoorK00
import Derived.Test.YtmpkgkjnoanlhaaGreatDoorK04
import Derived.Test.YtmpkgkjnoanlhaaGreatDoorK22
namespace Go.Proofs.YtmpkgkjnoanlhaaGreatDoor
open Go.RowKit
set_option linter.unusedVariables false
set_option linter.unusedSimpArgs false
set_option maxRecDepth 20000
set_option maxHeartbeats 2000000 in
theorem gvExact_places {w : World} {A D1 : Option Addr} {n c p1 q1 a x : Nat} (n1 : Bool) (N1 : Bool) (v s0 : Int) (m : Int) (hm : m < 0 ∨ 19 < m) :
  Calls Tryz.prog 9 #[.agg #[.bool N1, .int .u64 v, .int .i64 s0], .int .i64 1, .agg #[.bool n1, .slice A n c, .slice D1 p1 q1], .int .i64 m] w (PV w (.bool true)) := by
 have HC0 := hid (((Chg.refl (fun _ => False) w).alloc (.cells #[.bool N1, .int .u64 v, .int .i64 s0] 24)).alloc (.cells #[.bool n1, .slice A n c, .slice D1 p1 q1] 34))
 have hB0 : ((w.alloc (.cells #[.bool N1, .int .u64 v, .int .i64 s0] 24)).alloc (.cells #[.bool n1, .slice A n c, .slice D1 p1 q1] 34)).heap[w.heap.size]? = some (.cells #[.bool N1, .int .u64 v, .int .i64 s0] 24 (0, 0)) := by
  rw [Below.heap_alloc _ _ _ (by simp)]
  have := heap_alloc_new w (.cells #[.bool N1, .int .u64 v, .int .i64 s0] 24)
  simpa using this
 have hB1 : ((w.alloc (.cells #[.bool N1, .int .u64 v, .int .i64 s0] 24)).alloc (.cells #[.bool n1, .slice A n c, .slice D1 p1 q1] 34)).heap[w.heap.size + 1]? = some (.cells #[.bool n1, .slice A n c, .slice D1 p1 q1] 34 (0, 0)) := by
  have := heap_alloc_new (w.alloc (.cells #[.bool N1, .int .u64 v, .int .i64 s0] 24)) (.cells #[.bool n1, .slice A n c, .slice D1 p1 q1] 34)
  simpa using this
 have HSS := hid (fun w1 (h : Chg (fun _ => False) ((w.alloc (.cells #[.bool N1, .int .u64 v, .int .i64 s0] 24)).alloc (.cells #[.bool n1, .slice A n c, .slice D1 p1 q1] 34)) w1) => (show w1.cell? ⟨w.heap.size, 0, none⟩ = some (.bool N1) ∧ w1.cell? ⟨w.heap.size, 1, none⟩ = some (.int .u64 v) ∧ w1.cell? ⟨w.heap.size, 2, none⟩ = some (.int .i64 s0) ∧ w1.cell? ⟨w.heap.size + 1, 0, none⟩ = some (.bool n1) ∧ w1.cell? ⟨w.heap.size + 1, 1, none⟩ = some (.slice A n c) ∧ w1.cell? ⟨w.heap.size + 1, 2, none⟩ = some (.slice D1 p1 q1) from ⟨(cell3 (kept_heap h hB0)).1, (cell3 (kept_heap h hB0)).2.1, (cell3 (kept_heap h hB0)).2.2.1, (cell3 (kept_heap h hB1)).1, (cell3 (kept_heap h hB1)).2.1, (cell3 (kept_heap h hB1)).2.2.1⟩))
 have HD := hid (Chg.drew (Chg.refl (fun _ => False) ((w.alloc (.cells #[.bool N1, .int .u64 v, .int .i64 s0] 24)).alloc (.cells #[.bool n1, .slice A n c, .slice D1 p1 q1] 34))))
 clear hB0 hB1
 have hk := Chg.refl (fun _ => False) ((w.alloc (.cells #[.bool N1, .int .u64 v, .int .i64 s0] 24)).alloc (.cells #[.bool n1, .slice A n c, .slice D1 p1 q1] 34))
 obtain ⟨d0, d1, d2, e0_, e1, e2⟩ := HSS.out _ hk
 by_cases h0 : m < 0
 ·have hb1 : decide (m < 0) = true := decide_eq_true h0
  clear hm
  go_enter Tryz.func9, Tryz.ntmps9
  go_wp2_with fail
  go_ret
  exact ⟨rfl, HC0.out⟩
 ·have hb1 : decide (m < 0) = false := decide_eq_false h0
  have hb2 : decide (19 < m) = true := decide_eq_true (by omega)
  clear hm
  go_enter Tryz.func9, Tryz.ntmps9
  go_wp2_with fail
  go_ret
  exact ⟨rfl, HC0.out⟩
set_option maxHeartbeats 2000000 in
theorem gvExact_small {w : World} {A D1 : Option Addr} {n c p1 q1 a x : Nat} (n1 : Bool) (N1 : Bool) (v s0 : Int) (m : Int) (hm : ¬ (m < 0 ∨ 19 < m)) (hx : SN w D1 p1 q1 x) (ha : SN w A n c a) (ha1 : a < 10 ^ 100) (hx1 : x < 10 ^ 100) (hpl : Places a x) (hr : roomI a x < m) :
  Calls Tryz.prog 9 #[.agg #[.bool N1, .int .u64 v, .int .i64 s0], .int .i64 1, .agg #[.bool n1, .slice A n c, .slice D1 p1 q1], .int .i64 m] w (PV w (.bool true)) := by
 have HRM := hid (fun w1 (h : Chg (fun _ => False) w w1) => Room_any n1 (ha.kept h) (hx.kept h) ha1 hx1 hpl)
 generalize roomI a x = rm at *
 have hb1 : decide (m < 0) = false := decide_eq_false (by omega)
 have hb2 : decide (19 < m) = false := decide_eq_false (by omega)
 have hb3 : decide (rm < m) = true := decide_eq_true hr
 clear ha hx ha1 hx1 hpl hr hm
 have HC0 := hid (((Chg.refl (fun _ => False) w).alloc (.cells #[.bool N1, .int .u64 v, .int .i64 s0] 24)).alloc (.cells #[.bool n1, .slice A n c, .slice D1 p1 q1] 34))
 have hB0 : ((w.alloc (.cells #[.bool N1, .int .u64 v, .int .i64 s0] 24)).alloc (.cells #[.bool n1, .slice A n c, .slice D1 p1 q1] 34)).heap[w.heap.size]? = some (.cells #[.bool N1, .int .u64 v, .int .i64 s0] 24 (0, 0)) := by
  rw [Below.heap_alloc _ _ _ (by simp)]
  have := heap_alloc_new w (.cells #[.bool N1, .int .u64 v, .int .i64 s0] 24)
  simpa using this
 have hB1 : ((w.alloc (.cells #[.bool N1, .int .u64 v, .int .i64 s0] 24)).alloc (.cells #[.bool n1, .slice A n c, .slice D1 p1 q1] 34)).heap[w.heap.size + 1]? = some (.cells #[.bool n1, .slice A n c, .slice D1 p1 q1] 34 (0, 0)) := by
  have := heap_alloc_new (w.alloc (.cells #[.bool N1, .int .u64 v, .int .i64 s0] 24)) (.cells #[.bool n1, .slice A n c, .slice D1 p1 q1] 34)
  simpa using this
 have HSS := hid (fun w1 (h : Chg (fun _ => False) ((w.alloc (.cells #[.bool N1, .int .u64 v, .int .i64 s0] 24)).alloc (.cells #[.bool n1, .slice A n c, .slice D1 p1 q1] 34)) w1) => (show w1.cell? ⟨w.heap.size, 0, none⟩ = some (.bool N1) ∧ w1.cell? ⟨w.heap.size, 1, none⟩ = some (.int .u64 v) ∧ w1.cell? ⟨w.heap.size, 2, none⟩ = some (.int .i64 s0) ∧ w1.cell? ⟨w.heap.size + 1, 0, none⟩ = some (.bool n1) ∧ w1.cell? ⟨w.heap.size + 1, 1, none⟩ = some (.slice A n c) ∧ w1.cell? ⟨w.heap.size + 1, 2, none⟩ = some (.slice D1 p1 q1) from ⟨(cell3 (kept_heap h hB0)).1, (cell3 (kept_heap h hB0)).2.1, (cell3 (kept_heap h hB0)).2.2.1, (cell3 (kept_heap h hB1)).1, (cell3 (kept_heap h hB1)).2.1, (cell3 (kept_heap h hB1)).2.2.1⟩))
 have HD := hid (Chg.drew (Chg.refl (fun _ => False) ((w.alloc (.cells #[.bool N1, .int .u64 v, .int .i64 s0] 24)).alloc (.cells #[.bool n1, .slice A n c, .slice D1 p1 q1] 34))))
 clear hB0 hB1
 have hk := Chg.refl (fun _ => False) ((w.alloc (.cells #[.bool N1, .int .u64 v, .int .i64 s0] 24)).alloc (.cells #[.bool n1, .slice A n c, .slice D1 p1 q1] 34))
 obtain ⟨d0, d1, d2, e0_, e1, e2⟩ := HSS.out _ hk
 go_enter Tryz.func9, Tryz.ntmps9
 go_wp2_with (first | (go_at_call 24; refine (HRM.out _ HC0.out).mono ?_; intro e w1 h; obtain ⟨he, hc⟩ := h; subst he; replace hk := hk.trans hc sb_; clear hc d0 d1 d2 e0_ e1 e2; obtain ⟨d0, d1, d2, e0_, e1, e2⟩ := HSS.out _ hk))
 go_ret
 exact ⟨rfl, HC0.out.trans hk sb_⟩
set_option maxHeartbeats 2000000 in
theorem gvExact_ok {w : World} {A D1 : Option Addr} {n c p1 q1 a x : Nat} (n1 : Bool) (m : Int) (hm : ¬ (m < 0 ∨ 19 < m)) (hx : SN w D1 p1 q1 x) (ha : SN w A n c a) (ha1 : a < 10 ^ 100) (hx1 : x < 10 ^ 100) (hpl : Places a x) (hr : ¬ roomI a x < m) (N1 : Bool) (k t R : Nat) (hk1 : k < 10 ^ 19) (ht : t ≤ 19) (hN : (N1 && k != 0) = N1) (hR : room (10 ^ 19) (atP a x) 19 = some R) (hR19 : R ≤ 19) (hq : atP a x R < 10 ^ 19) (hcmp : (N1 && k * 10 ^ R != 0) = ((n1 && atP a x R != 0) && atP a x R * 10 ^ t != 0) ∧ k * 10 ^ R = atP a x R * 10 ^ t) (hmt : m ≤ (t : Int)) :
  Calls Tryz.prog 9 #[.agg #[.bool N1, .int .u64 (k : Int), .int .i64 (t : Int)], .int .i64 0, .agg #[.bool n1, .slice A n c, .slice D1 p1 q1], .int .i64 m] w (PV w (.bool true)) := by
 have HRM := hid (fun w1 (h : Chg (fun _ => False) w w1) => Room_any n1 (ha.kept h) (hx.kept h) ha1 hx1 hpl)
 have HNR := hid (fun w1 (h : Chg (fun _ => False) w w1) => gvNear_some n1 (ha.kept h) (hx.kept h) ha1 hx1 hpl N1 k t R hk1 ht hN hR hR19 hq hcmp)
 obtain ⟨v, hv⟩ : ∃ v : Int, (k : Int) = v := ⟨_, rfl⟩
 obtain ⟨s0, hs0⟩ : ∃ s0 : Int, (t : Int) = s0 := ⟨_, rfl⟩
 rw [hv, hs0] at HNR
 rw [hs0] at hmt
 rw [hv, hs0]
 have hmt' : decide (m ≤ s0) = true := decide_eq_true hmt
 generalize roomI a x = rm at *
 have hb1 : decide (m < 0) = false := decide_eq_false (by omega)
 have hb2 : decide (19 < m) = false := decide_eq_false (by omega)
 have hb3 : decide (rm < m) = false := decide_eq_false hr
 clear ha hx ha1 hx1 hpl hr hm hk1 ht hN hR hR19 hq hcmp hv hs0 hmt
 have HC0 := hid (((Chg.refl (fun _ => False) w).alloc (.cells #[.bool N1, .int .u64 v, .int .i64 s0] 24)).alloc (.cells #[.bool n1, .slice A n c, .slice D1 p1 q1] 34))
 have hB0 : ((w.alloc (.cells #[.bool N1, .int .u64 v, .int .i64 s0] 24)).alloc (.cells #[.bool n1, .slice A n c, .slice D1 p1 q1] 34)).heap[w.heap.size]? = some (.cells #[.bool N1, .int .u64 v, .int .i64 s0] 24 (0, 0)) := by
  rw [Below.heap_alloc _ _ _ (by simp)]
  have := heap_alloc_new w (.cells #[.bool N1, .int .u64 v, .int .i64 s0] 24)
  simpa using this
 have hB1 : ((w.alloc (.cells #[.bool N1, .int .u64 v, .int .i64 s0] 24)).alloc (.cells #[.bool n1, .slice A n c, .slice D1 p1 q1] 34)).heap[w.heap.size + 1]? = some (.cells #[.bool n1, .slice A n c, .slice D1 p1 q1] 34 (0, 0)) := by
  have := heap_alloc_new (w.alloc (.cells #[.bool N1, .int .u64 v, .int .i64 s0] 24)) (.cells #[.bool n1, .slice A n c, .slice D1 p1 q1] 34)
  simpa using this
 have HSS := hid (fun w1 (h : Chg (fun _ => False) ((w.alloc (.cells #[.bool N1, .int .u64 v, .int .i64 s0] 24)).alloc (.cells #[.bool n1, .slice A n c, .slice D1 p1 q1] 34)) w1) => (show w1.cell? ⟨w.heap.size, 0, none⟩ = some (.bool N1) ∧ w1.cell? ⟨w.heap.size, 1, none⟩ = some (.int .u64 v) ∧ w1.cell? ⟨w.heap.size, 2, none⟩ = some (.int .i64 s0) ∧ w1.cell? ⟨w.heap.size + 1, 0, none⟩ = some (.bool n1) ∧ w1.cell? ⟨w.heap.size + 1, 1, none⟩ = some (.slice A n c) ∧ w1.cell? ⟨w.heap.size + 1, 2, none⟩ = some (.slice D1 p1 q1) from ⟨(cell3 (kept_heap h hB0)).1, (cell3 (kept_heap h hB0)).2.1, (cell3 (kept_heap h hB0)).2.2.1, (cell3 (kept_heap h hB1)).1, (cell3 (kept_heap h hB1)).2.1, (cell3 (kept_heap h hB1)).2.2.1⟩))
 have HD := hid (Chg.drew (Chg.refl (fun _ => False) ((w.alloc (.cells #[.bool N1, .int .u64 v, .int .i64 s0] 24)).alloc (.cells #[.bool n1, .slice A n c, .slice D1 p1 q1] 34))))
 clear hB0 hB1
 have hk := Chg.refl (fun _ => False) ((w.alloc (.cells #[.bool N1, .int .u64 v, .int .i64 s0] 24)).alloc (.cells #[.bool n1, .slice A n c, .slice D1 p1 q1] 34))
 obtain ⟨d0, d1, d2, e0_, e1, e2⟩ := HSS.out _ hk
 go_enter Tryz.func9, Tryz.ntmps9
 go_wp2_with (first | (go_at_call 24; refine (HRM.out _ HC0.out).mono ?_; intro e w1 h; obtain ⟨he, hc⟩ := h; subst he; replace hk := hk.trans hc sb_; clear hc d0 d1 d2 e0_ e1 e2; obtain ⟨d0, d1, d2, e0_, e1, e2⟩ := HSS.out _ hk) | (go_at_call 25; refine (HNR.out _ (HC0.out.trans hk sb_)).mono ?_; intro e w1 h; obtain ⟨he, hc⟩ := h; subst he; replace hk := hk.trans hc sb_; clear hc))
 go_ret
 exact ⟨rfl, HC0.out.trans hk sb_⟩
theorem digs35 : digs 35 = 2 := digs_eq (k := 1) (by decide) (by decide)
theorem lives19 : from19 (10 ^ 19) 2 35 1 0 = some (35, 1) :=
 from19_one (by rw [digs35]; omega) (by unfold step19; rw [if_neg (by omega), if_neg (by rw [digs35]; omega), if_neg (by rw [digs35]; omega)]) (by decide)
theorem livesSum : sumD false 15 1 false 2 0 = (false, 35) := by decide
theorem livesMxp : mxp 1 0 = 1 := by decide
theorem Add_lives (w : World) (he : EnvD w) : Calls Tryz.prog 55 #[.agg #[.bool false, .int .i8 (1 : Nat), .int .u64 ((15 : Nat) : Int)], .agg #[.bool false, .int .i8 (0 : Nat), .int .u64 ((2 : Nat) : Int)]] w
  (fun e w' => e = .returned (.tuple #[.agg #[.bool false, .int .i8 (1 : Nat), .int .u64 35], .nilIface]) ∧ Chg (fun _ => False) w w') := by
 refine (Add_any false false 15 2 1 0 (by decide) (by decide) (by omega) (by omega) w he).mono (fun e w' h => ?_)
 unfold PAdd at h
 rw [if_neg (by omega), livesSum, livesMxp] at h
 have h2 : from19 (10 ^ 19) 2 35 1 (Int.toNat 0) = some (35, 1) := lives19
 rw [h2] at h
 exact ⟨h.2, h.1⟩
theorem FixAdd_lives (w : World) (he : EnvD w) :
  Calls Tryz.prog 29 #[.agg #[.bool false, .int .u64 15, .int .i64 1], .agg #[.bool false, .int .u64 2, .int .i64 0]] w (PV w (.tuple #[.agg #[.bool false, .int .u64 35, .int .i64 1], .int .i64 0])) :=
 FixAdd_ok false false false false 15 2 1 0 (by decide) (by decide) (by omega) (by omega) rfl rfl w he false 35 1 (by omega) (fun w1 he1 => Add_lives w1 he1)
theorem gvLives_any (w : World) (he : EnvD w) : Calls Tryz.prog 12 #[] w (PV w (.bool true)) := by
 have HF := hid (FixAdd_lives w he)
 clear he
 go_enter Tryz.func12, Tryz.ntmps12
 go_wp2_with (go_at_call 29; refine HF.out.mono ?_; intro e w1 h; obtain ⟨he, hc⟩ := h; subst he; have hk := hc; clear hc)
 go_ret
 exact ⟨rfl, hk.alloc _⟩
def okFix (v s : Int) : Bool := decide (v ≤ 9999999999999999999) && (decide (0 ≤ s) && decide (s ≤ 19))
theorem cell6 {w : World} {b : Nat} {x0 x1 x2 x3 x4 x5 : Value} {T : TypeId} (h : w.heap[b]? = some (.cells #[x0, x1, x2, x3, x4, x5] T (0, 0))) :
  w.cell? ⟨b, 0, none⟩ = some x0 ∧ w.cell? ⟨b, 1, none⟩ = some x1 ∧ w.cell? ⟨b, 2, none⟩ = some x2 ∧ w.cell? ⟨b, 3, none⟩ = some x3 ∧ w.cell? ⟨b, 4, none⟩ = some x4 ∧ w.cell? ⟨b, 5, none⟩ = some x5 := by
 refine ⟨?_, ?_, ?_, ?_, ?_, ?_⟩ <;> simp [World.cell?, h]
set_option maxHeartbeats 2000000 in
theorem FixAll_two {w : World} {b : Nat} {T : TypeId} (n1 n2 : Bool) (v1 s1 v2 s2 : Int) (h : w.heap[b]? = some (.cells #[.bool n1, .int .u64 v1, .int .i64 s1, .bool n2, .int .u64 v2, .int .i64 s2] T (0, 0))) :
  Calls Tryz.prog 7 #[.slice (some ⟨b, 0, none⟩) 2 2] w (PV w (.bool (okFix v1 s1 && okFix v2 s2))) := by
 have H1 := hid (fun w => FixIs_any n1 v1 s1 w)
 have H2 := hid (fun w => FixIs_any n2 v2 s2 w)
 have HB := hid (fun w1 (k : Chg (fun _ => False) w w1) => cell6 (kept_heap k h))
 obtain ⟨o1, ho1⟩ : ∃ o, okFix v1 s1 = o := ⟨_, rfl⟩
 obtain ⟨o2, ho2⟩ : ∃ o, okFix v2 s2 = o := ⟨_, rfl⟩
 unfold okFix at ho1 ho2
 rw [ho1] at H1
 rw [ho2] at H2
 unfold okFix
 rw [ho1, ho2]
 clear ho1 ho2 h
 have hk := Chg.refl (fun _ => False) w
 obtain ⟨c0, c1, c2, c3, c4, c5⟩ := HB.out _ hk
 cases o1 with
 | false =>
  go_enter Tryz.func7, Tryz.ntmps7
  go_wp2
  refine wp_loop_rounds 1 ?_
  rw [rounds_succ]
  go_wp2_with (first | (go_at_call_of 19 (Value.agg #[Value.bool n1, Value.int .u64 v1, Value.int .i64 s1]); refine (H1.out _).mono ?_; intro e w1 k; obtain ⟨he, hc⟩ := k; subst he; replace hk := (hk.alloc _).trans hc sb_; clear hc c0 c1 c2 c3 c4 c5; obtain ⟨c0, c1, c2, c3, c4, c5⟩ := HB.out _ hk))
  go_ret
  exact ⟨rfl, hk⟩
 | true =>
  cases o2 with
  | false =>
   go_enter Tryz.func7, Tryz.ntmps7
   go_wp2
   refine wp_loop_rounds 2 ?_
   rw [rounds_succ]
   go_wp2_with (first | (go_at_call_of 19 (Value.agg #[Value.bool n1, Value.int .u64 v1, Value.int .i64 s1]); refine (H1.out _).mono ?_; intro e w1 k; obtain ⟨he, hc⟩ := k; subst he; replace hk := (hk.alloc _).trans hc sb_; clear hc c0 c1 c2 c3 c4 c5; obtain ⟨c0, c1, c2, c3, c4, c5⟩ := HB.out _ hk))
   rw [rounds_succ]
   go_wp2_with (first | (go_at_call_of 19 (Value.agg #[Value.bool n2, Value.int .u64 v2, Value.int .i64 s2]); refine (H2.out _).mono ?_; intro e w1 k; obtain ⟨he, hc⟩ := k; subst he; replace hk := (hk.alloc _).trans hc sb_; clear hc c0 c1 c2 c3 c4 c5; obtain ⟨c0, c1, c2, c3, c4, c5⟩ := HB.out _ hk))
   go_ret
   exact ⟨rfl, hk⟩
  | true =>
   go_enter Tryz.func7, Tryz.ntmps7
   go_wp2
   refine wp_loop_rounds 3 ?_
   rw [rounds_succ]
   go_wp2_with (first | (go_at_call_of 19 (Value.agg #[Value.bool n1, Value.int .u64 v1, Value.int .i64 s1]); refine (H1.out _).mono ?_; intro e w1 k; obtain ⟨he, hc⟩ := k; subst he; replace hk := (hk.alloc _).trans hc sb_; clear hc c0 c1 c2 c3 c4 c5; obtain ⟨c0, c1, c2, c3, c4, c5⟩ := HB.out _ hk))
   rw [rounds_succ]
   go_wp2_with (first | (go_at_call_of 19 (Value.agg #[Value.bool n2, Value.int .u64 v2, Value.int .i64 s2]); refine (H2.out _).mono ?_; intro e w1 k; obtain ⟨he, hc⟩ := k; subst he; replace hk := (hk.alloc _).trans hc sb_; clear hc c0 c1 c2 c3 c4 c5; obtain ⟨c0, c1, c2, c3, c4, c5⟩ := HB.out _ hk))
   rw [rounds_succ]
   go_wp2_with fail
   go_ret
   exact ⟨rfl, hk⟩
theorem sumS_scale (p q : Bool) (A B t : Nat) (ht : 0 < t) : sumS p (A * t) q (B * t) = ((sumS p A q B).1, (sumS p A q B).2 * t) := by
 unfold sumS
 by_cases h : p = q
 ·rw [if_pos h, if_pos h, Nat.add_mul]
 ·rw [if_neg h, if_neg h]
  by_cases h2 : A < B
  ·rw [if_pos h2, if_pos (Nat.mul_lt_mul_of_pos_right h2 ht), Nat.sub_mul]
  ·rw [if_neg h2, if_neg (by have := Nat.mul_le_mul_right t (Nat.le_of_not_lt h2); omega), Nat.sub_mul]
def mnp (a b : Nat) : Nat := if a < b then a else b
theorem mxmn (a b : Nat) : mxp a b + mnp a b = a + b := by unfold mxp mnp; split <;> omega
theorem mx_l (a b : Nat) : a ≤ mxp a b := by unfold mxp; split <;> omega
theorem mx_r (a b : Nat) : b ≤ mxp a b := by unfold mxp; split <;> omega
theorem mx_le {a b k : Nat} (ha : a ≤ k) (hb : b ≤ k) : mxp a b ≤ k := by unfold mxp; split <;> omega
theorem mn_le {a b k : Nat} (ha : a ≤ k) (hb : b ≤ k) : mnp a b ≤ k := by unfold mnp; split <;> omega
theorem bool_nz (b : Bool) (x t : Nat) (ht : 0 < t) (h : (b && x != 0) = b) : (b && x * t != 0) = b := by
 cases b with
 | false => rfl
 | true =>
  rw [Bool.true_and] at *
  have : x ≠ 0 := bne_iff_ne.1 h
  exact bne_iff_ne.2 (Nat.mul_ne_zero this (by omega))
theorem frac_parts (d1 e2 : Bool) (dc ec ds es : Nat) (h1 : (d1 && dc != 0) = d1) (h2 : (e2 && ec != 0) = e2) :
  sumS (d1 && dc * 10 ^ es != 0) (dc * 10 ^ es) (e2 && ec * 10 ^ ds != 0) (ec * 10 ^ ds) = ((sumD d1 dc ds e2 ec es).1, (sumD d1 dc ds e2 ec es).2 * 10 ^ mnp ds es) ∧ 10 ^ ds * 10 ^ es = 10 ^ mxp ds es * 10 ^ mnp ds es := by
 have hm := mxmn ds es
 have hl := mx_l ds es
 have hr := mx_r ds es
 rw [bool_nz d1 dc _ (pow10_pos _) h1, bool_nz e2 ec _ (pow10_pos _) h2]
 constructor
 ·unfold sumD
  rw [← sumS_scale _ _ _ _ _ (pow10_pos _), Nat.mul_assoc, ← Nat.pow_add, Nat.mul_assoc, ← Nat.pow_add, show mxp ds es - ds + mnp ds es = es by omega, show mxp ds es - es + mnp ds es = ds by omega]
 ·rw [← Nat.pow_add, ← Nat.pow_add, hm]
theorem atP_rnd (c S t n : Nat) : atP (c * 10 ^ t) (10 ^ S * 10 ^ t) n = rnd c S n := by
 unfold atP rnd
 rw [show c * 10 ^ t * 10 ^ n = c * 10 ^ n * 10 ^ t by rw [Nat.mul_assoc, Nat.mul_comm (10 ^ t), ← Nat.mul_assoc]]
 exact rhe_scale (pow10_pos _) (pow10_pos _)
theorem places_of (c S t : Nat) (hS : S ≤ 19) : Places (c * 10 ^ t) (10 ^ S * 10 ^ t) := by
 refine ⟨Nat.mul_pos (pow10_pos _) (pow10_pos _), ?_⟩
 have e : c * 10 ^ t * 10 ^ 19 = (c * 10 ^ (19 - S)) * (10 ^ S * 10 ^ t) := by
  have h : (10 : Nat) ^ 19 = 10 ^ (19 - S) * 10 ^ S := by rw [← Nat.pow_add]; congr 1; omega
  rw [h, Nat.mul_assoc c, Nat.mul_assoc c]
  congr 1
  rw [Nat.mul_comm (10 ^ t), Nat.mul_assoc]
 rw [e]
 exact Nat.mul_mod_left _ _
theorem room_R {E : Nat} {f : Nat → Nat} {R : Nat} (h : room E f 19 = some R) : R ≤ 19 ∧ f R < E := room_lt h
theorem gvExact_all {w : World} {A D1 : Option Addr} {n c p1 q1 : Nat} (sg : Bool) (C S t : Nat) (m : Int) (hS : S ≤ 19) (hC : C < 10 ^ 60) (ht : t ≤ 19) (o : Option (Nat × Nat)) (out f : Value)
  (ha : SN w A n c (C * 10 ^ t)) (hx : SN w D1 p1 q1 (10 ^ S * 10 ^ t)) (ho : o = if m < 0 ∨ 19 < m then none else from19 (10 ^ 19) 2 C S m.toNat) (hv : fixOut sg o = .tuple #[out, f]) :
  Calls Tryz.prog 9 #[out, f, .agg #[.bool (sg && C * 10 ^ t != 0), .slice A n c, .slice D1 p1 q1], .int .i64 m] w (PV w (.bool true)) := by
 have ha1 : C * 10 ^ t < 10 ^ 100 := Nat.lt_of_lt_of_le (mul100 hC (Nat.pow_lt_pow_right (a := 10) (by omega) (show t < 20 by omega))) (Nat.pow_le_pow_right (by omega) (by omega))
 have hx1 : 10 ^ S * 10 ^ t < 10 ^ 100 := by rw [← Nat.pow_add]; exact Nat.pow_lt_pow_right (by omega) (by omega)
 have hpl := places_of C S t hS
 have none_ : ∀ {Q : Ending → World → Prop}, o = none → (∀ (N1 : Bool) (v s0 : Int), Calls Tryz.prog 9 #[.agg #[.bool N1, .int .u64 v, .int .i64 s0], .int .i64 1, .agg #[.bool (sg && C * 10 ^ t != 0), .slice A n c, .slice D1 p1 q1], .int .i64 m] w Q) →
   Calls Tryz.prog 9 #[out, f, .agg #[.bool (sg && C * 10 ^ t != 0), .slice A n c, .slice D1 p1 q1], .int .i64 m] w Q := by
  intro Q h k
  subst h
  unfold fixOut at hv
  simp only [Value.tuple.injEq, Array.mk.injEq, List.cons.injEq, and_true] at hv
  obtain ⟨rfl, rfl⟩ := hv
  exact k _ _ _
 by_cases hm : m < 0 ∨ 19 < m
 ·rw [if_pos hm] at ho
  exact none_ ho (fun N1 v s0 => gvExact_places (a := 0) (x := 0) _ N1 v s0 m hm)
 ·rw [if_neg hm] at ho
  have hR := from19_right pow19 0 C S m.toNat (by omega)
  have hat : atP (C * 10 ^ t) (10 ^ S * 10 ^ t) = rnd C S := funext (fun n => atP_rnd C S t n)
  obtain ⟨r1, r2⟩ := hR
  cases hroom : room (10 ^ 19) (rnd C S) 19 with
  | none =>
   have hri : roomI (C * 10 ^ t) (10 ^ S * 10 ^ t) = -1 := roomI_none (by rw [hat]; exact hroom)
   exact none_ (ho.trans (r1 hroom)) (fun N1 v s0 => gvExact_small _ N1 v s0 m hm hx ha ha1 hx1 hpl (by rw [hri]; omega))
  | some R =>
   have hri : roomI (C * 10 ^ t) (10 ^ S * 10 ^ t) = R := roomI_some (by rw [hat]; exact hroom)
   obtain ⟨s1, s2⟩ := r2 R hroom
   by_cases hl : R < m.toNat
   ·exact none_ (ho.trans (s1 hl)) (fun N1 v s0 => gvExact_small _ N1 v s0 m hm hx ha ha1 hx1 hpl (by rw [hri]; omega))
   ·obtain ⟨k, u, g1, g2, g3, g4, g5⟩ := s2 (by omega)
    rw [g1] at ho
    subst ho
    unfold fixOut at hv
    simp only [Value.tuple.injEq, Array.mk.injEq, List.cons.injEq, and_true] at hv
    obtain ⟨rfl, rfl⟩ := hv
    obtain ⟨hR19, hRE⟩ := room_R hroom
    have hkb : ((k : Int) != 0) = (k != 0) := by
     by_cases h : k = 0
     ·subst h; rfl
     ·rw [bne_iff_ne.2 h, bne_iff_ne.2 (by omega : (k : Int) ≠ 0)]
    rw [hkb]
    refine gvExact_ok _ m hm hx ha ha1 hx1 hpl (by rw [hri]; omega) (sg && k != 0) k u R g4 g3 (by cases sg <;> simp) (by rw [hat]; exact hroom) hR19 (by rw [hat]; exact hRE) ?_ (by omega)
    rw [hat]
    refine ⟨?_, g5⟩
    have hz : k = 0 ↔ rnd C S R = 0 := by
     have p1 := pow10_pos R
     have p2 := pow10_pos u
     constructor
     ·intro h; subst h; rw [Nat.zero_mul] at g5; rcases Nat.mul_eq_zero.1 g5.symm with h | h <;> omega
     ·intro h; rw [h, Nat.zero_mul] at g5; rcases Nat.mul_eq_zero.1 g5 with h | h <;> omega
    by_cases hk0 : k = 0
    ·have h2 := hz.1 hk0
     rw [hk0, h2]; simp
    ·have h2 : rnd C S R ≠ 0 := fun h => hk0 (hz.2 h)
     have h3 : C * 10 ^ t ≠ 0 := by
      intro h
      have : C = 0 := by rcases Nat.mul_eq_zero.1 h with h | h; exact h; have := pow10_pos t; omega
      apply h2
      subst this
      unfold rnd
      rw [Nat.zero_mul]
      have := rhe_exact (q := 0) (pow10_pos S)
      rwa [Nat.zero_mul] at this
     have h4 : k * 10 ^ R ≠ 0 := Nat.mul_ne_zero hk0 (by have := pow10_pos R; omega)
     have h5 : rnd C S R * 10 ^ u ≠ 0 := by rw [← g5]; exact h4
     rw [bne_iff_ne.2 hk0, bne_iff_ne.2 h3, bne_iff_ne.2 h2, bne_iff_ne.2 h4, bne_iff_ne.2 h5]
     cases sg <;> rfl
theorem fixOut_op (n : Bool) (o : Option (Nat × Nat)) : ∃ (b0 : Bool) (c0 s0 f0 : Int), fixOut n o = .tuple #[.agg #[.bool b0, .int .u64 c0, .int .i64 s0], .int .i64 f0] := by
 cases o with
 | none => exact ⟨_, _, _, _, rfl⟩
 | some kt => exact ⟨_, _, _, _, rfl⟩
set_option maxHeartbeats 2000000 in
theorem Law_out (n1 n2 : Bool) (v1 s1 v2 s2 m : Int) (hno : (okFix v1 s1 && okFix v2 s2) = false) (w : World) :
  Calls Tryz.prog 3 #[.agg #[.bool n1, .int .u64 v1, .int .i64 s1], .agg #[.bool n2, .int .u64 v2, .int .i64 s2], .int .i64 m] w (PV w (.bool true)) := by
 have HC0 := hid (((Chg.refl (fun _ => False) w).alloc (.cells #[.bool n1, .int .u64 v1, .int .i64 s1] 24)).alloc (.cells #[.bool n2, .int .u64 v2, .int .i64 s2] 24))
 have hB0 : ((w.alloc (.cells #[.bool n1, .int .u64 v1, .int .i64 s1] 24)).alloc (.cells #[.bool n2, .int .u64 v2, .int .i64 s2] 24)).heap[w.heap.size]? = some (.cells #[.bool n1, .int .u64 v1, .int .i64 s1] 24 (0, 0)) := by
  rw [Below.heap_alloc _ _ _ (by simp)]
  have := heap_alloc_new w (.cells #[.bool n1, .int .u64 v1, .int .i64 s1] 24)
  simpa using this
 have hB1 : ((w.alloc (.cells #[.bool n1, .int .u64 v1, .int .i64 s1] 24)).alloc (.cells #[.bool n2, .int .u64 v2, .int .i64 s2] 24)).heap[w.heap.size + 1]? = some (.cells #[.bool n2, .int .u64 v2, .int .i64 s2] 24 (0, 0)) := by
  have := heap_alloc_new (w.alloc (.cells #[.bool n1, .int .u64 v1, .int .i64 s1] 24)) (.cells #[.bool n2, .int .u64 v2, .int .i64 s2] 24)
  simpa using this
 have HSS := hid (fun w1 (h : Chg (fun _ => False) ((w.alloc (.cells #[.bool n1, .int .u64 v1, .int .i64 s1] 24)).alloc (.cells #[.bool n2, .int .u64 v2, .int .i64 s2] 24)) w1) => (show w1.cell? ⟨w.heap.size, 0, none⟩ = some (.bool n1) ∧ w1.cell? ⟨w.heap.size, 1, none⟩ = some (.int .u64 v1) ∧ w1.cell? ⟨w.heap.size, 2, none⟩ = some (.int .i64 s1) ∧ w1.cell? ⟨w.heap.size + 1, 0, none⟩ = some (.bool n2) ∧ w1.cell? ⟨w.heap.size + 1, 1, none⟩ = some (.int .u64 v2) ∧ w1.cell? ⟨w.heap.size + 1, 2, none⟩ = some (.int .i64 s2) from ⟨(cell3 (kept_heap h hB0)).1, (cell3 (kept_heap h hB0)).2.1, (cell3 (kept_heap h hB0)).2.2.1, (cell3 (kept_heap h hB1)).1, (cell3 (kept_heap h hB1)).2.1, (cell3 (kept_heap h hB1)).2.2.1⟩))
 have HD := hid (Chg.drew (Chg.refl (fun _ => False) ((w.alloc (.cells #[.bool n1, .int .u64 v1, .int .i64 s1] 24)).alloc (.cells #[.bool n2, .int .u64 v2, .int .i64 s2] 24))))
 clear hB0 hB1
 have hSL : (((w.alloc (.cells #[.bool n1, .int .u64 v1, .int .i64 s1] 24)).alloc (.cells #[.bool n2, .int .u64 v2, .int .i64 s2] 24)).alloc (.cells #[.bool n1, .int .u64 v1, .int .i64 s1, .bool n2, .int .u64 v2, .int .i64 s2] 24)).heap[w.heap.size + 1 + 1]? = some (.cells #[.bool n1, .int .u64 v1, .int .i64 s1, .bool n2, .int .u64 v2, .int .i64 s2] 24 (0, 0)) := by
  have := heap_alloc_new ((w.alloc (.cells #[.bool n1, .int .u64 v1, .int .i64 s1] 24)).alloc (.cells #[.bool n2, .int .u64 v2, .int .i64 s2] 24)) (.cells #[.bool n1, .int .u64 v1, .int .i64 s1, .bool n2, .int .u64 v2, .int .i64 s2] 24)
  simpa using this
 have HSL := hid hSL
 clear hSL
 have HFA := hid (FixAll_two n1 n2 v1 s1 v2 s2 HSL.out)
 rw [hno] at HFA
 clear hno
 have hk := (Chg.refl (fun _ => False) ((w.alloc (.cells #[.bool n1, .int .u64 v1, .int .i64 s1] 24)).alloc (.cells #[.bool n2, .int .u64 v2, .int .i64 s2] 24))).alloc (.cells #[.bool n1, .int .u64 v1, .int .i64 s1, .bool n2, .int .u64 v2, .int .i64 s2] 24)
 obtain ⟨d0, d1, d2, e0, e1, e2⟩ := HSS.out _ (Chg.refl _ _)
 go_enter Tryz.func3, Tryz.ntmps3
 go_wp2_with (go_at_call 7; refine HFA.out.mono ?_; intro e w1 h; obtain ⟨he, hc⟩ := h; subst he; replace hk := hk.trans hc sb_; clear hc)
 go_ret
 exact ⟨rfl, HC0.out.trans hk sb_⟩
set_option maxHeartbeats 4000000 in
theorem Law_in (n1 n2 d1 d2 e2 ss sb : Bool) (dc ec ds es : Nat) (m : Int) (hdc : dc < 10 ^ 19) (hec : ec < 10 ^ 19) (hds : ds ≤ 19) (hes : es ≤ 19) (hd1 : (n1 && dc != 0) = d1) (hd2 : (n2 && ec != 0) = d2) (he2 : (!d2 && ec != 0) = e2)
  (v1 s1 v2 s2 : Int) (hv1 : (dc : Int) = v1) (hs1 : (ds : Int) = s1) (hv2 : (ec : Int) = v2) (hs2 : (es : Int) = s2) (hok : (okFix v1 s1 && okFix v2 s2) = true)
  (hss : (sumD d1 dc ds e2 ec es).1 = ss) (hsb : (ss && (sumD d1 dc ds e2 ec es).2 * 10 ^ mnp ds es != 0) = sb) (w : World) (he : EnvD w) :
  Calls Tryz.prog 3 #[.agg #[.bool n1, .int .u64 v1, .int .i64 s1], .agg #[.bool n2, .int .u64 v2, .int .i64 s2], .int .i64 m] w (PV w (.bool true)) := by
 have cb : ∀ k : Nat, ((k : Int) != 0) = (k != 0) := by
  intro k
  by_cases h : k = 0
  ·subst h; rfl
  ·rw [bne_iff_ne.2 h, bne_iff_ne.2 (by omega : (k : Int) ≠ 0)]
 have HFS := hid (fun w1 he1 => FixSubExact_any n1 n2 d1 d2 e2 dc ec ds es m hdc hec hds hes (by rw [cb]; exact hd1) (by rw [cb]; exact hd2) (by rw [cb]; exact he2) w1 he1)
 have HN1 := hid (fun w1 => FixNum_any (w := w1) n1 d1 dc ds hdc hds hd1)
 have HN2 := hid (fun w1 => FixNum_any (w := w1) n2 d2 ec es hec hes hd2)
 have hq1 : (d1 && dc != 0) = d1 := by rw [← hd1]; cases n1 <;> simp
 have hq2 : (e2 && ec != 0) = e2 := by rw [← he2]; cases d2 <;> simp
 obtain ⟨fp1, fp2⟩ := frac_parts d1 e2 dc ec ds es hq1 hq2
 have up : ∀ {k : Nat}, k < 10 ^ 19 → k < 10 ^ 100 := fun h => Nat.lt_of_lt_of_le h (Nat.pow_le_pow_right (by omega) (by omega))
 have hp1 : (10 : Nat) ^ ds < 10 ^ 100 := Nat.pow_lt_pow_right (by omega) (by omega)
 have hp2 : (10 : Nat) ^ es < 10 ^ 100 := Nat.pow_lt_pow_right (by omega) (by omega)
 have HSU := hid (fun (w1 : World) (A B X Y : Option Addr) (n c k l p q i j : Nat) (h1 : SN w1 A n c dc) (h2 : SN w1 X k l (10 ^ ds)) (h3 : SN w1 B p q ec) (h4 : SN w1 Y i j (10 ^ es)) =>
  FracSub_any d1 d2 e2 sb h1 h2 h3 h4 (up hdc) (up hec) hp1 hp2 he2 (by rw [fp1, hss]; exact hsb))
 rw [fp1, fp2] at HSU
 obtain ⟨o, ho⟩ : ∃ o, subO d1 dc ds e2 ec es m = o := ⟨_, rfl⟩
 obtain ⟨b0, c0, s0, f0, hfo⟩ := fixOut_op ss o
 rw [hss, ho, hfo] at HFS
 have hC : (sumD d1 dc ds e2 ec es).2 < 10 ^ 60 := by
  have a1 : dc * 10 ^ (mxp ds es - ds) < 10 ^ (19 + 20) := mul100 hdc (Nat.pow_lt_pow_right (by omega) (by have := mx_le hds hes; omega))
  have a2 : ec * 10 ^ (mxp ds es - es) < 10 ^ (19 + 20) := mul100 hec (Nat.pow_lt_pow_right (by omega) (by have := mx_le hds hes; omega))
  have a3 := sumS_le d1 (dc * 10 ^ (mxp ds es - ds)) e2 (ec * 10 ^ (mxp ds es - es))
  have a4 : (10 : Nat) ^ 60 = 10 ^ (19 + 20) * 10 ^ 21 := by rw [← Nat.pow_add]
  have a5 : (2 : Nat) ≤ 10 ^ 21 := by decide
  have a6 := Nat.mul_le_mul_left (10 ^ (19 + 20)) a5
  unfold sumD
  omega
 have HGE := hid (fun (w1 : World) (A X : Option Addr) (n c k l : Nat) (h1 : SN w1 A n c ((sumD d1 dc ds e2 ec es).2 * 10 ^ mnp ds es)) (h2 : SN w1 X k l (10 ^ mxp ds es * 10 ^ mnp ds es)) =>
  gvExact_all ss _ _ _ m (mx_le hds hes) hC (mn_le hds hes) o _ _ h1 h2 (by rw [← ho]; rfl) hfo)
 rw [hsb] at HGE
 have HLV := hid (fun w1 he1 => gvLives_any w1 he1)
 have HE := hid he
 rw [hv1, hs1, hv2, hs2] at HFS
 rw [hv1, hs1] at HN1
 rw [hv2, hs2] at HN2
 generalize 10 ^ mxp ds es * 10 ^ mnp ds es = XX at *
 generalize (sumD d1 dc ds e2 ec es).2 * 10 ^ mnp ds es = NN at *
 generalize 10 ^ ds = T1 at *
 generalize 10 ^ es = T2 at *
 clear hdc hec hds hes hd1 hd2 he2 hv1 hs1 hv2 hs2 hss hsb he hq1 hq2 fp1 fp2 hp1 hp2 ho hfo hC up cb
 have HC0 := hid (((Chg.refl (fun _ => False) w).alloc (.cells #[.bool n1, .int .u64 v1, .int .i64 s1] 24)).alloc (.cells #[.bool n2, .int .u64 v2, .int .i64 s2] 24))
 have hB0 : ((w.alloc (.cells #[.bool n1, .int .u64 v1, .int .i64 s1] 24)).alloc (.cells #[.bool n2, .int .u64 v2, .int .i64 s2] 24)).heap[w.heap.size]? = some (.cells #[.bool n1, .int .u64 v1, .int .i64 s1] 24 (0, 0)) := by
  rw [Below.heap_alloc _ _ _ (by simp)]
  have := heap_alloc_new w (.cells #[.bool n1, .int .u64 v1, .int .i64 s1] 24)
  simpa using this
 have hB1 : ((w.alloc (.cells #[.bool n1, .int .u64 v1, .int .i64 s1] 24)).alloc (.cells #[.bool n2, .int .u64 v2, .int .i64 s2] 24)).heap[w.heap.size + 1]? = some (.cells #[.bool n2, .int .u64 v2, .int .i64 s2] 24 (0, 0)) := by
  have := heap_alloc_new (w.alloc (.cells #[.bool n1, .int .u64 v1, .int .i64 s1] 24)) (.cells #[.bool n2, .int .u64 v2, .int .i64 s2] 24)
  simpa using this
 have HSS := hid (fun w1 (h : Chg (fun _ => False) ((w.alloc (.cells #[.bool n1, .int .u64 v1, .int .i64 s1] 24)).alloc (.cells #[.bool n2, .int .u64 v2, .int .i64 s2] 24)) w1) => (show w1.cell? ⟨w.heap.size, 0, none⟩ = some (.bool n1) ∧ w1.cell? ⟨w.heap.size, 1, none⟩ = some (.int .u64 v1) ∧ w1.cell? ⟨w.heap.size, 2, none⟩ = some (.int .i64 s1) ∧ w1.cell? ⟨w.heap.size + 1, 0, none⟩ = some (.bool n2) ∧ w1.cell? ⟨w.heap.size + 1, 1, none⟩ = some (.int .u64 v2) ∧ w1.cell? ⟨w.heap.size + 1, 2, none⟩ = some (.int .i64 s2) from ⟨(cell3 (kept_heap h hB0)).1, (cell3 (kept_heap h hB0)).2.1, (cell3 (kept_heap h hB0)).2.2.1, (cell3 (kept_heap h hB1)).1, (cell3 (kept_heap h hB1)).2.1, (cell3 (kept_heap h hB1)).2.2.1⟩))
 have HD := hid (Chg.drew (Chg.refl (fun _ => False) ((w.alloc (.cells #[.bool n1, .int .u64 v1, .int .i64 s1] 24)).alloc (.cells #[.bool n2, .int .u64 v2, .int .i64 s2] 24))))
 clear hB0 hB1
 have hSL : (((w.alloc (.cells #[.bool n1, .int .u64 v1, .int .i64 s1] 24)).alloc (.cells #[.bool n2, .int .u64 v2, .int .i64 s2] 24)).alloc (.cells #[.bool n1, .int .u64 v1, .int .i64 s1, .bool n2, .int .u64 v2, .int .i64 s2] 24)).heap[w.heap.size + 1 + 1]? = some (.cells #[.bool n1, .int .u64 v1, .int .i64 s1, .bool n2, .int .u64 v2, .int .i64 s2] 24 (0, 0)) := by
  have := heap_alloc_new ((w.alloc (.cells #[.bool n1, .int .u64 v1, .int .i64 s1] 24)).alloc (.cells #[.bool n2, .int .u64 v2, .int .i64 s2] 24)) (.cells #[.bool n1, .int .u64 v1, .int .i64 s1, .bool n2, .int .u64 v2, .int .i64 s2] 24)
  simpa using this
 have HSL := hid hSL
 clear hSL
 have HFA := hid (FixAll_two n1 n2 v1 s1 v2 s2 HSL.out)
 rw [hok] at HFA
 clear hok
 have hk := (Chg.refl (fun _ => False) ((w.alloc (.cells #[.bool n1, .int .u64 v1, .int .i64 s1] 24)).alloc (.cells #[.bool n2, .int .u64 v2, .int .i64 s2] 24))).alloc (.cells #[.bool n1, .int .u64 v1, .int .i64 s1, .bool n2, .int .u64 v2, .int .i64 s2] 24)
 obtain ⟨d0_, d1_, d2_, e0_, e1_, e2_⟩ := HSS.out _ (Chg.refl _ _)
 go_enter Tryz.func3, Tryz.ntmps3
 go_wp2_with (go_at_call 7; refine HFA.out.mono ?_; intro e w1 h; obtain ⟨he, hc⟩ := h; subst he; replace hk := hk.trans hc sb_; clear hc d0_ d1_ d2_ e0_ e1_ e2_; obtain ⟨d0_, d1_, d2_, e0_, e1_, e2_⟩ := HSS.out _ hk)
 go_at_call 8
 refine (HFS.out _ (HE.out.kept (HC0.out.trans hk sb_))).mono ?_
 intro e w2 h
 obtain ⟨he, hc⟩ := h
 subst he
 replace hk := (hk.trans hc sb_).alloc (.cells #[.bool b0, .int .u64 c0, .int .i64 s0] 24)
 obtain ⟨g, hg⟩ : ∃ g, w2.heap.size = g := ⟨_, rfl⟩
 have hG := heap_alloc_new w2 (.cells #[.bool b0, .int .u64 c0, .int .i64 s0] 24)
 rw [hg] at hG
 have HG := hid hG
 clear hc hG d0_ d1_ d2_ e0_ e1_ e2_
 obtain ⟨d0_, d1_, d2_, e0_, e1_, e2_⟩ := HSS.out _ hk
 obtain ⟨j0, j1, j2, _, _, _⟩ := cell3 HG.out
 go_wp2_with fail
 have hw6 := (Chg.refl (fun _ => False) (w2.alloc (.cells #[.bool b0, .int .u64 c0, .int .i64 s0] 24))).drew
 have hk := hk.drew
 have HS6 := hid (fun w3 (h1 : Chg (fun _ => False) ((w.alloc (.cells #[.bool n1, .int .u64 v1, .int .i64 s1] 24)).alloc (.cells #[.bool n2, .int .u64 v2, .int .i64 s2] 24)) w3) (h2 : Chg (fun _ => False) (w2.alloc (.cells #[.bool b0, .int .u64 c0, .int .i64 s0] 24)) w3) => (show w3.cell? ⟨w.heap.size, 0, none⟩ = some (.bool n1) ∧ w3.cell? ⟨w.heap.size, 1, none⟩ = some (.int .u64 v1) ∧ w3.cell? ⟨w.heap.size, 2, none⟩ = some (.int .i64 s1) ∧ w3.cell? ⟨w.heap.size + 1, 0, none⟩ = some (.bool n2) ∧ w3.cell? ⟨w.heap.size + 1, 1, none⟩ = some (.int .u64 v2) ∧ w3.cell? ⟨w.heap.size + 1, 2, none⟩ = some (.int .i64 s2) ∧ w3.cell? ⟨g, 0, none⟩ = some (.bool b0) ∧ w3.cell? ⟨g, 1, none⟩ = some (.int .u64 c0) ∧ w3.cell? ⟨g, 2, none⟩ = some (.int .i64 s0) from ⟨(HSS.out _ h1).1, (HSS.out _ h1).2.1, (HSS.out _ h1).2.2.1, (HSS.out _ h1).2.2.2.1, (HSS.out _ h1).2.2.2.2.1, (HSS.out _ h1).2.2.2.2.2, (cell3 (kept_heap h2 HG.out)).1, (cell3 (kept_heap h2 HG.out)).2.1, (cell3 (kept_heap h2 HG.out)).2.2.1⟩))
 first | (go_region_held3 (fun w' => w'.cell? ⟨w.heap.size, 0, none⟩ = some (.bool n1) ∧ w'.cell? ⟨w.heap.size, 1, none⟩ = some (.int .u64 v1) ∧ w'.cell? ⟨w.heap.size, 2, none⟩ = some (.int .i64 s1) ∧ w'.cell? ⟨w.heap.size + 1, 0, none⟩ = some (.bool n2) ∧ w'.cell? ⟨w.heap.size + 1, 1, none⟩ = some (.int .u64 v2) ∧ w'.cell? ⟨w.heap.size + 1, 2, none⟩ = some (.int .i64 s2) ∧ w'.cell? ⟨g, 0, none⟩ = some (.bool b0) ∧ w'.cell? ⟨g, 1, none⟩ = some (.int .u64 c0) ∧ w'.cell? ⟨g, 2, none⟩ = some (.int .i64 s0)) (first | with_reducible exact HS6.out _ hk hw6) (first | (go_at_call_of 10 (Value.agg #[Value.bool n1, Value.int .u64 v1, Value.int .i64 s1]); refine (HN1.out _).mono ?_; intro e w3 h; obtain ⟨A1, a1_, a2_, A2, a3_, a4_, he, hq1, hq2, hc⟩ := h; subst he; replace hk := hk.trans hc sb_; replace hw6 := hw6.trans hc sb_; (try replace HA1 := hid (HA1.out.kept hc)); (try replace HA2 := hid (HA2.out.kept hc)); (try replace HB1 := hid (HB1.out.kept hc)); (try replace HB2 := hid (HB2.out.kept hc)); (try replace HC1 := hid (HC1.out.kept hc)); (try replace HC2 := hid (HC2.out.kept hc)); have HA1 := hid hq1; have HA2 := hid hq2; clear hq1 hq2; clear hc) | (go_at_call_of 10 (Value.agg #[Value.bool n2, Value.int .u64 v2, Value.int .i64 s2]); refine (HN2.out _).mono ?_; intro e w3 h; obtain ⟨B1, b1_, b2_, B2, b3_, b4_, he, hq1, hq2, hc⟩ := h; subst he; replace hk := hk.trans hc sb_; replace hw6 := hw6.trans hc sb_; (try replace HA1 := hid (HA1.out.kept hc)); (try replace HA2 := hid (HA2.out.kept hc)); (try replace HB1 := hid (HB1.out.kept hc)); (try replace HB2 := hid (HB2.out.kept hc)); (try replace HC1 := hid (HC1.out.kept hc)); (try replace HC2 := hid (HC2.out.kept hc)); have HB1 := hid hq1; have HB2 := hid hq2; clear hq1 hq2; clear hc) | (go_at_call 11; refine (HSU.out _ _ _ _ _ _ _ _ _ _ _ _ _ HA1.out HA2.out HB1.out HB2.out).mono ?_; intro e w3 h; obtain ⟨C1, c1_, c2_, C2, c3_, c4_, he, hq1, hq2, hc⟩ := h; subst he; replace hk := hk.trans hc sb_; replace hw6 := hw6.trans hc sb_; (try replace HA1 := hid (HA1.out.kept hc)); (try replace HA2 := hid (HA2.out.kept hc)); (try replace HB1 := hid (HB1.out.kept hc)); (try replace HB2 := hid (HB2.out.kept hc)); (try replace HC1 := hid (HC1.out.kept hc)); (try replace HC2 := hid (HC2.out.kept hc)); have HC1 := hid hq1; have HC2 := hid hq2; clear hq1 hq2; clear hc) | (go_at_call 9; refine (HGE.out _ _ _ _ _ _ _ HC1.out HC2.out).mono ?_; intro e w3 h; obtain ⟨he, hc⟩ := h; subst he; replace hk := hk.trans hc sb_; replace hw6 := hw6.trans hc sb_; (try replace HA1 := hid (HA1.out.kept hc)); (try replace HA2 := hid (HA2.out.kept hc)); (try replace HB1 := hid (HB1.out.kept hc)); (try replace HB2 := hid (HB2.out.kept hc)); (try replace HC1 := hid (HC1.out.kept hc)); (try replace HC2 := hid (HC2.out.kept hc)); skip; clear hc) | (go_at_call 12; refine (HLV.out _ (HE.out.kept (HC0.out.trans hk sb_))).mono ?_; intro e w3 h; obtain ⟨he, hc⟩ := h; subst he; replace hk := hk.trans hc sb_; replace hw6 := hw6.trans hc sb_; (try replace HA1 := hid (HA1.out.kept hc)); (try replace HA2 := hid (HA2.out.kept hc)); (try replace HB1 := hid (HB1.out.kept hc)); (try replace HB2 := hid (HB2.out.kept hc)); (try replace HC1 := hid (HC1.out.kept hc)); (try replace HC2 := hid (HC2.out.kept hc)); skip; clear hc))) | fail
 all_goals (go_wp2_with fail; go_ret; exact ⟨rfl, HC0.out.trans hk sb_⟩)
theorem okFix_nat {v s : Int} (h0 : 0 ≤ v) (h : okFix v s = true) : ∃ c t : Nat, (c : Int) = v ∧ (t : Int) = s ∧ c < 10 ^ 19 ∧ t ≤ 19 := by
 unfold okFix at h
 simp only [Bool.and_eq_true, decide_eq_true_eq] at h
 obtain ⟨h1, h2, h3⟩ := h
 have e : (10 : Nat) ^ 19 = 10000000000000000000 := by decide
 exact ⟨v.toNat, s.toNat, by omega, by omega, by omega, by omega⟩
theorem Law_any (n1 n2 : Bool) (v1 s1 v2 s2 m : Int) (h1 : 0 ≤ v1) (h2 : 0 ≤ v2) (w : World) (he : EnvD w) :
  Calls Tryz.prog 3 #[.agg #[.bool n1, .int .u64 v1, .int .i64 s1], .agg #[.bool n2, .int .u64 v2, .int .i64 s2], .int .i64 m] w (PV w (.bool true)) := by
 cases hok : (okFix v1 s1 && okFix v2 s2) with
 | false => exact Law_out n1 n2 v1 s1 v2 s2 m hok w
 | true =>
  have hok' := hok
  rw [Bool.and_eq_true] at hok'
  obtain ⟨k1, k2⟩ := hok'
  obtain ⟨dc, ds, rfl, rfl, a1, a2⟩ := okFix_nat h1 k1
  obtain ⟨ec, es, rfl, rfl, b1, b2⟩ := okFix_nat h2 k2
  exact Law_in n1 n2 _ _ _ _ _ dc ec ds es m a1 b1 a2 b2 rfl rfl rfl _ _ _ _ rfl rfl rfl rfl hok rfl rfl w he
end Go.Proofs.YtmpkgkjnoanlhaaGreatDoor
namespace Go.Proofs.YtmpkgkjnoanlhaaGreatDoor
open Go.ChangeShapes Go.WideShapes Go.ChangeAt Go.WideMaps Go.WideElems Go.RowKit
theorem gDiv : Tryz.prog.globalNamed "given.example/pub-alexandrine/pub/bigall.divRecursiveThreshold" = some 6 := by kernel_rfl
theorem gKar : Tryz.prog.globalNamed "given.example/pub-alexandrine/pub/bigall.karatsubaThreshold" = some 5 := by kernel_rfl
theorem gOvf : Tryz.prog.globalNamed "given.example/pub-alexandrine/pub/govalues.errDecimalOverflow" = some 0 := by kernel_rfl
theorem gPow : Tryz.prog.globalNamed "given.example/pub-alexandrine/pub/govalues.pow10" = some 2 := by kernel_rfl
theorem tDiv : (Tryz.prog.globals[6]?).map (·.type) = some 3 := by kernel_rfl
theorem tKar : (Tryz.prog.globals[5]?).map (·.type) = some 3 := by kernel_rfl
theorem tOvf : (Tryz.prog.globals[0]?).map (·.type) = some 50 := by kernel_rfl
theorem tPow : (Tryz.prog.globals[2]?).map (·.type) = some 123 := by kernel_rfl
theorem of_laid {W : World} (hsh : W.ShapedOpen Tryz.prog) (h : laidMetH Tryz.prog Rows.fnFixSubExactRow.laid W) : EnvD W := by
 rw [MakeChecks.laidMetH_plain _ _ _ (by kernel_rfl)] at h
 obtain ⟨ps, ⟨_, _, _, _, _, _, _, _, _, _, ⟨_, _, _, _, _, _, _, _, _, _, ⟨_, _, _, _, _, _, _, _, _, _, ⟨g3, t3, cs3, f3, p3, q3, hg3, ht3, hv3, hd3, ⟨g4, t4, cs4, f4, p4, q4, hg4, ht4, hv4, hd4, ⟨_, _, _, _, _, _, _, _, _, _, ⟨_, _, _, _, _, _, _, _, _, _, ⟨g7, t7, cs7, f7, p7, q7, hg7, ht7, hv7, hd7, ⟨_, _, _, _, _, _, _, _, _, _, ⟨g9, t9, cs9, f9, p9, q9, hg9, ht9, hv9, hd9, hrest, _⟩, _⟩, _⟩, _⟩, _⟩, _⟩, _⟩, _⟩, _⟩, _⟩, hps, _⟩ := h
 obtain rfl := Option.some.inj (gDiv.symm.trans hg3)
 obtain rfl := Option.some.inj (gKar.symm.trans hg4)
 obtain rfl := Option.some.inj (gOvf.symm.trans hg7)
 obtain rfl := Option.some.inj (gPow.symm.trans hg9)
 obtain rfl := Option.some.inj (tDiv.symm.trans ht3)
 obtain rfl := Option.some.inj (tKar.symm.trans ht4)
 have hdiv : W.cell? ⟨6, 0, none⟩ = some (.int .i64 40) := by
  obtain ⟨k, e1, e2, _⟩ := DataW.trod_int Tryz.underlying3 hd3
  have hk : k = 40 := by
   have := congrArg Prod.fst e2
   simpa [Rows.laid_given_example_pub_alexandrine_pub_bigall_divRecursiveThreshold] using this.symm
  subst hk
  have := World.var?_cell hg3 hv3 0
  obtain ⟨l1⟩ := cs3
  simp at e1
  subst e1
  simpa using this
 have hkar : W.cell? ⟨5, 0, none⟩ = some (.int .i64 40) := by
  obtain ⟨k, e1, e2, _⟩ := DataW.trod_int Tryz.underlying3 hd4
  have hk : k = 40 := by
   have := congrArg Prod.fst e2
   simpa [Rows.laid_given_example_pub_alexandrine_pub_bigall_karatsubaThreshold] using this.symm
  subst hk
  have := World.var?_cell hg4 hv4 0
  obtain ⟨l1⟩ := cs4
  simp at e1
  subst e1
  simpa using this
 have htab : Tab W := by
  obtain rfl := Option.some.inj (tPow.symm.trans ht9)
  obtain ⟨xs, m, _, hx, hlen, hn, hel⟩ := DataW.trod_array Tryz.underlying123 hd9
  have c1 : Tryz.prog.cellsOf 44 = 1 := by kernel_rfl
  rw [c1] at hel
  have hxs := congrArg Prod.fst hx
  simp only [Rows.laid_given_example_pub_alexandrine_pub_govalues_pow10, DataW.agg.injEq] at hxs
  intro k hk
  have hk' := hel k hk
  have hxk : (xs.map (·.1))[k]? = some (.lit (.int .u64 (10 ^ k))) := by
   rw [← hxs]
   have : ∀ j : Fin 20, ([DataW.lit (.int .u64 1), .lit (.int .u64 10), .lit (.int .u64 100), .lit (.int .u64 1000), .lit (.int .u64 10000), .lit (.int .u64 100000), .lit (.int .u64 1000000), .lit (.int .u64 10000000), .lit (.int .u64 100000000), .lit (.int .u64 1000000000), .lit (.int .u64 10000000000), .lit (.int .u64 100000000000), .lit (.int .u64 1000000000000), .lit (.int .u64 10000000000000), .lit (.int .u64 100000000000000), .lit (.int .u64 1000000000000000), .lit (.int .u64 10000000000000000), .lit (.int .u64 100000000000000000), .lit (.int .u64 1000000000000000000), .lit (.int .u64 10000000000000000000)] : List (DataW Unit))[(j : Nat)]? = some (.lit (.int .u64 (10 ^ (j : Nat)))) := by
    rintro ⟨j, hj⟩
    rcases (show j = 0 ∨ j = 1 ∨ j = 2 ∨ j = 3 ∨ j = 4 ∨ j = 5 ∨ j = 6 ∨ j = 7 ∨ j = 8 ∨ j = 9 ∨ j = 10 ∨ j = 11 ∨ j = 12 ∨ j = 13 ∨ j = 14 ∨ j = 15 ∨ j = 16 ∨ j = 17 ∨ j = 18 ∨ j = 19 by omega) with rfl | rfl | rfl | rfl | rfl | rfl | rfl | rfl | rfl | rfl | rfl | rfl | rfl | rfl | rfl | rfl | rfl | rfl | rfl | rfl <;> rfl
   exact this ⟨k, hk⟩
  rw [List.getElem?_map] at hxk
  cases hy : xs[k]? with
  | none => rw [hy] at hxk; cases hxk
  | some y =>
   rw [hy] at hxk
   simp only [Option.map_some, Option.some.injEq] at hxk
   rw [hy] at hk'
   obtain ⟨z, e1, e2, _⟩ := DataW.trod_int Tryz.underlying44 hk'
   have hz : z = 10 ^ k := by
    have := congrArg Prod.fst e2
    rw [hxk] at this
    simpa using this.symm
   subst hz
   have := World.var?_cell hg9 hv9 k
   rw [this]
   rw [Nat.mul_one] at e1
   have h3 : (cs9.toList.drop k)[0]? = some (.int .u64 (10 ^ k)) := by
    have := congrArg (fun l => l[0]?) e1
    simpa using this
   simpa using h3
 have hovf : ∃ u y, W.cell? ⟨0, 0, none⟩ = some (.iface u y) := by
  obtain rfl := Option.some.inj (tOvf.symm.trans ht7)
  obtain ⟨_, u, y, e1, _, _⟩ := iface_of_trod Tryz.underlying50 hd7
  have := World.var?_cell hg7 hv7 0
  obtain ⟨l1⟩ := cs7
  simp at e1
  subst e1
  exact ⟨u, y, by simpa using this⟩
 refine ⟨⟨htab, hkar, hdiv, fun xs hr => ?_⟩, hovf⟩
 obtain ⟨cs, t, k1, k2⟩ := pow_typed hsh
 have := hr.1.symm.trans k1
 simp only [Option.some.injEq, Obj.cells.injEq] at this
 exact k2 this.2.1.symm
end Go.Proofs.YtmpkgkjnoanlhaaGreatDoor
namespace Go.Proofs.YtmpkgkjnoanlhaaGreatDoor
open Go Go.ChangeShapes Go.WideShapes Go.ChangeAt Go.WideMaps Go.WideElems Go.RowKit Go.Joins
theorem trod_iface {H : Type} {enc : TypeId × Value → H} {P : Program} {W W' : World} {ti : TypeId} {ms : Array (String × TypeId)} {fuel : Nat} {cs : List Value} {x : DataW H × List MemPlace} {sp sp' : Nat → Bool}
  (hi : P.underlying ti = some (.interface ms)) (h : DataW.trod enc P W 0 sp true fuel ti cs = some x) : DataW.trod enc P W' 0 sp' true fuel ti cs = some x := by
 cases fuel with
 | zero => simp [DataW.trod] at h
 | succ f =>
  match cs, h with
  | [], h => simp [DataW.trod, hi] at h
  | _ :: _ :: _, h => simp [DataW.trod, hi] at h
  | [c], h => cases c <;> simp_all [DataW.trod]
theorem vars_iface {H : Type} {enc : TypeId × Value → H} {P : Program} {W W' : World} (hb : Below W.heap.size W W') {n : String} {ns : List String} {g : Nat} {ti : TypeId} {ms : Array (String × TypeId)} {sp sp' : Nat → Bool}
  (hn : P.globalNamed n = some g) (ht : (P.globals[g]?).map (·.type) = some ti) (hi : P.underlying ti = some (.interface ms))
  (hr : ∀ (gs : List (DataW H)) (q : List MemPlace), DataW.TrodVars enc P W sp ns gs q → DataW.TrodVars enc P W' sp' ns gs q) {gs : List (DataW H)} {ps : List MemPlace} (h : DataW.TrodVars enc P W sp (n :: ns) gs ps) :
  DataW.TrodVars enc P W' sp' (n :: ns) gs ps := by
 cases gs with
 | nil => exact h.elim
 | cons d ds =>
  obtain ⟨g0, t, cs, fuel, p, q, h1, h2, h3, h4, hs, e⟩ := h
  obtain rfl := Option.some.inj (hn.symm.trans h1)
  obtain rfl := Option.some.inj (ht.symm.trans h2)
  refine ⟨g, ti, cs, fuel, p, q, h1, h2, ?_, trod_iface hi h4, hr _ _ hs, e⟩
  unfold World.var? at h3 ⊢
  rw [h1] at h3 ⊢
  simp only [Option.bind_some] at h3 ⊢
  have hg : g < W.heap.size := by
   cases hh : W.heap[g]? with
   | none => rw [hh] at h3; cases h3
   | some o => exact (Array.getElem?_eq_some_iff.1 hh).1
  rw [hb.block g hg]; exact h3
theorem trodVars_length {H : Type} {enc : TypeId × Value → H} {P : Program} {W : World} {sp : Nat → Bool} : ∀ {ns : List String} {gs : List (DataW H)} {ps : List MemPlace}, DataW.TrodVars enc P W sp ns gs ps → gs.length = ns.length
 | [], [], _, _ => rfl
 | [], _ :: _, _, h => h.elim
 | _ :: _, [], _, h => h.elim
 | _ :: ns, _ :: ds, _, h => by
  obtain ⟨_, _, _, _, _, _, _, _, _, _, hs, _⟩ := h
  simp [trodVars_length hs]
theorem gScl : Tryz.prog.globalNamed "given.example/pub-alexandrine/pub/govalues.errScaleRange" = some 1 := by kernel_rfl
theorem tScl : (Tryz.prog.globals[1]?).map (·.type) = some 50 := by kernel_rfl
theorem laidOk : laidOutB Tryz.prog = true := by kernel_rfl
theorem fixCells : Tryz.prog.cellsOf 24 = 3 := by kernel_rfl
set_option maxRecDepth 100000 in
theorem open_fix {H : Type} {enc : TypeId × Value → H} {W : World} {base b0 : Nat} {sp : Nat → Bool} {held : Bool} {v : Value} {d : DataW H} {p : List MemPlace} (hv : Value.okWide Tryz.prog W .any b0 24 v) (h : DataW.Trod enc Tryz.prog W base sp held 24 v d p) :
  ∃ (n : Bool) (c s : Int), v = .agg #[.bool n, .int .u64 c, .int .i64 s] ∧ 0 ≤ c ∧ p = [] := by
 obtain ⟨c0, c1, c2, y0, y1, y2, m, rfl, rfl, rfl, hy0, hy1, hy2⟩ := open_agg3 Tryz.underlying24 (by kernel_rfl) fixCells hv h
 obtain ⟨x, e0, rfl⟩ := DataW.trod_bool Tryz.underlying4 hy0
 obtain ⟨y, e1, rfl, wy⟩ := DataW.trod_int Tryz.underlying22 hy1
 obtain ⟨f, e2, rfl, wf⟩ := DataW.trod_int Tryz.underlying3 hy2
 simp at e0 e1 e2
 subst e0 e1 e2
 refine ⟨x, y, f, rfl, ?_, rfl⟩
 simp [Lit.wf] at wy
 exact wy.1
end Go.Proofs.YtmpkgkjnoanlhaaGreatDoor
namespace Go.Proofs.YtmpkgkjnoanlhaaGreatDoor
open Go Go.ChangeShapes Go.WideShapes Go.ChangeAt Go.WideMaps Go.WideElems Go.RowKit
set_option maxRecDepth 100000
theorem wit_shaped (os : Os) : (((World.doorLaid Tryz.prog 400 os).forCall (fun _ _ => 0) ⟨#[], #[.agg #[.bool false, .int .u64 0, .int .i64 0], .agg #[.bool false, .int .u64 0, .int .i64 0], .int .i64 0], []⟩)).Shaped Tryz.prog :=
 World.shaped_of_RefB (by as_aux_lemma => kernel_rfl) (by as_aux_lemma => kernel_rfl)
theorem wit_ok (os : Os) : Input.okWideB Tryz.prog ((World.doorLaid Tryz.prog 400 os).forCall (fun _ _ => 0) ⟨#[], #[.agg #[.bool false, .int .u64 0, .int .i64 0], .agg #[.bool false, .int .u64 0, .int .i64 0], .int .i64 0], []⟩) 3 ⟨#[], #[.agg #[.bool false, .int .u64 0, .int .i64 0], .agg #[.bool false, .int .u64 0, .int .i64 0], .int .i64 0], []⟩ = true := by kernel_rfl
theorem wit_pre (os : Os) (H : Type) (enc : TypeId × Value → H) : Rows.fnFixSubExactSpec.preB enc Tryz.prog Tryz.f3 [] false (((World.doorLaid Tryz.prog 400 os).forCall (fun _ _ => 0) ⟨#[], #[.agg #[.bool false, .int .u64 0, .int .i64 0], .agg #[.bool false, .int .u64 0, .int .i64 0], .int .i64 0], []⟩)).memory #[.agg #[.bool false, .int .u64 0, .int .i64 0], .agg #[.bool false, .int .u64 0, .int .i64 0], .int .i64 0] 8 = true := by kernel_rfl
theorem wit_size (os : Os) (H : Type) (enc : TypeId × Value → H) : Rows.fnFixSubExactSpec.sizedB enc Tryz.prog Tryz.f3 false (((World.doorLaid Tryz.prog 400 os).forCall (fun _ _ => 0) ⟨#[], #[.agg #[.bool false, .int .u64 0, .int .i64 0], .agg #[.bool false, .int .u64 0, .int .i64 0], .int .i64 0], []⟩)).memory #[.agg #[.bool false, .int .u64 0, .int .i64 0], .agg #[.bool false, .int .u64 0, .int .i64 0], .int .i64 0] 8 = true := by kernel_rfl
end Go.Proofs.YtmpkgkjnoanlhaaGreatDoor
namespace Go.Proofs.YtmpkgkjnoanlhaaGreatDoor
open Go
set_option maxRecDepth 100000
theorem and2 {a b : Bool} (ha : a = true) (hb : b = true) : (a && b) = true := by rw [ha, hb]; rfl
set_option maxHeartbeats 4000000 in
theorem row_closed : joinedFacts Tryz.prog 3 Tryz.f3 Rows.fnFixSubExactSpec Rows.fnFixSubExactRow = true := by
 unfold joinedFacts
 repeat' (with_reducible refine and2 ?_ ?_)
 all_goals (as_aux_lemma => kernel_rfl)
theorem row_func : Tryz.prog.funcNamed "given.example/pub-alexandrine/laws.FnFixSubExact" = some 3 := by kernel_rfl
theorem row_wf : Rows.fnFixSubExactRow.wfByText (OpenSpec.ofChange Rows.fnFixSubExactSpec) = true := by kernel_rfl
theorem row_looks : false = Tryz.prog.looks [] := by kernel_rfl
theorem row_stand : ([24, 24, 3].all fun u => !Tryz.prog.wantsStandIn u) = true := by kernel_rfl
theorem row_goes : false = Rows.fnFixSubExactRow.goesBy Tryz.prog := by kernel_rfl
end Go.Proofs.YtmpkgkjnoanlhaaGreatDoor
namespace Go.Proofs.YtmpkgkjnoanlhaaGreatDoor
open Go Go.ChangeShapes Go.WideShapes Go.ChangeAt Go.WideMaps Go.WideElems Go.RowKit
set_option maxRecDepth 100000 in
theorem lifted (os : Os) (started : os.Started) (H : Type) (enc : TypeId × Value → H) :
  ReturnsInHanded {} Tryz.checked os 3 .any (fun w args => (Rows.fnFixSubExactSpec.pre enc Tryz.prog Tryz.f3 [] false w args ∧ laidMetH Tryz.prog Rows.fnFixSubExactRow.laid w) ∧ sizedMet enc Tryz.prog Tryz.f3 (OpenSpec.ofChange Rows.fnFixSubExactSpec) false w args)
   (Rows.fnFixSubExactSpec.post enc Tryz.prog Tryz.f3 false true false false) := by
 refine handed_shaped (C := Tryz.checked) (X := fun w _ => laidMetH Tryz.prog Rows.fnFixSubExactRow.laid w) (fun _ _ _ hh h => h.of_heap hh) own0 started (by kernel_rfl) Tryz.func3
  (ChangeSpec.witness_shaped (enc := enc) (C := Tryz.checked) (os := os) (X := fun w _ => laidMetH Tryz.prog Rows.fnFixSubExactRow.laid w) false (World.doorLaid Tryz.prog 400 os) #[.agg #[.bool false, .int .u64 0, .int .i64 0], .agg #[.bool false, .int .u64 0, .int .i64 0], .int .i64 0] 8 rfl (wit_shaped os) (wit_ok os) (wit_pre os H enc) (wit_size os H enc) (door_met os _)) ?_
 intro W base args ds gs before hsh hval0 hW _ hL
 have hval : ∀ (j : Nat) t v, Tryz.f3.params[j]? = some t → args[j]? = some v → Value.okWide Tryz.prog W .any base t v := hval0
 have hW' := hW
 obtain ⟨p, q, hA0, hV, rfl, hfz, hnd⟩ := hW
 have hA : DataW.TrodAll enc Tryz.prog W 0 (fun _ => true) true Tryz.f3.params.toList args.toList ds p := hA0
 rw [Tryz.params3] at hA hval
 obtain ⟨v0, v1, v2, d0, d1, d2, p0, p1, p2, rfl, rfl, rfl, h0, h1, h2⟩ := trodAll_three hA
 have k0 := h0
 have k1 := h1
 have k2 := h2
 obtain ⟨n1, c1, s1, rfl, w1, rfl⟩ := open_fix (hval 0 24 v0 rfl rfl) h0
 obtain ⟨n2, c2, s2, rfl, w2, rfl⟩ := open_fix (hval 1 24 v1 rfl rfl) h1
 obtain ⟨m, rfl, rfl, rfl, _⟩ := open_int Tryz.underlying3 (hval 2 3 v2 rfl rfl) h2
 have hlen : gs.length = 8 := trodVars_length hV
 match gs, hlen, hV, hW' with
 | [g1, g2, g3, g4, g5, g6, g7, g8], _, hV, hW' =>
  refine (Law_any n1 n2 c1 s1 c2 s2 m w1 w2 W (of_laid hsh hL)).mono fun e W' hE => ?_
  obtain ⟨he, hc⟩ := hE
  subst he
  have hB := hc.below
  refine ⟨_, rfl, _, _, _, [], [], q, hW', ?_, ?_, ?_, hB.frame _, fun h => by cases h⟩
  ·exact trodAll_mk1 (shut_bool Tryz.underlying4 _)
  ·exact trodAll_mk3 (Below.trod laidOk (by kernel_rfl) (of_decide_eq_true (by kernel_rfl)) k0 hB (fun x hx => by cases hx)) (Below.trod laidOk (by kernel_rfl) (of_decide_eq_true (by kernel_rfl)) k1 hB (fun x hx => by cases hx)) (Below.trod laidOk (by kernel_rfl) (of_decide_eq_true (by kernel_rfl)) k2 hB (fun x hx => by cases hx))
  ·exact vars_iface hB gScl tScl Tryz.underlying50 (fun _ _ h => vars_iface hB gOvf tOvf Tryz.underlying50 (fun _ _ h => Below.trodVars laidOk hB (by kernel_rfl) h) h) hV
theorem fnFixSubExact_holds : Rows.FnFixSubExactSaid :=
 OpenClaim.holds_of_wide 3 Tryz.f3 rfl rfl rfl rfl rfl rfl rfl ⟨rfl, rfl, rfl, rfl, rfl⟩ rfl rfl rfl rfl rfl row_func Tryz.func3 row_closed
  (of_decide_eq_true (by kernel_rfl)) (by unfold Func.isWrapper; first | (rw [if_pos (by decide +kernel)]; kernel_rfl) | (rw [if_neg (by decide +kernel)]; exact ⟨rfl, rfl⟩))
  (fun os started H enc _ => lifted os started H enc)
theorem fnFixSubExact_card : Rows.FnFixSubExactCardSaid :=
 Claim7.holds_tied_plain_at .later [] [.data, .data, .data, .data, .data, .data, .data, .sentinel, .sentinel, .data] true Rows.fnFixSubExactCard.stood.harness false
  fnFixSubExact_holds (fun _ h => by cases h) row_wf (fun _ h => by cases h) fnFixSubExact_row_tie rfl ⟨rfl, rfl⟩ (by kernel_rfl) rfl
  (fun f fn hf hfn => by
   obtain rfl : f = 3 := Option.some.inj (row_func.symm.trans hf) |>.symm
   obtain rfl : fn = Tryz.f3 := (Option.some.inj (Tryz.func3.symm.trans hfn)).symm
   exact ⟨row_looks, fun j t ht => by
    rw [Tryz.params3] at ht
    have hm : t ∈ [24, 24, 3] := by simpa using Array.mem_of_getElem? ht
    exact (show Tryz.prog.wantsStandIn t = false by simpa using List.all_eq_true.1 row_stand t hm)⟩)
  row_goes
end Go.Proofs.YtmpkgkjnoanlhaaGreatDoor
