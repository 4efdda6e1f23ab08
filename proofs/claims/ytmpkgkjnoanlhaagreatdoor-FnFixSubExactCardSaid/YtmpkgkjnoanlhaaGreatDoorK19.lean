/- Part 19 of the proof: the lemmas of Sn5, Sn6, Sn6c, Sn6d, Sn7, Sn8, Dec1, Two0. -/
import Derived.Deep.RegionHeld3
import Derived.Test.YtmpkgkjnoanlhaaGreatDoorK00
import Derived.Test.YtmpkgkjnoanlhaaGreatDoorK17
import Derived.Test.YtmpkgkjnoanlhaaGreatDoorK18
namespace Go.Proofs.YtmpkgkjnoanlhaaGreatDoor
open Go.RowKit
set_option linter.unusedVariables false
set_option linter.unusedSimpArgs false
set_option maxRecDepth 20000
theorem DecFrac_any {w : World} {A : Option Addr} {n c a : Nat} (n1 : Bool) (e0 : Int) (s : Nat) (ha : SN w A n c a) (ha1 : a < 10 ^ 240) (hs : s ≤ 200) (hn : (n1 && a != 0) = n1) (he : e0 = -(s : Int)) :
  Calls Tryz.prog 27 #[.agg #[.bool n1, .slice A n c, .int .i64 e0]] w (PFN w n1 a (10 ^ s)) := by
 by_cases h0 : s = 0
 ·subst h0
  have : e0 = 0 := by omega
  subst this
  exact DecFrac_zero n1 ha ha1 hn
 ·exact DecFrac_neg n1 e0 s ha hs (by omega) (by rw [show -e0 = (s : Int) by omega]; exact IntWalk.i64_in _ (by omega))
set_option maxHeartbeats 2000000 in
theorem FixNum_any {w : World} (n1 sb : Bool) (a s : Nat) (ha : a < 10 ^ 19) (hs : s ≤ 19) (hsb : (n1 && a != 0) = sb) :
  Calls Tryz.prog 10 #[.agg #[.bool n1, .int .u64 (a : Int), .int .i64 (s : Int)]] w (PFN w sb a (10 ^ s)) := by
 have ha2 : (a : Int) < 18446744073709551616 := by
  have : (10 : Nat) ^ 19 = 10000000000000000000 := by decide
  omega
 have HF := hid (fun w1 => FixDec_any (w := w1) n1 sb a (s : Int) (-(s : Int)) ha2 hsb (IntWalk.i64_in _ (by omega)))
 have hnn : (sb && a != 0) = sb := by rw [← hsb]; cases n1 <;> simp
 have HD := hid (fun w1 (E : Option Addr) (k l : Nat) (h : SN w1 E k l a) => DecFrac_any sb (-(s : Int)) s h (up240 ha (by omega)) (by omega) hnn rfl)
 obtain ⟨v, hv⟩ : ∃ v : Int, (a : Int) = v := ⟨_, rfl⟩
 obtain ⟨s0, hs0⟩ : ∃ s0 : Int, (s : Int) = s0 := ⟨_, rfl⟩
 obtain ⟨e0, he0⟩ : ∃ e0 : Int, -(s : Int) = e0 := ⟨_, rfl⟩
 rw [hv, hs0, ← hs0, he0] at HF
 rw [he0] at HD
 rw [hv, hs0]
 rw [hs0] at HF
 generalize 10 ^ s = T at *
 clear ha hs hsb ha2 hnn hv hs0 he0
 have HC0 := hid (((Chg.refl (fun _ => False) w).alloc (.cells #[.bool n1, .int .u64 v, .int .i64 s0] 24)).alloc (.cells #[.bool false, .slice none 0 0, .slice none 0 0] 34))
 have hB0 : ((w.alloc (.cells #[.bool n1, .int .u64 v, .int .i64 s0] 24)).alloc (.cells #[.bool false, .slice none 0 0, .slice none 0 0] 34)).heap[w.heap.size]? = some (.cells #[.bool n1, .int .u64 v, .int .i64 s0] 24 (0, 0)) := by
  rw [Below.heap_alloc _ _ _ (by simp)]
  have := heap_alloc_new w (.cells #[.bool n1, .int .u64 v, .int .i64 s0] 24)
  simpa using this
 have hB1 : ((w.alloc (.cells #[.bool n1, .int .u64 v, .int .i64 s0] 24)).alloc (.cells #[.bool false, .slice none 0 0, .slice none 0 0] 34)).heap[w.heap.size + 1]? = some (.cells #[.bool false, .slice none 0 0, .slice none 0 0] 34 (0, 0)) := by
  have := heap_alloc_new (w.alloc (.cells #[.bool n1, .int .u64 v, .int .i64 s0] 24)) (.cells #[.bool false, .slice none 0 0, .slice none 0 0] 34)
  simpa using this
 have HZ := hid hB1
 have HSS := hid (fun w1 (h : Chg (fun _ => False) ((w.alloc (.cells #[.bool n1, .int .u64 v, .int .i64 s0] 24)).alloc (.cells #[.bool false, .slice none 0 0, .slice none 0 0] 34)) w1) => (show w1.cell? ⟨w.heap.size, 0, none⟩ = some (.bool n1) ∧ w1.cell? ⟨w.heap.size, 1, none⟩ = some (.int .u64 v) ∧ w1.cell? ⟨w.heap.size, 2, none⟩ = some (.int .i64 s0) from ⟨(cell3 (kept_heap h hB0)).1, (cell3 (kept_heap h hB0)).2.1, (cell3 (kept_heap h hB0)).2.2.1⟩))
 have HST := hid (fun w1 (x0 x1 x2 : Value) (h : Chg (fun _ => False) ((w.alloc (.cells #[.bool n1, .int .u64 v, .int .i64 s0] 24)).alloc (.cells #[.bool false, .slice none 0 0, .slice none 0 0] 34)) w1) => (show (((w1.setCell ⟨w.heap.size + 1, 0, none⟩ x0).setCell ⟨w.heap.size + 1, 1, none⟩ x1).setCell ⟨w.heap.size + 1, 2, none⟩ x2).cell? ⟨w.heap.size, 0, none⟩ = some (.bool n1) ∧ (((w1.setCell ⟨w.heap.size + 1, 0, none⟩ x0).setCell ⟨w.heap.size + 1, 1, none⟩ x1).setCell ⟨w.heap.size + 1, 2, none⟩ x2).cell? ⟨w.heap.size, 1, none⟩ = some (.int .u64 v) ∧ (((w1.setCell ⟨w.heap.size + 1, 0, none⟩ x0).setCell ⟨w.heap.size + 1, 1, none⟩ x1).setCell ⟨w.heap.size + 1, 2, none⟩ x2).cell? ⟨w.heap.size, 2, none⟩ = some (.int .i64 s0) from by
  have hh := HSS.out w1 h
  refine ⟨?_, ?_, ?_⟩ <;> (repeat rw [far_cell (by omega)])
  ·exact hh.1
  ·exact hh.2.1
  ·exact hh.2.2))
 have HDD := hid (Chg.drew (Chg.refl (fun _ => False) ((w.alloc (.cells #[.bool n1, .int .u64 v, .int .i64 s0] 24)).alloc (.cells #[.bool false, .slice none 0 0, .slice none 0 0] 34))))
 clear hB0 hB1
 have hk := Chg.refl (fun _ => False) ((w.alloc (.cells #[.bool n1, .int .u64 v, .int .i64 s0] 24)).alloc (.cells #[.bool false, .slice none 0 0, .slice none 0 0] 34))
 obtain ⟨d0, d1, d2⟩ := HSS.out _ hk
 go_enter Tryz.func10, Tryz.ntmps10
 go_wp2_with (first | (go_at_call 26; refine (HF.out _).mono ?_; intro e w1 h; obtain ⟨E1, k1_, l1_, he, hsn, hc⟩ := h; subst he; replace hk := hk.trans hc sb_; skip; have HN1 := hid hsn; clear hsn; clear hc; obtain ⟨k0, k1, k2, f0, f1, f2⟩ := cell3 (kept_heap hk HZ.out)) | (go_at_call 27; refine (HD.out _ _ _ _ HN1.out).mono ?_; intro e w1 h; obtain ⟨E2, k2_, l2_, E3, k3_, l3_, he, hs1, hs2, hc⟩ := h; subst he; replace hk := hk.trans hc sb_; skip; have HN2 := hid hs1; have HN3 := hid hs2; clear hs1 hs2; clear hc; obtain ⟨k0, k1, k2, f0, f1, f2⟩ := cell3 (kept_heap hk HZ.out)))
 refine bodyPost_ret (v := .agg #[.bool sb, .slice E2 k2_ l2_, .slice E3 k3_ l3_]) (by rw [results_cell_row rfl _ _ (w.heap.size + 1) _ _ _ _ rfl (store3 (kept_heap hk HZ.out) _ _ _) Tryz.underlying34 rfl frac_size]) rfl ⟨E2, k2_, l2_, E3, k3_, l3_, rfl, sn_end3 HN2.out (kept_heap hk HZ.out) (by simp) _ _ _, sn_end3 HN3.out (kept_heap hk HZ.out) (by simp) _ _ _, chg3 (HC0.out.trans hk sb_) (by omega) _ _ _⟩
theorem FixIs_any (n1 : Bool) (v s0 : Int) (w : World) :
  Calls Tryz.prog 19 #[.agg #[.bool n1, .int .u64 v, .int .i64 s0]] w (PV w (.bool (decide (v ≤ 9999999999999999999) && (decide (0 ≤ s0) && decide (s0 ≤ 19))))) := by
 have HC0 := hid ((Chg.refl (fun _ => False) w).alloc (.cells #[.bool n1, .int .u64 v, .int .i64 s0] 24))
 have hB0 : (w.alloc (.cells #[.bool n1, .int .u64 v, .int .i64 s0] 24)).heap[w.heap.size]? = some (.cells #[.bool n1, .int .u64 v, .int .i64 s0] 24 (0, 0)) := by
  have := heap_alloc_new w (.cells #[.bool n1, .int .u64 v, .int .i64 s0] 24)
  simpa using this
 have HSS := hid (fun w1 (h : Chg (fun _ => False) (w.alloc (.cells #[.bool n1, .int .u64 v, .int .i64 s0] 24)) w1) => (show w1.cell? ⟨w.heap.size, 0, none⟩ = some (.bool n1) ∧ w1.cell? ⟨w.heap.size, 1, none⟩ = some (.int .u64 v) ∧ w1.cell? ⟨w.heap.size, 2, none⟩ = some (.int .i64 s0) from ⟨(cell3 (kept_heap h hB0)).1, (cell3 (kept_heap h hB0)).2.1, (cell3 (kept_heap h hB0)).2.2.1⟩))
 have HD := hid (Chg.drew (Chg.refl (fun _ => False) (w.alloc (.cells #[.bool n1, .int .u64 v, .int .i64 s0] 24))))
 clear hB0
 obtain ⟨d0, d1, d2⟩ := HSS.out _ (Chg.refl _ _)
 by_cases h1 : v ≤ 9999999999999999999
 ·have h1' := decide_eq_true h1
  by_cases h2 : 0 ≤ s0
  ·have h2' := decide_eq_true h2
   by_cases h3 : s0 ≤ 19
   ·have h3' := decide_eq_true h3
    rw [h1', h2', h3']
    go_enter Tryz.func19, Tryz.ntmps19
    go_wp2_with fail
    go_ret
    exact ⟨rfl, HC0.out⟩
   ·have h3' := decide_eq_false h3
    rw [h1', h2', h3']
    go_enter Tryz.func19, Tryz.ntmps19
    go_wp2_with fail
    go_ret
    exact ⟨rfl, HC0.out⟩
  ·have h2' := decide_eq_false h2
   rw [h1', h2']
   go_enter Tryz.func19, Tryz.ntmps19
   go_wp2_with fail
   go_ret
   exact ⟨rfl, HC0.out⟩
 ·have h1' := decide_eq_false h1
  rw [h1']
  go_enter Tryz.func19, Tryz.ntmps19
  go_wp2_with fail
  go_ret
  exact ⟨rfl, HC0.out⟩
theorem rounds_any (neg odd : Bool) (h : Int) (w : World) :
  Calls Tryz.prog 68 #[.int .i64 5, .bool neg, .int .i64 h, .bool odd] w (PV w (.bool (decide (0 < h) || (h == 0 && odd)))) := by
 by_cases h1 : 0 < h
 ·have h1' := decide_eq_true h1
  rw [h1', Bool.true_or]
  go_enter Tryz.func68, Tryz.ntmps68
  go_wp2_with fail
  go_ret
  exact ⟨rfl, Chg.refl _ _⟩
 ·have h1' := decide_eq_false h1
  rw [h1', Bool.false_or]
  by_cases h2 : h = 0
  ·have h2' : (h == 0) = true := beq_iff_eq.2 h2
   rw [h2', Bool.true_and]
   go_enter Tryz.func68, Tryz.ntmps68
   go_wp2_with fail
   go_ret
   exact ⟨rfl, Chg.refl _ _⟩
  ·have h2' : (h == 0) = false := beq_eq_false_iff_ne.2 h2
   rw [h2', Bool.false_and]
   go_enter Tryz.func68, Tryz.ntmps68
   go_wp2_with fail
   go_ret
   exact ⟨rfl, Chg.refl _ _⟩
set_option maxHeartbeats 2000000 in
theorem FixHas_neg {w : World} {B D2 : Option Addr} {m d p2 q2 a b s y : Nat} (n2 : Bool) (ha : a < 10 ^ 19) (hs : s ≤ 19) (ha0 : a ≠ 0) (hb : SN w B m d b) (hy : SN w D2 p2 q2 y) (hb1 : b < 10 ^ 100) (hy1 : y < 10 ^ 100)
  (hcmp : (true && a * y != 0) = (n2 && b * 10 ^ s != 0) ∧ a * y = b * 10 ^ s) :
  Calls Tryz.prog 48 #[.agg #[.bool true, .int .u64 (a : Int), .int .i64 (s : Int)], .agg #[.bool n2, .slice B m d, .slice D2 p2 q2]] w (PV w (.bool true)) := by
 have HI := hid (fun w => FixIs_any true (a : Int) (s : Int) w)
 have h19 : (10 : Nat) ^ 19 = 10000000000000000000 := by decide
 have hb1' : decide ((a : Int) ≤ 9999999999999999999) = true := decide_eq_true (by omega)
 clear h19
 have hb2' : decide ((0 : Int) ≤ (s : Int)) = true := decide_eq_true (by omega)
 have hb3' : decide ((s : Int) ≤ 19) = true := decide_eq_true (by omega)
 rw [hb1', hb2', hb3', Bool.true_and, Bool.true_and] at HI
 have hsg : (true && a != 0) = true := by rw [Bool.true_and]; exact bne_iff_ne.2 ha0
 have HF := hid (fun w1 => FixNum_any (w := w1) true true a s ha hs hsg)
 have h100 : (10 : Nat) ^ s < 10 ^ 100 := Nat.pow_lt_pow_right (by omega) (by omega)
 have ha100 : a < 10 ^ 100 := Nat.lt_of_lt_of_le ha (Nat.pow_le_pow_right (by omega) (by omega))
 have HCM := hid (fun w1 (E : Option Addr) (k l : Nat) (G : Option Addr) (i j : Nat) (h : Chg (fun _ => False) w w1) (h1 : SN w1 E k l a) (h2 : SN w1 G i j (10 ^ s)) => (FracCmp_any true n2 h1 h2 (hb.kept h) (hy.kept h) ha100 hb1 h100 hy1))
 obtain ⟨v, hv⟩ : ∃ v : Int, (a : Int) = v := ⟨_, rfl⟩
 obtain ⟨s0, hs0⟩ : ∃ s0 : Int, (s : Int) = s0 := ⟨_, rfl⟩
 have hvz : (v == 0) = false := beq_eq_false_iff_ne.2 (by omega)
 have HP := hid hcmp
 rw [hv, hs0] at HI HF
 rw [hv, hs0]
 clear ha hs hcmp hb hy hb1 hy1 hb1' hb2' hb3' hsg h100 ha100 hv hs0 ha0
 have HC0 := hid (((Chg.refl (fun _ => False) w).alloc (.cells #[.bool true, .int .u64 v, .int .i64 s0] 24)).alloc (.cells #[.bool n2, .slice B m d, .slice D2 p2 q2] 34))
 have hB0 : ((w.alloc (.cells #[.bool true, .int .u64 v, .int .i64 s0] 24)).alloc (.cells #[.bool n2, .slice B m d, .slice D2 p2 q2] 34)).heap[w.heap.size]? = some (.cells #[.bool true, .int .u64 v, .int .i64 s0] 24 (0, 0)) := by
  rw [Below.heap_alloc _ _ _ (by simp)]
  have := heap_alloc_new w (.cells #[.bool true, .int .u64 v, .int .i64 s0] 24)
  simpa using this
 have hB1 : ((w.alloc (.cells #[.bool true, .int .u64 v, .int .i64 s0] 24)).alloc (.cells #[.bool n2, .slice B m d, .slice D2 p2 q2] 34)).heap[w.heap.size + 1]? = some (.cells #[.bool n2, .slice B m d, .slice D2 p2 q2] 34 (0, 0)) := by
  have := heap_alloc_new (w.alloc (.cells #[.bool true, .int .u64 v, .int .i64 s0] 24)) (.cells #[.bool n2, .slice B m d, .slice D2 p2 q2] 34)
  simpa using this
 have HSS := hid (fun w1 (h : Chg (fun _ => False) ((w.alloc (.cells #[.bool true, .int .u64 v, .int .i64 s0] 24)).alloc (.cells #[.bool n2, .slice B m d, .slice D2 p2 q2] 34)) w1) => (show w1.cell? ⟨w.heap.size, 0, none⟩ = some (.bool true) ∧ w1.cell? ⟨w.heap.size, 1, none⟩ = some (.int .u64 v) ∧ w1.cell? ⟨w.heap.size, 2, none⟩ = some (.int .i64 s0) ∧ w1.cell? ⟨w.heap.size + 1, 0, none⟩ = some (.bool n2) ∧ w1.cell? ⟨w.heap.size + 1, 1, none⟩ = some (.slice B m d) ∧ w1.cell? ⟨w.heap.size + 1, 2, none⟩ = some (.slice D2 p2 q2) from ⟨(cell3 (kept_heap h hB0)).1, (cell3 (kept_heap h hB0)).2.1, (cell3 (kept_heap h hB0)).2.2.1, (cell3 (kept_heap h hB1)).1, (cell3 (kept_heap h hB1)).2.1, (cell3 (kept_heap h hB1)).2.2.1⟩))
 have HD := hid (Chg.drew (Chg.refl (fun _ => False) ((w.alloc (.cells #[.bool true, .int .u64 v, .int .i64 s0] 24)).alloc (.cells #[.bool n2, .slice B m d, .slice D2 p2 q2] 34))))
 clear hB0 hB1
 have hk := HD.out
 go_enter Tryz.func48, Tryz.ntmps48
 go_wp2_with fail
 first | (go_region_held3 (fun w' => w'.cell? ⟨w.heap.size, 0, none⟩ = some (.bool true) ∧ w'.cell? ⟨w.heap.size, 1, none⟩ = some (.int .u64 v) ∧ w'.cell? ⟨w.heap.size, 2, none⟩ = some (.int .i64 s0) ∧ w'.cell? ⟨w.heap.size + 1, 0, none⟩ = some (.bool n2) ∧ w'.cell? ⟨w.heap.size + 1, 1, none⟩ = some (.slice B m d) ∧ w'.cell? ⟨w.heap.size + 1, 2, none⟩ = some (.slice D2 p2 q2)) (first | with_reducible exact HSS.out _ hk | go_keep) (first | (go_at_call 19; refine (HI.out _).mono ?_; intro e w1 h; obtain ⟨he, hc⟩ := h; subst he; replace hk := hk.trans hc sb_; skip; skip; clear hc) | (go_at_call 10; refine (HF.out _).mono ?_; intro e w1 h; obtain ⟨E1, k1_, l1_, E2, k2_, l2_, he, hs1, hs2, hc⟩ := h; subst he; replace hk := hk.trans hc sb_; skip; have HN1 := hid hs1; have HN2 := hid hs2; clear hs1 hs2; clear hc) | (go_at_call 70; refine (HCM.out _ _ _ _ _ _ _ (HC0.out.trans hk sb_) HN1.out HN2.out).mono ?_; intro e w1 h; obtain ⟨q, he, hq, hc⟩ := h; have hq0 := hq.2 HP.out; subst hq0; subst he; replace hk := hk.trans hc sb_; clear hc hq))) | fail
 all_goals (go_wp2_with fail; go_ret; exact ⟨rfl, HC0.out.trans hk sb_⟩)
set_option maxHeartbeats 2000000 in
theorem FixHas_pos {w : World} {B D2 : Option Addr} {m d p2 q2 a b s y : Nat} (n2 : Bool) (ha : a < 10 ^ 19) (hs : s ≤ 19) (hb : SN w B m d b) (hy : SN w D2 p2 q2 y) (hb1 : b < 10 ^ 100) (hy1 : y < 10 ^ 100)
  (hcmp : (false && a * y != 0) = (n2 && b * 10 ^ s != 0) ∧ a * y = b * 10 ^ s) :
  Calls Tryz.prog 48 #[.agg #[.bool false, .int .u64 (a : Int), .int .i64 (s : Int)], .agg #[.bool n2, .slice B m d, .slice D2 p2 q2]] w (PV w (.bool true)) := by
 have HI := hid (fun w => FixIs_any false (a : Int) (s : Int) w)
 have h19 : (10 : Nat) ^ 19 = 10000000000000000000 := by decide
 have hb1' : decide ((a : Int) ≤ 9999999999999999999) = true := decide_eq_true (by omega)
 clear h19
 have hb2' : decide ((0 : Int) ≤ (s : Int)) = true := decide_eq_true (by omega)
 have hb3' : decide ((s : Int) ≤ 19) = true := decide_eq_true (by omega)
 rw [hb1', hb2', hb3', Bool.true_and, Bool.true_and] at HI
 have hsg : (false && a != 0) = false := rfl
 have HF := hid (fun w1 => FixNum_any (w := w1) false false a s ha hs hsg)
 have h100 : (10 : Nat) ^ s < 10 ^ 100 := Nat.pow_lt_pow_right (by omega) (by omega)
 have ha100 : a < 10 ^ 100 := Nat.lt_of_lt_of_le ha (Nat.pow_le_pow_right (by omega) (by omega))
 have HCM := hid (fun w1 (E : Option Addr) (k l : Nat) (G : Option Addr) (i j : Nat) (h : Chg (fun _ => False) w w1) (h1 : SN w1 E k l a) (h2 : SN w1 G i j (10 ^ s)) => (FracCmp_any false n2 h1 h2 (hb.kept h) (hy.kept h) ha100 hb1 h100 hy1))
 obtain ⟨v, hv⟩ : ∃ v : Int, (a : Int) = v := ⟨_, rfl⟩
 obtain ⟨s0, hs0⟩ : ∃ s0 : Int, (s : Int) = s0 := ⟨_, rfl⟩
 have HP := hid hcmp
 rw [hv, hs0] at HI HF
 rw [hv, hs0]
 clear ha hs hcmp hb hy hb1 hy1 hb1' hb2' hb3' hsg h100 ha100 hv hs0
 have HC0 := hid (((Chg.refl (fun _ => False) w).alloc (.cells #[.bool false, .int .u64 v, .int .i64 s0] 24)).alloc (.cells #[.bool n2, .slice B m d, .slice D2 p2 q2] 34))
 have hB0 : ((w.alloc (.cells #[.bool false, .int .u64 v, .int .i64 s0] 24)).alloc (.cells #[.bool n2, .slice B m d, .slice D2 p2 q2] 34)).heap[w.heap.size]? = some (.cells #[.bool false, .int .u64 v, .int .i64 s0] 24 (0, 0)) := by
  rw [Below.heap_alloc _ _ _ (by simp)]
  have := heap_alloc_new w (.cells #[.bool false, .int .u64 v, .int .i64 s0] 24)
  simpa using this
 have hB1 : ((w.alloc (.cells #[.bool false, .int .u64 v, .int .i64 s0] 24)).alloc (.cells #[.bool n2, .slice B m d, .slice D2 p2 q2] 34)).heap[w.heap.size + 1]? = some (.cells #[.bool n2, .slice B m d, .slice D2 p2 q2] 34 (0, 0)) := by
  have := heap_alloc_new (w.alloc (.cells #[.bool false, .int .u64 v, .int .i64 s0] 24)) (.cells #[.bool n2, .slice B m d, .slice D2 p2 q2] 34)
  simpa using this
 have HSS := hid (fun w1 (h : Chg (fun _ => False) ((w.alloc (.cells #[.bool false, .int .u64 v, .int .i64 s0] 24)).alloc (.cells #[.bool n2, .slice B m d, .slice D2 p2 q2] 34)) w1) => (show w1.cell? ⟨w.heap.size, 0, none⟩ = some (.bool false) ∧ w1.cell? ⟨w.heap.size, 1, none⟩ = some (.int .u64 v) ∧ w1.cell? ⟨w.heap.size, 2, none⟩ = some (.int .i64 s0) ∧ w1.cell? ⟨w.heap.size + 1, 0, none⟩ = some (.bool n2) ∧ w1.cell? ⟨w.heap.size + 1, 1, none⟩ = some (.slice B m d) ∧ w1.cell? ⟨w.heap.size + 1, 2, none⟩ = some (.slice D2 p2 q2) from ⟨(cell3 (kept_heap h hB0)).1, (cell3 (kept_heap h hB0)).2.1, (cell3 (kept_heap h hB0)).2.2.1, (cell3 (kept_heap h hB1)).1, (cell3 (kept_heap h hB1)).2.1, (cell3 (kept_heap h hB1)).2.2.1⟩))
 have HD := hid (Chg.drew (Chg.refl (fun _ => False) ((w.alloc (.cells #[.bool false, .int .u64 v, .int .i64 s0] 24)).alloc (.cells #[.bool n2, .slice B m d, .slice D2 p2 q2] 34))))
 clear hB0 hB1
 have hk := HD.out
 obtain ⟨d0, d1, d2, d3, d4, d5⟩ := HSS.out _ (Chg.refl _ _)
 go_enter Tryz.func48, Tryz.ntmps48
 go_wp2_with fail
 first | (go_region_with (first | (go_at_call 19; refine (HI.out _).mono ?_; intro e w1 h; obtain ⟨he, hc⟩ := h; subst he; replace hk := hk.trans hc sb_; skip; skip; clear hc; clear d0 d1 d2 d3 d4 d5; obtain ⟨d0, d1, d2, d3, d4, d5⟩ := HSS.out _ hk) | (go_at_call 10; refine (HF.out _).mono ?_; intro e w1 h; obtain ⟨E1, k1_, l1_, E2, k2_, l2_, he, hs1, hs2, hc⟩ := h; subst he; replace hk := hk.trans hc sb_; skip; have HN1 := hid hs1; have HN2 := hid hs2; clear hs1 hs2; clear hc; clear d0 d1 d2 d3 d4 d5; obtain ⟨d0, d1, d2, d3, d4, d5⟩ := HSS.out _ hk) | (go_at_call 70; refine (HCM.out _ _ _ _ _ _ _ (HC0.out.trans hk sb_) HN1.out HN2.out).mono ?_; intro e w1 h; obtain ⟨q, he, hq, hc⟩ := h; have hq0 := hq.2 HP.out; subst hq0; subst he; replace hk := hk.trans hc sb_; clear hc hq; clear d0 d1 d2 d3 d4 d5; obtain ⟨d0, d1, d2, d3, d4, d5⟩ := HSS.out _ hk))) | fail
 all_goals (go_wp2_with fail; go_ret; exact ⟨rfl, HC0.out.trans hk sb_⟩)
end Go.Proofs.YtmpkgkjnoanlhaaGreatDoor
namespace Go.Proofs.YtmpkgkjnoanlhaaGreatDoor
open Go.RowKit Go.Proofs.YtmpkgkjnoanlhaaGreatDoorW.PrintWords Go.Proofs.YtmpkgkjnoanlhaaGreatDoorW.PrintLast Go.Proofs.YtmpkgkjnoanlhaaGreatDoorW.PrintMore PFnFixSubExact
set_option linter.unusedVariables false
set_option linter.unusedSimpArgs false
set_option maxRecDepth 20000
theorem rhe_up {N x : Nat} (h : x < 2 * (N % x) ∨ (x = 2 * (N % x) ∧ (N / x) % 2 = 1)) : rhe N x = N / x + 1 := by unfold rhe; rw [if_pos h]
theorem rhe_no {N x : Nat} (h : ¬ (x < 2 * (N % x) ∨ (x = 2 * (N % x) ∧ (N / x) % 2 = 1))) : rhe N x = N / x := by unfold rhe; rw [if_neg h]
theorem SN.head {w : World} {A : Option Addr} {n c a : Nat} (h : SN w A n c a) (h0 : 0 < n) : ∃ (ad : Addr) (y : Int), A = some ad ∧ 0 ≤ y ∧ y < 1000000000 ∧ y % 2 = (a : Int) % 2 ∧ w.cell? ad = some (.int .u32 y) := by
 obtain ⟨xs, rfl, h2, h3, h4⟩ := h
 obtain ⟨ad, e, hc⟩ := Kd.at_int h3 0 (by omega) (by omega)
 have hr : rd xs 0 = xs.getD 0 0 := rd_nat xs 0
 obtain ⟨b0, b1⟩ := h4.lms.getD 0
 refine ⟨ad, xs.getD 0 0, e, b0, b1, ?_, ?_⟩
 ·rw [← h4.val, ← List.drop_zero (l := xs), drop_get]
  simp only [List.drop_zero]
  omega
 ·rw [← hr]
  simpa [Addr.add] using hc
set_option maxHeartbeats 4000000 in
theorem Round_exact {w : World} {A D1 : Option Addr} {n c p1 q1 a x : Nat} (n1 sb : Bool) (p : Nat) (ha : SN w A n c a) (hx : SN w D1 p1 q1 x) (ha1 : a < 10 ^ 100) (hx1 : x < 10 ^ 100) (hx0 : 0 < x) (hp : p ≤ 19) (hr : (a * 10 ^ p) % x = 0) (hsb : (n1 && (a * 10 ^ p) / x != 0) = sb) :
  Calls Tryz.prog 45 #[.agg #[.bool n1, .slice A n c, .slice D1 p1 q1], .int .i64 (p : Int), .int .i64 5] w (PDN w sb ((a * 10 ^ p) / x) (-(p : Int))) := by
 have h19 : (10 : Nat) ^ p < 10 ^ 20 := Nat.pow_lt_pow_right (by omega) (by omega)
 have hN : a * 10 ^ p < 10 ^ (100 + 20) := mul100 ha1 h19
 have hNd : a * 10 ^ p < 10 ^ 207 := Nat.lt_of_lt_of_le hN (Nat.pow_le_pow_right (by omega) (by omega))
 have hR : (a * 10 ^ p) % x < 10 ^ 100 := Nat.lt_trans (Nat.mod_lt _ hx0) hx1
 have hRR : (a * 10 ^ p) % x + (a * 10 ^ p) % x < 10 ^ 243 := by
  have h1 : (10 : Nat) ^ 243 = 10 ^ 100 * 10 ^ 143 := by rw [← Nat.pow_add]
  have h2 : (2 : Nat) ≤ 10 ^ 143 := by decide
  rw [h1]
  have := Nat.mul_le_mul_left (10 ^ 100) h2
  omega
 have hQ : (a * 10 ^ p) / x < 10 ^ 243 := Nat.lt_of_le_of_lt (Nat.div_le_self _ _) (up243 hN (by omega))
 have HP := hid (fun w1 => Pow10_any (w := w1) p (by omega))
 have HM := hid (fun w1 (E : Option Addr) (k l : Nat) (h : Chg (fun _ => False) w w1) (h1 : SN w1 E k l (10 ^ p)) => NatMul_any (ha.kept h) h1 (up243 ha1 (by omega)) (up243 h19 (by omega)))
 have HDv := hid (fun w1 (E : Option Addr) (k l : Nat) (h : Chg (fun _ => False) w w1) (h1 : SN w1 E k l (a * 10 ^ p)) => NatDiv_any h1 (hx.kept h) hNd (Nat.lt_of_lt_of_le hx1 (Nat.pow_le_pow_right (by omega) (by omega))) hx0)
 have HA2 := hid (fun w1 (E : Option Addr) (k l : Nat) (h1 : SN w1 E k l ((a * 10 ^ p) % x)) => NatAdd_any h1 h1 (up243 hR (by omega)) (up243 hR (by omega)))
 have HCM := hid (fun w1 (E : Option Addr) (k l : Nat) (h : Chg (fun _ => False) w w1) (h1 : SN w1 E k l ((a * 10 ^ p) % x + (a * 10 ^ p) % x)) => NatCmp_any h1 (hx.kept h) hRR (up243 hx1 (by omega)))
 have HO := hid (fun w1 => one_any (w := w1))
 have HA1 := hid (fun w1 (E : Option Addr) (k l : Nat) (G : Option Addr) (i j : Nat) (h1 : SN w1 E k l ((a * 10 ^ p) / x)) (h2 : SN w1 G i j 1) => NatAdd_any h1 h2 hQ (by decide))
 have HH := hid hsb
 obtain ⟨e0, he0⟩ : ∃ e0 : Int, -(p : Int) = e0 := ⟨_, rfl⟩
 have hw : IntKind.i64.wrap (-(p : Int)) = e0 := by rw [← he0]; exact IntWalk.i64_in _ (by omega)
 have hge : (0 : Int) ≤ (p : Int) := by omega
 rw [he0]
 have HR0 := hid hr
 clear he0 hsb ha hx ha1 hx1 hx0 hp h19 hN hNd hR hRR hQ hr
 generalize 10 ^ p = T at *
 generalize a * T = N at *
 have HC0 := hid (((Chg.refl (fun _ => False) w).alloc (.cells #[.bool n1, .slice A n c, .slice D1 p1 q1] 34)).alloc (.cells #[.bool false, .slice none 0 0, .int .i64 0] 57))
 have hB0 : ((w.alloc (.cells #[.bool n1, .slice A n c, .slice D1 p1 q1] 34)).alloc (.cells #[.bool false, .slice none 0 0, .int .i64 0] 57)).heap[w.heap.size]? = some (.cells #[.bool n1, .slice A n c, .slice D1 p1 q1] 34 (0, 0)) := by
  rw [Below.heap_alloc _ _ _ (by simp)]
  have := heap_alloc_new w (.cells #[.bool n1, .slice A n c, .slice D1 p1 q1] 34)
  simpa using this
 have hB1 : ((w.alloc (.cells #[.bool n1, .slice A n c, .slice D1 p1 q1] 34)).alloc (.cells #[.bool false, .slice none 0 0, .int .i64 0] 57)).heap[w.heap.size + 1]? = some (.cells #[.bool false, .slice none 0 0, .int .i64 0] 57 (0, 0)) := by
  have := heap_alloc_new (w.alloc (.cells #[.bool n1, .slice A n c, .slice D1 p1 q1] 34)) (.cells #[.bool false, .slice none 0 0, .int .i64 0] 57)
  simpa using this
 have HZ := hid hB1
 have HSS := hid (fun w1 (h : Chg (fun _ => False) ((w.alloc (.cells #[.bool n1, .slice A n c, .slice D1 p1 q1] 34)).alloc (.cells #[.bool false, .slice none 0 0, .int .i64 0] 57)) w1) => (show w1.cell? ⟨w.heap.size, 0, none⟩ = some (.bool n1) ∧ w1.cell? ⟨w.heap.size, 1, none⟩ = some (.slice A n c) ∧ w1.cell? ⟨w.heap.size, 2, none⟩ = some (.slice D1 p1 q1) from ⟨(cell3 (kept_heap h hB0)).1, (cell3 (kept_heap h hB0)).2.1, (cell3 (kept_heap h hB0)).2.2.1⟩))
 have HST := hid (fun w1 (x0 x1 x2 : Value) (h : Chg (fun _ => False) ((w.alloc (.cells #[.bool n1, .slice A n c, .slice D1 p1 q1] 34)).alloc (.cells #[.bool false, .slice none 0 0, .int .i64 0] 57)) w1) => (show (((w1.setCell ⟨w.heap.size + 1, 0, none⟩ x0).setCell ⟨w.heap.size + 1, 1, none⟩ x1).setCell ⟨w.heap.size + 1, 2, none⟩ x2).cell? ⟨w.heap.size, 0, none⟩ = some (.bool n1) ∧ (((w1.setCell ⟨w.heap.size + 1, 0, none⟩ x0).setCell ⟨w.heap.size + 1, 1, none⟩ x1).setCell ⟨w.heap.size + 1, 2, none⟩ x2).cell? ⟨w.heap.size, 1, none⟩ = some (.slice A n c) ∧ (((w1.setCell ⟨w.heap.size + 1, 0, none⟩ x0).setCell ⟨w.heap.size + 1, 1, none⟩ x1).setCell ⟨w.heap.size + 1, 2, none⟩ x2).cell? ⟨w.heap.size, 2, none⟩ = some (.slice D1 p1 q1) from by
  have hh := HSS.out w1 h
  refine ⟨?_, ?_, ?_⟩ <;> (repeat rw [far_cell (by omega)])
  ·exact hh.1
  ·exact hh.2.1
  ·exact hh.2.2))
 have HD := hid (Chg.drew (Chg.refl (fun _ => False) ((w.alloc (.cells #[.bool n1, .slice A n c, .slice D1 p1 q1] 34)).alloc (.cells #[.bool false, .slice none 0 0, .int .i64 0] 57))))
 clear hB0 hB1
 have hk := Chg.refl (fun _ => False) ((w.alloc (.cells #[.bool n1, .slice A n c, .slice D1 p1 q1] 34)).alloc (.cells #[.bool false, .slice none 0 0, .int .i64 0] 57))
 go_enter Tryz.func45, Tryz.ntmps45
 go_wp2_with fail
 have hk := hk.drew
 first | (go_region_held3 (fun w' => w'.cell? ⟨w.heap.size, 0, none⟩ = some (.bool n1) ∧ w'.cell? ⟨w.heap.size, 1, none⟩ = some (.slice A n c) ∧ w'.cell? ⟨w.heap.size, 2, none⟩ = some (.slice D1 p1 q1)) (first | with_reducible exact HSS.out _ hk | with_reducible exact HST.out _ _ _ _ hk | go_keep) (first | fail)) | fail
 go_wp2_with (first | (go_at_call 51; refine (HP.out _).mono ?_; intro e w1 h; obtain ⟨E1, k1_, l1_, he, hsn, hc⟩ := h; subst he; replace hk := hk.trans hc sb_; skip; have HN1 := hid hsn; clear hsn; clear hc; obtain ⟨k0, k1, k2, f0, f1, f2⟩ := cell3 (kept_heap hk HZ.out)) | (go_at_call 34; refine (HM.out _ _ _ _ (HC0.out.trans hk sb_) HN1.out).mono ?_; intro e w1 h; obtain ⟨E2, k2_, l2_, he, hsn, hc⟩ := h; subst he; replace hk := hk.trans hc sb_; skip; have HN2 := hid hsn; clear hsn; clear hc; obtain ⟨k0, k1, k2, f0, f1, f2⟩ := cell3 (kept_heap hk HZ.out)))
 go_at_call 67
 refine (HDv.out _ _ _ _ (HC0.out.trans hk sb_) HN2.out).mono ?_
 intro e w1 h
 obtain ⟨EQ, kq, lq, ER, kr, lr, he, hs1, hs2, hc⟩ := h
 subst he
 replace hk := hk.trans hc sb_
 clear hc
 obtain ⟨k0, k1, k2, f0, f1, f2⟩ := cell3 (kept_heap hk HZ.out)
 have hkr : kr = 0 := hs2.zero.2 HR0.out
 subst hkr
 obtain ⟨d0, d1, d2⟩ := HSS.out _ hk
 have HQ := hid hs1
 have HR := hid hs2
 clear hs1 hs2
 go_wp2_with fail
 go_quiet (fail)
 all_goals (go_wp2_with (first | (go_at_call 49; refine (wholeOf_sn n1 sb (HQ.out.kept ((Chg.refl _ _).drewN _)) HH.out).mono ?_; intro e w2 h; obtain ⟨he, hc⟩ := h; subst he; replace HQ := hid (HQ.out.kept (((Chg.refl (fun _ => False) _).drewN _).trans hc sb_)); replace hk := (hk.drewN _).trans hc sb_; clear hc; obtain ⟨k0, k1, k2, f0, f1, f2⟩ := cell3 (kept_heap hk HZ.out))); refine bodyPost_ret (v := .agg #[.bool sb, .slice EQ kq lq, .int .i64 e0]) (by rw [results_cell_row rfl _ _ (w.heap.size + 1) _ _ _ _ rfl (store3 (kept_heap hk HZ.out) _ _ _) Tryz.underlying57 rfl sdec_size]) rfl ⟨_, _, _, rfl, sn_end3 HQ.out (kept_heap hk HZ.out) (by simp) _ _ _, chg3 (HC0.out.trans hk sb_) (by omega) _ _ _⟩)
theorem odd_cast (a : Nat) : ((a : Int) % 2 == 1) = (a % 2 == 1) := by
 by_cases h : a % 2 = 1
 ·have h2 : (a : Int) % 2 = 1 := by omega
  rw [h, h2]; rfl
 ·have h2 : (a : Int) % 2 = 0 := by omega
  have h3 : a % 2 = 0 := by omega
  rw [h3, h2]; rfl
theorem cell_kept2 {w w' : World} {ad : Addr} {v : Value} (h : w.cell? ad = some v) (hc : Chg (fun _ => False) w w') : w'.cell? ad = some v := by
 have hl := World.block_lt_of_cell? w _ h
 unfold World.cell? at *
 rw [hc.keep _ hl (fun h => h)]; exact h
theorem cmpN_pos (a b : Nat) : (0 < cmpN a b) ↔ b < a := by
 unfold cmpN
 by_cases h1 : a < b
 ·rw [if_pos h1]; omega
 ·rw [if_neg h1]
  by_cases h2 : a = b
  ·rw [if_pos h2]; omega
  ·rw [if_neg h2]; omega
theorem round_yes (R x Q : Nat) (h : x < 2 * R ∨ (x = 2 * R ∧ Q % 2 = 1)) : (decide (0 < cmpN (R + R) x) || (cmpN (R + R) x == 0 && (Q % 2 == 1))) = true := by
 rcases h with h | ⟨h1, h2⟩
 ·have : 0 < cmpN (R + R) x := (cmpN_pos _ _).2 (by omega)
  simp [this]
 ·have : cmpN (R + R) x = 0 := (cmpN_zero _ _).2 (by omega)
  simp [this, h2]
theorem round_not (R x Q : Nat) (h : ¬ (x < 2 * R ∨ (x = 2 * R ∧ Q % 2 = 1))) : (decide (0 < cmpN (R + R) x) || (cmpN (R + R) x == 0 && (Q % 2 == 1))) = false := by
 have h1 : ¬ 0 < cmpN (R + R) x := fun h2 => h (.inl (by have := (cmpN_pos _ _).1 h2; omega))
 by_cases h3 : cmpN (R + R) x = 0
 ·have h4 := (cmpN_zero _ _).1 h3
  have h5 : ¬ Q % 2 = 1 := fun h6 => h (.inr ⟨by omega, h6⟩)
  simp [h3, h5]
 ·simp [h1, h3]
set_option maxHeartbeats 4000000 in
theorem Round_qup {w : World} {A D1 : Option Addr} {n c p1 q1 a x : Nat} (n1 sb : Bool) (p : Nat) (ha : SN w A n c a) (hx : SN w D1 p1 q1 x) (ha1 : a < 10 ^ 100) (hx1 : x < 10 ^ 100) (hx0 : 0 < x) (hp : p ≤ 19) (hr : (a * 10 ^ p) % x ≠ 0) (hq : (a * 10 ^ p) / x ≠ 0) (hup : (x < 2 * ((a * 10 ^ p) % x) ∨ (x = 2 * ((a * 10 ^ p) % x) ∧ ((a * 10 ^ p) / x) % 2 = 1))) (hsb : (n1 && ((a * 10 ^ p) / x + 1) != 0) = sb) :
  Calls Tryz.prog 45 #[.agg #[.bool n1, .slice A n c, .slice D1 p1 q1], .int .i64 (p : Int), .int .i64 5] w (PDN w sb (((a * 10 ^ p) / x + 1)) (-(p : Int))) := by
 have h19 : (10 : Nat) ^ p < 10 ^ 20 := Nat.pow_lt_pow_right (by omega) (by omega)
 have hN : a * 10 ^ p < 10 ^ (100 + 20) := mul100 ha1 h19
 have hNd : a * 10 ^ p < 10 ^ 207 := Nat.lt_of_lt_of_le hN (Nat.pow_le_pow_right (by omega) (by omega))
 have hR : (a * 10 ^ p) % x < 10 ^ 100 := Nat.lt_trans (Nat.mod_lt _ hx0) hx1
 have hRR : (a * 10 ^ p) % x + (a * 10 ^ p) % x < 10 ^ 243 := by
  have h1 : (10 : Nat) ^ 243 = 10 ^ 100 * 10 ^ 143 := by rw [← Nat.pow_add]
  have h2 : (2 : Nat) ≤ 10 ^ 143 := by decide
  rw [h1]
  have := Nat.mul_le_mul_left (10 ^ 100) h2
  omega
 have hQ : (a * 10 ^ p) / x < 10 ^ 243 := Nat.lt_of_le_of_lt (Nat.div_le_self _ _) (up243 hN (by omega))
 have HP := hid (fun w1 => Pow10_any (w := w1) p (by omega))
 have HM := hid (fun w1 (E : Option Addr) (k l : Nat) (h : Chg (fun _ => False) w w1) (h1 : SN w1 E k l (10 ^ p)) => NatMul_any (ha.kept h) h1 (up243 ha1 (by omega)) (up243 h19 (by omega)))
 have HDv := hid (fun w1 (E : Option Addr) (k l : Nat) (h : Chg (fun _ => False) w w1) (h1 : SN w1 E k l (a * 10 ^ p)) => NatDiv_any h1 (hx.kept h) hNd (Nat.lt_of_lt_of_le hx1 (Nat.pow_le_pow_right (by omega) (by omega))) hx0)
 have HA2 := hid (fun w1 (E : Option Addr) (k l : Nat) (h1 : SN w1 E k l ((a * 10 ^ p) % x)) => NatAdd_any h1 h1 (up243 hR (by omega)) (up243 hR (by omega)))
 have HCM := hid (fun w1 (E : Option Addr) (k l : Nat) (h : Chg (fun _ => False) w w1) (h1 : SN w1 E k l ((a * 10 ^ p) % x + (a * 10 ^ p) % x)) => NatCmp_any h1 (hx.kept h) hRR (up243 hx1 (by omega)))
 have HO := hid (fun w1 => one_any (w := w1))
 have HA1 := hid (fun w1 (E : Option Addr) (k l : Nat) (G : Option Addr) (i j : Nat) (h1 : SN w1 E k l ((a * 10 ^ p) / x)) (h2 : SN w1 G i j 1) => NatAdd_any h1 h2 hQ (by decide))
 have HH := hid hsb
 obtain ⟨e0, he0⟩ : ∃ e0 : Int, -(p : Int) = e0 := ⟨_, rfl⟩
 have hw : IntKind.i64.wrap (-(p : Int)) = e0 := by rw [← he0]; exact IntWalk.i64_in _ (by omega)
 have hge : (0 : Int) ≤ (p : Int) := by omega
 rw [he0]
 have HR0 := hid hr
 have HQ0 := hid hq
 obtain ⟨ob, hob⟩ : ∃ ob, ((a * 10 ^ p) / x % 2 == 1) = ob := ⟨_, rfl⟩
 have hub : (decide (0 < cmpN ((a * 10 ^ p) % x + (a * 10 ^ p) % x) x) || (cmpN ((a * 10 ^ p) % x + (a * 10 ^ p) % x) x == 0 && ob)) = true := by
  rw [← hob]
  exact round_yes _ _ _ hup
 have HRD := hid (fun w => rounds_any n1 ob (cmpN ((a * 10 ^ p) % x + (a * 10 ^ p) % x) x) w)
 rw [hub] at HRD
 have HOB := hid hob
 generalize cmpN ((a * 10 ^ p) % x + (a * 10 ^ p) % x) x = cq at *
 clear he0 hsb ha hx ha1 hx1 hx0 hp h19 hN hNd hR hRR hQ hr hq hup hub hob
 generalize 10 ^ p = T at *
 generalize a * T = N at *
 have HC0 := hid (((Chg.refl (fun _ => False) w).alloc (.cells #[.bool n1, .slice A n c, .slice D1 p1 q1] 34)).alloc (.cells #[.bool false, .slice none 0 0, .int .i64 0] 57))
 have hB0 : ((w.alloc (.cells #[.bool n1, .slice A n c, .slice D1 p1 q1] 34)).alloc (.cells #[.bool false, .slice none 0 0, .int .i64 0] 57)).heap[w.heap.size]? = some (.cells #[.bool n1, .slice A n c, .slice D1 p1 q1] 34 (0, 0)) := by
  rw [Below.heap_alloc _ _ _ (by simp)]
  have := heap_alloc_new w (.cells #[.bool n1, .slice A n c, .slice D1 p1 q1] 34)
  simpa using this
 have hB1 : ((w.alloc (.cells #[.bool n1, .slice A n c, .slice D1 p1 q1] 34)).alloc (.cells #[.bool false, .slice none 0 0, .int .i64 0] 57)).heap[w.heap.size + 1]? = some (.cells #[.bool false, .slice none 0 0, .int .i64 0] 57 (0, 0)) := by
  have := heap_alloc_new (w.alloc (.cells #[.bool n1, .slice A n c, .slice D1 p1 q1] 34)) (.cells #[.bool false, .slice none 0 0, .int .i64 0] 57)
  simpa using this
 have HZ := hid hB1
 have HSS := hid (fun w1 (h : Chg (fun _ => False) ((w.alloc (.cells #[.bool n1, .slice A n c, .slice D1 p1 q1] 34)).alloc (.cells #[.bool false, .slice none 0 0, .int .i64 0] 57)) w1) => (show w1.cell? ⟨w.heap.size, 0, none⟩ = some (.bool n1) ∧ w1.cell? ⟨w.heap.size, 1, none⟩ = some (.slice A n c) ∧ w1.cell? ⟨w.heap.size, 2, none⟩ = some (.slice D1 p1 q1) from ⟨(cell3 (kept_heap h hB0)).1, (cell3 (kept_heap h hB0)).2.1, (cell3 (kept_heap h hB0)).2.2.1⟩))
 have HST := hid (fun w1 (x0 x1 x2 : Value) (h : Chg (fun _ => False) ((w.alloc (.cells #[.bool n1, .slice A n c, .slice D1 p1 q1] 34)).alloc (.cells #[.bool false, .slice none 0 0, .int .i64 0] 57)) w1) => (show (((w1.setCell ⟨w.heap.size + 1, 0, none⟩ x0).setCell ⟨w.heap.size + 1, 1, none⟩ x1).setCell ⟨w.heap.size + 1, 2, none⟩ x2).cell? ⟨w.heap.size, 0, none⟩ = some (.bool n1) ∧ (((w1.setCell ⟨w.heap.size + 1, 0, none⟩ x0).setCell ⟨w.heap.size + 1, 1, none⟩ x1).setCell ⟨w.heap.size + 1, 2, none⟩ x2).cell? ⟨w.heap.size, 1, none⟩ = some (.slice A n c) ∧ (((w1.setCell ⟨w.heap.size + 1, 0, none⟩ x0).setCell ⟨w.heap.size + 1, 1, none⟩ x1).setCell ⟨w.heap.size + 1, 2, none⟩ x2).cell? ⟨w.heap.size, 2, none⟩ = some (.slice D1 p1 q1) from by
  have hh := HSS.out w1 h
  refine ⟨?_, ?_, ?_⟩ <;> (repeat rw [far_cell (by omega)])
  ·exact hh.1
  ·exact hh.2.1
  ·exact hh.2.2))
 have HD := hid (Chg.drew (Chg.refl (fun _ => False) ((w.alloc (.cells #[.bool n1, .slice A n c, .slice D1 p1 q1] 34)).alloc (.cells #[.bool false, .slice none 0 0, .int .i64 0] 57))))
 clear hB0 hB1
 have hk := Chg.refl (fun _ => False) ((w.alloc (.cells #[.bool n1, .slice A n c, .slice D1 p1 q1] 34)).alloc (.cells #[.bool false, .slice none 0 0, .int .i64 0] 57))
 go_enter Tryz.func45, Tryz.ntmps45
 go_wp2_with fail
 have hk := hk.drew
 first | (go_region_held3 (fun w' => w'.cell? ⟨w.heap.size, 0, none⟩ = some (.bool n1) ∧ w'.cell? ⟨w.heap.size, 1, none⟩ = some (.slice A n c) ∧ w'.cell? ⟨w.heap.size, 2, none⟩ = some (.slice D1 p1 q1)) (first | with_reducible exact HSS.out _ hk | with_reducible exact HST.out _ _ _ _ hk | go_keep) (first | fail)) | fail
 go_wp2_with (first | (go_at_call 51; refine (HP.out _).mono ?_; intro e w1 h; obtain ⟨E1, k1_, l1_, he, hsn, hc⟩ := h; subst he; replace hk := hk.trans hc sb_; skip; have HN1 := hid hsn; clear hsn; clear hc; obtain ⟨k0, k1, k2, f0, f1, f2⟩ := cell3 (kept_heap hk HZ.out)) | (go_at_call 34; refine (HM.out _ _ _ _ (HC0.out.trans hk sb_) HN1.out).mono ?_; intro e w1 h; obtain ⟨E2, k2_, l2_, he, hsn, hc⟩ := h; subst he; replace hk := hk.trans hc sb_; skip; have HN2 := hid hsn; clear hsn; clear hc; obtain ⟨k0, k1, k2, f0, f1, f2⟩ := cell3 (kept_heap hk HZ.out)))
 go_at_call 67
 refine (HDv.out _ _ _ _ (HC0.out.trans hk sb_) HN2.out).mono ?_
 intro e w1 h
 obtain ⟨EQ, kq, lq, ER, kr, lr, he, hs1, hs2, hc⟩ := h
 subst he
 replace hk := hk.trans hc sb_
 clear hc
 obtain ⟨k0, k1, k2, f0, f1, f2⟩ := cell3 (kept_heap hk HZ.out)
 have hkr : 0 < kr := Nat.pos_of_ne_zero (fun h => HR0.out (hs2.zero.1 h))
 have hkq : 0 < kq := Nat.pos_of_ne_zero (fun h => HQ0.out (hs1.zero.1 h))
 obtain ⟨ad, y, hea, hy0, hy1, hy2, hyc⟩ := hs1.head hkq
 subst hea
 have hyb : (Int.tmod y 2 == 1) = ob := by (rw [← HOB.out, Int.tmod_eq_emod_of_nonneg hy0, hy2]; exact odd_cast _)
 have HYC := hid (fun w2 (h : Chg (fun _ => False) w1 w2) => cell_kept2 hyc h)
 clear hyc hy2
 have hw6 := Chg.refl (fun _ => False) w1
 obtain ⟨d0, d1, d2⟩ := HSS.out _ hk
 have HQ := hid hs1
 have HR := hid hs2
 clear hs1 hs2
 go_wp2_with fail
 have hk := hk.drew
 have hw6 := hw6.drew
 replace HQ := hid (HQ.out.kept (Chg.refl (fun _ => False) w1).drew)
 replace HR := hid (HR.out.kept (Chg.refl (fun _ => False) w1).drew)
 have HS6 := hid (fun w2 (h1 : Chg (fun _ => False) ((w.alloc (.cells #[.bool n1, .slice A n c, .slice D1 p1 q1] 34)).alloc (.cells #[.bool false, .slice none 0 0, .int .i64 0] 57)) w2) (h2 : Chg (fun _ => False) w1 w2) => (show w2.cell? ⟨w.heap.size, 0, none⟩ = some (.bool n1) ∧ w2.cell? ⟨w.heap.size, 1, none⟩ = some (.slice A n c) ∧ w2.cell? ⟨w.heap.size, 2, none⟩ = some (.slice D1 p1 q1) ∧ w2.cell? ad = some (.int .u32 y) from ⟨(HSS.out _ h1).1, (HSS.out _ h1).2.1, (HSS.out _ h1).2.2, HYC.out _ h2⟩))
 first | (go_region_held3 (fun w' => w'.cell? ⟨w.heap.size, 0, none⟩ = some (.bool n1) ∧ w'.cell? ⟨w.heap.size, 1, none⟩ = some (.slice A n c) ∧ w'.cell? ⟨w.heap.size, 2, none⟩ = some (.slice D1 p1 q1) ∧ w'.cell? ad = some (.int .u32 y)) (first | with_reducible exact HS6.out _ hk hw6) (first | (go_at_call 57; refine (HA2.out _ _ _ _ HR.out).mono ?_; intro e w1 h; obtain ⟨E5, k5_, l5_, he, hsn, hc⟩ := h; subst he; replace hk := hk.trans hc sb_; (try replace HQ := hid (HQ.out.kept hc)); (try replace HR := hid (HR.out.kept hc)); (try replace HN5 := hid (HN5.out.kept hc)); (try replace HN6 := hid (HN6.out.kept hc)); (try replace HN7 := hid (HN7.out.kept hc)); replace hw6 := hw6.trans hc sb_; have HN5 := hid hsn; clear hsn; clear hc; obtain ⟨k0, k1, k2, f0, f1, f2⟩ := cell3 (kept_heap hk HZ.out)) | (go_at_call 58; refine (HCM.out _ _ _ _ (HC0.out.trans hk sb_) HN5.out).mono ?_; intro e w1 h; obtain ⟨he, hc⟩ := h; subst he; replace hk := hk.trans hc sb_; (try replace HQ := hid (HQ.out.kept hc)); (try replace HR := hid (HR.out.kept hc)); (try replace HN5 := hid (HN5.out.kept hc)); (try replace HN6 := hid (HN6.out.kept hc)); (try replace HN7 := hid (HN7.out.kept hc)); replace hw6 := hw6.trans hc sb_; skip; clear hc; obtain ⟨k0, k1, k2, f0, f1, f2⟩ := cell3 (kept_heap hk HZ.out)) | (go_at_call 68; refine (HRD.out _).mono ?_; intro e w1 h; obtain ⟨he, hc⟩ := h; subst he; replace hk := hk.trans hc sb_; (try replace HQ := hid (HQ.out.kept hc)); (try replace HR := hid (HR.out.kept hc)); (try replace HN5 := hid (HN5.out.kept hc)); (try replace HN6 := hid (HN6.out.kept hc)); (try replace HN7 := hid (HN7.out.kept hc)); replace hw6 := hw6.trans hc sb_; skip; clear hc; obtain ⟨k0, k1, k2, f0, f1, f2⟩ := cell3 (kept_heap hk HZ.out)))) | fail
 all_goals (go_wp2_with (first | (go_at_call 52; refine (HO.out _).mono ?_; intro e w1 h; obtain ⟨E6, k6_, l6_, he, hsn, hc⟩ := h; subst he; replace hk := hk.trans hc sb_; (try replace HQ := hid (HQ.out.kept hc)); (try replace HR := hid (HR.out.kept hc)); (try replace HN5 := hid (HN5.out.kept hc)); (try replace HN6 := hid (HN6.out.kept hc)); (try replace HN7 := hid (HN7.out.kept hc)); have HN6 := hid hsn; clear hsn; clear hc; obtain ⟨k0, k1, k2, f0, f1, f2⟩ := cell3 (kept_heap hk HZ.out); obtain ⟨d0, d1, d2⟩ := HSS.out _ hk) | (go_at_call 57; refine (HA1.out _ _ _ _ _ _ _ HQ.out HN6.out).mono ?_; intro e w1 h; obtain ⟨E7, k7_, l7_, he, hsn, hc⟩ := h; subst he; replace hk := hk.trans hc sb_; (try replace HQ := hid (HQ.out.kept hc)); (try replace HR := hid (HR.out.kept hc)); (try replace HN5 := hid (HN5.out.kept hc)); (try replace HN6 := hid (HN6.out.kept hc)); (try replace HN7 := hid (HN7.out.kept hc)); have HN7 := hid hsn; clear hsn; clear hc; obtain ⟨k0, k1, k2, f0, f1, f2⟩ := cell3 (kept_heap hk HZ.out); obtain ⟨d0, d1, d2⟩ := HSS.out _ hk) | (go_at_call 49; refine (wholeOf_sn n1 sb HN7.out HH.out).mono ?_; intro e w1 h; obtain ⟨he, hc⟩ := h; subst he; replace hk := hk.trans hc sb_; (try replace HQ := hid (HQ.out.kept hc)); (try replace HR := hid (HR.out.kept hc)); (try replace HN5 := hid (HN5.out.kept hc)); (try replace HN6 := hid (HN6.out.kept hc)); (try replace HN7 := hid (HN7.out.kept hc)); skip; clear hc; obtain ⟨k0, k1, k2, f0, f1, f2⟩ := cell3 (kept_heap hk HZ.out))); refine bodyPost_ret (v := .agg #[.bool sb, .slice E7 k7_ l7_, .int .i64 e0]) (by rw [results_cell_row rfl _ _ (w.heap.size + 1) _ _ _ _ rfl (store3 (kept_heap hk HZ.out) _ _ _) Tryz.underlying57 rfl sdec_size]) rfl ⟨_, _, _, rfl, sn_end3 HN7.out (kept_heap hk HZ.out) (by simp) _ _ _, chg3 (HC0.out.trans hk sb_) (by omega) _ _ _⟩)
set_option maxHeartbeats 4000000 in
theorem Round_qno {w : World} {A D1 : Option Addr} {n c p1 q1 a x : Nat} (n1 sb : Bool) (p : Nat) (ha : SN w A n c a) (hx : SN w D1 p1 q1 x) (ha1 : a < 10 ^ 100) (hx1 : x < 10 ^ 100) (hx0 : 0 < x) (hp : p ≤ 19) (hr : (a * 10 ^ p) % x ≠ 0) (hq : (a * 10 ^ p) / x ≠ 0) (hup : ¬ (x < 2 * ((a * 10 ^ p) % x) ∨ (x = 2 * ((a * 10 ^ p) % x) ∧ ((a * 10 ^ p) / x) % 2 = 1))) (hsb : (n1 && (a * 10 ^ p) / x != 0) = sb) :
  Calls Tryz.prog 45 #[.agg #[.bool n1, .slice A n c, .slice D1 p1 q1], .int .i64 (p : Int), .int .i64 5] w (PDN w sb ((a * 10 ^ p) / x) (-(p : Int))) := by
 have h19 : (10 : Nat) ^ p < 10 ^ 20 := Nat.pow_lt_pow_right (by omega) (by omega)
 have hN : a * 10 ^ p < 10 ^ (100 + 20) := mul100 ha1 h19
 have hNd : a * 10 ^ p < 10 ^ 207 := Nat.lt_of_lt_of_le hN (Nat.pow_le_pow_right (by omega) (by omega))
 have hR : (a * 10 ^ p) % x < 10 ^ 100 := Nat.lt_trans (Nat.mod_lt _ hx0) hx1
 have hRR : (a * 10 ^ p) % x + (a * 10 ^ p) % x < 10 ^ 243 := by
  have h1 : (10 : Nat) ^ 243 = 10 ^ 100 * 10 ^ 143 := by rw [← Nat.pow_add]
  have h2 : (2 : Nat) ≤ 10 ^ 143 := by decide
  rw [h1]
  have := Nat.mul_le_mul_left (10 ^ 100) h2
  omega
 have hQ : (a * 10 ^ p) / x < 10 ^ 243 := Nat.lt_of_le_of_lt (Nat.div_le_self _ _) (up243 hN (by omega))
 have HP := hid (fun w1 => Pow10_any (w := w1) p (by omega))
 have HM := hid (fun w1 (E : Option Addr) (k l : Nat) (h : Chg (fun _ => False) w w1) (h1 : SN w1 E k l (10 ^ p)) => NatMul_any (ha.kept h) h1 (up243 ha1 (by omega)) (up243 h19 (by omega)))
 have HDv := hid (fun w1 (E : Option Addr) (k l : Nat) (h : Chg (fun _ => False) w w1) (h1 : SN w1 E k l (a * 10 ^ p)) => NatDiv_any h1 (hx.kept h) hNd (Nat.lt_of_lt_of_le hx1 (Nat.pow_le_pow_right (by omega) (by omega))) hx0)
 have HA2 := hid (fun w1 (E : Option Addr) (k l : Nat) (h1 : SN w1 E k l ((a * 10 ^ p) % x)) => NatAdd_any h1 h1 (up243 hR (by omega)) (up243 hR (by omega)))
 have HCM := hid (fun w1 (E : Option Addr) (k l : Nat) (h : Chg (fun _ => False) w w1) (h1 : SN w1 E k l ((a * 10 ^ p) % x + (a * 10 ^ p) % x)) => NatCmp_any h1 (hx.kept h) hRR (up243 hx1 (by omega)))
 have HO := hid (fun w1 => one_any (w := w1))
 have HA1 := hid (fun w1 (E : Option Addr) (k l : Nat) (G : Option Addr) (i j : Nat) (h1 : SN w1 E k l ((a * 10 ^ p) / x)) (h2 : SN w1 G i j 1) => NatAdd_any h1 h2 hQ (by decide))
 have HH := hid hsb
 obtain ⟨e0, he0⟩ : ∃ e0 : Int, -(p : Int) = e0 := ⟨_, rfl⟩
 have hw : IntKind.i64.wrap (-(p : Int)) = e0 := by rw [← he0]; exact IntWalk.i64_in _ (by omega)
 have hge : (0 : Int) ≤ (p : Int) := by omega
 rw [he0]
 have HR0 := hid hr
 have HQ0 := hid hq
 obtain ⟨ob, hob⟩ : ∃ ob, ((a * 10 ^ p) / x % 2 == 1) = ob := ⟨_, rfl⟩
 have hub : (decide (0 < cmpN ((a * 10 ^ p) % x + (a * 10 ^ p) % x) x) || (cmpN ((a * 10 ^ p) % x + (a * 10 ^ p) % x) x == 0 && ob)) = false := by
  rw [← hob]
  exact round_not _ _ _ hup
 have HRD := hid (fun w => rounds_any n1 ob (cmpN ((a * 10 ^ p) % x + (a * 10 ^ p) % x) x) w)
 rw [hub] at HRD
 have HOB := hid hob
 generalize cmpN ((a * 10 ^ p) % x + (a * 10 ^ p) % x) x = cq at *
 clear he0 hsb ha hx ha1 hx1 hx0 hp h19 hN hNd hR hRR hQ hr hq hup hub hob
 generalize 10 ^ p = T at *
 generalize a * T = N at *
 have HC0 := hid (((Chg.refl (fun _ => False) w).alloc (.cells #[.bool n1, .slice A n c, .slice D1 p1 q1] 34)).alloc (.cells #[.bool false, .slice none 0 0, .int .i64 0] 57))
 have hB0 : ((w.alloc (.cells #[.bool n1, .slice A n c, .slice D1 p1 q1] 34)).alloc (.cells #[.bool false, .slice none 0 0, .int .i64 0] 57)).heap[w.heap.size]? = some (.cells #[.bool n1, .slice A n c, .slice D1 p1 q1] 34 (0, 0)) := by
  rw [Below.heap_alloc _ _ _ (by simp)]
  have := heap_alloc_new w (.cells #[.bool n1, .slice A n c, .slice D1 p1 q1] 34)
  simpa using this
 have hB1 : ((w.alloc (.cells #[.bool n1, .slice A n c, .slice D1 p1 q1] 34)).alloc (.cells #[.bool false, .slice none 0 0, .int .i64 0] 57)).heap[w.heap.size + 1]? = some (.cells #[.bool false, .slice none 0 0, .int .i64 0] 57 (0, 0)) := by
  have := heap_alloc_new (w.alloc (.cells #[.bool n1, .slice A n c, .slice D1 p1 q1] 34)) (.cells #[.bool false, .slice none 0 0, .int .i64 0] 57)
  simpa using this
 have HZ := hid hB1
 have HSS := hid (fun w1 (h : Chg (fun _ => False) ((w.alloc (.cells #[.bool n1, .slice A n c, .slice D1 p1 q1] 34)).alloc (.cells #[.bool false, .slice none 0 0, .int .i64 0] 57)) w1) => (show w1.cell? ⟨w.heap.size, 0, none⟩ = some (.bool n1) ∧ w1.cell? ⟨w.heap.size, 1, none⟩ = some (.slice A n c) ∧ w1.cell? ⟨w.heap.size, 2, none⟩ = some (.slice D1 p1 q1) from ⟨(cell3 (kept_heap h hB0)).1, (cell3 (kept_heap h hB0)).2.1, (cell3 (kept_heap h hB0)).2.2.1⟩))
 have HST := hid (fun w1 (x0 x1 x2 : Value) (h : Chg (fun _ => False) ((w.alloc (.cells #[.bool n1, .slice A n c, .slice D1 p1 q1] 34)).alloc (.cells #[.bool false, .slice none 0 0, .int .i64 0] 57)) w1) => (show (((w1.setCell ⟨w.heap.size + 1, 0, none⟩ x0).setCell ⟨w.heap.size + 1, 1, none⟩ x1).setCell ⟨w.heap.size + 1, 2, none⟩ x2).cell? ⟨w.heap.size, 0, none⟩ = some (.bool n1) ∧ (((w1.setCell ⟨w.heap.size + 1, 0, none⟩ x0).setCell ⟨w.heap.size + 1, 1, none⟩ x1).setCell ⟨w.heap.size + 1, 2, none⟩ x2).cell? ⟨w.heap.size, 1, none⟩ = some (.slice A n c) ∧ (((w1.setCell ⟨w.heap.size + 1, 0, none⟩ x0).setCell ⟨w.heap.size + 1, 1, none⟩ x1).setCell ⟨w.heap.size + 1, 2, none⟩ x2).cell? ⟨w.heap.size, 2, none⟩ = some (.slice D1 p1 q1) from by
  have hh := HSS.out w1 h
  refine ⟨?_, ?_, ?_⟩ <;> (repeat rw [far_cell (by omega)])
  ·exact hh.1
  ·exact hh.2.1
  ·exact hh.2.2))
 have HD := hid (Chg.drew (Chg.refl (fun _ => False) ((w.alloc (.cells #[.bool n1, .slice A n c, .slice D1 p1 q1] 34)).alloc (.cells #[.bool false, .slice none 0 0, .int .i64 0] 57))))
 clear hB0 hB1
 have hk := Chg.refl (fun _ => False) ((w.alloc (.cells #[.bool n1, .slice A n c, .slice D1 p1 q1] 34)).alloc (.cells #[.bool false, .slice none 0 0, .int .i64 0] 57))
 go_enter Tryz.func45, Tryz.ntmps45
 go_wp2_with fail
 have hk := hk.drew
 first | (go_region_held3 (fun w' => w'.cell? ⟨w.heap.size, 0, none⟩ = some (.bool n1) ∧ w'.cell? ⟨w.heap.size, 1, none⟩ = some (.slice A n c) ∧ w'.cell? ⟨w.heap.size, 2, none⟩ = some (.slice D1 p1 q1)) (first | with_reducible exact HSS.out _ hk | with_reducible exact HST.out _ _ _ _ hk | go_keep) (first | fail)) | fail
 go_wp2_with (first | (go_at_call 51; refine (HP.out _).mono ?_; intro e w1 h; obtain ⟨E1, k1_, l1_, he, hsn, hc⟩ := h; subst he; replace hk := hk.trans hc sb_; skip; have HN1 := hid hsn; clear hsn; clear hc; obtain ⟨k0, k1, k2, f0, f1, f2⟩ := cell3 (kept_heap hk HZ.out)) | (go_at_call 34; refine (HM.out _ _ _ _ (HC0.out.trans hk sb_) HN1.out).mono ?_; intro e w1 h; obtain ⟨E2, k2_, l2_, he, hsn, hc⟩ := h; subst he; replace hk := hk.trans hc sb_; skip; have HN2 := hid hsn; clear hsn; clear hc; obtain ⟨k0, k1, k2, f0, f1, f2⟩ := cell3 (kept_heap hk HZ.out)))
 go_at_call 67
 refine (HDv.out _ _ _ _ (HC0.out.trans hk sb_) HN2.out).mono ?_
 intro e w1 h
 obtain ⟨EQ, kq, lq, ER, kr, lr, he, hs1, hs2, hc⟩ := h
 subst he
 replace hk := hk.trans hc sb_
 clear hc
 obtain ⟨k0, k1, k2, f0, f1, f2⟩ := cell3 (kept_heap hk HZ.out)
 have hkr : 0 < kr := Nat.pos_of_ne_zero (fun h => HR0.out (hs2.zero.1 h))
 have hkq : 0 < kq := Nat.pos_of_ne_zero (fun h => HQ0.out (hs1.zero.1 h))
 obtain ⟨ad, y, hea, hy0, hy1, hy2, hyc⟩ := hs1.head hkq
 subst hea
 have hyb : (Int.tmod y 2 == 1) = ob := by (rw [← HOB.out, Int.tmod_eq_emod_of_nonneg hy0, hy2]; exact odd_cast _)
 have HYC := hid (fun w2 (h : Chg (fun _ => False) w1 w2) => cell_kept2 hyc h)
 clear hyc hy2
 have hw6 := Chg.refl (fun _ => False) w1
 obtain ⟨d0, d1, d2⟩ := HSS.out _ hk
 have HQ := hid hs1
 have HR := hid hs2
 clear hs1 hs2
 go_wp2_with fail
 have hk := hk.drew
 have hw6 := hw6.drew
 replace HQ := hid (HQ.out.kept (Chg.refl (fun _ => False) w1).drew)
 replace HR := hid (HR.out.kept (Chg.refl (fun _ => False) w1).drew)
 have HS6 := hid (fun w2 (h1 : Chg (fun _ => False) ((w.alloc (.cells #[.bool n1, .slice A n c, .slice D1 p1 q1] 34)).alloc (.cells #[.bool false, .slice none 0 0, .int .i64 0] 57)) w2) (h2 : Chg (fun _ => False) w1 w2) => (show w2.cell? ⟨w.heap.size, 0, none⟩ = some (.bool n1) ∧ w2.cell? ⟨w.heap.size, 1, none⟩ = some (.slice A n c) ∧ w2.cell? ⟨w.heap.size, 2, none⟩ = some (.slice D1 p1 q1) ∧ w2.cell? ad = some (.int .u32 y) from ⟨(HSS.out _ h1).1, (HSS.out _ h1).2.1, (HSS.out _ h1).2.2, HYC.out _ h2⟩))
 first | (go_region_held3 (fun w' => w'.cell? ⟨w.heap.size, 0, none⟩ = some (.bool n1) ∧ w'.cell? ⟨w.heap.size, 1, none⟩ = some (.slice A n c) ∧ w'.cell? ⟨w.heap.size, 2, none⟩ = some (.slice D1 p1 q1) ∧ w'.cell? ad = some (.int .u32 y)) (first | with_reducible exact HS6.out _ hk hw6) (first | (go_at_call 57; refine (HA2.out _ _ _ _ HR.out).mono ?_; intro e w1 h; obtain ⟨E5, k5_, l5_, he, hsn, hc⟩ := h; subst he; replace hk := hk.trans hc sb_; (try replace HQ := hid (HQ.out.kept hc)); (try replace HR := hid (HR.out.kept hc)); (try replace HN5 := hid (HN5.out.kept hc)); (try replace HN6 := hid (HN6.out.kept hc)); (try replace HN7 := hid (HN7.out.kept hc)); replace hw6 := hw6.trans hc sb_; have HN5 := hid hsn; clear hsn; clear hc; obtain ⟨k0, k1, k2, f0, f1, f2⟩ := cell3 (kept_heap hk HZ.out)) | (go_at_call 58; refine (HCM.out _ _ _ _ (HC0.out.trans hk sb_) HN5.out).mono ?_; intro e w1 h; obtain ⟨he, hc⟩ := h; subst he; replace hk := hk.trans hc sb_; (try replace HQ := hid (HQ.out.kept hc)); (try replace HR := hid (HR.out.kept hc)); (try replace HN5 := hid (HN5.out.kept hc)); (try replace HN6 := hid (HN6.out.kept hc)); (try replace HN7 := hid (HN7.out.kept hc)); replace hw6 := hw6.trans hc sb_; skip; clear hc; obtain ⟨k0, k1, k2, f0, f1, f2⟩ := cell3 (kept_heap hk HZ.out)) | (go_at_call 68; refine (HRD.out _).mono ?_; intro e w1 h; obtain ⟨he, hc⟩ := h; subst he; replace hk := hk.trans hc sb_; (try replace HQ := hid (HQ.out.kept hc)); (try replace HR := hid (HR.out.kept hc)); (try replace HN5 := hid (HN5.out.kept hc)); (try replace HN6 := hid (HN6.out.kept hc)); (try replace HN7 := hid (HN7.out.kept hc)); replace hw6 := hw6.trans hc sb_; skip; clear hc; obtain ⟨k0, k1, k2, f0, f1, f2⟩ := cell3 (kept_heap hk HZ.out)))) | fail
 all_goals (go_wp2_with (first | (go_at_call 49; refine (wholeOf_sn n1 sb HQ.out HH.out).mono ?_; intro e w1 h; obtain ⟨he, hc⟩ := h; subst he; replace hk := hk.trans hc sb_; (try replace HQ := hid (HQ.out.kept hc)); (try replace HR := hid (HR.out.kept hc)); (try replace HN5 := hid (HN5.out.kept hc)); (try replace HN6 := hid (HN6.out.kept hc)); (try replace HN7 := hid (HN7.out.kept hc)); skip; clear hc; obtain ⟨k0, k1, k2, f0, f1, f2⟩ := cell3 (kept_heap hk HZ.out))); refine bodyPost_ret (v := .agg #[.bool sb, .slice (some ad) kq lq, .int .i64 e0]) (by rw [results_cell_row rfl _ _ (w.heap.size + 1) _ _ _ _ rfl (store3 (kept_heap hk HZ.out) _ _ _) Tryz.underlying57 rfl sdec_size]) rfl ⟨_, _, _, rfl, sn_end3 HQ.out (kept_heap hk HZ.out) (by simp) _ _ _, chg3 (HC0.out.trans hk sb_) (by omega) _ _ _⟩)
end Go.Proofs.YtmpkgkjnoanlhaaGreatDoor
namespace Go.Proofs.YtmpkgkjnoanlhaaGreatDoor
open Go.RowKit
set_option linter.unusedVariables false
set_option linter.unusedSimpArgs false
set_option maxRecDepth 20000
theorem rhe_ge {N x : Nat} : N / x ≤ rhe N x := by unfold rhe; split <;> omega
theorem rhe_le1 {N x : Nat} : rhe N x ≤ N / x + 1 := by unfold rhe; split <;> omega
theorem Round_any {w : World} {A D1 : Option Addr} {n c p1 q1 a x : Nat} (n1 sb : Bool) (p : Nat) (ha : SN w A n c a) (hx : SN w D1 p1 q1 x) (ha1 : a < 10 ^ 100) (hx1 : x < 10 ^ 100) (hx0 : 0 < x) (hp : p ≤ 19)
  (hnz : (a * 10 ^ p) % x ≠ 0 → (a * 10 ^ p) / x ≠ 0) (hsb : (n1 && rhe (a * 10 ^ p) x != 0) = sb) :
  Calls Tryz.prog 45 #[.agg #[.bool n1, .slice A n c, .slice D1 p1 q1], .int .i64 (p : Int), .int .i64 5] w (PDN w sb (rhe (a * 10 ^ p) x) (-(p : Int))) := by
 by_cases hr : (a * 10 ^ p) % x = 0
 ·have e : rhe (a * 10 ^ p) x = (a * 10 ^ p) / x := rhe_no (by rw [hr]; omega)
  rw [e] at hsb ⊢
  exact Round_exact n1 sb p ha hx ha1 hx1 hx0 hp hr hsb
 ·by_cases hup : x < 2 * ((a * 10 ^ p) % x) ∨ (x = 2 * ((a * 10 ^ p) % x) ∧ ((a * 10 ^ p) / x) % 2 = 1)
  ·rw [rhe_up hup] at hsb ⊢
   exact Round_qup n1 sb p ha hx ha1 hx1 hx0 hp hr (hnz hr) hup hsb
  ·rw [rhe_no hup] at hsb ⊢
   exact Round_qno n1 sb p ha hx ha1 hx1 hx0 hp hr (hnz hr) hup hsb
def atP (a x : Nat) (n : Nat) : Nat := rhe (a * 10 ^ n) x
noncomputable def wholeInfo : TypeInfo := (Tryz.prog.info? 32).get (by have := whole_size; cases h : Tryz.prog.info? 32 with | none => simp [h] at this | some i => rfl)
theorem info_whole : Tryz.prog.info? 32 = some wholeInfo := by unfold wholeInfo; simp
theorem wholeInfo_size : wholeInfo.size = 2 := by have := whole_size; rw [info_whole] at this; simpa using this
theorem field_dec0 (a b e : Value) (w : World) : (Instr.field 57 (.agg #[a, b, e]) 0).run Tryz.prog w = .ok (.agg #[a, b]) w := by
 simp [Instr.field, run_underlying Tryz.underlying57, asAgg, part, run_underlying Tryz.underlying32, sizeOf, typeInfo, info_whole, wholeInfo_size]
theorem field_whole1 (a b : Value) (w : World) : (Instr.field 32 (.agg #[a, b]) 1).run Tryz.prog w = .ok b w := by
 simp [Instr.field, run_underlying Tryz.underlying32, asAgg, part, run_underlying Tryz.underlying30, sizeOf, typeInfo]
structure Places (a x : Nat) : Prop where
 pos : 0 < x
 exact : (a * 10 ^ 19) % x = 0
theorem Places.nz {a x p : Nat} (h : Places a x) (hf : ∀ m, p < m → m ≤ 19 → 10 ^ 19 ≤ atP a x m) (hp : p ≤ 19) : (a * 10 ^ p) % x ≠ 0 → (a * 10 ^ p) / x ≠ 0 := by
 intro h1 h2
 have hp19 : p ≠ 19 := fun e => h1 (by rw [e]; exact h.exact)
 have h3 := hf (p + 1) (by omega) (by omega)
 unfold atP at h3
 have h4 := rhe_le1 (N := a * 10 ^ (p + 1)) (x := x)
 have h5 : a * 10 ^ (p + 1) = 10 * (a * 10 ^ p) := by rw [Nat.pow_succ, Nat.mul_comm 10, Nat.mul_assoc]
 have h6 : a * 10 ^ p < x := by
  have := Nat.lt_of_div_eq_zero h.pos h2
  exact this
 have h7 : a * 10 ^ (p + 1) / x < 10 := by
  rw [h5]
  apply Nat.div_lt_of_lt_mul
  rw [Nat.mul_comm]; omega
 have h8 : (10 : Nat) ^ 19 = 10000000000000000000 := by decide
 omega
def optI : Option Nat → Int
 | some R => (R : Int)
 | none => -1
def roomI (a x : Nat) : Int := optI (room (10 ^ 19) (atP a x) 19)
theorem roomI_none {a x : Nat} (h : room (10 ^ 19) (atP a x) 19 = none) : roomI a x = -1 := (congrArg optI h : _)
theorem roomI_some {a x R : Nat} (h : room (10 ^ 19) (atP a x) 19 = some R) : roomI a x = R := (congrArg optI h : _)
set_option maxHeartbeats 2000000 in
theorem Room_any {w : World} {A D1 : Option Addr} {n c p1 q1 a x : Nat} (n1 : Bool) (ha : SN w A n c a) (hx : SN w D1 p1 q1 x) (ha1 : a < 10 ^ 100) (hx1 : x < 10 ^ 100) (hpl : Places a x) :
  Calls Tryz.prog 24 #[.agg #[.bool n1, .slice A n c, .slice D1 p1 q1]] w (PV w (.int .i64 (roomI a x))) := by
 have hc0 := (Chg.refl (fun _ => False) w).alloc (.cells #[.bool n1, .slice A n c, .slice D1 p1 q1] 34)
 have hB0 : (w.alloc (.cells #[.bool n1, .slice A n c, .slice D1 p1 q1] 34)).heap[w.heap.size]? = some (.cells #[.bool n1, .slice A n c, .slice D1 p1 q1] 34 (0, 0)) := heap_alloc_new _ _
 have HRD := hid (fun (p : Nat) (hp : p ≤ 19) (hnz : (a * 10 ^ p) % x ≠ 0 → (a * 10 ^ p) / x ≠ 0) (sb : Bool) (hsb : (n1 && rhe (a * 10 ^ p) x != 0) = sb) w1 (h : Chg (fun _ => False) w w1) => Round_any n1 sb p (ha.kept h) (hx.kept h) ha1 hx1 hpl.pos hp hnz hsb)
 have HPL := hid hpl
 have HB := hid (fun w1 (h : Chg (fun _ => False) (w.alloc (.cells #[.bool n1, .slice A n c, .slice D1 p1 q1] 34)) w1) => cell3 (kept_heap h hB0))
 have HC0 := hid hc0
 have hbd : ∀ p, p ≤ 19 → rhe (a * 10 ^ p) x < 10 ^ 243 := by
  intro p hp
  have h1 := rhe_le1 (N := a * 10 ^ p) (x := x)
  have h2 := Nat.div_le_self (a * 10 ^ p) x
  have h3 : a * 10 ^ p < 10 ^ (100 + 20) := mul100 ha1 (Nat.pow_lt_pow_right (by omega) (by omega))
  have h4 : (10 : Nat) ^ 243 = 10 ^ (100 + 20) * 10 ^ 123 := by rw [← Nat.pow_add]
  have h5 : (2 : Nat) ≤ 10 ^ 123 := by decide
  have h6 := Nat.mul_le_mul_left (10 ^ (100 + 20)) h5
  omega
 have HBD := hid hbd
 clear ha hx ha1 hx1 hpl hc0 hB0 hbd
 have hfd := field_dec0
 have hfw := field_whole1
 go_enter Tryz.func24, Tryz.ntmps24
 go_wp2
 go_loopw [3] (fun i wr => ∃ k : Nat, k ≤ 20 ∧ i = .int .i64 ((k : Int) - 1) ∧ Hid (∀ m, k ≤ m → m ≤ 19 → 10 ^ 19 ≤ atP a x m) ∧ Hid (Chg (fun _ => False) (w.alloc (.cells #[.bool n1, .slice A n c, .slice D1 p1 q1] 34)) wr))
  (fun i _ => (intOf i + 1).toNat)
 case atStart => exact ⟨20, Nat.le_refl _, rfl, hid (fun m h1 h2 => by omega), hid (Chg.refl _ _)⟩
 case round =>
  obtain ⟨k, hk20, he, HF, HK⟩ := hrel
  subst he
  by_cases h0 : k = 0
  ·subst h0
   have hlt : ¬ (0 : Int) ≤ ((0 : Nat) : Int) - 1 := by omega
   go_wp2_with fail
   go_ret
   refine ⟨?_, HC0.out.trans HK.out sb_⟩
   have hroom : room (10 ^ 19) (atP a x) 19 = none := room_none (fun n hn => HF.out n (by omega) hn)
   have hr0 : roomI a x = -1 := roomI_none hroom
   rw [hr0]
   simp
  ·obtain ⟨p, rfl⟩ : ∃ p, k = p + 1 := ⟨k - 1, by omega⟩
   have e1 : ((p + 1 : Nat) : Int) - 1 = (p : Int) := by omega
   rw [e1]
   have hge : (0 : Int) ≤ (p : Int) := by omega
   have hp19 : p ≤ 19 := by omega
   have hnz := HPL.out.nz (fun m h1 h2 => HF.out m (by omega) h2) hp19
   obtain ⟨sb, hsb⟩ : ∃ sb, (n1 && rhe (a * 10 ^ p) x != 0) = sb := ⟨_, rfl⟩
   have HR1 := hid (HRD.out p hp19 hnz sb hsb wr (HC0.out.trans HK.out sb_))
   have HB1 := hid (HBD.out p hp19)
   obtain ⟨d0, d1, d2, _, _, _⟩ := HB.out _ HK.out
   obtain ⟨Z, hZ⟩ : ∃ Z, rhe (a * 10 ^ p) x = Z := ⟨_, rfl⟩
   have HZ := hid hZ
   rw [hZ] at HR1 HB1
   clear hnz hsb hZ
   obtain ⟨e0, he0⟩ : ∃ e0 : Int, -(p : Int) = e0 := ⟨_, rfl⟩
   rw [he0] at HR1
   clear he0
   by_cases hd : digs Z ≤ 19
   ·have hd' : ((digs Z : Nat) : Int) ≤ 19 := by omega
    have HD := hid hd
    clear hd
    go_wp2_with (first | (go_at_call 45; refine HR1.out.mono ?_; intro e w1 h; obtain ⟨E, kk, l, he, hsn, hc⟩ := h; subst he; have HS := hid hsn; have HK1 := hid (HK.out.trans hc sb_); clear hsn hc) | (go_at_call 46; refine (Digits_any HS.out HB1.out).mono ?_; intro e w2 h; obtain ⟨he, hc⟩ := h; subst he; have HK2 := hid (HK1.out.trans hc sb_); clear hc))
    go_ret
    refine ⟨?_, HC0.out.trans HK2.out sb_⟩
    have hlt : atP a x p < 10 ^ 19 := by unfold atP; rw [HZ.out]; exact digs_le.1 HD.out
    have hroom : room (10 ^ 19) (atP a x) 19 = some p := room_some hp19 hlt (fun n h1 h2 => HF.out n (by omega) h2)
    have hr0 : roomI a x = (p : Int) := roomI_some hroom
    rw [hr0]
    first | done | rfl
   ·have hd' : ¬ ((digs Z : Nat) : Int) ≤ 19 := by omega
    have HD := hid hd
    clear hd
    go_wp2_with (first | (go_at_call 45; refine HR1.out.mono ?_; intro e w1 h; obtain ⟨E, kk, l, he, hsn, hc⟩ := h; subst he; have HS := hid hsn; have HK1 := hid (HK.out.trans hc sb_); clear hsn hc) | (go_at_call 46; refine (Digits_any HS.out HB1.out).mono ?_; intro e w2 h; obtain ⟨he, hc⟩ := h; subst he; have HK2 := hid (HK1.out.trans hc sb_); clear hc))
    go_roundw
    case rel => exact ⟨p, by omega, by go_num, hid (fun m h1 h2 => by
     by_cases e : m = p
     ·subst e; unfold atP; rw [HZ.out]; exact digs_lt.1 (by have := HD.out; omega)
     ·exact HF.out m (by omega) h2), HK2⟩
    case measure => first | (simp [intOf]; done) | (simp [intOf]; omega)
def PFixed (w : World) (n1 : Bool) (f : Nat → Nat) (o : Option Nat) (e : Ending) (w' : World) : Prop := Chg (fun _ => False) w w' ∧ match o with
 | some R => ∃ (sb : Bool) (E : Option Addr) (k l : Nat), e = .returned (.tuple #[.agg #[.bool sb, .slice E k l, .int .i64 (-(R : Int))], .bool true]) ∧ SN w' E k l (f R) ∧ (n1 && f R != 0) = sb
 | none => e = .returned (.tuple #[.agg #[.bool false, .slice none 0 0, .int .i64 0], .bool false])
theorem sdec_result {fn : Func} {p u : Tmp} (h : fn.results = #[.cell p 57, .tmp u]) (tmps : Array Value) (w : World) (g : Nat) (a b d v : Value) (T : TypeId)
  (hp : tmps.getD p undef = .pointer (some ⟨g, 0, none⟩)) (hu : tmps.getD u undef = v) (hg : w.heap[g]? = some (.cells #[a, b, d] T (0, 0))) :
  (results fn tmps).run Tryz.prog w = .ok (.tuple #[.agg #[a, b, d], v]) w := by
 rw [results_cell_tmp h, hp, hu]
 have hl := run_loadVar_row (P := Tryz.prog) w g T 57 #[a, b, d] (0, 0) _ hg Tryz.underlying57 rfl sdec_size
 simp [asAddr, hl, Result.andThen]
set_option maxHeartbeats 4000000 in
theorem Fixed_any {w : World} {A D1 : Option Addr} {n c p1 q1 a x : Nat} (n1 : Bool) (ha : SN w A n c a) (hx : SN w D1 p1 q1 x) (ha1 : a < 10 ^ 100) (hx1 : x < 10 ^ 100) (hpl : Places a x) (o : Option Nat) (ho : room (10 ^ 19) (atP a x) 19 = o) :
  Calls Tryz.prog 47 #[.agg #[.bool n1, .slice A n c, .slice D1 p1 q1], .int .i64 19] w (PFixed w n1 (atP a x) o) := by
 have hc0 := ((Chg.refl (fun _ => False) w).alloc (.cells #[.bool n1, .slice A n c, .slice D1 p1 q1] 34)).alloc (.cells #[.bool false, .slice none 0 0, .int .i64 0] 57)
 have hB0 : ((w.alloc (.cells #[.bool n1, .slice A n c, .slice D1 p1 q1] 34)).alloc (.cells #[.bool false, .slice none 0 0, .int .i64 0] 57)).heap[w.heap.size]? = some (.cells #[.bool n1, .slice A n c, .slice D1 p1 q1] 34 (0, 0)) := by
  rw [Below.heap_alloc _ _ _ (by simp)]; exact heap_alloc_new _ _
 have hB1 : ((w.alloc (.cells #[.bool n1, .slice A n c, .slice D1 p1 q1] 34)).alloc (.cells #[.bool false, .slice none 0 0, .int .i64 0] 57)).heap[w.heap.size + 1]? = some (.cells #[.bool false, .slice none 0 0, .int .i64 0] 57 (0, 0)) := heap_alloc2_new _ _ _
 have HRD := hid (fun (p : Nat) (hp : p ≤ 19) (hnz : (a * 10 ^ p) % x ≠ 0 → (a * 10 ^ p) / x ≠ 0) (sb : Bool) (hsb : (n1 && rhe (a * 10 ^ p) x != 0) = sb) w1 (h : Chg (fun _ => False) w w1) => Round_any n1 sb p (ha.kept h) (hx.kept h) ha1 hx1 hpl.pos hp hnz hsb)
 have HPL := hid hpl
 have HB := hid (fun w1 (h : Chg (fun _ => False) ((w.alloc (.cells #[.bool n1, .slice A n c, .slice D1 p1 q1] 34)).alloc (.cells #[.bool false, .slice none 0 0, .int .i64 0] 57)) w1) => cell3 (kept_heap h hB0))
 have HZ := hid hB1
 have HC0 := hid hc0
 have HO := hid ho
 have hbd : ∀ p, p ≤ 19 → rhe (a * 10 ^ p) x < 10 ^ 243 := by
  intro p hp
  have h1 := rhe_le1 (N := a * 10 ^ p) (x := x)
  have h2 := Nat.div_le_self (a * 10 ^ p) x
  have h3 : a * 10 ^ p < 10 ^ (100 + 20) := mul100 ha1 (Nat.pow_lt_pow_right (by omega) (by omega))
  have h4 : (10 : Nat) ^ 243 = 10 ^ (100 + 20) * 10 ^ 123 := by rw [← Nat.pow_add]
  have h5 : (2 : Nat) ≤ 10 ^ 123 := by decide
  have h6 := Nat.mul_le_mul_left (10 ^ (100 + 20)) h5
  omega
 have HBD := hid hbd
 obtain ⟨d0, d1, d2, _, _, _⟩ := HB.out _ (Chg.refl _ _)
 clear ha hx ha1 hx1 hpl hc0 hB0 hB1 hbd ho
 go_enter Tryz.func47, Tryz.ntmps47
 go_wp2
 go_loopw [6] (fun i wr => ∃ k : Nat, k ≤ 20 ∧ i = .int .i64 ((k : Int) - 1) ∧ Hid (∀ m, k ≤ m → m ≤ 19 → 10 ^ 19 ≤ atP a x m) ∧ Hid (Chg (fun _ => False) ((w.alloc (.cells #[.bool n1, .slice A n c, .slice D1 p1 q1] 34)).alloc (.cells #[.bool false, .slice none 0 0, .int .i64 0] 57)) wr))
  (fun i _ => (intOf i + 1).toNat)
 case atStart => exact ⟨20, Nat.le_refl _, rfl, hid (fun m h1 h2 => by omega), hid (Chg.refl _ _)⟩
 case round =>
  obtain ⟨k, hk20, he, HF, HK⟩ := hrel
  subst he
  clear d0 d1 d2
  by_cases h0 : k = 0
  ·subst h0
   have hlt : ¬ (0 : Int) ≤ ((0 : Nat) : Int) - 1 := by omega
   obtain ⟨k0, k1, k2, f0, f1, f2⟩ := cell3 (kept_heap HK.out HZ.out)
   have hroom : room (10 ^ 19) (atP a x) 19 = none := room_none (fun n hn => HF.out n (by omega) hn)
   have hon : o = none := HO.out.symm.trans hroom
   clear hroom
   subst hon
   go_wp2_with fail
   refine bodyPost_ret (v := .tuple #[.agg #[.bool false, .slice none 0 0, .int .i64 0], .bool false]) (sdec_result rfl _ _ (w.heap.size + 1) _ _ _ _ _ rfl rfl (store3 (kept_heap HK.out HZ.out) _ _ _)) rfl ⟨chg3 (HC0.out.trans HK.out sb_) (by omega) _ _ _, rfl⟩
  ·obtain ⟨p, rfl⟩ : ∃ p, k = p + 1 := ⟨k - 1, by omega⟩
   have e1 : ((p + 1 : Nat) : Int) - 1 = (p : Int) := by omega
   rw [e1]
   have hge : (0 : Int) ≤ (p : Int) := by omega
   have hp19 : p ≤ 19 := by omega
   have hnz := HPL.out.nz (fun m h1 h2 => HF.out m (by omega) h2) hp19
   obtain ⟨sb, hsb⟩ : ∃ sb, (n1 && rhe (a * 10 ^ p) x != 0) = sb := ⟨_, rfl⟩
   have HR1 := hid (HRD.out p hp19 hnz sb hsb wr (HC0.out.trans HK.out sb_))
   have HB1 := hid (HBD.out p hp19)
   obtain ⟨d0, d1, d2, _, _, _⟩ := HB.out _ HK.out
   obtain ⟨Z, hZ⟩ : ∃ Z, rhe (a * 10 ^ p) x = Z := ⟨_, rfl⟩
   have HZZ := hid hZ
   rw [hZ] at HR1 HB1 hsb
   have HSB := hid hsb
   clear hnz hsb hZ
   obtain ⟨e0, he0⟩ : ∃ e0 : Int, -(p : Int) = e0 := ⟨_, rfl⟩
   rw [he0] at HR1
   have HE0 := hid he0
   clear he0
   by_cases hd : digs Z ≤ 19
   ·have hd' : ((digs Z : Nat) : Int) ≤ 19 := by omega
    have HD := hid hd
    clear hd
    go_wp2_with (first | (go_at_call 45; refine HR1.out.mono ?_; intro e w1 h; obtain ⟨E, kk, l, he, hsn, hc⟩ := h; subst he; have HS := hid (hsn.kept ((Chg.refl (fun _ => False) w1).alloc (.cells #[.bool sb, .slice E kk l, .int .i64 e0] 57))); have HK1 := hid ((HK.out.trans hc sb_).alloc (.cells #[.bool sb, .slice E kk l, .int .i64 e0] 57)); have HG := hid (heap_alloc_new w1 (.cells #[.bool sb, .slice E kk l, .int .i64 e0] 57)); clear hsn hc) | (go_at_call 46; refine (Digits_any HS.out HB1.out).mono ?_; intro e w2 h; obtain ⟨he, hc⟩ := h; subst he; have HK2 := hid (HK1.out.trans hc sb_); have HS2 := hid (HS.out.kept hc); obtain ⟨g0, g1, g2, _, _, _⟩ := cell3 (kept_heap hc HG.out); obtain ⟨k0, k1, k2, f0, f1, f2⟩ := cell3 (kept_heap HK2.out HZ.out); clear hc))
    have hlt : atP a x p < 10 ^ 19 := by unfold atP; rw [HZZ.out]; exact digs_le.1 HD.out
    have hroom : room (10 ^ 19) (atP a x) 19 = some p := room_some hp19 hlt (fun n h1 h2 => HF.out n (by omega) h2)
    have hon : o = some p := HO.out.symm.trans hroom
    clear hroom
    subst hon
    have hfz : atP a x p = Z := HZZ.out
    refine bodyPost_ret (v := .tuple #[.agg #[.bool sb, .slice E kk l, .int .i64 e0], .bool true]) (sdec_result rfl _ _ (w.heap.size + 1) _ _ _ _ _ rfl rfl (store3 (kept_heap HK2.out HZ.out) _ _ _)) rfl ⟨chg3 (HC0.out.trans HK2.out sb_) (by omega) _ _ _, sb, E, kk, l, by rw [HE0.out], by rw [hfz]; exact sn_end3 HS2.out (kept_heap HK2.out HZ.out) (by simp) _ _ _, by rw [hfz]; exact HSB.out⟩
   ·have hd' : ¬ ((digs Z : Nat) : Int) ≤ 19 := by omega
    have HD := hid hd
    clear hd
    go_wp2_with (first | (go_at_call 45; refine HR1.out.mono ?_; intro e w1 h; obtain ⟨E, kk, l, he, hsn, hc⟩ := h; subst he; have HS := hid (hsn.kept ((Chg.refl (fun _ => False) w1).alloc (.cells #[.bool sb, .slice E kk l, .int .i64 e0] 57))); have HK1 := hid ((HK.out.trans hc sb_).alloc (.cells #[.bool sb, .slice E kk l, .int .i64 e0] 57)); clear hsn hc) | (go_at_call 46; refine (Digits_any HS.out HB1.out).mono ?_; intro e w2 h; obtain ⟨he, hc⟩ := h; subst he; have HK2 := hid (HK1.out.trans hc sb_); clear hc))
    go_roundw
    case rel => exact ⟨p, by omega, by go_num, hid (fun m h1 h2 => by
     by_cases e : m = p
     ·subst e; unfold atP; rw [HZZ.out]; exact digs_lt.1 (by have := HD.out; omega)
     ·exact HF.out m (by omega) h2), HK2⟩
    case measure => first | (simp [intOf]; done) | (simp [intOf]; omega)
set_option maxHeartbeats 2000000 in
theorem Neg_any (neg : Bool) (c : Int) (s : Nat) (hc : Fi c) (hs : s ≤ 19) (w : World) :
  Calls Tryz.prog 41 #[.agg #[.bool neg, .int .i8 s, .int .u64 c]] w (fun e w' => e = .returned (.agg #[.bool (!neg && c != 0), .int .i8 s, .int .u64 c]) ∧ Chg (fun _ => False) w w') := by
 obtain ⟨nb, hnb⟩ : ∃ nb, (!neg && c != 0) = nb := ⟨_, rfl⟩
 rw [hnb]
 have HU := hid (fun w => newUnsafe_flat (!neg) nb c s hc hs hnb w)
 have HS := hid (fun w => Scale_any neg c s hs w)
 have HN := hid (fun w => IsNeg_any neg c s w)
 clear hnb hc
 have hb1 : ((w.alloc (.cells #[.bool neg, .int .i8 s, .int .u64 c] 46)).alloc (.cells #[.bool false, .int .i8 0, .int .u64 0] 46)).heap[w.heap.size]? = some (.cells #[.bool neg, .int .i8 s, .int .u64 c] 46 (0, 0)) := by
  rw [Below.heap_alloc _ _ _ (by simp)]; exact heap_alloc_new _ _
 have hb2 : ((w.alloc (.cells #[.bool neg, .int .i8 s, .int .u64 c] 46)).alloc (.cells #[.bool false, .int .i8 0, .int .u64 0] 46)).heap[w.heap.size + 1]? = some (.cells #[.bool false, .int .i8 0, .int .u64 0] 46 (0, 0)) := heap_alloc2_new _ _ _
 have HBX := hid (fun w1 (h : Chg (fun _ => False) ((w.alloc (.cells #[.bool neg, .int .i8 s, .int .u64 c] 46)).alloc (.cells #[.bool false, .int .i8 0, .int .u64 0] 46)) w1) => cell3 ((h.keep w.heap.size (by simp; omega) (fun h => h)).trans hb1))
 have HRS := hid (fun w1 (h : Chg (fun _ => False) ((w.alloc (.cells #[.bool neg, .int .i8 s, .int .u64 c] 46)).alloc (.cells #[.bool false, .int .i8 0, .int .u64 0] 46)) w1) => (h.keep (w.heap.size + 1) (by simp) (fun h => h)).trans hb2)
 clear hb1 hb2
 have HC0 : Hid (Chg (fun _ => False) ((w.alloc (.cells #[.bool neg, .int .i8 s, .int .u64 c] 46)).alloc (.cells #[.bool false, .int .i8 0, .int .u64 0] 46)) ((w.alloc (.cells #[.bool neg, .int .i8 s, .int .u64 c] 46)).alloc (.cells #[.bool false, .int .i8 0, .int .u64 0] 46)).drew) := (Chg.refl _ _).drew
 have HCW : Hid (Chg (fun _ => False) w ((w.alloc (.cells #[.bool neg, .int .i8 s, .int .u64 c] 46)).alloc (.cells #[.bool false, .int .i8 0, .int .u64 0] 46))) := ((Chg.refl _ _).alloc _).alloc _
 have HSS := hid (fun w1 (h : Chg (fun _ => False) ((w.alloc (.cells #[.bool neg, .int .i8 s, .int .u64 c] 46)).alloc (.cells #[.bool false, .int .i8 0, .int .u64 0] 46)) w1) => (show w1.cell? ⟨w.heap.size, 0, none⟩ = some (.bool neg) ∧ w1.cell? ⟨w.heap.size, 1, none⟩ = some (.int .i8 s) ∧ w1.cell? ⟨w.heap.size, 2, none⟩ = some (.int .u64 c) from ⟨(HBX.out w1 h).1, (HBX.out w1 h).2.1, (HBX.out w1 h).2.2.1⟩))
 go_enter Tryz.func41, Tryz.ntmps41
 go_wp2_with fail
 go_region_held3 (fun w' => w'.cell? ⟨w.heap.size, 0, none⟩ = some (.bool neg) ∧ w'.cell? ⟨w.heap.size, 1, none⟩ = some (.int .i8 s) ∧ w'.cell? ⟨w.heap.size, 2, none⟩ = some (.int .u64 c)) (first | exact HSS.out _ hk3 | exact HSS.out _ hk2 | exact HSS.out _ hk1 | exact HSS.out _ HC0.out | go_keep) (first | (go_at_call 42; refine (HN.out _).mono ?_; intro e w1 h; obtain ⟨he1, hc1⟩ := h; subst he1; have hk1 := HC0.out.trans hc1 sb_) | (go_at_call 44; refine (HS.out _).mono ?_; intro e w2 h; obtain ⟨he2, hc2⟩ := h; subst he2; have hk2 := hk1.trans hc2 sb_) | (go_at_call 66; refine (HU.out _).mono ?_; intro e w3 h; obtain ⟨he3, hc3⟩ := h; subst he3; have hk3 := hk2.trans hc3 sb_; have hr3 := HRS.out w3 hk3; obtain ⟨k0, k1, k2, f0, f1, f2⟩ := cell3 hr3; have HR3 := hid hr3; clear hr3))
 all_goals (go_wp2_with fail; refine bodyPost_ret (v := .agg #[.bool nb, .int .i8 s, .int .u64 c]) (by rw [results_cell_row rfl _ _ (w.heap.size + 1) _ _ _ _ rfl (store3 HR3.out _ _ _) Tryz.underlying46 rfl dec_size]) rfl ⟨rfl, chg3 (HCW.out.trans hk3 sb_) (by omega) _ _ _⟩)
structure Two (w0 w2 : World) (p q : Nat) (x y : Int) : Prop where
 ex : ∃ bp bq, IntAt w2 p bp x ∧ IntAt w2 q bq y ∧ (∀ b, bp = some b → bq ≠ some b) ∧ (∀ b, bp = some b → w0.heap.size ≤ b) ∧ (∀ b, bq = some b → w0.heap.size ≤ b)
 p0 : w0.heap.size ≤ p
 q0 : w0.heap.size ≤ q
 ne : p ≠ q
 env : EnvD w2
 chg : Chg (fun _ => False) w0 w2
theorem Two.swap {w0 w2 : World} {p q : Nat} {x y : Int} (h : Two w0 w2 p q x y) : Two w0 w2 q p y x := by
 obtain ⟨⟨bp, bq, h1, h2, h3, h4, h5⟩, a, b, c, d, e⟩ := h
 exact ⟨⟨bq, bp, h2, h1, fun b hb h => h3 b h hb, h5, h4⟩, b, a, c.symm, d, e⟩
theorem Two.same {w0 w2 w3 : World} {p q : Nat} {x y : Int} (h : Two w0 w2 p q x y) (hc : Chg (fun _ => False) w2 w3) : Two w0 w3 p q x y := by
 obtain ⟨⟨bp, bq, h1, h2, h3, h4, h5⟩, a, b, c, d, e⟩ := h
 exact ⟨⟨bp, bq, h1.new hc, h2.new hc, h3, h4, h5⟩, a, b, c, d.kept hc, e.trans hc sb_⟩
theorem Two.start {w0 w1 w2 : World} {p q : Nat} (h1 : IntAt w1 p none 0) (hp : w0.heap.size ≤ p) (hc1 : Chg (fun _ => False) w0 w1) (h2 : IntAt w2 q none 0) (hq : w1.heap.size ≤ q) (hc2 : Chg (fun _ => False) w1 w2) (he : EnvD w0) : Two w0 w2 p q 0 0 := by
 have hl := h1.lt
 have hs := hc1.size
 exact ⟨⟨none, none, h1.new hc2, h2, (by intro b h; cases h), (by intro b h; cases h), (by intro b h; cases h)⟩, hp, by omega, by omega, (he.kept hc1).kept hc2, hc1.trans hc2 sb_⟩
theorem Two.step {w0 w2 w3 : World} {p q : Nat} {bp : Option Nat} {x y x' : Int} {r : Value} {e : Ending} (h : Two w0 w2 p q x y) (hp : IntAt w2 p bp x) (k : PInt w2 p bp x' r e w3) : Two w0 w3 p q x' y := by
 obtain ⟨⟨bp', bq, h1, h2, h3, h4, h5⟩, a, b, c, d, e⟩ := h
 obtain rfl := hp.uniq h1
 obtain ⟨_, bn, k1, k2, k3⟩ := k
 have hs := e.size
 refine ⟨⟨bn, bq, k1, h2.kept k3 ?_ ?_, ?_, ?_, h5⟩, a, b, c, d.int hp k3, e.trans k3 (fun i hi hh => ?_)⟩
 ·rintro (hh | hh)
  ·exact c hh.symm
  ·exact h2.ne hp hh rfl
 ·rintro b' hb (hh | hh)
  ·exact hp.ne h2 hb hh
  ·exact h3 b' hh hb
 ·intro b' hb hq
  rcases k2 with k | ⟨c', k, hk⟩
  ·exact h3 b' (k ▸ hb) hq
  ·rw [hb] at k
   simp only [Option.some.injEq] at k
   have := h2.blk hq
   omega
 ·intro b' hb
  rcases k2 with k | ⟨c', k, hk⟩
  ·exact h4 b' (k ▸ hb)
  ·rw [hb] at k
   simp only [Option.some.injEq] at k
   omega
 ·rcases hh with hh | hh
  ·omega
  ·have := h4 i hh; omega
theorem two_setFint {w0 w2 : World} {p q : Nat} {x y : Int} {c : Int} (h : Two w0 w2 p q x y) (hc : Wd c) :
  Calls Tryz.prog 73 #[.pointer (some ⟨p, 0, none⟩), .int .u64 c] w2 (fun e w3 => e = .returned (.tuple #[]) ∧ Two w0 w3 p q c y) := by
 obtain ⟨bp, bq, h1, h2, _⟩ := h.ex
 exact (bint_setFint p bp x c w2 h1 hc).mono (fun e w3 k => ⟨k.1, h.step h1 k⟩)
theorem two_setFint' {w0 w2 : World} {p q : Nat} {x y : Int} {c : Int} (h : Two w0 w2 q p y x) (hc : Wd c) :
  Calls Tryz.prog 73 #[.pointer (some ⟨p, 0, none⟩), .int .u64 c] w2 (fun e w3 => e = .returned (.tuple #[]) ∧ Two w0 w3 q p y c) :=
 (two_setFint h.swap hc).mono (fun _ _ k => ⟨k.1, k.2.swap⟩)
theorem two_lsh {w0 w2 : World} {p q : Nat} {c k : Nat} {y : Int} (h : Two w0 w2 p q (c : Int) y) (hc : digs c ≤ 57) (hk : k ≤ 99) :
  Calls Tryz.prog 75 #[.pointer (some ⟨p, 0, none⟩), .pointer (some ⟨p, 0, none⟩), .int .i64 k] w2 (fun e w3 => e = .returned (.tuple #[]) ∧ Two w0 w3 p q ((c * 10 ^ k : Nat) : Int) y) := by
 obtain ⟨bp, bq, h1, h2, _⟩ := h.ex
 have e : ((c * 10 ^ k : Nat) : Int) = (c : Int) * 10 ^ k := by rw [Int.natCast_mul, pow_cast]
 rw [e]
 exact (bint_lsh_same p bp (c : Int) k w2 h1 h.env.env (digs_bp hc) hk).mono (fun e w3 q => ⟨q.1, h.step h1 q⟩)
theorem two_lsh' {w0 w2 : World} {p q : Nat} {c k : Nat} {y : Int} (h : Two w0 w2 q p y (c : Int)) (hc : digs c ≤ 57) (hk : k ≤ 99) :
  Calls Tryz.prog 75 #[.pointer (some ⟨p, 0, none⟩), .pointer (some ⟨p, 0, none⟩), .int .i64 k] w2 (fun e w3 => e = .returned (.tuple #[]) ∧ Two w0 w3 q p y ((c * 10 ^ k : Nat) : Int)) :=
 (two_lsh h.swap hc hk).mono (fun _ _ k => ⟨k.1, k.2.swap⟩)
theorem two_add {w0 w2 : World} {p q : Nat} {a b : Nat} (h : Two w0 w2 p q (a : Int) (b : Int)) (ha : digs a ≤ 57) (hb : digs b ≤ 57) :
  Calls Tryz.prog 76 #[.pointer (some ⟨p, 0, none⟩), .pointer (some ⟨p, 0, none⟩), .pointer (some ⟨q, 0, none⟩)] w2 (fun e w3 => e = .returned (.tuple #[]) ∧ Two w0 w3 p q ((a + b : Nat) : Int) (b : Int)) := by
 obtain ⟨bp, bq, h1, h2, _⟩ := h.ex
 exact (bint_add p p q bp bp bq (a : Int) (a : Int) (b : Int) w2 h1 h1 h2 (digs_bp ha) (digs_bp hb)).mono (fun e w3 k => ⟨k.1, by rw [Int.natCast_add]; exact h.step h1 k⟩)
theorem two_subAbs {w0 w2 : World} {p q : Nat} {a b c : Nat} (h : Two w0 w2 p q (a : Int) (b : Int)) (ha : digs a ≤ 57) (hb : digs b ≤ 57) (hc : (if a < b then b - a else a - b) = c) :
  Calls Tryz.prog 78 #[.pointer (some ⟨p, 0, none⟩), .pointer (some ⟨p, 0, none⟩), .pointer (some ⟨q, 0, none⟩)] w2 (fun e w3 => e = .returned (.tuple #[]) ∧ Two w0 w3 p q (c : Int) (b : Int)) := by
 obtain ⟨bp, bq, h1, h2, _⟩ := h.ex
 have e : (if (b : Int) ≤ (a : Int) then (a : Int) - b else (b : Int) - a) = (c : Int) := by
  subst hc; split <;> split <;> omega
 have H := bint_subAbs p p q bp bp bq (a : Int) (a : Int) (b : Int) w2 h1 h1 h2 h.ne (digs_bp ha) (digs_bp hb)
 rw [e] at H
 exact H.mono (fun e w3 k => ⟨k.1, h.step h1 k⟩)
theorem two_cmp {w0 w2 : World} {p q : Nat} {a b : Nat} {k : Int} (h : Two w0 w2 p q (a : Int) (b : Int)) (hk : cmpI (b : Int) (a : Int) = k) :
  Calls Tryz.prog 77 #[.pointer (some ⟨q, 0, none⟩), .pointer (some ⟨p, 0, none⟩)] w2 (fun e w3 => e = .returned (.int .i64 k) ∧ Two w0 w3 p q (a : Int) (b : Int)) := by
 obtain ⟨bp, bq, h1, h2, _⟩ := h.ex
 subst hk
 exact (bint_cmp q p bq bp (b : Int) (a : Int) w2 h2 h1 h.ne.symm).mono (fun e w3 k => ⟨k.1, h.same (k.2.chg _)⟩)
def PDecN (w : World) (neg : Bool) (o : Option (Nat × Nat)) (e : Ending) (w' : World) : Prop :=
 Chg (fun _ => False) w w' ∧ match o with
 | some (c, s) => e = .returned (.tuple #[decV (neg && (c : Int) != 0) c s, .nilIface])
 | none => ∃ t v, e = .returned (.tuple #[decV false 0 0, .iface t v])
theorem PDecN.op {w w' : World} {neg : Bool} {o : Option (Nat × Nat)} {e : Ending} (h : PDecN w neg o e w') :
  ∃ (a : Bool) (b c : Int) (v : Value), e = .returned (.tuple #[.agg #[.bool a, .int .i8 b, .int .u64 c], v]) ∧ Chg (fun _ => False) w w' ∧ PDecN w neg o (.returned (.tuple #[.agg #[.bool a, .int .i8 b, .int .u64 c], v])) w' := by
 have hh := h
 obtain ⟨h1, h2⟩ := h
 match o, h2, hh with
 | some (c, s), h2, hh => subst h2; exact ⟨_, _, _, _, rfl, h1, hh⟩
 | none, ⟨t, v, h2⟩, hh => subst h2; exact ⟨_, _, _, _, rfl, h1, hh⟩
theorem PDecN.move {w w1 w' w'' : World} {neg : Bool} {o : Option (Nat × Nat)} {e : Ending} (h : PDecN w1 neg o e w'') (c : Chg (fun _ => False) w w') : PDecN w neg o e w' := ⟨c, h.2⟩
theorem two_nfb {w0 w2 : World} {p q : Nat} {c s m : Nat} {y : Int} (neg : Bool) (h : Two w0 w2 p q (c : Int) y) (hc : digs c ≤ 57) (hs : s ≤ 57) (hm : m ≤ 19) :
  Calls Tryz.prog 79 #[.bool neg, .pointer (some ⟨p, 0, none⟩), .int .i64 s, .int .i64 m] w2 (PDecN w0 neg (from19 (10 ^ 19) 2 c s m)) := by
 obtain ⟨bp, bq, h1, h2, _, h4, _⟩ := h.ex
 refine (newFromBint_any neg p bp c s m w2 h1 h.env hc hs hm).mono (fun e w3 k => ⟨h.chg.trans k.1 (fun i hi hh => ?_), k.2⟩)
 have := h.p0
 rcases hh with hh | hh
 ·omega
 ·have := h4 i hh; omega
end Go.Proofs.YtmpkgkjnoanlhaaGreatDoor
