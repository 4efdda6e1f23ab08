/- Part 20 of the proof. -/
import Derived.Test.YtmpkgkjnoanlhaaGreatDoorP17
namespace Go.Proofs.YtmpkgkjnoanlhaaGreatDoor
open Go.RowKit
set_option linter.unusedVariables false
set_option linter.unusedSimpArgs false
set_option maxRecDepth 20000
theorem fint_isOdd (x : Int) (hx : Wd x) (w : World) : Calls Tryz.prog 118 #[.int .u64 x] w (fun e w' => e = .returned (.bool (x % 2 != 0)) ∧ w = w') := by
 have hand := and1 x hx
 obtain ⟨k, hk⟩ : ∃ k, x % 2 = k := ⟨_, rfl⟩
 rw [hk] at hand ⊢
 obtain ⟨h0, h1⟩ := hx
 clear hk
 go_enter Tryz.func118, Tryz.ntmps118
 go_wp2_with fail
 go_ret
 exact ⟨by first | rfl | rw [hand] | simp [hand], rfl⟩
theorem fint_rsh_pos (x : Int) (n : Nat) (hx : Fi x) (hx1 : x ≠ 0) (hn1 : 1 ≤ n) (hn : n ≤ 19) (w : World) (ht : Tab w) :
  Calls Tryz.prog 101 #[.int .u64 x, .int .i64 n] w (fun e w' => e = .returned (.int .u64 (rheI x (10 ^ n))) ∧ w = w') := by
 have hcell := ht n (by omega)
 have hY := p10_pos n
 have hwp := p10_wd (k := n) (by omega)
 have hdef : rheI x (10 ^ n) = if 10 ^ n < 2 * (x % 10 ^ n) ∨ (10 ^ n = 2 * (x % 10 ^ n) ∧ (x / 10 ^ n) % 2 = 1) then x / 10 ^ n + 1 else x / 10 ^ n := rfl
 have hev : ∃ H, (10 : Int) ^ n = H * 2 := ⟨5 * 10 ^ (n - 1), by
  obtain ⟨k, rfl⟩ : ∃ k, n = k + 1 := ⟨n - 1, by omega⟩
  rw [Int.pow_succ, Nat.add_sub_cancel]; omega⟩
 obtain ⟨H, hH⟩ := hev
 generalize rheI x (10 ^ n) = RES at *
 generalize (10 : Int) ^ n = Y at *
 obtain ⟨hx0, hxm⟩ := hx
 obtain ⟨hY0, hY1⟩ := hwp
 obtain ⟨q, hq⟩ : ∃ q, x / Y = q := ⟨_, rfl⟩
 obtain ⟨r, hr⟩ : ∃ r, x % Y = r := ⟨_, rfl⟩
 have hdm := Int.mul_ediv_add_emod x Y
 have hr0 : 0 ≤ r := by rw [← hr]; exact Int.emod_nonneg _ (by omega)
 have hr1 : r < Y := by rw [← hr]; exact Int.emod_lt_of_pos _ hY
 have hq0 : 0 ≤ q := by rw [← hq]; exact Int.ediv_nonneg hx0 (by omega)
 have hqx : q ≤ x := by rw [← hq]; exact Int.ediv_le_self _ hx0
 rw [hq, hr] at hdef hdm
 have hqy : q * Y = x - r := by rw [Int.mul_comm]; omega
 have hqp : 0 ≤ x - r := by rw [← hqy]; exact Int.mul_nonneg hq0 hY0
 have hw1 : IntKind.u64.wrap (q * Y) = x - r := by rw [IntKind.wrap_u64, hqy]; omega
 have hw2 : IntKind.u64.wrap (x - (x - r)) = r := by rw [IntKind.wrap_u64]; omega
 have hw3 : IntKind.u64.wrap (q + 1) = q + 1 := by rw [IntKind.wrap_u64]; omega
 have hsh : Y / 2 = H := by omega
 have hb0 : (x == 0) = false := beq_eq_false_iff_ne.2 hx1
 have hle : ¬ (n : Int) ≤ 0 := by omega
 have hlt20 : (n : Int) < 20 := by omega
 have hge0 : (0 : Int) ≤ (n : Int) := by omega
 have hnge : ¬ (20 : Int) ≤ (n : Int) := by omega
 have HO := hid (fun w => fint_isOdd q ⟨hq0, by omega⟩ w)
 have hYne : Y ≠ 0 := by omega
 by_cases hc1 : H < r
 ·have hres : RES = q + 1 := by rw [hdef, if_pos (by omega)]
  rw [hres]
  have hd : decide (H < r) = true := decide_eq_true hc1
  clear hdef hres hdm hr hH hqy
  go_enter Tryz.func101, Tryz.ntmps101
  go_wp2_with fail
  go_ret
  exact ⟨rfl, rfl⟩
 ·have hd : decide (H < r) = false := decide_eq_false hc1
  by_cases hc2 : H = r
  ·have hb : (H == r) = true := beq_iff_eq.2 hc2
   by_cases ho : q % 2 = 1
   ·have hres : RES = q + 1 := by rw [hdef, if_pos (by omega)]
    rw [hres]
    have hb3 : (q % 2 != 0) = true := by rw [ho]; rfl
    clear hdef hres hdm hr hH hqy ho hc2
    go_enter Tryz.func101, Tryz.ntmps101
    go_wp2_with (go_at_call 118; refine (HO.out _).mono ?_; intro e w1 h; obtain ⟨he, hw⟩ := h; subst he; subst hw)
    go_ret
    exact ⟨rfl, rfl⟩
   ·have hres : RES = q := by rw [hdef, if_neg (by omega)]
    rw [hres]
    have ho' : q % 2 = 0 := by omega
    have hb3 : (q % 2 != 0) = false := by rw [ho']; rfl
    clear hdef hres hdm hr hH hqy ho ho' hc2
    go_enter Tryz.func101, Tryz.ntmps101
    go_wp2_with (go_at_call 118; refine (HO.out _).mono ?_; intro e w1 h; obtain ⟨he, hw⟩ := h; subst he; subst hw)
    go_ret
    exact ⟨rfl, rfl⟩
  ·have hb : (H == r) = false := beq_eq_false_iff_ne.2 hc2
   have hres : RES = q := by rw [hdef, if_neg (by omega)]
   rw [hres]
   clear hdef hres hdm hr hH hqy
   go_enter Tryz.func101, Tryz.ntmps101
   go_wp2_with fail
   go_ret
   exact ⟨rfl, rfl⟩
set_option maxHeartbeats 2000000 in
theorem Neg_any (neg : Bool) (c : Int) (s : Nat) (hc : Fi c) (hs : s ≤ 19) (w : World) :
  Calls Tryz.prog 41 #[.agg #[.bool neg, .int .i8 s, .int .u64 c]] w (fun e w' => e = .returned (.agg #[.bool (!neg && c != 0), .int .i8 s, .int .u64 c]) ∧ Chg (fun _ => False) w w') := by
 obtain ⟨nb, hnb⟩ : ∃ nb, (!neg && c != 0) = nb := ⟨_, rfl⟩
 rw [hnb]
 have HU := hid (fun w => newUnsafe_flat (!neg) nb c s hc hs hnb w)
 have HS := hid (fun w => Scale_any neg c s hs w)
 have HN := hid (fun w => IsNeg_any neg c s w)
 clear hnb hc
 have hb1 : ((w.alloc (.cells #[.bool neg, .int .i8 s, .int .u64 c] 46)).alloc (.cells #[.bool false, .int .i8 0, .int .u64 0] 46)).heap[w.heap.size]? = some (.cells #[.bool neg, .int .i8 s, .int .u64 c] 46 (0, 0)) := by
  rw [Below.heap_alloc _ _ _ (by simp)]; exact heap_alloc_new _ _
 have hb2 : ((w.alloc (.cells #[.bool neg, .int .i8 s, .int .u64 c] 46)).alloc (.cells #[.bool false, .int .i8 0, .int .u64 0] 46)).heap[w.heap.size + 1]? = some (.cells #[.bool false, .int .i8 0, .int .u64 0] 46 (0, 0)) := heap_alloc2_new _ _ _
 have HBX := hid (fun w1 (h : Chg (fun _ => False) ((w.alloc (.cells #[.bool neg, .int .i8 s, .int .u64 c] 46)).alloc (.cells #[.bool false, .int .i8 0, .int .u64 0] 46)) w1) => cell3 ((h.keep w.heap.size (by simp; omega) (fun h => h)).trans hb1))
 have HRS := hid (fun w1 (h : Chg (fun _ => False) ((w.alloc (.cells #[.bool neg, .int .i8 s, .int .u64 c] 46)).alloc (.cells #[.bool false, .int .i8 0, .int .u64 0] 46)) w1) => (h.keep (w.heap.size + 1) (by simp) (fun h => h)).trans hb2)
 clear hb1 hb2
 have HC0 : Hid (Chg (fun _ => False) ((w.alloc (.cells #[.bool neg, .int .i8 s, .int .u64 c] 46)).alloc (.cells #[.bool false, .int .i8 0, .int .u64 0] 46)) ((w.alloc (.cells #[.bool neg, .int .i8 s, .int .u64 c] 46)).alloc (.cells #[.bool false, .int .i8 0, .int .u64 0] 46)).drew) := (Chg.refl _ _).drew
 have HCW : Hid (Chg (fun _ => False) w ((w.alloc (.cells #[.bool neg, .int .i8 s, .int .u64 c] 46)).alloc (.cells #[.bool false, .int .i8 0, .int .u64 0] 46))) := ((Chg.refl _ _).alloc _).alloc _
 have HSS := hid (fun w1 (h : Chg (fun _ => False) ((w.alloc (.cells #[.bool neg, .int .i8 s, .int .u64 c] 46)).alloc (.cells #[.bool false, .int .i8 0, .int .u64 0] 46)) w1) => (show w1.cell? ⟨w.heap.size, 0, none⟩ = some (.bool neg) ∧ w1.cell? ⟨w.heap.size, 1, none⟩ = some (.int .i8 s) ∧ w1.cell? ⟨w.heap.size, 2, none⟩ = some (.int .u64 c) from ⟨(HBX.out w1 h).1, (HBX.out w1 h).2.1, (HBX.out w1 h).2.2.1⟩))
 go_enter Tryz.func41, Tryz.ntmps41
 go_wp2_with fail
 go_region_held3 (fun w' => w'.cell? ⟨w.heap.size, 0, none⟩ = some (.bool neg) ∧ w'.cell? ⟨w.heap.size, 1, none⟩ = some (.int .i8 s) ∧ w'.cell? ⟨w.heap.size, 2, none⟩ = some (.int .u64 c)) (first | exact HSS.out _ hk3 | exact HSS.out _ hk2 | exact HSS.out _ hk1 | exact HSS.out _ HC0.out | go_keep) (first | (go_at_call 42; refine (HN.out _).mono ?_; intro e w1 h; obtain ⟨he1, hc1⟩ := h; subst he1; have hk1 := HC0.out.trans hc1 sb_) | (go_at_call 44; refine (HS.out _).mono ?_; intro e w2 h; obtain ⟨he2, hc2⟩ := h; subst he2; have hk2 := hk1.trans hc2 sb_) | (go_at_call 66; refine (HU.out _).mono ?_; intro e w3 h; obtain ⟨he3, hc3⟩ := h; subst he3; have hk3 := hk2.trans hc3 sb_; have hr3 := HRS.out w3 hk3; obtain ⟨k0, k1, k2, f0, f1, f2⟩ := cell3 hr3; have HR3 := hid hr3; clear hr3))
 all_goals (go_wp2_with fail; refine bodyPost_ret (v := .agg #[.bool nb, .int .i8 s, .int .u64 c]) (by rw [results_cell_row rfl _ _ (w.heap.size + 1) _ _ _ _ rfl (store3 HR3.out _ _ _) Tryz.underlying46 rfl dec_size]) rfl ⟨rfl, chg3 (HCW.out.trans hk3 sb_) (by omega) _ _ _⟩)
end Go.Proofs.YtmpkgkjnoanlhaaGreatDoor
