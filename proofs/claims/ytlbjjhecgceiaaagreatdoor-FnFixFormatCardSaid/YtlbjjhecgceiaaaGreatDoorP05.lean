/- Part 5 of the proof. -/
import Derived.Test.YtlbjjhecgceiaaaGreatDoorP04
namespace Go.Proofs.YtlbjjhecgceiaaaGreatDoor.PFnFixSubExact
open Go.RowKit Go.Proofs.YtlbjjhecgceiaaaGreatDoorW.PrintWords Go.Proofs.YtlbjjhecgceiaaaGreatDoorW.PrintLast Go.Proofs.YtlbjjhecgceiaaaGreatDoorW.PrintMore
attribute [local go_sem] max2_int min2_int max_two min_two max_three min_three max_four min_four
set_option linter.unusedVariables false
set_option linter.unusedSimpArgs false
def spec_NatFrom.l0 : Nat → Int → List Int → Option (List Int)
 | 0, _, _ => none
 | k + 1, x0, x3 => if x0 > 0 then (if x3.length < 35184372088832 then (spec_NatFrom.l0 k (IntKind.u64.wrap (Int.tdiv x0 1000000000)) (x3 ++ [(Int.tmod x0 1000000000) % 4294967296])) else (none)) else (some x3)
def spec_NatFrom.f (k : Nat) (a0 : Int) : Option (List Int) := spec_NatFrom.l0 k a0 ([] : List Int)
set_option maxHeartbeats 8000000 in
set_option maxRecDepth 100000 in
theorem spec_NatFrom.calls (k : Nat) (a0 : Int) (r : List Int) (w : World) (h : spec_NatFrom.f k a0 = some r) :
  Calls Tryz.prog 52 #[.int .u64 a0] w fun e w' => ∃ v0_ : Value, e = .returned (v0_) ∧ Kd.R (Kd.int .u32) 80 w' w.heap.size (fun _ => True) v0_ r ∧ Below w.heap.size w w' := by
 have HB := Aside0.mk (Below.refl w.heap.size w)
 have H : (spec_NatFrom.l0 k a0 ([] : List Int)) = some r := h
 clear h
 have H' := Aside0.mk H
 clear H
 go_enter Tryz.func52, Tryz.ntmps52
 go_wp2
 go_loopg [0, 3] k (fun kq v0 v3 w' => ∃ (x0_1 : Int) (x3_1 : List Int), v0 = .int .u64 x0_1 ∧ Aside0 (spec_NatFrom.l0 kq x0_1 x3_1 = some r) ∧ Aside0 (kq ≤ k) ∧ Aside0 (Kd.R (Kd.int .u32) 80 w' w.heap.size (fun _ => True) v3 x3_1) ∧ Aside0 (Below w.heap.size w w'))
 case atStart => exact ⟨(a0), (([] : List Int)), sd_, H', ⟨Nat.le_refl _⟩, ⟨by first | exact Kd.R_nil _ _ _ _ _ | exact Kd.N_nil _ _ _ _ _ | exact Kd.V_nil _ _ _ _ _ | exact Kd.Q_nil _ _ _ _ _ | exact Kd.S_nil _ _ _ _ _⟩, ⟨bel_⟩⟩
 case round =>
  clear H'
  obtain ⟨x0_1, x3_1, rfl, HA, HK1, HO_3, HB⟩ := hrel
  cases gk with
  | zero => exact absurd HA.out (by simp [spec_NatFrom.l0])
  | succ k1 =>
   have H := HA.out
   clear HA
   simp only [spec_NatFrom.l0] at H
   by_cases c2 : x0_1 > 0
   ·rw [if_pos c2] at H
    have c2b0 : decide (0 < x0_1) = true := decide_eq_true c2
    clear c2
    by_cases c3 : x3_1.length < 35184372088832
    ·rw [if_pos c3] at H
     have LMc3 := Aside0.mk c3
     clear c3
     obtain ⟨y260, hy260⟩ : ∃ y_ : List Int, y_ = (x3_1 ++ [(Int.tmod x0_1 1000000000) % 4294967296]) := ⟨_, rfl⟩
     replace H : (spec_NatFrom.l0 k1 (IntKind.u64.wrap (Int.tdiv x0_1 1000000000)) y260) = some r := fo_ hy260 H
     have Ny260 := Aside0.mk hy260
     clear hy260
     have H' := Aside0.mk H
     clear H
     go_wp2_with (first | ((with_reducible refine gate_builtin (b := .append) (xs := #[.tmp 8, .tmp 12]) rfl ?_); at_builtin; refine Kd.R_append (Kd.int .u32) (w0 := w) w.heap.size rfl (.tmp 8) (.tmp 12) 30 80 (.int .u32 0) 4 rfl Tryz.underlying30 info80 rfl (by decide) (by omega) u3 x3_1 ((Int.tmod x0_1 1000000000) % 4294967296) [.int .u32 ((Int.tmod x0_1 1000000000) % 4294967296)] (fun _ => True) (fun _ => False) rfl rfl ?aP (fun _ hk => hk.elim) ?aF ?aO ?aB ?aS ?aL ?_; (case aP => exact rfl); (case aB => exact bel_); (case aF => exact (fun _ _ => trivial)); (case aO => exact (rr_ HO_3.out)); (case aS => exact (below_size bel_)); (case aL => have := LMc3.out; omega); intro v261 w4 ho hb hg hat; rw [← Ny260.out] at ho; have n0_ := Aside0.mk (hb); have n1_ := Aside0.mk (ho); clear HB; clear HO_3; have HB := n0_; have HO262 := n1_; clear n0_ n1_; clear ho hb hg hat))
     go_roundg k1
     case measure => have := HK1.out; omega
     case rel => exact ⟨(IntKind.u64.wrap (Int.tdiv x0_1 1000000000)), (y260), sd_, H', ⟨by have := HK1.out; omega⟩, ⟨by (with_reducible repeat (first | apply Kd.R_alloc | apply Kd.R_drewN | apply Kd.R_drew)); exact HO262.out⟩, ⟨bel_⟩⟩
    ·rw [if_neg c3] at H
     exact absurd H (by simp)
   ·rw [if_neg c2] at H
    have c2b0 : decide (0 < x0_1) = false := decide_eq_false c2
    clear c2
    obtain rfl := Option.some.inj H
    go_wp2
    go_ret
    exact ⟨_, by first | rfl | (simp [errW_none, errW_some] <;> rfl) | (simp [*, errW_none, errW_some] <;> rfl), by (with_reducible repeat (first | apply Kd.R_alloc | apply Kd.R_drewN | apply Kd.R_drew)); exact HO_3.out, bel_⟩
def spec_NatCmp.l0 : Nat → List Int → List Int → Int → Option (Int)
 | 0, _, _, _ => none
 | k + 1, x0, x1, x5 => if x5 ≥ 0 then (if 0 ≤ x5 then (if x5 < (x0.length : Int) then (if x5 < (x1.length : Int) then (if (rd x0 x5) = (rd x1 x5) then (spec_NatCmp.l0 k x0 x1 (wrap64 (x5 - 1))) else (if (rd x0 x5) < (rd x1 x5) then (some (-1)) else (some 1))) else (none)) else (none)) else (none)) else (some 0)
def spec_NatCmp.f (k : Nat) (l0 : List Int) (l1 : List Int) : Option (Int) := if (l0.length : Int) = (l1.length : Int) then (spec_NatCmp.l0 k l0 l1 (wrap64 ((l0.length : Int) - 1))) else (if (l0.length : Int) < (l1.length : Int) then (some (-1)) else (some 1))
set_option maxHeartbeats 8000000 in
set_option maxRecDepth 100000 in
theorem spec_NatCmp.calls (k : Nat) (A0 : Option Addr) (c0 : Nat) (l0 : List Int) (A1 : Option Addr) (c1 : Nat) (l1 : List Int) (r : Int) (w : World) (hr0 : Kd.C (Kd.int .u32) w A0 l0.length l0) (hc0 : l0.length ≤ c0) (hr1 : Kd.C (Kd.int .u32) w A1 l1.length l1) (hc1 : l1.length ≤ c1) (h : spec_NatCmp.f k l0 l1 = some r) :
  Calls Tryz.prog 45 #[.slice A0 l0.length c0, .slice A1 l1.length c1] w fun e w' => e = .returned (.int .i64 r) ∧ Drawn0 w w' := by
 have HR0 := Aside0.mk hr0
 have HC0 := Aside0.mk hc0
 clear hr0 hc0
 have HR1 := Aside0.mk hr1
 have HC1 := Aside0.mk hc1
 clear hr1 hc1
 have H : (if (l0.length : Int) = (l1.length : Int) then (spec_NatCmp.l0 k l0 l1 (wrap64 ((l0.length : Int) - 1))) else (if (l0.length : Int) < (l1.length : Int) then (some (-1)) else (some 1))) = some r := h
 clear h
 by_cases c3 : (l0.length : Int) = (l1.length : Int)
 ·rw [if_pos c3] at H
  have c3b0 : ((l0.length : Int) == (l1.length : Int)) = true := beq_iff_eq.mpr c3
  have c3b1 : ((l0.length : Int) != (l1.length : Int)) = false := bne_eq_false_iff_eq.mpr c3
  have c3b2 : (l0.length == l1.length) = true := by first | simpa using c3 | (simp at c3 ⊢; omega)
  clear c3
  have H' := Aside0.mk H
  clear H
  go_enter Tryz.func45, Tryz.ntmps45
  go_wp2
  repeat (go_quiet (fail); try go_wp2)
  go_loopg [5] k (fun kq v5 w' => ∃ (x5_1 : Int), v5 = .int .i64 x5_1 ∧ Aside0 (spec_NatCmp.l0 kq l0 l1 x5_1 = some r) ∧ Aside0 (kq ≤ k) ∧ Drawn0 w w')
  case atStart => exact ⟨(wrap64 ((l0.length : Int) - 1)), sd_, H', ⟨Nat.le_refl _⟩, by repeat (first | exact Drawn0.refl _ | apply Drawn0.step)⟩
  case round =>
   clear H'
   try clear c1
   try clear p2
   try clear c3
   try clear c3b0
   try clear c3b1
   try clear c3b2
   obtain ⟨x5_1, rfl, HA, HK1, ⟨m1, rfl⟩⟩ := hrel
   cases gk with
   | zero => exact absurd HA.out (by simp [spec_NatCmp.l0])
   | succ k1 =>
    have H := HA.out
    clear HA
    simp only [spec_NatCmp.l0] at H
    by_cases c4 : x5_1 ≥ 0
    ·rw [if_pos c4] at H
     have c4b0 : decide (0 ≤ x5_1) = true := decide_eq_true c4
     clear c4
     by_cases c5 : 0 ≤ x5_1
     ·rw [if_pos c5] at H
      have c5b0 : decide (0 ≤ x5_1) = true := decide_eq_true c5
      clear c5
      by_cases c6 : x5_1 < (l0.length : Int)
      ·rw [if_pos c6] at H
       have c6b0 : decide (x5_1 < (l0.length : Int)) = true := decide_eq_true c6
       clear c6
       by_cases c7 : x5_1 < (l1.length : Int)
       ·rw [if_pos c7] at H
        have c7b0 : decide (x5_1 < (l1.length : Int)) = true := decide_eq_true c7
        clear c7
        by_cases c8 : (rd l0 x5_1) = (rd l1 x5_1)
        ·rw [if_pos c8] at H
         have c8b0 : ((rd l0 x5_1) == (rd l1 x5_1)) = true := beq_iff_eq.mpr c8
         have c8b1 : ((rd l0 x5_1) != (rd l1 x5_1)) = false := bne_eq_false_iff_eq.mpr c8
         clear c8
         have H' := Aside0.mk H
         clear H
         have p256 : 0 ≤ (x5_1 : Int) := ode_
         have q256 : x5_1 < (l0.length : Int) := ode_
         obtain ⟨ad256, e256, hx256_0⟩ := Kd.at_int HR0.out x5_1 p256 q256
         cases e256
         replace p256 := eq_true p256
         replace q256 := eq_true q256
         have p257 : 0 ≤ (x5_1 : Int) := ode_
         have q257 : x5_1 < (l1.length : Int) := ode_
         obtain ⟨ad257, e257, hx257_0⟩ := Kd.at_int HR1.out x5_1 p257 q257
         cases e257
         replace p257 := eq_true p257
         replace q257 := eq_true q257
         go_wp2
         repeat (go_quiet (fail); try go_wp2)
         go_roundg k1
         case measure => have := HK1.out; omega
         case rel => exact ⟨(wrap64 (x5_1 - 1)), sd_, H', ⟨by have := HK1.out; omega⟩, by repeat (first | exact Drawn0.refl _ | apply Drawn0.step)⟩
        ·rw [if_neg c8] at H
         have c8b0 : ((rd l0 x5_1) == (rd l1 x5_1)) = false := beq_eq_false_iff_ne.mpr c8
         have c8b1 : ((rd l0 x5_1) != (rd l1 x5_1)) = true := bne_iff_ne.mpr c8
         by_cases c9 : (rd l0 x5_1) < (rd l1 x5_1)
         ·rw [if_pos c9] at H
          have c9b0 : decide ((rd l0 x5_1) < (rd l1 x5_1)) = true := decide_eq_true c9
          clear c9
          obtain rfl := Option.some.inj H
          have p256 : 0 ≤ (x5_1 : Int) := ode_
          have q256 : x5_1 < (l0.length : Int) := ode_
          obtain ⟨ad256, e256, hx256_0⟩ := Kd.at_int HR0.out x5_1 p256 q256
          cases e256
          replace p256 := eq_true p256
          replace q256 := eq_true q256
          have p257 : 0 ≤ (x5_1 : Int) := ode_
          have q257 : x5_1 < (l1.length : Int) := ode_
          obtain ⟨ad257, e257, hx257_0⟩ := Kd.at_int HR1.out x5_1 p257 q257
          cases e257
          replace p257 := eq_true p257
          replace q257 := eq_true q257
          have p258 : 0 ≤ (x5_1 : Int) := ode_
          have q258 : x5_1 < (l0.length : Int) := ode_
          obtain ⟨ad258, e258, hx258_0⟩ := Kd.at_int HR0.out x5_1 p258 q258
          obtain rfl : ad256 = ad258 := (by injection e258)
          replace p258 := eq_true p258
          replace q258 := eq_true q258
          have p259 : 0 ≤ (x5_1 : Int) := ode_
          have q259 : x5_1 < (l1.length : Int) := ode_
          obtain ⟨ad259, e259, hx259_0⟩ := Kd.at_int HR1.out x5_1 p259 q259
          obtain rfl : ad257 = ad259 := (by injection e259)
          replace p259 := eq_true p259
          replace q259 := eq_true q259
          go_wp2
          repeat (go_quiet (fail); try go_wp2)
          go_ret
          exact ⟨sd_, by repeat (first | exact Drawn0.refl _ | apply Drawn0.step)⟩
         ·rw [if_neg c9] at H
          have c9b0 : decide ((rd l0 x5_1) < (rd l1 x5_1)) = false := decide_eq_false c9
          clear c9
          obtain rfl := Option.some.inj H
          have p256 : 0 ≤ (x5_1 : Int) := ode_
          have q256 : x5_1 < (l0.length : Int) := ode_
          obtain ⟨ad256, e256, hx256_0⟩ := Kd.at_int HR0.out x5_1 p256 q256
          cases e256
          replace p256 := eq_true p256
          replace q256 := eq_true q256
          have p257 : 0 ≤ (x5_1 : Int) := ode_
          have q257 : x5_1 < (l1.length : Int) := ode_
          obtain ⟨ad257, e257, hx257_0⟩ := Kd.at_int HR1.out x5_1 p257 q257
          cases e257
          replace p257 := eq_true p257
          replace q257 := eq_true q257
          have p258 : 0 ≤ (x5_1 : Int) := ode_
          have q258 : x5_1 < (l0.length : Int) := ode_
          obtain ⟨ad258, e258, hx258_0⟩ := Kd.at_int HR0.out x5_1 p258 q258
          obtain rfl : ad256 = ad258 := (by injection e258)
          replace p258 := eq_true p258
          replace q258 := eq_true q258
          have p259 : 0 ≤ (x5_1 : Int) := ode_
          have q259 : x5_1 < (l1.length : Int) := ode_
          obtain ⟨ad259, e259, hx259_0⟩ := Kd.at_int HR1.out x5_1 p259 q259
          obtain rfl : ad257 = ad259 := (by injection e259)
          replace p259 := eq_true p259
          replace q259 := eq_true q259
          go_wp2
          repeat (go_quiet (fail); try go_wp2)
          go_ret
          exact ⟨sd_, by repeat (first | exact Drawn0.refl _ | apply Drawn0.step)⟩
       ·rw [if_neg c7] at H
        exact absurd H (by simp)
      ·rw [if_neg c6] at H
       exact absurd H (by simp)
     ·rw [if_neg c5] at H
      exact absurd H (by simp)
    ·rw [if_neg c4] at H
     have c4b0 : decide (0 ≤ x5_1) = false := decide_eq_false c4
     clear c4
     obtain rfl := Option.some.inj H
     go_wp2
     repeat (go_quiet (fail); try go_wp2)
     go_ret
     exact ⟨sd_, by repeat (first | exact Drawn0.refl _ | apply Drawn0.step)⟩
 ·rw [if_neg c3] at H
  have c3b0 : ((l0.length : Int) == (l1.length : Int)) = false := beq_eq_false_iff_ne.mpr c3
  have c3b1 : ((l0.length : Int) != (l1.length : Int)) = true := bne_iff_ne.mpr c3
  have c3b2 : (l0.length == l1.length) = false := by first | simpa using c3 | (simp at c3 ⊢; omega)
  by_cases c10 : (l0.length : Int) < (l1.length : Int)
  ·rw [if_pos c10] at H
   have c10b0 : decide ((l0.length : Int) < (l1.length : Int)) = true := decide_eq_true c10
   have c10b1 : decide (l0.length < l1.length) = true := decide_eq_true (Int.ofNat_lt.mp c10)
   clear c10
   obtain rfl := Option.some.inj H
   go_enter Tryz.func45, Tryz.ntmps45
   go_wp2
   repeat (go_quiet (fail); try go_wp2)
   go_ret
   exact ⟨sd_, by repeat (first | exact Drawn0.refl _ | apply Drawn0.step)⟩
  ·rw [if_neg c10] at H
   have c10b0 : decide ((l0.length : Int) < (l1.length : Int)) = false := decide_eq_false c10
   have c10b1 : decide (l0.length < l1.length) = false := decide_eq_false (fun h => c10 (Int.ofNat_lt.mpr h))
   clear c10
   obtain rfl := Option.some.inj H
   go_enter Tryz.func45, Tryz.ntmps45
   go_wp2
   repeat (go_quiet (fail); try go_wp2)
   go_ret
   exact ⟨sd_, by repeat (first | exact Drawn0.refl _ | apply Drawn0.step)⟩
end Go.Proofs.YtlbjjhecgceiaaaGreatDoor.PFnFixSubExact
namespace Go.Proofs.YtlbjjhecgceiaaaGreatDoor
open Go.RowKit Go.Proofs.YtlbjjhecgceiaaaGreatDoorW.PrintWords Go.Proofs.YtlbjjhecgceiaaaGreatDoorW.PrintLast Go.Proofs.YtlbjjhecgceiaaaGreatDoorW.PrintMore PFnFixSubExact
set_option linter.unusedVariables false
set_option linter.unusedSimpArgs false
theorem one_is : IsN [1] 1 := ⟨Lms.cons (by omega) (by omega) Lms.nil, Trm.last (xs := []) (by omega), rfl⟩
theorem IsN.snoc {xs : List Int} {y : Int} {a : Nat} (h : Lms xs) (h0 : 0 < y) (h1 : y < 1000000000) (hv : v9 xs + p9 xs.length * y = a) : IsN (xs ++ [y]) a :=
 ⟨h.app (Lms.cons (by omega) h1 Lms.nil), Trm.last (by omega), by rw [v9_snoc, hv]⟩
theorem natFrom_l0 : ∀ (n : Nat) (x : Int) (xs : List Int), 0 ≤ x → x < 1000000000 ^ n → x < 18446744073709551616 → xs.length + n ≤ 10 → Lms xs → (x = 0 → Trm xs) →
  ∃ r, Lms r ∧ Trm r ∧ v9 r = v9 xs + p9 xs.length * x ∧ ∀ k, n < k → spec_NatFrom.l0 k x xs = some r := by
 intro n
 induction n with
 | zero =>
  intro x xs h0 h1 h2 hb hl ht
  have hx : x = 0 := by simp at h1; omega
  refine ⟨xs, hl, ht hx, by subst hx; simp, fun k hk => ?_⟩
  obtain ⟨k, rfl⟩ : ∃ m, k = m + 1 := ⟨k - 1, by omega⟩
  simp only [spec_NatFrom.l0]
  rw [if_neg (by omega)]
 | succ n ih =>
  intro x xs h0 h1 h2 hb hl ht
  by_cases hx : x = 0
  ·refine ⟨xs, hl, ht hx, by subst hx; simp, fun k hk => ?_⟩
   obtain ⟨k, rfl⟩ : ∃ m, k = m + 1 := ⟨k - 1, by omega⟩
   simp only [spec_NatFrom.l0]
   rw [if_neg (by omega)]
  ·have hq0 : 0 ≤ x / 1000000000 := by omega
   have hq1 : x / 1000000000 < 1000000000 ^ n := by
    rw [Int.pow_succ] at h1
    exact Int.ediv_lt_of_lt_mul (by omega) h1
   have hr0 : 0 ≤ x % 1000000000 := by omega
   have hr1 : x % 1000000000 < 1000000000 := by omega
   obtain ⟨r, k1, k2, k3, k4⟩ := ih (x / 1000000000) (xs ++ [x % 1000000000]) hq0 hq1 (by omega) (by simp; omega) (hl.app (Lms.cons hr0 hr1 Lms.nil)) (fun h => Trm.last (by omega))
   refine ⟨r, k1, k2, ?_, fun k hk => ?_⟩
   ·rw [k3, v9_snoc, List.length_append, List.length_singleton, p9_succ]
    have hd := (Int.mul_ediv_add_emod x 1000000000).symm
    generalize x / 1000000000 = q at *
    generalize x % 1000000000 = s at *
    subst hd
    grind
   ·obtain ⟨k, rfl⟩ : ∃ m, k = m + 1 := ⟨k - 1, by omega⟩
    have e1 : Int.tmod x 1000000000 % 4294967296 = x % 1000000000 := by rw [Int.tmod_eq_emod_of_nonneg h0]; omega
    have f1 : x > 0 := by omega
    have f2 : xs.length < 35184372088832 := by omega
    have e2 : IntKind.u64.wrap (Int.tdiv x 1000000000) = x / 1000000000 := by rw [Int.tdiv_eq_ediv_of_nonneg h0, u64_in hq0 (by omega)]
    have f3 : n < k := by omega
    simp only [spec_NatFrom.l0]
    rw [if_pos f1, if_pos f2, e1, e2]
    exact k4 k f3
theorem natFrom_law {a : Nat} (ha : (a : Int) < 18446744073709551616) : ∃ K r, IsN r a ∧ ∀ k, K ≤ k → spec_NatFrom.f k (a : Int) = some r := by
 obtain ⟨r, k1, k2, k3, k4⟩ := natFrom_l0 3 (a : Int) [] (by omega) (by omega) ha (by simp) Lms.nil (fun _ => Trm.nil)
 exact ⟨4, r, ⟨k1, k2, by rw [k3]; simp [v9, p9]⟩, fun k hk => k4 k (by omega)⟩
theorem natCmp_l0 {xs ys : List Int} {n : Nat} (hx : Lms xs) (hy : Lms ys) (hn : xs.length = n) (hm : ys.length = n) (hnb : n ≤ 1000) :
  ∀ (i k : Nat), i ≤ n → i < k → xs.drop i = ys.drop i → spec_NatCmp.l0 k xs ys ((i : Int) - 1) = some (if v9 (xs.take i) < v9 (ys.take i) then -1 else if v9 (xs.take i) = v9 (ys.take i) then 0 else 1) := by
 intro i
 induction i with
 | zero =>
  intro k hi hk he
  obtain ⟨k, rfl⟩ : ∃ m, k = m + 1 := ⟨k - 1, by omega⟩
  simp only [spec_NatCmp.l0]
  rw [if_neg (by omega)]
  simp [v9]
 | succ i ih =>
  intro k hi hk he
  obtain ⟨k, rfl⟩ : ∃ m, k = m + 1 := ⟨k - 1, by omega⟩
  have e0 : ((i + 1 : Nat) : Int) - 1 = (i : Int) := by omega
  have f1 : (i : Int) ≥ 0 := by omega
  have f1' : (0 : Int) ≤ (i : Int) := by omega
  have f2 : (i : Int) < (xs.length : Int) := by omega
  have f3 : (i : Int) < (ys.length : Int) := by omega
  have hxl := v9_lt (hx.take i)
  have hyl := v9_lt (hy.take i)
  have hx0 := v9_nonneg (hx.take i)
  have hy0 := v9_nonneg (hy.take i)
  rw [List.length_take, Nat.min_eq_left (by omega)] at hxl hyl
  have hxt := v9_take_succ xs i (by omega)
  have hyt := v9_take_succ ys i (by omega)
  have hp := p9_pos i
  have hih := ih k (by omega) (by omega)
  have hdx : xs.drop i = xs.getD i 0 :: xs.drop (i + 1) := by rw [List.drop_eq_getElem_cons (by omega), List.getD_eq_getElem?_getD, List.getElem?_eq_getElem (by omega), Option.getD_some]
  have hdy : ys.drop i = ys.getD i 0 :: ys.drop (i + 1) := by rw [List.drop_eq_getElem_cons (by omega), List.getD_eq_getElem?_getD, List.getElem?_eq_getElem (by omega), Option.getD_some]
  have hw : i ≤ 1000 := by omega
  rw [hxt, hyt, e0]
  simp only [spec_NatCmp.l0]
  rw [if_pos f1, if_pos f1', if_pos f2, if_pos f3, rd_nat, rd_nat]
  generalize xs.getD i 0 = x at *
  generalize ys.getD i 0 = y at *
  by_cases hxy : x = y
  ·subst hxy
   have hw2 : wrap64 ((i : Int) - 1) = (i : Int) - 1 := w64 (by omega) (by omega)
   rw [if_pos rfl, hw2, hih (by rw [hdx, hdy, he])]
   clear hw2 hih
   generalize p9 i * x = z at *
   congr 1
   split <;> split <;> (try split) <;> (try split) <;> omega
  ·rw [if_neg hxy]
   clear hih
   by_cases hlt : x < y
   ·have := Int.mul_le_mul_of_nonneg_left (show x + 1 ≤ y by omega) (Int.le_of_lt hp)
    rw [Int.mul_add, Int.mul_one] at this
    rw [if_pos hlt, if_pos (by omega)]
   ·have := Int.mul_le_mul_of_nonneg_left (show y + 1 ≤ x by omega) (Int.le_of_lt hp)
    rw [Int.mul_add, Int.mul_one] at this
    rw [if_neg hlt, if_neg (by omega), if_neg (by omega)]
def cmpN (a b : Nat) : Int := if a < b then -1 else if a = b then 0 else 1
theorem natCmp_law {xs ys : List Int} {a b : Nat} (hx : IsN xs a) (hy : IsN ys b) (ha : a < tn 1800) (hb : b < tn 1800) :
  ∀ k, 1000 ≤ k → spec_NatCmp.f k xs ys = some (cmpN a b) := by
 intro k hk
 have h1 := hx.len ha
 have h2 := hy.len hb
 have hxl := v9_lt hx.lms
 have hyl := v9_lt hy.lms
 unfold spec_NatCmp.f cmpN
 by_cases hl : xs.length = ys.length
 ·rw [if_pos (by omega)]
  have hw : wrap64 ((xs.length : Int) - 1) = (xs.length : Int) - 1 := w64 (by omega) (by omega)
  rw [hw, natCmp_l0 hx.lms hy.lms rfl hl.symm (by omega) xs.length k (Nat.le_refl _) (by omega) (by rw [List.drop_eq_nil_of_le (Nat.le_refl _), List.drop_eq_nil_of_le (by omega)])]
  rw [List.take_of_length_le (Nat.le_refl _), List.take_of_length_le (by omega), hx.val, hy.val]
  clear hw
  congr 1
  split <;> split <;> (try split) <;> (try split) <;> omega
 ·rw [if_neg (by omega)]
  by_cases hlt : xs.length < ys.length
  ·have hne : ys ≠ [] := by intro e; subst e; simp at hlt
   have hp := v9_pos hy.lms hy.trm hne
   have hm := p9_mono (show xs.length ≤ ys.length - 1 by omega)
   rw [hx.val] at hxl
   rw [hy.val] at hp
   rw [if_pos (by omega), if_pos (by omega)]
  ·have hne : xs ≠ [] := by intro e; subst e; simp only [List.length_nil] at hl hlt; omega
   have hp := v9_pos hx.lms hx.trm hne
   have hm := p9_mono (show ys.length ≤ xs.length - 1 by omega)
   rw [hy.val] at hyl
   rw [hx.val] at hp
   rw [if_neg (by omega), if_neg (by omega), if_neg (by omega)]
theorem pow10_l0 (r q m : Nat) (xs : List Int) (hr : r < 9) (hl : xs.length = q + 1) (hq : q ≤ 100) : ∀ (d i : Nat), i + d = r → ∀ k, d < k →
  spec_Pow10.l0 k ((9 * q + r : Nat) : Int) xs ((10 ^ i : Nat) : Int) (i : Int) = some (xs.set q ((10 ^ r : Nat) : Int)) := by
 have h9 : ((9 * q + r : Nat) : Int).tmod 9 = (r : Int) := by rw [Int.tmod_eq_emod_of_nonneg (by omega)]; omega
 have h8 : ((9 * q + r : Nat) : Int).tdiv 9 = (q : Int) := by rw [Int.tdiv_eq_ediv_of_nonneg (by omega)]; omega
 have f3 : (0 : Int) ≤ (q : Int) := by omega
 have f4 : (q : Int) < (xs.length : Int) := by omega
 have f5 : (q : Int) ≤ 100000 := by omega
 have f6 : -100000 ≤ (q : Int) := by omega
 intro d
 induction d with
 | zero =>
  intro i hi k hk
  obtain ⟨k, rfl⟩ : ∃ m, k = m + 1 := ⟨k - 1, by omega⟩
  obtain rfl : i = r := by omega
  simp only [spec_Pow10.l0, h9, h8]
  rw [if_neg (by omega), w64 f6 f5, if_pos f3, if_pos f4, Int.toNat_natCast]
 | succ d ih =>
  intro i hi k hk
  obtain ⟨k, rfl⟩ : ∃ m, k = m + 1 := ⟨k - 1, by omega⟩
  have hp : (10 : Nat) ^ (i + 1) ≤ 10 ^ 8 := Nat.pow_le_pow_right (by omega) (by omega)
  have e1 : ((10 ^ i : Nat) : Int) * 10 % 4294967296 = ((10 ^ (i + 1) : Nat) : Int) := by
   have : ((10 ^ i : Nat) : Int) * 10 = ((10 ^ (i + 1) : Nat) : Int) := by rw [Nat.pow_succ, Int.natCast_mul]; rfl
   rw [this]
   generalize (10 : Nat) ^ (i + 1) = P at *
   omega
  have f1 : (i : Int) < (r : Int) := by omega
  have f2 : d < k := by omega
  have f7 : i + 1 + d = r := by omega
  have f8 : i ≤ 10000 := by omega
  conv => lhs; unfold spec_Pow10.l0
  rw [h9, if_pos f1, e1, wr_succ f8]
  exact ih (i + 1) f7 k f2
theorem pow10_law (n : Nat) (hn : n ≤ 240) : ∃ K r, IsN r (10 ^ n) ∧ ∀ k, K ≤ k → spec_Pow10.f k (n : Int) = some r := by
 obtain ⟨q, r, hr, hqr⟩ : ∃ q r, r < 9 ∧ n = 9 * q + r := ⟨n / 9, n % 9, Nat.mod_lt _ (by omega), by omega⟩
 have hq : q ≤ 100 := by omega
 have h8 : ((9 * q + r : Nat) : Int).tdiv 9 = (q : Int) := by rw [Int.tdiv_eq_ediv_of_nonneg (by omega)]; omega
 have hset : (List.replicate (q + 1) (0 : Int)).set q ((10 ^ r : Nat) : Int) = List.replicate q 0 ++ [((10 ^ r : Nat) : Int)] := by
  rw [List.replicate_succ', List.set_append_right _ _ (by simp)]
  simp
 have hp : (10 : Nat) ^ r ≤ 10 ^ 8 := Nat.pow_le_pow_right (by omega) (by omega)
 have hp0 : 0 < (10 : Nat) ^ r := Nat.pow_pos (by omega)
 refine ⟨10, (List.replicate (q + 1) 0).set q ((10 ^ r : Nat) : Int), ?_, fun k hk => ?_⟩
 ·rw [hset]
  refine IsN.snoc (Lms.rep _) (by omega) (by omega) ?_
  rw [v9_rep, List.length_replicate, p9_ten, hqr, Nat.pow_add, Int.natCast_mul]; simp
 ·have f1 : ¬ ((9 * q + r : Nat) : Int) < 0 := by omega
  have f2 : (0 : Int) ≤ ((q + 1 : Nat) : Int) := by omega
  have f3 : q + 1 ≤ 70368744177664 := by omega
  have f4 : (q : Int) ≤ 100000 := by omega
  have f5 : -100000 ≤ (q : Int) := by omega
  have f6 : q ≤ 10000 := by omega
  have f7 : r < k := by omega
  subst hqr
  unfold spec_Pow10.f
  rw [if_neg f1, h8, w64 f5 f4, wr_succ f6, if_pos f2, Int.toNat_natCast, if_pos f3]
  have := pow10_l0 r q r (List.replicate (q + 1) 0) hr (by simp) hq r 0 (by omega) k f7
  simpa using this
end Go.Proofs.YtlbjjhecgceiaaaGreatDoor
