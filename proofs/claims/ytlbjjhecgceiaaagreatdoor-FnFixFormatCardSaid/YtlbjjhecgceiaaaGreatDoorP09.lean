/- Part 9 of the proof. -/
import Derived.Test.YtlbjjhecgceiaaaGreatDoorP04
namespace Go.Proofs.YtlbjjhecgceiaaaGreatDoor.PFnFixSubExact
open Go.RowKit Go.Proofs.YtlbjjhecgceiaaaGreatDoorW.PrintWords Go.Proofs.YtlbjjhecgceiaaaGreatDoorW.PrintLast Go.Proofs.YtlbjjhecgceiaaaGreatDoorW.PrintMore
attribute [local go_sem] max2_int min2_int max_two min_two max_three min_three max_four min_four
set_option linter.unusedVariables false
set_option linter.unusedSimpArgs false
def spec_Has.l0 : Nat → ByteArray → Int → Int → Option (Bool)
 | 0, _, _, _ => none
 | k + 1, x0, x1, x5 => if x5 < (x0.size : Int) then (if 0 ≤ x5 then (if (bt x0 x5) = x1 then (some true) else (spec_Has.l0 k x0 x1 (wrap64 (x5 + 1)))) else (none)) else (some false)
def spec_Has.f (k : Nat) (a0 : ByteArray) (a1 : Int) : Option (Bool) := spec_Has.l0 k a0 a1 0
set_option maxHeartbeats 8000000 in
set_option maxRecDepth 100000 in
theorem spec_Has.calls (k : Nat) (a0 : ByteArray) (a1 : Int) (r : Bool) (w : World) (h : spec_Has.f k a0 a1 = some r) :
  Calls Tryz.prog 22 #[.string a0, .int .u8 a1] w fun e w' => e = .returned (.bool r) ∧ Drawn0 w w' := by
 have H : (spec_Has.l0 k a0 a1 0) = some r := h
 clear h
 have H' := Aside0.mk H
 clear H
 go_enter Tryz.func22, Tryz.ntmps22
 go_wp2
 go_loopg [5] k (fun kq v5 w' => ∃ (x5_1 : Int), v5 = .int .i64 x5_1 ∧ Aside0 (spec_Has.l0 kq a0 a1 x5_1 = some r) ∧ Aside0 (kq ≤ k) ∧ Drawn0 w w')
 case atStart => exact ⟨(0), sd_, H', ⟨Nat.le_refl _⟩, by repeat (first | exact Drawn0.refl _ | apply Drawn0.step)⟩
 case round =>
  clear H'
  try clear c2
  try clear p2
  obtain ⟨x5_1, rfl, HA, HK1, ⟨m1, rfl⟩⟩ := hrel
  cases gk with
  | zero => exact absurd HA.out (by simp [spec_Has.l0])
  | succ k1 =>
   have H := HA.out
   clear HA
   simp only [spec_Has.l0] at H
   by_cases c3 : x5_1 < (a0.size : Int)
   ·rw [if_pos c3] at H
    have c3b0 : decide (x5_1 < (a0.size : Int)) = true := decide_eq_true c3
    clear c3
    by_cases c4 : 0 ≤ x5_1
    ·rw [if_pos c4] at H
     have c4b0 : decide (0 ≤ x5_1) = true := decide_eq_true c4
     clear c4
     by_cases c6 : (bt a0 x5_1) = a1
     ·rw [if_pos c6] at H
      have c6b0 : ((bt a0 x5_1) == a1) = true := beq_iff_eq.mpr c6
      have c6b1 : ((bt a0 x5_1) != a1) = false := bne_eq_false_iff_eq.mpr c6
      clear c6
      obtain rfl := Option.some.inj H
      have p5 : 0 ≤ (x5_1 : Int) := ode_
      have q5 : x5_1 < (a0.size : Int) := ode_
      have hx5 := bt_at a0 x5_1
      replace p5 := eq_true p5
      replace q5 := eq_true q5
      go_wp2
      go_ret
      exact ⟨sd_, by repeat (first | exact Drawn0.refl _ | apply Drawn0.step)⟩
     ·rw [if_neg c6] at H
      have c6b0 : ((bt a0 x5_1) == a1) = false := beq_eq_false_iff_ne.mpr c6
      have c6b1 : ((bt a0 x5_1) != a1) = true := bne_iff_ne.mpr c6
      have H' := Aside0.mk H
      clear H
      have p5 : 0 ≤ (x5_1 : Int) := ode_
      have q5 : x5_1 < (a0.size : Int) := ode_
      have hx5 := bt_at a0 x5_1
      replace p5 := eq_true p5
      replace q5 := eq_true q5
      go_wp2
      go_roundg k1
      case measure => have := HK1.out; omega
      case rel => exact ⟨(wrap64 (x5_1 + 1)), sd_, H', ⟨by have := HK1.out; omega⟩, by repeat (first | exact Drawn0.refl _ | apply Drawn0.step)⟩
    ·rw [if_neg c4] at H
     exact absurd H (by simp)
   ·rw [if_neg c3] at H
    have c3b0 : decide (x5_1 < (a0.size : Int)) = false := decide_eq_false c3
    clear c3
    obtain rfl := Option.some.inj H
    go_wp2
    go_ret
    exact ⟨sd_, by repeat (first | exact Drawn0.refl _ | apply Drawn0.step)⟩
mutual
def laws_teFlags.l0 : Nat → ByteArray → ByteArray → Int → Option (ByteArray)
 | 0, _, _, _ => none
 | k + 1, x0, x3, x4 => if x4 < (x0.size : Int) then (laws_teFlags.j1 k x0 x3 x4 (decide (x4 < 8))) else (laws_teFlags.j1 k x0 x3 x4 false)
def laws_teFlags.j1 : Nat → ByteArray → ByteArray → Int → Bool → Option (ByteArray)
 | 0, _, _, _, _ => none
 | k + 1, x0, x3, x4, x12 => if x12 = true then (if 0 ≤ x4 then (if x4 < (x0.size : Int) then ((spec_Has.f k (⟨#[43, 45, 48, 32]⟩ : ByteArray) (bt x0 x4)).bind fun t101 => (if t101 = true then (if x4 ≤ (wrap64 (x4 + 1)) then (if (wrap64 (x4 + 1)) ≤ (x0.size : Int) then (if x3.size + (x0.extract (x4 : Int).toNat ((wrap64 (x4 + 1)) : Int).toNat).size ≤ 9223372036854775807 then (laws_teFlags.l0 k x0 (x3 ++ (x0.extract (x4 : Int).toNat ((wrap64 (x4 + 1)) : Int).toNat)) (wrap64 (x4 + 1))) else (none)) else (none)) else (none)) else (laws_teFlags.l0 k x0 x3 (wrap64 (x4 + 1))))) else (none)) else (none)) else (some x3)
end
def laws_teFlags.f (k : Nat) (a0 : ByteArray) : Option (ByteArray) := laws_teFlags.l0 k a0 (⟨#[]⟩ : ByteArray) 0
set_option maxHeartbeats 8000000 in
set_option maxRecDepth 100000 in
theorem laws_teFlags.calls (k : Nat) (a0 : ByteArray) (r : ByteArray) (w : World) (h : laws_teFlags.f k a0 = some r) :
  Calls Tryz.prog 14 #[.string a0] w fun e w' => e = .returned (.string r) ∧ Drawn0 w w' := by
 have H : (laws_teFlags.l0 k a0 (⟨#[]⟩ : ByteArray) 0) = some r := h
 clear h
 have H' := Aside0.mk H
 clear H
 go_enter Tryz.func14, Tryz.ntmps14
 go_wp2
 go_loopg [3, 4] k (fun kq v3 v4 w' => ∃ (x3_1 : ByteArray) (x4_1 : Int), v3 = .string x3_1 ∧ v4 = .int .i64 x4_1 ∧ Aside0 (laws_teFlags.l0 kq a0 x3_1 x4_1 = some r) ∧ Aside0 (kq ≤ k) ∧ Drawn0 w w')
 case atStart => exact ⟨((⟨#[]⟩ : ByteArray)), (0), sd_, sd_, H', ⟨Nat.le_refl _⟩, by repeat (first | exact Drawn0.refl _ | apply Drawn0.step)⟩
 case round =>
  clear H'
  try clear c1
  obtain ⟨x3_1, x4_1, rfl, rfl, HA, HK1, ⟨m1, rfl⟩⟩ := hrel
  cases gk with
  | zero => exact absurd HA.out (by simp [laws_teFlags.l0])
  | succ k1 =>
   have H := HA.out
   clear HA
   simp only [laws_teFlags.l0] at H
   have HC2 := Aside0.mk H
   clear H
   go_upto_region 3 with (fail)
   go_cut [12] (fun v12 wc => ∃ (kq : Nat) (x12_1 : Bool), v12 = .bool x12_1 ∧ Aside0 (laws_teFlags.j1 kq a0 x3_1 x4_1 x12_1 = some r) ∧ Aside0 (kq ≤ k1) ∧ Drawn0 w wc)
   case first =>
    have H := HC2.out
    clear HC2
    by_cases c3 : x4_1 < (a0.size : Int)
    ·rw [if_pos c3] at H
     have c3b0 : decide (x4_1 < (a0.size : Int)) = true := decide_eq_true c3
     clear c3
     (first | rw [c3b0] | (simp only [i64_w, i32_w]; rw [c3b0]) | skip)
     have H' := Aside0.mk H
     clear H
     go_wp2
     go_meet
     case rel => exact ⟨_, (decide (x4_1 < 8)), sd_, H', ⟨by have := HK1.out; first | omega | exact Nat.le_refl _⟩, by repeat (first | exact Drawn0.refl _ | apply Drawn0.step)⟩
    ·rw [if_neg c3] at H
     have c3b0 : decide (x4_1 < (a0.size : Int)) = false := decide_eq_false c3
     clear c3
     (first | rw [c3b0] | (simp only [i64_w, i32_w]; rw [c3b0]) | skip)
     have H' := Aside0.mk H
     clear H
     go_wp2
     go_meet
     case rel => exact ⟨_, (false), sd_, H', ⟨by have := HK1.out; first | omega | exact Nat.le_refl _⟩, by repeat (first | exact Drawn0.refl _ | apply Drawn0.step)⟩
   case rest =>
    clear HC2
    try clear c1
    try clear p2
    try clear c3
    try clear c3b0
    obtain ⟨kq, x12_1, rfl, HA, HJ1, ⟨mc1, rfl⟩⟩ := hcut
    cases kq with
    | zero => exact absurd HA.out (by simp [laws_teFlags.j1])
    | succ kj1 =>
     have H := HA.out
     clear HA
     simp only [laws_teFlags.j1] at H
     by_cases c4 : x12_1 = true
     ·subst c4
      have H1 : (if 0 ≤ x4_1 then (if x4_1 < (a0.size : Int) then ((spec_Has.f kj1 (⟨#[43, 45, 48, 32]⟩ : ByteArray) (bt a0 x4_1)).bind fun t101 => (if t101 = true then (if x4_1 ≤ (wrap64 (x4_1 + 1)) then (if (wrap64 (x4_1 + 1)) ≤ (a0.size : Int) then (if x3_1.size + (a0.extract (x4_1 : Int).toNat ((wrap64 (x4_1 + 1)) : Int).toNat).size ≤ 9223372036854775807 then (laws_teFlags.l0 kj1 a0 (x3_1 ++ (a0.extract (x4_1 : Int).toNat ((wrap64 (x4_1 + 1)) : Int).toNat)) (wrap64 (x4_1 + 1))) else (none)) else (none)) else (none)) else (laws_teFlags.l0 kj1 a0 x3_1 (wrap64 (x4_1 + 1))))) else (none)) else (none)) = some r := by rw [if_pos rfl] at H; exact H
      clear H
      have H := H1
      clear H1
      by_cases c5 : 0 ≤ x4_1
      ·rw [if_pos c5] at H
       have c5b0 : decide (0 ≤ x4_1) = true := decide_eq_true c5
       clear c5
       by_cases c6 : x4_1 < (a0.size : Int)
       ·rw [if_pos c6] at H
        have c6b0 : decide (x4_1 < (a0.size : Int)) = true := decide_eq_true c6
        clear c6
        replace H := Option.bind_eq_some_iff.mp H
        obtain ⟨t101, A80, H⟩ := H
        replace H : (if t101 = true then (if x4_1 ≤ (wrap64 (x4_1 + 1)) then (if (wrap64 (x4_1 + 1)) ≤ (a0.size : Int) then (if x3_1.size + (a0.extract (x4_1 : Int).toNat ((wrap64 (x4_1 + 1)) : Int).toNat).size ≤ 9223372036854775807 then (laws_teFlags.l0 kj1 a0 (x3_1 ++ (a0.extract (x4_1 : Int).toNat ((wrap64 (x4_1 + 1)) : Int).toNat)) (wrap64 (x4_1 + 1))) else (none)) else (none)) else (none)) else (laws_teFlags.l0 kj1 a0 x3_1 (wrap64 (x4_1 + 1)))) = some r := H
        have A8 := Aside0.mk A80
        clear A80
        by_cases c9 : t101 = true
        ·subst c9
         have H1 : (if x4_1 ≤ (wrap64 (x4_1 + 1)) then (if (wrap64 (x4_1 + 1)) ≤ (a0.size : Int) then (if x3_1.size + (a0.extract (x4_1 : Int).toNat ((wrap64 (x4_1 + 1)) : Int).toNat).size ≤ 9223372036854775807 then (laws_teFlags.l0 kj1 a0 (x3_1 ++ (a0.extract (x4_1 : Int).toNat ((wrap64 (x4_1 + 1)) : Int).toNat)) (wrap64 (x4_1 + 1))) else (none)) else (none)) else (none)) = some r := by rw [if_pos rfl] at H; exact H
         clear H
         have H := H1
         clear H1
         have c10b0 := eq_true (ode_ : 0 ≤ x4_1)
         by_cases c11 : x4_1 ≤ (wrap64 (x4_1 + 1))
         ·rw [if_pos c11] at H
          have c11b0 := eq_true c11
          have c11b1 : decide (x4_1 ≤ (wrap64 (x4_1 + 1))) = true := decide_eq_true c11
          by_cases c12 : (wrap64 (x4_1 + 1)) ≤ (a0.size : Int)
          ·rw [if_pos c12] at H
           have c12b0 := eq_true c12
           have c12b1 : decide ((wrap64 (x4_1 + 1)) ≤ (a0.size : Int)) = true := decide_eq_true c12
           by_cases c13 : x3_1.size + (a0.extract (x4_1 : Int).toNat ((wrap64 (x4_1 + 1)) : Int).toNat).size ≤ 9223372036854775807
           ·rw [if_pos c13] at H
            have c13b0 := eq_true c13
            have c13b1 : decide (x3_1.size + (a0.extract (x4_1 : Int).toNat ((wrap64 (x4_1 + 1)) : Int).toNat).size ≤ 9223372036854775807) = true := decide_eq_true c13
            try have c13b2 : (9223372036854775807 < x3_1.size + (a0.extract (x4_1 : Int).toNat ((wrap64 (x4_1 + 1)) : Int).toNat).size) = False := eq_false (Nat.not_lt.2 c13)
            have H' := Aside0.mk H
            clear H
            have p7 : 0 ≤ (x4_1 : Int) := ode_
            have q7 : x4_1 < (a0.size : Int) := ode_
            have hx7 := bt_at a0 x4_1
            replace p7 := eq_true p7
            replace q7 := eq_true q7
            go_wp2_with (first | ((with_reducible refine gate_callee (f := 22) rfl ?_); refine goesL_ (some 18) rfl rfl Tryz.func22 kr_ rfl #[.string (⟨#[43, 45, 48, 32]⟩ : ByteArray), .int .u8 (bt a0 x4_1)] rfl lm_ ?_; (with_reducible refine (spec_Has.calls kj1 (⟨#[43, 45, 48, 32]⟩ : ByteArray) (bt a0 x4_1) true _ A8.out).mono ?_); rintro e w' ⟨rfl, ⟨nd, rfl⟩⟩; refine ⟨_, rfl, ?_⟩))
            go_roundg kj1
            case measure => have := HK1.out; have := HJ1.out; omega
            case rel => exact ⟨(x3_1 ++ (a0.extract (x4_1 : Int).toNat ((wrap64 (x4_1 + 1)) : Int).toNat)), (wrap64 (x4_1 + 1)), sd_, sd_, H', ⟨by have := HK1.out; have := HJ1.out; omega⟩, by repeat (first | exact Drawn0.refl _ | apply Drawn0.step)⟩
           ·rw [if_neg c13] at H
            exact absurd H (by simp)
          ·rw [if_neg c12] at H
           exact absurd H (by simp)
         ·rw [if_neg c11] at H
          exact absurd H (by simp)
        ·replace c9 := Bool.eq_false_iff.mpr c9
         subst c9
         have H1 : (laws_teFlags.l0 kj1 a0 x3_1 (wrap64 (x4_1 + 1))) = some r := by rw [if_neg (show ¬ (false = true) by decide)] at H; exact H
         clear H
         have H := H1
         clear H1
         have H' := Aside0.mk H
         clear H
         have p7 : 0 ≤ (x4_1 : Int) := ode_
         have q7 : x4_1 < (a0.size : Int) := ode_
         have hx7 := bt_at a0 x4_1
         replace p7 := eq_true p7
         replace q7 := eq_true q7
         go_wp2_with (first | ((with_reducible refine gate_callee (f := 22) rfl ?_); refine goesL_ (some 18) rfl rfl Tryz.func22 kr_ rfl #[.string (⟨#[43, 45, 48, 32]⟩ : ByteArray), .int .u8 (bt a0 x4_1)] rfl lm_ ?_; (with_reducible refine (spec_Has.calls kj1 (⟨#[43, 45, 48, 32]⟩ : ByteArray) (bt a0 x4_1) false _ A8.out).mono ?_); rintro e w' ⟨rfl, ⟨nd, rfl⟩⟩; refine ⟨_, rfl, ?_⟩))
         go_roundg kj1
         case measure => have := HK1.out; have := HJ1.out; omega
         case rel => exact ⟨(x3_1), (wrap64 (x4_1 + 1)), sd_, sd_, H', ⟨by have := HK1.out; have := HJ1.out; omega⟩, by repeat (first | exact Drawn0.refl _ | apply Drawn0.step)⟩
       ·rw [if_neg c6] at H
        exact absurd H (by simp)
      ·rw [if_neg c5] at H
       exact absurd H (by simp)
     ·replace c4 := Bool.eq_false_iff.mpr c4
      subst c4
      have H1 : (some x3_1) = some r := by rw [if_neg (show ¬ (false = true) by decide)] at H; exact H
      clear H
      have H := H1
      clear H1
      obtain rfl := Option.some.inj H
      go_wp2
      go_ret
      exact ⟨sd_, by repeat (first | exact Drawn0.refl _ | apply Drawn0.step)⟩
attribute [local go_sem] max2_int min2_int max_two min_two max_three min_three max_four min_four
set_option linter.unusedVariables false
set_option linter.unusedSimpArgs false
def spec_zeros.l0 : Nat → List Int → Int → Int → Option (ByteArray)
 | 0, _, _, _ => none
 | k + 1, x3, x9, x10 => if x10 < x9 then (if 0 ≤ x10 then (if x10 < (x3.length : Int) then (spec_zeros.l0 k (x3.set (x10 : Int).toNat 48) x9 (wrap64 (x10 + 1))) else (none)) else (none)) else (some (strOfNums x3))
def spec_zeros.f (k : Nat) (a0 : Int) : Option (ByteArray) := if 0 ≤ (mx a0 0) then (if (mx a0 0 : Int).toNat ≤ 281474976710656 then ((some (List.replicate (mx a0 0 : Int).toNat 0 : List Int)).bind fun y300 => (spec_zeros.l0 k y300 (y300.length : Int) 0)) else (none)) else (none)
set_option maxHeartbeats 8000000 in
set_option maxRecDepth 100000 in
theorem spec_zeros.calls (k : Nat) (a0 : Int) (r : ByteArray) (w : World) (h : spec_zeros.f k a0 = some r) :
  Calls Tryz.prog 51 #[.int .i64 a0] w fun e w' => e = .returned (.string r) ∧ Below w.heap.size w w' := by
 have HB := Aside0.mk (Below.refl w.heap.size w)
 have H : (if 0 ≤ (mx a0 0) then (if (mx a0 0 : Int).toNat ≤ 281474976710656 then ((some (List.replicate (mx a0 0 : Int).toNat 0 : List Int)).bind fun y300 => (spec_zeros.l0 k y300 (y300.length : Int) 0)) else (none)) else (none)) = some r := h
 clear h
 obtain ⟨ji2, hji2⟩ : ∃ j_ : Int, (mx a0 0) = j_ := ⟨_, rfl⟩
 replace H : (if 0 ≤ (ji2) then (if (ji2 : Int).toNat ≤ 281474976710656 then ((some (List.replicate (ji2 : Int).toNat 0 : List Int)).bind fun y300 => (spec_zeros.l0 k y300 (y300.length : Int) 0)) else (none)) else (none)) = some r := by first | (rw [hji2] at H; exact H) | (simp only [hji2] at H ⊢; exact H)
 (try (have hji2l : 0 ≤ ji2 := by (rw [← hji2]; unfold mx; (repeat' split) <;> omega)))
 (try (have hji2m : 0 ≤ ji2 := by omega))
 have hji2_ : (if a0 < 0 then 0 else a0) = ji2 := hji2
 by_cases c3 : 0 ≤ (ji2)
 ·rw [if_pos c3] at H
  have c3b0 := eq_true c3
  have c3b1 : decide (0 ≤ (ji2)) = true := decide_eq_true c3
  clear c3
  by_cases c4 : (ji2 : Int).toNat ≤ 281474976710656
  ·rw [if_pos c4] at H
   have c4b0 := eq_true c4
   have c4b1 : decide ((ji2 : Int).toNat ≤ 281474976710656) = true := decide_eq_true c4
   clear c4
   obtain ⟨y300, hy300⟩ : ∃ y_ : List Int, y_ = (List.replicate (ji2 : Int).toNat 0) := ⟨_, rfl⟩
   replace H : (spec_zeros.l0 k y300 (y300.length : Int) 0) = some r := fo_ hy300 H
   have Ny300 := Aside0.mk hy300
   clear hy300
   have H' := Aside0.mk H
   clear H
   go_enter Tryz.func51, Tryz.ntmps51
   go_wp2_with (first | ((with_reducible refine gate_dst (N := 7) rfl ?_); refine Kd.R_make (Kd.int .u8) _ 5 rfl (N := 7) rfl 117 _ _ rfl ji2 rfl rfl Tryz.underlying117 (.int .u8 0) 1 info5 rfl (by decide) (by omega) 0 (ok := fun _ => True) (okp := fun _ => True) rfl (fun _ hk => hk) trivial ode_ (Nat.le_trans (Nat.mul_le_mul_right _ (ode_ : ji2.toNat ≤ 281474976710656)) (by omega)) (Below.refl _ _) (Nat.le_refl _) ?_; intro v301 w5 ho6 hb hg_ hnew_; clear hg_ hnew_; (first | rw [← Ny300.out] at ho6 | (simp only [Int.reduceToNat] at ho6; rw [← Ny300.out] at ho6)); have n0_ := Aside0.mk (Kd.R_lower ho6 (below_size bel_)); have n1_ := Aside0.mk (below_step bel_ hb); clear HB; have HO302 := n0_; have HB := n1_; clear n0_ n1_; clear hb ho6; obtain ⟨Ao7, co7, eo7⟩ := Kd.R_slice HO302.out; subst eo7))
   go_loopg [10] k (fun kq v10 w' => ∃ (x3_1 : List Int) (x10_1 : Int), v10 = .int .i64 x10_1 ∧ Aside0 (spec_zeros.l0 kq x3_1 (y300.length : Int) x10_1 = some r) ∧ Aside0 (kq ≤ k) ∧ Aside0 (Kd.R (Kd.int .u8) 5 w' w.heap.size (fun _ => True) (.slice Ao7 y300.length co7) x3_1) ∧ Aside0 (Below w.heap.size w w'))
   case atStart => exact ⟨(y300), (0), sd_, H', ⟨Nat.le_refl _⟩, ⟨by (with_reducible repeat (first | apply Kd.R_alloc | apply Kd.R_drewN | apply Kd.R_drew)); exact HO302.out⟩, ⟨bel_⟩⟩
   case round =>
    clear H'
    try clear p2
    try clear c3
    try clear c3b0
    try clear c3b1
    try clear c4
    try clear c4b0
    try clear c4b1
    try clear c5
    obtain ⟨x3_1, x10_1, rfl, HA, HK1, HO_3, HB⟩ := hrel
    have hl3_1 := (Kd.R_reads' HO_3.out).1
    rw [hl3_1] at HO_3
    (try simp only [hl3_1])
    cases gk with
    | zero => exact absurd HA.out (by simp [spec_zeros.l0])
    | succ k1 =>
     have H := HA.out
     clear HA
     simp only [spec_zeros.l0] at H
     by_cases c8 : x10_1 < (y300.length : Int)
     ·rw [if_pos c8] at H
      have c8b0 : decide (x10_1 < (y300.length : Int)) = true := decide_eq_true c8
      clear c8
      by_cases c9 : 0 ≤ x10_1
      ·rw [if_pos c9] at H
       have c9b0 : decide (0 ≤ x10_1) = true := decide_eq_true c9
       clear c9
       by_cases c10 : x10_1 < (x3_1.length : Int)
       ·rw [if_pos c10] at H
        have c10b0 : decide (x10_1 < (x3_1.length : Int)) = true := decide_eq_true c10
        clear c10
        obtain ⟨y303, hy303⟩ : ∃ y_ : List Int, y_ = (x3_1.set (x10_1 : Int).toNat 48) := ⟨_, rfl⟩
        replace H : (spec_zeros.l0 k1 y303 (y300.length : Int) (wrap64 (x10_1 + 1))) = some r := fo_ hy303 H
        have Ny303 := Aside0.mk hy303
        clear hy303
        have H' := Aside0.mk H
        clear H
        have p11 : 0 ≤ (x10_1 : Int) := ode_
        have q11 : (x10_1 : Int) < ((x3_1.length : Int) : Int) := ode_
        obtain ⟨go11, co11, eo11, gb11, gl11, cl11, HG11⟩ := Kd.R_form HO_3.out (by omega)
        (first | cases eo11 | (injection eo11 with ea_ en_ ec_; (first | subst ea_ | (injection ea_ with ea_; subst ea_)); subst ec_; clear en_))
        have GB11 := Aside0.mk gb11
        have GG11 := Aside0.mk HG11
        clear gb11 gl11 HG11
        obtain ⟨hx11_0, hf11_0⟩ := Kd.R_celln 0 HO_3.out (x10_1 : Int) p11 q11
        replace p11 := eq_true p11
        replace q11 := eq_true q11
        have HP12 := Kd.R_putg HO_3.out (x10_1 : Int) 48
        go_wp2_with (first | ((with_reducible refine gate_store (t := 5) (p := 15) rfl ?_); refine store_event (t := 5) (p := 15) (v := ?vo_w13) (w1 := (wr.setCell ⟨go11, (x10_1 : Int).toNat, none⟩ (.int .u8 48))) ?hg ?ho ?hn ?hr ?_; (case ho => rfl); (case hg => rfl); (case hn => rfl); (case hr => first | (go_simp; done) | (go_simp; rfl)); intro w13 hw; have hg : wr.grownBy w13 (some go11) := (by rw [hw]; exact HP12.2); have hp_ : Kd.R (Kd.int .u8) 5 w13 w.heap.size (fun _ => True) (.slice (some ⟨go11, 0, none⟩) x3_1.length co7) y303 := (by rw [hw, Ny303.out]; exact HP12.1); clear HP12; have n0_ := Aside0.mk (hp_); have n1_ := Aside0.mk ((by rw [hw]; exact below_set (HB.out) GB11.out : Below w.heap.size w w13)); clear HO_3; clear HB; have HO_3 := n0_; have HB := n1_; clear n0_ n1_; clear hg hw hp_))
        (try simp only [← hl3_1])
        go_roundg k1
        case measure => have := HK1.out; omega
        case rel => exact ⟨(y303), (wrap64 (x10_1 + 1)), sd_, H', ⟨by have := HK1.out; omega⟩, ⟨by (try simp only [hl3_1]); (with_reducible repeat (first | apply Kd.R_alloc | apply Kd.R_drewN | apply Kd.R_drew)); exact HO_3.out⟩, ⟨bel_⟩⟩
       ·rw [if_neg c10] at H
        exact absurd H (by simp)
      ·rw [if_neg c9] at H
       exact absurd H (by simp)
     ·rw [if_neg c8] at H
      have c8b0 : decide (x10_1 < (y300.length : Int)) = false := decide_eq_false c8
      have c8b1_ : decide (x10_1 < (x3_1.length : Int)) = false := by rw [← hl3_1]; exact c8b0
      clear c8
      obtain rfl := Option.some.inj H
      have hcv14 := own_string (P := Tryz.prog) Tryz.underlying117 Tryz.underlying5 Tryz.underlying9 (Kd.own_of_R HO_3.out)
      go_wp2
      go_ret
      exact ⟨by first | rfl | (simp [errW_none, errW_some] <;> rfl) | (simp only [← hji2]; first | rfl | (simp [errW_none, errW_some] <;> rfl)) | (simp [*, errW_none, errW_some] <;> rfl), bel_⟩
  ·rw [if_neg c4] at H
   exact absurd H (by simp)
 ·rw [if_neg c3] at H
  exact absurd H (by simp)
mutual
def spec_Flagged.j0 : Nat → ByteArray → ByteArray → Int → ByteArray → Bool → Option (ByteArray)
 | 0, _, _, _, _, _ => none
 | k + 1, x0, x1, x2, x7, x14 => if x14 = true then (if 1 ≤ (x0.size : Int) then (spec_Flagged.j1 k (x0.extract 1 x0.size) x1 x2 (⟨#[45]⟩ : ByteArray)) else (none)) else ((spec_Has.f k x1 43).bind fun t284 => (if t284 = true then (spec_Flagged.j1 k x0 x1 x2 (⟨#[43]⟩ : ByteArray)) else ((spec_Has.f k x1 32).bind fun t285 => (if t285 = true then (spec_Flagged.j1 k x0 x1 x2 (⟨#[32]⟩ : ByteArray)) else (spec_Flagged.j1 k x0 x1 x2 x7)))))
def spec_Flagged.j1 : Nat → ByteArray → ByteArray → Int → ByteArray → Option (ByteArray)
 | 0, _, _, _, _ => none
 | k + 1, x0, x1, x2, x7 => spec_Flagged.l0 k x0 x1 x2 x7
def spec_Flagged.j3 : Nat → ByteArray → ByteArray → Int → ByteArray → Option (ByteArray)
 | 0, _, _, _, _ => none
 | k + 1, x0, x1, x2, x7 => if x7.size + x0.size ≤ 9223372036854775807 then (spec_Flagged.l1 k (x7 ++ x0) x1 x2) else (none)
def spec_Flagged.l1 : Nat → ByteArray → ByteArray → Int → Option (ByteArray)
 | 0, _, _, _ => none
 | k + 1, x0, x1, x2 => if (x0.size : Int) < x2 then ((spec_Has.f k x1 45).bind fun t288 => (if t288 = true then (if x0.size + 1 ≤ 9223372036854775807 then (spec_Flagged.l1 k (x0 ++ (⟨#[32]⟩ : ByteArray)) x1 x2) else (none)) else (if 1 + x0.size ≤ 9223372036854775807 then (spec_Flagged.l1 k ((⟨#[32]⟩ : ByteArray) ++ x0) x1 x2) else (none)))) else (some x0)
def spec_Flagged.l0 : Nat → ByteArray → ByteArray → Int → ByteArray → Option (ByteArray)
 | 0, _, _, _, _ => none
 | k + 1, x0, x1, x2, x7 => if (wrap64 ((x7.size : Int) + (x0.size : Int))) < x2 then ((spec_Has.f k x1 48).bind fun t286 => (if t286 = true then ((spec_Has.f k x1 45).bind fun t287 => (if t287 = true then (spec_Flagged.j3 k x0 x1 x2 x7) else (if 1 + x0.size ≤ 9223372036854775807 then (spec_Flagged.l0 k ((⟨#[48]⟩ : ByteArray) ++ x0) x1 x2 x7) else (none)))) else (spec_Flagged.j3 k x0 x1 x2 x7))) else (spec_Flagged.j3 k x0 x1 x2 x7)
end
def spec_Flagged.f (k : Nat) (a0 : ByteArray) (a1 : ByteArray) (a2 : Int) : Option (ByteArray) := if a0.toList = ([] : List UInt8) then (spec_Flagged.j0 k a0 a1 a2 (⟨#[]⟩ : ByteArray) false) else (if 0 < (a0.size : Int) then (spec_Flagged.j0 k a0 a1 a2 (⟨#[]⟩ : ByteArray) ((bt a0 0) == 45)) else (none))
set_option maxHeartbeats 8000000 in
set_option maxRecDepth 100000 in
theorem spec_Flagged.calls (k : Nat) (a0 : ByteArray) (a1 : ByteArray) (a2 : Int) (r : ByteArray) (w : World) (h : spec_Flagged.f k a0 a1 a2 = some r) :
  Calls Tryz.prog 19 #[.string a0, .string a1, .int .i64 a2] w fun e w' => e = .returned (.string r) ∧ Drawn0 w w' := by
 have H : (if a0.toList = ([] : List UInt8) then (spec_Flagged.j0 k a0 a1 a2 (⟨#[]⟩ : ByteArray) false) else (if 0 < (a0.size : Int) then (spec_Flagged.j0 k a0 a1 a2 (⟨#[]⟩ : ByteArray) ((bt a0 0) == 45)) else (none))) = some r := h
 clear h
 have HC4 := Aside0.mk H
 clear H
 go_enter Tryz.func19, Tryz.ntmps19
 go_upto_region 2 with (fail)
 repeat (go_quiet (fail); go_upto_region 2 with (fail))
 go_cut [14] (fun v14 wc => ∃ (kq : Nat) (x14_3 : Bool), v14 = .bool x14_3 ∧ Aside0 (spec_Flagged.j0 kq a0 a1 a2 (⟨#[]⟩ : ByteArray) x14_3 = some r) ∧ Aside0 (kq ≤ k) ∧ Drawn0 w wc)
 case first =>
  have H := HC4.out
  clear HC4
  by_cases c5 : a0.toList = ([] : List UInt8)
  ·rw [if_pos c5] at H
   have c5b0 : (a0.toList == ([] : List UInt8)) = true := beq_iff_eq.mpr c5
   have c5b1 : (a0.toList != ([] : List UInt8)) = false := bne_eq_false_iff_eq.mpr c5
   clear c5
   (first | rw [c5b0] | (simp only [i64_w, i32_w]; rw [c5b0]) | skip)
   have H' := Aside0.mk H
   clear H
   go_wp2
   repeat (go_quiet (fail); try go_wp2)
   go_meet
   case rel => exact ⟨_, (false), sd_, H', ⟨by first | omega | exact Nat.le_refl _⟩, by repeat (first | exact Drawn0.refl _ | apply Drawn0.step)⟩
  ·rw [if_neg c5] at H
   have c5b0 : (a0.toList == ([] : List UInt8)) = false := beq_eq_false_iff_ne.mpr c5
   have c5b1 : (a0.toList != ([] : List UInt8)) = true := bne_iff_ne.mpr c5
   (first | rw [c5b0] | (simp only [i64_w, i32_w]; rw [c5b0]) | skip)
   by_cases c6 : 0 < (a0.size : Int)
   ·rw [if_pos c6] at H
    have c6b0 : decide (0 < (a0.size : Int)) = true := decide_eq_true c6
    have c6b1 : decide (0 < a0.size) = true := decide_eq_true (by omega)
    clear c6
    have H' := Aside0.mk H
    clear H
    have p7 : 0 ≤ (0 : Int) := (by omega)
    have q7 : 0 < a0.size := (by have : (0 : Int) < (a0.size : Int) := ode_; omega)
    have hx7 : ∀ h : 0 < a0.size, ((a0[0]'h).toNat : Int) = bt a0 0 := bt_at a0 0
    clear p7
    have qi7 : (0 < (a0.size : Int)) = True := eq_true ode_
    replace q7 := eq_true q7
    go_wp2
    repeat (go_quiet (fail); try go_wp2)
    go_meet
    case rel => exact ⟨_, (((bt a0 0) == 45)), sd_, H', ⟨by first | omega | exact Nat.le_refl _⟩, by repeat (first | exact Drawn0.refl _ | apply Drawn0.step)⟩
   ·rw [if_neg c6] at H
    exact absurd H (by simp)
 case rest =>
  clear HC4
  try clear c1
  try clear p2
  try clear c5
  try clear c5b0
  try clear c5b1
  try clear c6
  try clear c6b0
  try clear c6b1
  try clear p7
  try clear q7
  try clear hx7
  try clear qi7
  try clear p7
  try clear q7
  obtain ⟨kq, x14_3, rfl, HA, HJ3, ⟨mc3, rfl⟩⟩ := hcut
  cases kq with
  | zero => exact absurd HA.out (by simp [spec_Flagged.j0])
  | succ kj3 =>
   have H := HA.out
   clear HA
   simp only [spec_Flagged.j0] at H
   have HC8 := Aside0.mk H
   clear H
   go_upto_if 14 with (fail)
   repeat (go_quiet (fail); go_upto_if 14 with (fail))
   go_cut [0, 7] (fun v0 v7 wc => ∃ (kq : Nat) (x0_7 : ByteArray) (x7_7 : ByteArray), v0 = .string x0_7 ∧ v7 = .string x7_7 ∧ Aside0 (spec_Flagged.j1 kq x0_7 a1 a2 x7_7 = some r) ∧ Aside0 (kq ≤ kj3) ∧ Drawn0 w wc)
   case first =>
    have H := HC8.out
    clear HC8
    by_cases c9 : x14_3 = true
    ·subst c9
     have H1 : (if 1 ≤ (a0.size : Int) then (spec_Flagged.j1 kj3 (a0.extract 1 a0.size) a1 a2 (⟨#[45]⟩ : ByteArray)) else (none)) = some r := by rw [if_pos rfl] at H; exact H
     clear H
     have H := H1
     clear H1
     by_cases c10 : 1 ≤ (a0.size : Int)
     ·rw [if_pos c10] at H
      have c10b0 := eq_true c10
      have c10b1 : decide (1 ≤ (a0.size : Int)) = true := decide_eq_true c10
      clear c10
      have H' := Aside0.mk H
      clear H
      go_wp2
      repeat (go_quiet (fail); try go_wp2)
      go_meet
      case rel => exact ⟨_, (a0.extract 1 a0.size), ((⟨#[45]⟩ : ByteArray)), sd_, sd_, H', ⟨by have := HJ3.out; first | omega | exact Nat.le_refl _⟩, by repeat (first | exact Drawn0.refl _ | apply Drawn0.step)⟩
     ·rw [if_neg c10] at H
      exact absurd H (by simp)
    ·replace c9 := Bool.eq_false_iff.mpr c9
     subst c9
     have H1 : ((spec_Has.f kj3 a1 43).bind fun t284 => (if t284 = true then (spec_Flagged.j1 kj3 a0 a1 a2 (⟨#[43]⟩ : ByteArray)) else ((spec_Has.f kj3 a1 32).bind fun t285 => (if t285 = true then (spec_Flagged.j1 kj3 a0 a1 a2 (⟨#[32]⟩ : ByteArray)) else (spec_Flagged.j1 kj3 a0 a1 a2 (⟨#[]⟩ : ByteArray)))))) = some r := by rw [if_neg (show ¬ (false = true) by decide)] at H; exact H
     clear H
     have H := H1
     clear H1
     replace H := Option.bind_eq_some_iff.mp H
     obtain ⟨t284, A110, H⟩ := H
     replace H : (if t284 = true then (spec_Flagged.j1 kj3 a0 a1 a2 (⟨#[43]⟩ : ByteArray)) else ((spec_Has.f kj3 a1 32).bind fun t285 => (if t285 = true then (spec_Flagged.j1 kj3 a0 a1 a2 (⟨#[32]⟩ : ByteArray)) else (spec_Flagged.j1 kj3 a0 a1 a2 (⟨#[]⟩ : ByteArray))))) = some r := H
     have A11 := Aside0.mk A110
     clear A110
     by_cases c12 : t284 = true
     ·subst c12
      have H1 : (spec_Flagged.j1 kj3 a0 a1 a2 (⟨#[43]⟩ : ByteArray)) = some r := by rw [if_pos rfl] at H; exact H
      clear H
      have H := H1
      clear H1
      have H' := Aside0.mk H
      clear H
      go_wp2_with (first | (go_at_call 22; (with_reducible refine (spec_Has.calls kj3 a1 43 true _ A11.out).mono ?_); rintro e w' ⟨rfl, ⟨nd, rfl⟩⟩; (try first | exact ⟨rfl, _, World.drewN_drewN _ _ _⟩ | exact ⟨rfl, _, Eq.trans (World.drewN_drewN _ _ _) (congrArg (World.drewN _) (Nat.add_assoc _ _ _))⟩)))
      repeat (go_quiet (first | (go_at_call 22; (with_reducible refine (spec_Has.calls kj3 a1 43 true _ A11.out).mono ?_); rintro e w' ⟨rfl, ⟨nd, rfl⟩⟩; (try first | exact ⟨rfl, _, World.drewN_drewN _ _ _⟩ | exact ⟨rfl, _, Eq.trans (World.drewN_drewN _ _ _) (congrArg (World.drewN _) (Nat.add_assoc _ _ _))⟩))); try go_wp2_with (first | (go_at_call 22; (with_reducible refine (spec_Has.calls kj3 a1 43 true _ A11.out).mono ?_); rintro e w' ⟨rfl, ⟨nd, rfl⟩⟩; (try first | exact ⟨rfl, _, World.drewN_drewN _ _ _⟩ | exact ⟨rfl, _, Eq.trans (World.drewN_drewN _ _ _) (congrArg (World.drewN _) (Nat.add_assoc _ _ _))⟩))))
      go_meet
      case rel => exact ⟨_, (a0), ((⟨#[43]⟩ : ByteArray)), sd_, sd_, H', ⟨by have := HJ3.out; first | omega | exact Nat.le_refl _⟩, by repeat (first | exact Drawn0.refl _ | apply Drawn0.step)⟩
     ·replace c12 := Bool.eq_false_iff.mpr c12
      subst c12
      have H1 : ((spec_Has.f kj3 a1 32).bind fun t285 => (if t285 = true then (spec_Flagged.j1 kj3 a0 a1 a2 (⟨#[32]⟩ : ByteArray)) else (spec_Flagged.j1 kj3 a0 a1 a2 (⟨#[]⟩ : ByteArray)))) = some r := by rw [if_neg (show ¬ (false = true) by decide)] at H; exact H
      clear H
      have H := H1
      clear H1
      replace H := Option.bind_eq_some_iff.mp H
      obtain ⟨t285, A130, H⟩ := H
      replace H : (if t285 = true then (spec_Flagged.j1 kj3 a0 a1 a2 (⟨#[32]⟩ : ByteArray)) else (spec_Flagged.j1 kj3 a0 a1 a2 (⟨#[]⟩ : ByteArray))) = some r := H
      have A13 := Aside0.mk A130
      clear A130
      by_cases c14 : t285 = true
      ·subst c14
       have H1 : (spec_Flagged.j1 kj3 a0 a1 a2 (⟨#[32]⟩ : ByteArray)) = some r := by rw [if_pos rfl] at H; exact H
       clear H
       have H := H1
       clear H1
       have H' := Aside0.mk H
       clear H
       go_wp2_with (first | (go_at_call 22; (with_reducible refine (spec_Has.calls kj3 a1 43 false _ A11.out).mono ?_); rintro e w' ⟨rfl, ⟨nd, rfl⟩⟩; (try first | exact ⟨rfl, _, World.drewN_drewN _ _ _⟩ | exact ⟨rfl, _, Eq.trans (World.drewN_drewN _ _ _) (congrArg (World.drewN _) (Nat.add_assoc _ _ _))⟩)) | (go_at_call 22; (with_reducible refine (spec_Has.calls kj3 a1 32 true _ A13.out).mono ?_); rintro e w' ⟨rfl, ⟨nd, rfl⟩⟩; (try first | exact ⟨rfl, _, World.drewN_drewN _ _ _⟩ | exact ⟨rfl, _, Eq.trans (World.drewN_drewN _ _ _) (congrArg (World.drewN _) (Nat.add_assoc _ _ _))⟩)))
       repeat (go_quiet (first | (go_at_call 22; (with_reducible refine (spec_Has.calls kj3 a1 43 false _ A11.out).mono ?_); rintro e w' ⟨rfl, ⟨nd, rfl⟩⟩; (try first | exact ⟨rfl, _, World.drewN_drewN _ _ _⟩ | exact ⟨rfl, _, Eq.trans (World.drewN_drewN _ _ _) (congrArg (World.drewN _) (Nat.add_assoc _ _ _))⟩)) | (go_at_call 22; (with_reducible refine (spec_Has.calls kj3 a1 32 true _ A13.out).mono ?_); rintro e w' ⟨rfl, ⟨nd, rfl⟩⟩; (try first | exact ⟨rfl, _, World.drewN_drewN _ _ _⟩ | exact ⟨rfl, _, Eq.trans (World.drewN_drewN _ _ _) (congrArg (World.drewN _) (Nat.add_assoc _ _ _))⟩))); try go_wp2_with (first | (go_at_call 22; (with_reducible refine (spec_Has.calls kj3 a1 43 false _ A11.out).mono ?_); rintro e w' ⟨rfl, ⟨nd, rfl⟩⟩; (try first | exact ⟨rfl, _, World.drewN_drewN _ _ _⟩ | exact ⟨rfl, _, Eq.trans (World.drewN_drewN _ _ _) (congrArg (World.drewN _) (Nat.add_assoc _ _ _))⟩)) | (go_at_call 22; (with_reducible refine (spec_Has.calls kj3 a1 32 true _ A13.out).mono ?_); rintro e w' ⟨rfl, ⟨nd, rfl⟩⟩; (try first | exact ⟨rfl, _, World.drewN_drewN _ _ _⟩ | exact ⟨rfl, _, Eq.trans (World.drewN_drewN _ _ _) (congrArg (World.drewN _) (Nat.add_assoc _ _ _))⟩))))
       go_meet
       case rel => exact ⟨_, (a0), ((⟨#[32]⟩ : ByteArray)), sd_, sd_, H', ⟨by have := HJ3.out; first | omega | exact Nat.le_refl _⟩, by repeat (first | exact Drawn0.refl _ | apply Drawn0.step)⟩
      ·replace c14 := Bool.eq_false_iff.mpr c14
       subst c14
       have H1 : (spec_Flagged.j1 kj3 a0 a1 a2 (⟨#[]⟩ : ByteArray)) = some r := by rw [if_neg (show ¬ (false = true) by decide)] at H; exact H
       clear H
       have H := H1
       clear H1
       have H' := Aside0.mk H
       clear H
       go_wp2_with (first | (go_at_call 22; (with_reducible refine (spec_Has.calls kj3 a1 43 false _ A11.out).mono ?_); rintro e w' ⟨rfl, ⟨nd, rfl⟩⟩; (try first | exact ⟨rfl, _, World.drewN_drewN _ _ _⟩ | exact ⟨rfl, _, Eq.trans (World.drewN_drewN _ _ _) (congrArg (World.drewN _) (Nat.add_assoc _ _ _))⟩)) | (go_at_call 22; (with_reducible refine (spec_Has.calls kj3 a1 32 false _ A13.out).mono ?_); rintro e w' ⟨rfl, ⟨nd, rfl⟩⟩; (try first | exact ⟨rfl, _, World.drewN_drewN _ _ _⟩ | exact ⟨rfl, _, Eq.trans (World.drewN_drewN _ _ _) (congrArg (World.drewN _) (Nat.add_assoc _ _ _))⟩)))
       repeat (go_quiet (first | (go_at_call 22; (with_reducible refine (spec_Has.calls kj3 a1 43 false _ A11.out).mono ?_); rintro e w' ⟨rfl, ⟨nd, rfl⟩⟩; (try first | exact ⟨rfl, _, World.drewN_drewN _ _ _⟩ | exact ⟨rfl, _, Eq.trans (World.drewN_drewN _ _ _) (congrArg (World.drewN _) (Nat.add_assoc _ _ _))⟩)) | (go_at_call 22; (with_reducible refine (spec_Has.calls kj3 a1 32 false _ A13.out).mono ?_); rintro e w' ⟨rfl, ⟨nd, rfl⟩⟩; (try first | exact ⟨rfl, _, World.drewN_drewN _ _ _⟩ | exact ⟨rfl, _, Eq.trans (World.drewN_drewN _ _ _) (congrArg (World.drewN _) (Nat.add_assoc _ _ _))⟩))); try go_wp2_with (first | (go_at_call 22; (with_reducible refine (spec_Has.calls kj3 a1 43 false _ A11.out).mono ?_); rintro e w' ⟨rfl, ⟨nd, rfl⟩⟩; (try first | exact ⟨rfl, _, World.drewN_drewN _ _ _⟩ | exact ⟨rfl, _, Eq.trans (World.drewN_drewN _ _ _) (congrArg (World.drewN _) (Nat.add_assoc _ _ _))⟩)) | (go_at_call 22; (with_reducible refine (spec_Has.calls kj3 a1 32 false _ A13.out).mono ?_); rintro e w' ⟨rfl, ⟨nd, rfl⟩⟩; (try first | exact ⟨rfl, _, World.drewN_drewN _ _ _⟩ | exact ⟨rfl, _, Eq.trans (World.drewN_drewN _ _ _) (congrArg (World.drewN _) (Nat.add_assoc _ _ _))⟩))))
       go_meet
       case rel => exact ⟨_, (a0), ((⟨#[]⟩ : ByteArray)), sd_, sd_, H', ⟨by have := HJ3.out; first | omega | exact Nat.le_refl _⟩, by repeat (first | exact Drawn0.refl _ | apply Drawn0.step)⟩
   case rest =>
    clear HC8
    try clear c1
    try clear p2
    try clear c3
    try clear c5
    try clear c5b0
    try clear c5b1
    try clear c6
    try clear c6b0
    try clear c6b1
    try clear p7
    try clear q7
    try clear hx7
    try clear qi7
    try clear c9
    try clear c10
    try clear c10b0
    try clear c10b1
    try clear c12
    try clear c14
    try clear p2
    try clear p7
    try clear q7
    obtain ⟨kq, x0_7, x7_7, rfl, rfl, HA, HJ7, ⟨mc7, rfl⟩⟩ := hcut
    cases kq with
    | zero => exact absurd HA.out (by simp [spec_Flagged.j1])
    | succ kj7 =>
     have H := HA.out
     clear HA
     simp only [spec_Flagged.j1] at H
     have HC15 := Aside0.mk H
     clear H
     go_upto_block 0 with (fail)
     repeat (go_quiet (fail); go_upto_block 0 with (fail))
     go_cut [0] (fun v0 wc => ∃ (kq : Nat) (x0_14 : ByteArray), v0 = .string x0_14 ∧ Aside0 (spec_Flagged.j3 kq x0_14 a1 a2 x7_7 = some r) ∧ Aside0 (kq ≤ kj7) ∧ Drawn0 w wc)
     case first =>
      have H := HC15.out
      clear HC15
      have H' := Aside0.mk H
      clear H
      go_wp2
      repeat (go_quiet (fail); try go_wp2)
      go_loopg [0] kj7 (fun kq v0 w' => ∃ (x0_3 : ByteArray), v0 = .string x0_3 ∧ Aside0 (spec_Flagged.l0 kq x0_3 a1 a2 x7_7 = some r) ∧ Aside0 (kq ≤ kj7) ∧ Drawn0 w w')
      case atStart => exact ⟨(x0_7), sd_, H', ⟨Nat.le_refl _⟩, by repeat (first | exact Drawn0.refl _ | apply Drawn0.step)⟩
      case round =>
       clear H'
       try clear c1
       try clear p2
       try clear c3
       try clear c5
       try clear c5b0
       try clear c5b1
       try clear c6
       try clear c6b0
       try clear c6b1
       try clear c7
       try clear p7
       try clear q7
       try clear hx7
       try clear qi7
       try clear c9
       try clear c10
       try clear c10b0
       try clear c10b1
       try clear c12
       try clear c14
       try clear p2
       try clear p7
       try clear q7
       obtain ⟨x0_3, rfl, HA, HK3, ⟨m3, rfl⟩⟩ := hrel
       cases gk with
       | zero => exact absurd HA.out (by simp [spec_Flagged.l0])
       | succ k3 =>
        have H := HA.out
        clear HA
        simp only [spec_Flagged.l0] at H
        by_cases c16 : (wrap64 ((x7_7.size : Int) + (x0_3.size : Int))) < a2
        ·rw [if_pos c16] at H
         have c16b0 : decide ((wrap64 ((x7_7.size : Int) + (x0_3.size : Int))) < a2) = true := decide_eq_true c16
         clear c16
         (first | rw [c16b0] | (simp only [i64_w, i32_w]; rw [c16b0]) | skip)
         replace H := Option.bind_eq_some_iff.mp H
         obtain ⟨t286, A170, H⟩ := H
         replace H : (if t286 = true then ((spec_Has.f k3 a1 45).bind fun t287 => (if t287 = true then (spec_Flagged.j3 k3 x0_3 a1 a2 x7_7) else (if 1 + x0_3.size ≤ 9223372036854775807 then (spec_Flagged.l0 k3 ((⟨#[48]⟩ : ByteArray) ++ x0_3) a1 a2 x7_7) else (none)))) else (spec_Flagged.j3 k3 x0_3 a1 a2 x7_7)) = some r := H
         have A17 := Aside0.mk A170
         clear A170
         by_cases c18 : t286 = true
         ·subst c18
          have H1 : ((spec_Has.f k3 a1 45).bind fun t287 => (if t287 = true then (spec_Flagged.j3 k3 x0_3 a1 a2 x7_7) else (if 1 + x0_3.size ≤ 9223372036854775807 then (spec_Flagged.l0 k3 ((⟨#[48]⟩ : ByteArray) ++ x0_3) a1 a2 x7_7) else (none)))) = some r := by rw [if_pos rfl] at H; exact H
          clear H
          have H := H1
          clear H1
          replace H := Option.bind_eq_some_iff.mp H
          obtain ⟨t287, A190, H⟩ := H
          replace H : (if t287 = true then (spec_Flagged.j3 k3 x0_3 a1 a2 x7_7) else (if 1 + x0_3.size ≤ 9223372036854775807 then (spec_Flagged.l0 k3 ((⟨#[48]⟩ : ByteArray) ++ x0_3) a1 a2 x7_7) else (none))) = some r := H
          have A19 := Aside0.mk A190
          clear A190
          by_cases c20 : t287 = true
          ·subst c20
           have H1 : (spec_Flagged.j3 k3 x0_3 a1 a2 x7_7) = some r := by rw [if_pos rfl] at H; exact H
           clear H
           have H := H1
           clear H1
           have H' := Aside0.mk H
           clear H
           go_wp2_with (first | (go_at_call 22; (with_reducible refine (spec_Has.calls k3 a1 48 true _ A17.out).mono ?_); rintro e w' ⟨rfl, ⟨nd, rfl⟩⟩; (try first | exact ⟨rfl, _, World.drewN_drewN _ _ _⟩ | exact ⟨rfl, _, Eq.trans (World.drewN_drewN _ _ _) (congrArg (World.drewN _) (Nat.add_assoc _ _ _))⟩)) | (go_at_call 22; (with_reducible refine (spec_Has.calls k3 a1 45 true _ A19.out).mono ?_); rintro e w' ⟨rfl, ⟨nd, rfl⟩⟩; (try first | exact ⟨rfl, _, World.drewN_drewN _ _ _⟩ | exact ⟨rfl, _, Eq.trans (World.drewN_drewN _ _ _) (congrArg (World.drewN _) (Nat.add_assoc _ _ _))⟩)))
           repeat (go_quiet (first | (go_at_call 22; (with_reducible refine (spec_Has.calls k3 a1 48 true _ A17.out).mono ?_); rintro e w' ⟨rfl, ⟨nd, rfl⟩⟩; (try first | exact ⟨rfl, _, World.drewN_drewN _ _ _⟩ | exact ⟨rfl, _, Eq.trans (World.drewN_drewN _ _ _) (congrArg (World.drewN _) (Nat.add_assoc _ _ _))⟩)) | (go_at_call 22; (with_reducible refine (spec_Has.calls k3 a1 45 true _ A19.out).mono ?_); rintro e w' ⟨rfl, ⟨nd, rfl⟩⟩; (try first | exact ⟨rfl, _, World.drewN_drewN _ _ _⟩ | exact ⟨rfl, _, Eq.trans (World.drewN_drewN _ _ _) (congrArg (World.drewN _) (Nat.add_assoc _ _ _))⟩))); try go_wp2_with (first | (go_at_call 22; (with_reducible refine (spec_Has.calls k3 a1 48 true _ A17.out).mono ?_); rintro e w' ⟨rfl, ⟨nd, rfl⟩⟩; (try first | exact ⟨rfl, _, World.drewN_drewN _ _ _⟩ | exact ⟨rfl, _, Eq.trans (World.drewN_drewN _ _ _) (congrArg (World.drewN _) (Nat.add_assoc _ _ _))⟩)) | (go_at_call 22; (with_reducible refine (spec_Has.calls k3 a1 45 true _ A19.out).mono ?_); rintro e w' ⟨rfl, ⟨nd, rfl⟩⟩; (try first | exact ⟨rfl, _, World.drewN_drewN _ _ _⟩ | exact ⟨rfl, _, Eq.trans (World.drewN_drewN _ _ _) (congrArg (World.drewN _) (Nat.add_assoc _ _ _))⟩))))
           go_meet
           case rel => exact ⟨_, (x0_3), sd_, H', ⟨by have := HJ3.out; have := HJ7.out; have := HK3.out; first | omega | exact Nat.le_refl _⟩, by repeat (first | exact Drawn0.refl _ | apply Drawn0.step)⟩
          ·replace c20 := Bool.eq_false_iff.mpr c20
           subst c20
           have H1 : (if 1 + x0_3.size ≤ 9223372036854775807 then (spec_Flagged.l0 k3 ((⟨#[48]⟩ : ByteArray) ++ x0_3) a1 a2 x7_7) else (none)) = some r := by rw [if_neg (show ¬ (false = true) by decide)] at H; exact H
           clear H
           have H := H1
           clear H1
           by_cases c21 : 1 + x0_3.size ≤ 9223372036854775807
           ·rw [if_pos c21] at H
            have c21b0 := eq_true c21
            have c21b1 : decide (1 + x0_3.size ≤ 9223372036854775807) = true := decide_eq_true c21
            try have c21b2 : (9223372036854775807 < 1 + x0_3.size) = False := eq_false (Nat.not_lt.2 c21)
            have H' := Aside0.mk H
            clear H
            go_wp2_with (first | (go_at_call 22; (with_reducible refine (spec_Has.calls k3 a1 48 true _ A17.out).mono ?_); rintro e w' ⟨rfl, ⟨nd, rfl⟩⟩; (try first | exact ⟨rfl, _, World.drewN_drewN _ _ _⟩ | exact ⟨rfl, _, Eq.trans (World.drewN_drewN _ _ _) (congrArg (World.drewN _) (Nat.add_assoc _ _ _))⟩)) | (go_at_call 22; (with_reducible refine (spec_Has.calls k3 a1 45 false _ A19.out).mono ?_); rintro e w' ⟨rfl, ⟨nd, rfl⟩⟩; (try first | exact ⟨rfl, _, World.drewN_drewN _ _ _⟩ | exact ⟨rfl, _, Eq.trans (World.drewN_drewN _ _ _) (congrArg (World.drewN _) (Nat.add_assoc _ _ _))⟩)))
            repeat (go_quiet (first | (go_at_call 22; (with_reducible refine (spec_Has.calls k3 a1 48 true _ A17.out).mono ?_); rintro e w' ⟨rfl, ⟨nd, rfl⟩⟩; (try first | exact ⟨rfl, _, World.drewN_drewN _ _ _⟩ | exact ⟨rfl, _, Eq.trans (World.drewN_drewN _ _ _) (congrArg (World.drewN _) (Nat.add_assoc _ _ _))⟩)) | (go_at_call 22; (with_reducible refine (spec_Has.calls k3 a1 45 false _ A19.out).mono ?_); rintro e w' ⟨rfl, ⟨nd, rfl⟩⟩; (try first | exact ⟨rfl, _, World.drewN_drewN _ _ _⟩ | exact ⟨rfl, _, Eq.trans (World.drewN_drewN _ _ _) (congrArg (World.drewN _) (Nat.add_assoc _ _ _))⟩))); try go_wp2_with (first | (go_at_call 22; (with_reducible refine (spec_Has.calls k3 a1 48 true _ A17.out).mono ?_); rintro e w' ⟨rfl, ⟨nd, rfl⟩⟩; (try first | exact ⟨rfl, _, World.drewN_drewN _ _ _⟩ | exact ⟨rfl, _, Eq.trans (World.drewN_drewN _ _ _) (congrArg (World.drewN _) (Nat.add_assoc _ _ _))⟩)) | (go_at_call 22; (with_reducible refine (spec_Has.calls k3 a1 45 false _ A19.out).mono ?_); rintro e w' ⟨rfl, ⟨nd, rfl⟩⟩; (try first | exact ⟨rfl, _, World.drewN_drewN _ _ _⟩ | exact ⟨rfl, _, Eq.trans (World.drewN_drewN _ _ _) (congrArg (World.drewN _) (Nat.add_assoc _ _ _))⟩))))
            go_roundg k3
            case measure => have := HJ3.out; have := HJ7.out; have := HK3.out; omega
            case rel => exact ⟨((⟨#[48]⟩ : ByteArray) ++ x0_3), sd_, H', ⟨by have := HJ3.out; have := HJ7.out; have := HK3.out; omega⟩, by repeat (first | exact Drawn0.refl _ | apply Drawn0.step)⟩
           ·rw [if_neg c21] at H
            exact absurd H (by simp)
         ·replace c18 := Bool.eq_false_iff.mpr c18
          subst c18
          have H1 : (spec_Flagged.j3 k3 x0_3 a1 a2 x7_7) = some r := by rw [if_neg (show ¬ (false = true) by decide)] at H; exact H
          clear H
          have H := H1
          clear H1
          have H' := Aside0.mk H
          clear H
          go_wp2_with (first | (go_at_call 22; (with_reducible refine (spec_Has.calls k3 a1 48 false _ A17.out).mono ?_); rintro e w' ⟨rfl, ⟨nd, rfl⟩⟩; (try first | exact ⟨rfl, _, World.drewN_drewN _ _ _⟩ | exact ⟨rfl, _, Eq.trans (World.drewN_drewN _ _ _) (congrArg (World.drewN _) (Nat.add_assoc _ _ _))⟩)))
          repeat (go_quiet (first | (go_at_call 22; (with_reducible refine (spec_Has.calls k3 a1 48 false _ A17.out).mono ?_); rintro e w' ⟨rfl, ⟨nd, rfl⟩⟩; (try first | exact ⟨rfl, _, World.drewN_drewN _ _ _⟩ | exact ⟨rfl, _, Eq.trans (World.drewN_drewN _ _ _) (congrArg (World.drewN _) (Nat.add_assoc _ _ _))⟩))); try go_wp2_with (first | (go_at_call 22; (with_reducible refine (spec_Has.calls k3 a1 48 false _ A17.out).mono ?_); rintro e w' ⟨rfl, ⟨nd, rfl⟩⟩; (try first | exact ⟨rfl, _, World.drewN_drewN _ _ _⟩ | exact ⟨rfl, _, Eq.trans (World.drewN_drewN _ _ _) (congrArg (World.drewN _) (Nat.add_assoc _ _ _))⟩))))
          go_meet
          case rel => exact ⟨_, (x0_3), sd_, H', ⟨by have := HJ3.out; have := HJ7.out; have := HK3.out; first | omega | exact Nat.le_refl _⟩, by repeat (first | exact Drawn0.refl _ | apply Drawn0.step)⟩
        ·rw [if_neg c16] at H
         have c16b0 : decide ((wrap64 ((x7_7.size : Int) + (x0_3.size : Int))) < a2) = false := decide_eq_false c16
         clear c16
         (first | rw [c16b0] | (simp only [i64_w, i32_w]; rw [c16b0]) | skip)
         have H' := Aside0.mk H
         clear H
         go_wp2
         repeat (go_quiet (fail); try go_wp2)
         go_meet
         case rel => exact ⟨_, (x0_3), sd_, H', ⟨by have := HJ3.out; have := HJ7.out; have := HK3.out; first | omega | exact Nat.le_refl _⟩, by repeat (first | exact Drawn0.refl _ | apply Drawn0.step)⟩
     case rest =>
      clear HC15
      try clear c1
      try clear c2
      try clear p2
      try clear c3
      try clear c5
      try clear c5b0
      try clear c5b1
      try clear c6
      try clear c6b0
      try clear c6b1
      try clear p6
      try clear c7
      try clear p7
      try clear q7
      try clear hx7
      try clear qi7
      try clear c9
      try clear c10
      try clear c10b0
      try clear c10b1
      try clear c12
      try clear c14
      try clear c16
      try clear c16b0
      try clear c18
      try clear c19
      try clear c20
      try clear c21
      try clear c21b0
      try clear c21b1
      try clear c21b2
      try clear p2
      try clear p7
      try clear q7
      obtain ⟨kq, x0_14, rfl, HA, HJ14, ⟨mc14, rfl⟩⟩ := hcut
      cases kq with
      | zero => exact absurd HA.out (by simp [spec_Flagged.j3])
      | succ kj14 =>
       have H := HA.out
       clear HA
       simp only [spec_Flagged.j3] at H
       by_cases c22 : x7_7.size + x0_14.size ≤ 9223372036854775807
       ·rw [if_pos c22] at H
        have c22b0 := eq_true c22
        have c22b1 : decide (x7_7.size + x0_14.size ≤ 9223372036854775807) = true := decide_eq_true c22
        try have c22b2 : (9223372036854775807 < x7_7.size + x0_14.size) = False := eq_false (Nat.not_lt.2 c22)
        have H' := Aside0.mk H
        clear H
        go_wp2
        repeat (go_quiet (fail); try go_wp2)
        go_loopg [0] kj14 (fun kq v0 w' => ∃ (x0_4 : ByteArray), v0 = .string x0_4 ∧ Aside0 (spec_Flagged.l1 kq x0_4 a1 a2 = some r) ∧ Aside0 (kq ≤ kj14) ∧ Drawn0 w w')
        case atStart => exact ⟨(x7_7 ++ x0_14), sd_, H', ⟨Nat.le_refl _⟩, by repeat (first | exact Drawn0.refl _ | apply Drawn0.step)⟩
        case round =>
         clear H'
         try clear c1
         try clear c2
         try clear p2
         try clear c3
         try clear c5
         try clear c5b0
         try clear c5b1
         try clear c6
         try clear c6b0
         try clear c6b1
         try clear p6
         try clear c7
         try clear p7
         try clear q7
         try clear hx7
         try clear qi7
         try clear c9
         try clear c10
         try clear c10b0
         try clear c10b1
         try clear c12
         try clear c14
         try clear c16
         try clear c16b0
         try clear c18
         try clear c19
         try clear c20
         try clear c21
         try clear c21b0
         try clear c21b1
         try clear c21b2
         try clear c22
         try clear c22b0
         try clear c22b1
         try clear c22b2
         try clear p2
         try clear p6
         try clear p7
         try clear q7
         obtain ⟨x0_4, rfl, HA, HK4, ⟨m4, rfl⟩⟩ := hrel
         cases gk with
         | zero => exact absurd HA.out (by simp [spec_Flagged.l1])
         | succ k4 =>
          have H := HA.out
          clear HA
          simp only [spec_Flagged.l1] at H
          by_cases c23 : (x0_4.size : Int) < a2
          ·rw [if_pos c23] at H
           have c23b0 : decide ((x0_4.size : Int) < a2) = true := decide_eq_true c23
           clear c23
           replace H := Option.bind_eq_some_iff.mp H
           obtain ⟨t288, A240, H⟩ := H
           replace H : (if t288 = true then (if x0_4.size + 1 ≤ 9223372036854775807 then (spec_Flagged.l1 k4 (x0_4 ++ (⟨#[32]⟩ : ByteArray)) a1 a2) else (none)) else (if 1 + x0_4.size ≤ 9223372036854775807 then (spec_Flagged.l1 k4 ((⟨#[32]⟩ : ByteArray) ++ x0_4) a1 a2) else (none))) = some r := H
           have A24 := Aside0.mk A240
           clear A240
           by_cases c25 : t288 = true
           ·subst c25
            have H1 : (if x0_4.size + 1 ≤ 9223372036854775807 then (spec_Flagged.l1 k4 (x0_4 ++ (⟨#[32]⟩ : ByteArray)) a1 a2) else (none)) = some r := by rw [if_pos rfl] at H; exact H
            clear H
            have H := H1
            clear H1
            by_cases c26 : x0_4.size + 1 ≤ 9223372036854775807
            ·rw [if_pos c26] at H
             have c26b0 := eq_true c26
             have c26b1 : decide (x0_4.size + 1 ≤ 9223372036854775807) = true := decide_eq_true c26
             try have c26b2 : (9223372036854775807 < x0_4.size + 1) = False := eq_false (Nat.not_lt.2 c26)
             have H' := Aside0.mk H
             clear H
             go_wp2_with (first | (go_at_call 22; (with_reducible refine (spec_Has.calls k4 a1 45 true _ A24.out).mono ?_); rintro e w' ⟨rfl, ⟨nd, rfl⟩⟩; (try first | exact ⟨rfl, _, World.drewN_drewN _ _ _⟩ | exact ⟨rfl, _, Eq.trans (World.drewN_drewN _ _ _) (congrArg (World.drewN _) (Nat.add_assoc _ _ _))⟩)))
             repeat (go_quiet (first | (go_at_call 22; (with_reducible refine (spec_Has.calls k4 a1 45 true _ A24.out).mono ?_); rintro e w' ⟨rfl, ⟨nd, rfl⟩⟩; (try first | exact ⟨rfl, _, World.drewN_drewN _ _ _⟩ | exact ⟨rfl, _, Eq.trans (World.drewN_drewN _ _ _) (congrArg (World.drewN _) (Nat.add_assoc _ _ _))⟩))); try go_wp2_with (first | (go_at_call 22; (with_reducible refine (spec_Has.calls k4 a1 45 true _ A24.out).mono ?_); rintro e w' ⟨rfl, ⟨nd, rfl⟩⟩; (try first | exact ⟨rfl, _, World.drewN_drewN _ _ _⟩ | exact ⟨rfl, _, Eq.trans (World.drewN_drewN _ _ _) (congrArg (World.drewN _) (Nat.add_assoc _ _ _))⟩))))
             go_roundg k4
             case measure => have := HJ3.out; have := HJ7.out; have := HJ14.out; have := HK4.out; omega
             case rel => exact ⟨(x0_4 ++ (⟨#[32]⟩ : ByteArray)), sd_, H', ⟨by have := HJ3.out; have := HJ7.out; have := HJ14.out; have := HK4.out; omega⟩, by repeat (first | exact Drawn0.refl _ | apply Drawn0.step)⟩
            ·rw [if_neg c26] at H
             exact absurd H (by simp)
           ·replace c25 := Bool.eq_false_iff.mpr c25
            subst c25
            have H1 : (if 1 + x0_4.size ≤ 9223372036854775807 then (spec_Flagged.l1 k4 ((⟨#[32]⟩ : ByteArray) ++ x0_4) a1 a2) else (none)) = some r := by rw [if_neg (show ¬ (false = true) by decide)] at H; exact H
            clear H
            have H := H1
            clear H1
            by_cases c27 : 1 + x0_4.size ≤ 9223372036854775807
            ·rw [if_pos c27] at H
             have c27b0 := eq_true c27
             have c27b1 : decide (1 + x0_4.size ≤ 9223372036854775807) = true := decide_eq_true c27
             try have c27b2 : (9223372036854775807 < 1 + x0_4.size) = False := eq_false (Nat.not_lt.2 c27)
             have H' := Aside0.mk H
             clear H
             go_wp2_with (first | (go_at_call 22; (with_reducible refine (spec_Has.calls k4 a1 45 false _ A24.out).mono ?_); rintro e w' ⟨rfl, ⟨nd, rfl⟩⟩; (try first | exact ⟨rfl, _, World.drewN_drewN _ _ _⟩ | exact ⟨rfl, _, Eq.trans (World.drewN_drewN _ _ _) (congrArg (World.drewN _) (Nat.add_assoc _ _ _))⟩)))
             repeat (go_quiet (first | (go_at_call 22; (with_reducible refine (spec_Has.calls k4 a1 45 false _ A24.out).mono ?_); rintro e w' ⟨rfl, ⟨nd, rfl⟩⟩; (try first | exact ⟨rfl, _, World.drewN_drewN _ _ _⟩ | exact ⟨rfl, _, Eq.trans (World.drewN_drewN _ _ _) (congrArg (World.drewN _) (Nat.add_assoc _ _ _))⟩))); try go_wp2_with (first | (go_at_call 22; (with_reducible refine (spec_Has.calls k4 a1 45 false _ A24.out).mono ?_); rintro e w' ⟨rfl, ⟨nd, rfl⟩⟩; (try first | exact ⟨rfl, _, World.drewN_drewN _ _ _⟩ | exact ⟨rfl, _, Eq.trans (World.drewN_drewN _ _ _) (congrArg (World.drewN _) (Nat.add_assoc _ _ _))⟩))))
             go_roundg k4
             case measure => have := HJ3.out; have := HJ7.out; have := HJ14.out; have := HK4.out; omega
             case rel => exact ⟨((⟨#[32]⟩ : ByteArray) ++ x0_4), sd_, H', ⟨by have := HJ3.out; have := HJ7.out; have := HJ14.out; have := HK4.out; omega⟩, by repeat (first | exact Drawn0.refl _ | apply Drawn0.step)⟩
            ·rw [if_neg c27] at H
             exact absurd H (by simp)
          ·rw [if_neg c23] at H
           have c23b0 : decide ((x0_4.size : Int) < a2) = false := decide_eq_false c23
           clear c23
           obtain rfl := Option.some.inj H
           go_wp2
           repeat (go_quiet (fail); try go_wp2)
           go_ret
           exact ⟨sd_, by repeat (first | exact Drawn0.refl _ | apply Drawn0.step)⟩
       ·rw [if_neg c22] at H
        exact absurd H (by simp)
end Go.Proofs.YtlbjjhecgceiaaaGreatDoor.PFnFixSubExact
