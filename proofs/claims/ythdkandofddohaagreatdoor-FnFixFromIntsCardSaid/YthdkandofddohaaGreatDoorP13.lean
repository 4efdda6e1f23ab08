/- Part 13 of the proof. -/
import Derived.Lib.AppendZeros
import Derived.Laws.AppendOwn
import Derived.Test.YthdkandofddohaaGreatDoorP12
namespace Go.Proofs.YthdkandofddohaaGreatDoor
open Go.RowKit
set_option linter.unusedVariables false
set_option linter.unusedSimpArgs false
set_option maxRecDepth 20000
theorem divScale {hi lo y : Int} {s : Nat} (hh : 0 ≤ hi) (hhy : hi < y) (hl : Wd lo) (hs : s ≤ 63) (hs2 : y * 2 ^ s < 18446744073709551616) :
  ∃ u L : Int, bits BinOp.or IntKind.u64 (IntKind.u64.wrap (hi * 2 ^ s)) (lo / 2 ^ (64 - s)) = u ∧ IntKind.u64.wrap (lo * 2 ^ s) = L ∧ 0 ≤ u ∧ u < y * 2 ^ s ∧ Wd L ∧
   (s = 0 → u = hi ∧ L = lo) ∧
   ∀ Q R : Int, u * 18446744073709551616 + L = Q * (y * 2 ^ s) + R → 0 ≤ R → R < y * 2 ^ s → (hi * 18446744073709551616 + lo) / y = Q ∧ (hi * 18446744073709551616 + lo) % y = R / 2 ^ s := by
 have hp := pow_pos' s
 have hlow := shr_lt (s := s) (by omega) hl
 have hY1 : (hi + 1) * 2 ^ s ≤ y * 2 ^ s := Int.mul_le_mul_of_nonneg_right (by omega) (by omega)
 rw [Int.add_mul, Int.one_mul] at hY1
 have h0 : 0 ≤ hi * 2 ^ s := Int.mul_nonneg hh (by omega)
 have hw : IntKind.u64.wrap (hi * 2 ^ s) = (hi * 2 ^ s) % 18446744073709551616 := IntKind.wrap_u64 _
 have hu : bits BinOp.or IntKind.u64 (IntKind.u64.wrap (hi * 2 ^ s)) (lo / 2 ^ (64 - s)) = hi * 2 ^ s + lo / 2 ^ (64 - s) := by
  rw [hw, shl_or (by omega) hh hl]; omega
 have hN : (hi * 18446744073709551616 + lo) * 2 ^ s = (hi * 2 ^ s + lo / 2 ^ (64 - s)) * 18446744073709551616 + (lo * 2 ^ s) % 18446744073709551616 := by
  have := shl_carry (x := lo) (s := s) (c := 0) (by omega) (by omega) hp
  rw [Int.add_zero] at this
  rw [← this, Int.add_mul, Int.mul_right_comm hi]
  omega
 have hwL : IntKind.u64.wrap (lo * 2 ^ s) = (lo * 2 ^ s) % 18446744073709551616 := IntKind.wrap_u64 _
 refine ⟨_, _, rfl, rfl, by rw [hu]; omega, by rw [hu]; omega, by rw [hwL]; exact Wd.mod _, ?_, ?_⟩
 ·intro e
  subst e
  obtain ⟨l0, l1⟩ := hl
  rw [hu, hwL]
  have e64 : (2 : Int) ^ (64 - 0) = 18446744073709551616 := rfl
  have e0 : (2 : Int) ^ 0 = 1 := rfl
  rw [e64, e0]; omega
 ·intro Q R e r0 r1
  rw [hu, hwL, ← hN] at e
  generalize hi * 18446744073709551616 + lo = N at *
  have k1 : N * 2 ^ s / (y * 2 ^ s) = Q := by
   rw [e, Int.add_comm, Int.add_mul_ediv_right _ _ (by omega), Int.ediv_eq_zero_of_lt r0 r1, Int.zero_add]
  have k2 : N * 2 ^ s % (y * 2 ^ s) = R := by
   rw [e, Int.add_comm, Int.add_mul_emod_self_right, Int.emod_eq_of_lt r0 r1]
  rw [Int.mul_ediv_mul_of_pos_left _ _ hp] at k1
  refine ⟨k1, ?_⟩
  rw [Int.mul_comm, Int.mul_comm y, Int.mul_emod_mul_of_pos _ _ hp] at k2
  rw [← k2, Int.mul_ediv_cancel_left _ (show (2 : Int) ^ s ≠ 0 by omega)]
theorem guess_bd {u L d v q : Int} (hu : 0 ≤ u) (hud : u < d) (hL : Wd L) (hd : 9223372036854775808 ≤ d) (hd' : d < 18446744073709551616)
  (hv : v = (18446744073709551616 * 18446744073709551616 - 1) / d) (hq : q = (u * v + L) / 18446744073709551616) :
  0 ≤ q ∧ q < 18446744073709551616 ∧ 0 ≤ u * 18446744073709551616 + L - q * d ∧ u * 18446744073709551616 + L - q * d < 18446744073709551616 + d := by
 obtain ⟨l0, l1⟩ := hL
 have e1 := Int.mul_ediv_add_emod (18446744073709551616 * 18446744073709551616 - 1) d
 have m0 := Int.emod_nonneg (18446744073709551616 * 18446744073709551616 - 1) (show d ≠ 0 by omega)
 have m1 := Int.emod_lt_of_pos (18446744073709551616 * 18446744073709551616 - 1) (show 0 < d by omega)
 rw [← hv] at e1
 generalize (18446744073709551616 * 18446744073709551616 - 1) % d = m at *
 have v0 : 0 ≤ v := by rw [hv]; exact Int.ediv_nonneg (by omega) (by omega)
 have uv0 := Int.mul_nonneg hu v0
 have hq0 : 0 ≤ q := by rw [hq]; exact Int.ediv_nonneg (by omega) (by omega)
 have e2 : u * v + L = q * 18446744073709551616 + (u * v + L) % 18446744073709551616 := by omega
 have hn0 := Int.emod_nonneg (u * v + L) (show (18446744073709551616 : Int) ≠ 0 by omega)
 have hn1 := Int.emod_lt_of_pos (u * v + L) (show (0 : Int) < 18446744073709551616 by omega)
 generalize (u * v + L) % 18446744073709551616 = n at *
 have e3 : u * (d * v) + L * d = q * d * 18446744073709551616 + n * d := by
  have := congrArg (· * d) e2
  simp only [Int.add_mul] at this
  rw [show u * (d * v) = u * v * d by rw [Int.mul_assoc, Int.mul_comm d], this, Int.mul_right_comm q]
 have e4 : d * v = 18446744073709551616 * 18446744073709551616 - 1 - m := by omega
 rw [e4, Int.mul_sub, Int.mul_sub] at e3
 have a1 : 0 ≤ u * m := Int.mul_nonneg hu m0
 have a2 : u * m ≤ u * (d - 1) := Int.mul_le_mul_of_nonneg_left (by omega) hu
 have a3 : 0 ≤ n * d := Int.mul_nonneg hn0 (by omega)
 have a4 : n * d ≤ 18446744073709551615 * d := Int.mul_le_mul_of_nonneg_right (by omega) (by omega)
 have a5 : L * d ≤ L * 18446744073709551616 := Int.mul_le_mul_of_nonneg_left (by omega) l0
 have a6 : u * (d - 1) ≤ (d - 1) * (d - 1) := Int.mul_le_mul_of_nonneg_right (by omega) (by omega)
 have a7 : L * (18446744073709551616 - d) ≤ 18446744073709551615 * (18446744073709551616 - d) := Int.mul_le_mul_of_nonneg_right (by omega) (by omega)
 rw [Int.mul_sub] at a7 a2
 have a10 : 18446744073709551616 ≤ q → 18446744073709551616 * d ≤ q * d := fun h => Int.mul_le_mul_of_nonneg_right h (by omega)
 have a8 : (d - 1) * (d - 1) = d * d - 2 * d + 1 := by rw [Int.sub_mul, Int.mul_sub]; omega
 rw [a8, Int.mul_sub] at a6
 have a9 : d * d ≤ 18446744073709551615 * d := Int.mul_le_mul_of_nonneg_right (by omega) (by omega)
 generalize q * d = qd at *
 generalize u * m = um at *
 generalize n * d = nd at *
 generalize L * d = Ld at *
 generalize d * d = dd at *
 have b1 : 0 ≤ u * 18446744073709551616 + L - qd := by omega
 refine ⟨hq0, ?_, b1, by omega⟩
 by_cases k : q < 18446744073709551616
 ·exact k
 ·have := a10 (by omega)
  omega
structure DivSteps (u L d m P1 P0 A0 c q cc D1 D0 r0 b r1 bb : Int) : Prop where
 c1 : ∀ w, Calls Tryz.prog 174 #[.int .u64 m, .int .u64 u] w fun e w' => e = .returned (.tuple #[.int .u64 P1, .int .u64 P0]) ∧ w = w'
 c2 : ∀ w, Calls Tryz.prog 142 #[.int .u64 P0, .int .u64 L, .int .u64 0] w fun e w' => e = .returned (.tuple #[.int .u64 A0, .int .u64 c]) ∧ w = w'
 c3 : ∀ w, Calls Tryz.prog 142 #[.int .u64 P1, .int .u64 u, .int .u64 c] w fun e w' => e = .returned (.tuple #[.int .u64 q, .int .u64 cc]) ∧ w = w'
 c4 : ∀ w, Calls Tryz.prog 174 #[.int .u64 d, .int .u64 q] w fun e w' => e = .returned (.tuple #[.int .u64 D1, .int .u64 D0]) ∧ w = w'
 c5 : ∀ w, Calls Tryz.prog 144 #[.int .u64 L, .int .u64 D0, .int .u64 0] w fun e w' => e = .returned (.tuple #[.int .u64 r0, .int .u64 b]) ∧ w = w'
 c6 : ∀ w, Calls Tryz.prog 144 #[.int .u64 u, .int .u64 D1, .int .u64 b] w fun e w' => e = .returned (.tuple #[.int .u64 r1, .int .u64 bb]) ∧ w = w'
 wP1 : Wd P1
 wP0 : Wd P0
 wA0 : Wd A0
 wc : Wd c
 wcc : Wd cc
 wq : Wd q
 wD1 : Wd D1
 wD0 : Wd D0
 wb : Wd b
 wbb : Wd bb
 wr0 : Wd r0
 hr1 : 0 ≤ r1
 hr1' : r1 ≤ 1
 lo : 0 ≤ u * 18446744073709551616 + L - q * d
 hi : u * 18446744073709551616 + L - q * d < 18446744073709551616 + d
 eq : u * 18446744073709551616 + L - q * d = r1 * 18446744073709551616 + r0
theorem divSteps {u L d : Int} (hu : 0 ≤ u) (hud : u < d) (hL : Wd L) (hd : 9223372036854775808 ≤ d) (hd' : d < 18446744073709551616) :
  ∃ P1 P0 A0 c q cc D1 D0 r0 b r1 bb : Int, DivSteps u L d (recN d) P1 P0 A0 c q cc D1 D0 r0 b r1 bb := by
 have hm := recN_wd hd hd'
 have huw : Wd u := ⟨hu, by omega⟩
 have hdw : Wd d := ⟨by omega, hd'⟩
 have hP := mul_wd hm huw wd0
 rw [Int.add_zero] at hP
 have hPm := Wd.mod (recN d * u)
 have e1 := Int.mul_ediv_add_emod (recN d * u) 18446744073709551616
 have hv : u * ((18446744073709551616 * 18446744073709551616 - 1) / d) = recN d * u + u * 18446744073709551616 := by
  unfold recN
  rw [Int.sub_mul, Int.mul_comm u]
  omega
 obtain ⟨q0, q1, q2, q3⟩ := guess_bd hu hud hL hd hd' rfl rfl
 have k1 := fun w => bits_Mul (recN d) u hm huw w
 rw [hv] at q0 q1 q2 q3
 generalize hp1 : recN d * u / 18446744073709551616 = P1 at *
 generalize hp0 : recN d * u % 18446744073709551616 = P0 at *
 generalize recN d * u = mu at *
 obtain ⟨L0, L1⟩ := hL
 have k2 := fun w => bits_Add P0 L 0 hPm.1 L0 (by omega) (by omega) w
 have hc0 : 0 ≤ (P0 + L + 0) / 18446744073709551616 ∧ (P0 + L + 0) / 18446744073709551616 ≤ 1 := by have := hPm.1; have := hPm.2; omega
 have hA := Wd.mod (P0 + L + 0)
 have hqe : (mu + u * 18446744073709551616 + L) / 18446744073709551616 = P1 + u + (P0 + L + 0) / 18446744073709551616 := by omega
 rw [hqe] at q0 q1 q2 q3
 have k3 := fun w => bits_Add P1 u _ hP.1 hu hc0.1 hc0.2 w
 have hmod : (P1 + u + (P0 + L + 0) / 18446744073709551616) % 18446744073709551616 = P1 + u + (P0 + L + 0) / 18446744073709551616 := by omega
 have hdiv : (P1 + u + (P0 + L + 0) / 18446744073709551616) / 18446744073709551616 = 0 := by omega
 rw [hmod, hdiv] at k3
 have hcw : Wd ((P0 + L + 0) / 18446744073709551616) := ⟨hc0.1, by omega⟩
 generalize (P0 + L + 0) / 18446744073709551616 = c at *
 generalize (P0 + L + 0) % 18446744073709551616 = A0 at *
 generalize P1 + u + c = q at *
 have hqw : Wd q := ⟨q0, q1⟩
 have k4 := fun w => bits_Mul d q hdw hqw w
 have hD := mul_wd hdw hqw wd0
 rw [Int.add_zero] at hD
 have hDm := Wd.mod (d * q)
 have e2 := Int.mul_ediv_add_emod (d * q) 18446744073709551616
 rw [Int.mul_comm q d] at q2 q3
 generalize d * q / 18446744073709551616 = D1 at *
 generalize d * q % 18446744073709551616 = D0 at *
 have k5 := fun w => bits_Sub L D0 0 ⟨L0, L1⟩ hDm (by omega) (by omega) w
 have hb := brw_bd L (D0 + 0)
 have s1 := brw_spec (x := L) (y := D0) (c := 0) ⟨L0, L1⟩ hDm (by omega) (by omega)
 have k6 := fun w => bits_Sub u D1 _ huw hD hb.1 hb.2 w
 have hb2 := brw_bd u (D1 + brw L (D0 + 0))
 have s2 := brw_spec (x := u) (y := D1) huw hD hb.1 hb.2
 have hr0 := Wd.mod (L - D0 - 0)
 have hr1 := Wd.mod (u - D1 - brw L (D0 + 0))
 have hbw : Wd (brw L (D0 + 0)) := ⟨hb.1, by omega⟩
 have hbbw : Wd (brw u (D1 + brw L (D0 + 0))) := ⟨hb2.1, by omega⟩
 obtain ⟨hr00, hr01⟩ := hr0
 obtain ⟨hr10, hr11⟩ := hr1
 generalize brw L (D0 + 0) = b at *
 generalize brw u (D1 + b) = bb at *
 generalize (L - D0 - 0) % 18446744073709551616 = r0 at *
 generalize (u - D1 - b) % 18446744073709551616 = r1 at *
 generalize hdq : d * q = dq at *
 refine ⟨P1, P0, A0, c, q, 0, D1, D0, r0, b, r1, bb, k1, k2, k3, k4, k5, k6, hP, hPm, hA, hcw, wd0, hqw, hD, hDm, hbw, hbbw, ⟨hr00, hr01⟩, hr10, ?_, ?_, ?_, ?_⟩
 ·have : bb = 0 := by omega
  omega
 ·rw [Int.mul_comm q, hdq]; omega
 ·rw [Int.mul_comm q, hdq]; omega
 ·rw [Int.mul_comm q, hdq]; omega
set_option maxHeartbeats 2000000 in
theorem divWW_any (hi lo y : Int) (hh : 0 ≤ hi) (hhy : hi < y) (hl : Wd lo) (hy : Wd y) (w : World) :
  Calls Tryz.prog 224 #[.int .u64 hi, .int .u64 lo, .int .u64 y, .int .u64 (recN (y * 2 ^ nlzN y))] w fun e w' =>
   e = .returned (.tuple #[.int .u64 ((hi * 18446744073709551616 + lo) / y), .int .u64 ((hi * 18446744073709551616 + lo) % y)]) ∧ w = w' := by
 have hn := fun w => nlz_any y hy w
 obtain ⟨hs, hs1, hs2⟩ := nlzN_spec hy (by omega)
 generalize nlzN y = s at *
 have hrw := recN_wd hs1 hs2
 obtain ⟨u, L, eu, eL, hu0, hu1, hL, h00, hfin⟩ := divScale hh hhy hl hs hs2
 obtain ⟨P1, P0, A0, c, q, cc, D1, D0, r0, b, r1, bb, hS⟩ := divSteps hu0 hu1 hL hs1 hs2
 obtain ⟨c1, c2, c3, c4, c5, c6, ⟨wP1, wP1'⟩, ⟨wP0, wP0'⟩, ⟨wA0, wA0'⟩, ⟨wc, wc'⟩, ⟨wcc, wcc'⟩, ⟨wq, wq'⟩, ⟨wD1, wD1'⟩, ⟨wD0, wD0'⟩, ⟨wb, wb'⟩, ⟨wbb, wbb'⟩, ⟨wr0, wr0'⟩, hr1, hr1', hlo, hhi, heq⟩ := hS
 have hqd : q * (y * 2 ^ s) < 18446744073709551616 * 18446744073709551616 → True := fun _ => trivial
 have hqb : u * 18446744073709551616 + L < y * 2 ^ s * 18446744073709551616 := by
  obtain ⟨L0, L1⟩ := hL
  generalize y * 2 ^ s = Y at *
  omega
 have hq2 : r1 ≠ 0 ∨ y * 2 ^ s ≤ r0 → q + 1 < 18446744073709551616 := by
  intro h
  by_cases k : q + 1 < 18446744073709551616
  ·exact k
  ·exfalso
   obtain rfl : q = 18446744073709551615 := by omega
   generalize y * 2 ^ s = Y at *
   omega
 have hq3 : r1 ≠ 0 → y * 2 ^ s ≤ r0 - y * 2 ^ s + 18446744073709551616 → q + 1 + 1 < 18446744073709551616 := by
  intro h1 h2
  by_cases k : q + 1 + 1 < 18446744073709551616
  ·exact k
  ·exfalso
   have := hq2 (.inl h1)
   obtain rfl : q = 18446744073709551614 := by omega
   generalize y * 2 ^ s = Y at *
   omega
 generalize recN (y * 2 ^ s) = m at *
 obtain ⟨hm0, hm1⟩ := hrw
 have HN := hid hn; have C1 := hid c1; have C2 := hid c2; have C3 := hid c3; have C4 := hid c4; have C5 := hid c5; have C6 := hid c6; have HF := hid hfin
 clear hn c1 c2 c3 c4 c5 c6 hfin hqd
 obtain ⟨hl0, hl1⟩ := hl
 obtain ⟨hL0, hL1⟩ := hL
 obtain ⟨hy0, hy1⟩ := hy
 by_cases h0 : s = 0
 ·obtain ⟨rfl, rfl⟩ := h00 h0
  have hb0 : ((s : Int) == 0) = true := by subst h0; rfl
  have hY : y * 2 ^ s = y := by subst h0; rw [Int.pow_zero, Int.mul_one]
  rw [hY] at C4 hs1 hs2 hu1 hlo hhi heq HF hq2 hq3 hqb
  clear eu eL hY h00 h0
  by_cases c1 : r1 = 0
  ·have b1 : (r1 == 0) = true := beq_iff_eq.2 c1
   by_cases c2 : y ≤ r0
   ·have b2 : decide (y ≤ r0) = true := decide_eq_true c2
    have w1 : IntKind.u64.wrap (q + 1) = q + 1 := by rw [IntKind.wrap_u64]; omega
    have w2 : IntKind.u64.wrap (r0 - y) = r0 - y := by rw [IntKind.wrap_u64]; omega
    have hf := HF.out (q + 1) (r0 - y) (by rw [Int.add_mul, Int.one_mul]; omega) (by omega) (by omega)
    have HFF := hid hf
    clear hf c1
    go_enter Tryz.func224, Tryz.ntmps224
    go_wp2_with (first | (go_at_call 191; refine (HN.out _).mono ?_; rintro e w' ⟨rfl, rfl⟩) | (go_at_call_of 174 (Value.int .u64 m); refine (C1.out _).mono ?_; rintro e w' ⟨rfl, rfl⟩) | (go_at_call_of 142 (Value.int .u64 P0); refine (C2.out _).mono ?_; rintro e w' ⟨rfl, rfl⟩) | (go_at_call_of 142 (Value.int .u64 P1); refine (C3.out _).mono ?_; rintro e w' ⟨rfl, rfl⟩) | (go_at_call_of 174 (Value.int .u64 y); refine (C4.out _).mono ?_; rintro e w' ⟨rfl, rfl⟩) | (go_at_call_of 144 (Value.int .u64 L); refine (C5.out _).mono ?_; rintro e w' ⟨rfl, rfl⟩) | (go_at_call_of 144 (Value.int .u64 u); refine (C6.out _).mono ?_; rintro e w' ⟨rfl, rfl⟩))
    go_ret2
    exact ⟨by rw [HFF.out.1, HFF.out.2]; rfl, rfl⟩
   ·have b2 : decide (y ≤ r0) = false := decide_eq_false c2
    have hf := HF.out q r0 (by omega) (by omega) (by omega)
    have HFF := hid hf
    clear hf c1
    go_enter Tryz.func224, Tryz.ntmps224
    go_wp2_with (first | (go_at_call 191; refine (HN.out _).mono ?_; rintro e w' ⟨rfl, rfl⟩) | (go_at_call_of 174 (Value.int .u64 m); refine (C1.out _).mono ?_; rintro e w' ⟨rfl, rfl⟩) | (go_at_call_of 142 (Value.int .u64 P0); refine (C2.out _).mono ?_; rintro e w' ⟨rfl, rfl⟩) | (go_at_call_of 142 (Value.int .u64 P1); refine (C3.out _).mono ?_; rintro e w' ⟨rfl, rfl⟩) | (go_at_call_of 174 (Value.int .u64 y); refine (C4.out _).mono ?_; rintro e w' ⟨rfl, rfl⟩) | (go_at_call_of 144 (Value.int .u64 L); refine (C5.out _).mono ?_; rintro e w' ⟨rfl, rfl⟩) | (go_at_call_of 144 (Value.int .u64 u); refine (C6.out _).mono ?_; rintro e w' ⟨rfl, rfl⟩))
    go_ret2
    exact ⟨by rw [HFF.out.1, HFF.out.2]; rfl, rfl⟩
  ·have b1 : (r1 == 0) = false := beq_eq_false_iff_ne.2 c1
   have w1 : IntKind.u64.wrap (q + 1) = q + 1 := by rw [IntKind.wrap_u64]; omega
   have w2 : IntKind.u64.wrap (r0 - y) = r0 - y + 18446744073709551616 := by rw [IntKind.wrap_u64]; omega
   by_cases c2 : y ≤ r0 - y + 18446744073709551616
   ·have b2 : decide (y ≤ r0 - y + 18446744073709551616) = true := decide_eq_true c2
    have w3 : IntKind.u64.wrap (q + 1 + 1) = q + 1 + 1 := by rw [IntKind.wrap_u64]; omega
    have w4 : IntKind.u64.wrap (r0 - y + 18446744073709551616 - y) = r0 - y + 18446744073709551616 - y := by rw [IntKind.wrap_u64]; omega
    have hf := HF.out (q + 1 + 1) (r0 - y + 18446744073709551616 - y) (by rw [Int.add_mul, Int.add_mul, Int.one_mul]; omega) (by omega) (by omega)
    have HFF := hid hf
    clear hf c1
    go_enter Tryz.func224, Tryz.ntmps224
    go_wp2_with (first | (go_at_call 191; refine (HN.out _).mono ?_; rintro e w' ⟨rfl, rfl⟩) | (go_at_call_of 174 (Value.int .u64 m); refine (C1.out _).mono ?_; rintro e w' ⟨rfl, rfl⟩) | (go_at_call_of 142 (Value.int .u64 P0); refine (C2.out _).mono ?_; rintro e w' ⟨rfl, rfl⟩) | (go_at_call_of 142 (Value.int .u64 P1); refine (C3.out _).mono ?_; rintro e w' ⟨rfl, rfl⟩) | (go_at_call_of 174 (Value.int .u64 y); refine (C4.out _).mono ?_; rintro e w' ⟨rfl, rfl⟩) | (go_at_call_of 144 (Value.int .u64 L); refine (C5.out _).mono ?_; rintro e w' ⟨rfl, rfl⟩) | (go_at_call_of 144 (Value.int .u64 u); refine (C6.out _).mono ?_; rintro e w' ⟨rfl, rfl⟩))
    go_ret2
    exact ⟨by rw [HFF.out.1, HFF.out.2]; rfl, rfl⟩
   ·have b2 : decide (y ≤ r0 - y + 18446744073709551616) = false := decide_eq_false c2
    have hf := HF.out (q + 1) (r0 - y + 18446744073709551616) (by rw [Int.add_mul, Int.one_mul]; omega) (by omega) (by omega)
    have HFF := hid hf
    clear hf c1
    go_enter Tryz.func224, Tryz.ntmps224
    go_wp2_with (first | (go_at_call 191; refine (HN.out _).mono ?_; rintro e w' ⟨rfl, rfl⟩) | (go_at_call_of 174 (Value.int .u64 m); refine (C1.out _).mono ?_; rintro e w' ⟨rfl, rfl⟩) | (go_at_call_of 142 (Value.int .u64 P0); refine (C2.out _).mono ?_; rintro e w' ⟨rfl, rfl⟩) | (go_at_call_of 142 (Value.int .u64 P1); refine (C3.out _).mono ?_; rintro e w' ⟨rfl, rfl⟩) | (go_at_call_of 174 (Value.int .u64 y); refine (C4.out _).mono ?_; rintro e w' ⟨rfl, rfl⟩) | (go_at_call_of 144 (Value.int .u64 L); refine (C5.out _).mono ?_; rintro e w' ⟨rfl, rfl⟩) | (go_at_call_of 144 (Value.int .u64 u); refine (C6.out _).mono ?_; rintro e w' ⟨rfl, rfl⟩))
    go_ret2
    exact ⟨by rw [HFF.out.1, HFF.out.2]; rfl, rfl⟩
 ·have hb0 : ((s : Int) == 0) = false := beq_eq_false_iff_ne.2 (by omega)
  clear h00 h0
  generalize hYd : y * 2 ^ s = Y at *
  by_cases c1 : r1 = 0
  ·have b1 : (r1 == 0) = true := beq_iff_eq.2 c1
   by_cases c2 : Y ≤ r0
   ·have b2 : decide (Y ≤ r0) = true := decide_eq_true c2
    have w1 : IntKind.u64.wrap (q + 1) = q + 1 := by rw [IntKind.wrap_u64]; omega
    have w2 : IntKind.u64.wrap (r0 - Y) = r0 - Y := by rw [IntKind.wrap_u64]; omega
    have hf := HF.out (q + 1) (r0 - Y) (by rw [Int.add_mul, Int.one_mul]; omega) (by omega) (by omega)
    have HFF := hid hf
    clear hf c1
    go_enter Tryz.func224, Tryz.ntmps224
    go_wp2_with (first | (go_at_call 191; refine (HN.out _).mono ?_; rintro e w' ⟨rfl, rfl⟩) | (go_at_call_of 174 (Value.int .u64 m); refine (C1.out _).mono ?_; rintro e w' ⟨rfl, rfl⟩) | (go_at_call_of 142 (Value.int .u64 P0); refine (C2.out _).mono ?_; rintro e w' ⟨rfl, rfl⟩) | (go_at_call_of 142 (Value.int .u64 P1); refine (C3.out _).mono ?_; rintro e w' ⟨rfl, rfl⟩) | (go_at_call_of 174 (Value.int .u64 Y); refine (C4.out _).mono ?_; rintro e w' ⟨rfl, rfl⟩) | (go_at_call_of 144 (Value.int .u64 L); refine (C5.out _).mono ?_; rintro e w' ⟨rfl, rfl⟩) | (go_at_call_of 144 (Value.int .u64 u); refine (C6.out _).mono ?_; rintro e w' ⟨rfl, rfl⟩))
    go_ret2
    exact ⟨by rw [HFF.out.1, HFF.out.2]; rfl, rfl⟩
   ·have b2 : decide (Y ≤ r0) = false := decide_eq_false c2
    have hf := HF.out q r0 (by omega) (by omega) (by omega)
    have HFF := hid hf
    clear hf c1
    go_enter Tryz.func224, Tryz.ntmps224
    go_wp2_with (first | (go_at_call 191; refine (HN.out _).mono ?_; rintro e w' ⟨rfl, rfl⟩) | (go_at_call_of 174 (Value.int .u64 m); refine (C1.out _).mono ?_; rintro e w' ⟨rfl, rfl⟩) | (go_at_call_of 142 (Value.int .u64 P0); refine (C2.out _).mono ?_; rintro e w' ⟨rfl, rfl⟩) | (go_at_call_of 142 (Value.int .u64 P1); refine (C3.out _).mono ?_; rintro e w' ⟨rfl, rfl⟩) | (go_at_call_of 174 (Value.int .u64 Y); refine (C4.out _).mono ?_; rintro e w' ⟨rfl, rfl⟩) | (go_at_call_of 144 (Value.int .u64 L); refine (C5.out _).mono ?_; rintro e w' ⟨rfl, rfl⟩) | (go_at_call_of 144 (Value.int .u64 u); refine (C6.out _).mono ?_; rintro e w' ⟨rfl, rfl⟩))
    go_ret2
    exact ⟨by rw [HFF.out.1, HFF.out.2]; rfl, rfl⟩
  ·have b1 : (r1 == 0) = false := beq_eq_false_iff_ne.2 c1
   have w1 : IntKind.u64.wrap (q + 1) = q + 1 := by rw [IntKind.wrap_u64]; omega
   have w2 : IntKind.u64.wrap (r0 - Y) = r0 - Y + 18446744073709551616 := by rw [IntKind.wrap_u64]; omega
   by_cases c2 : Y ≤ r0 - Y + 18446744073709551616
   ·have b2 : decide (Y ≤ r0 - Y + 18446744073709551616) = true := decide_eq_true c2
    have w3 : IntKind.u64.wrap (q + 1 + 1) = q + 1 + 1 := by rw [IntKind.wrap_u64]; omega
    have w4 : IntKind.u64.wrap (r0 - Y + 18446744073709551616 - Y) = r0 - Y + 18446744073709551616 - Y := by rw [IntKind.wrap_u64]; omega
    have hf := HF.out (q + 1 + 1) (r0 - Y + 18446744073709551616 - Y) (by rw [Int.add_mul, Int.add_mul, Int.one_mul]; omega) (by omega) (by omega)
    have HFF := hid hf
    clear hf c1
    go_enter Tryz.func224, Tryz.ntmps224
    go_wp2_with (first | (go_at_call 191; refine (HN.out _).mono ?_; rintro e w' ⟨rfl, rfl⟩) | (go_at_call_of 174 (Value.int .u64 m); refine (C1.out _).mono ?_; rintro e w' ⟨rfl, rfl⟩) | (go_at_call_of 142 (Value.int .u64 P0); refine (C2.out _).mono ?_; rintro e w' ⟨rfl, rfl⟩) | (go_at_call_of 142 (Value.int .u64 P1); refine (C3.out _).mono ?_; rintro e w' ⟨rfl, rfl⟩) | (go_at_call_of 174 (Value.int .u64 Y); refine (C4.out _).mono ?_; rintro e w' ⟨rfl, rfl⟩) | (go_at_call_of 144 (Value.int .u64 L); refine (C5.out _).mono ?_; rintro e w' ⟨rfl, rfl⟩) | (go_at_call_of 144 (Value.int .u64 u); refine (C6.out _).mono ?_; rintro e w' ⟨rfl, rfl⟩))
    go_ret2
    exact ⟨by rw [HFF.out.1, HFF.out.2]; rfl, rfl⟩
   ·have b2 : decide (Y ≤ r0 - Y + 18446744073709551616) = false := decide_eq_false c2
    have hf := HF.out (q + 1) (r0 - Y + 18446744073709551616) (by rw [Int.add_mul, Int.one_mul]; omega) (by omega) (by omega)
    have HFF := hid hf
    clear hf c1
    go_enter Tryz.func224, Tryz.ntmps224
    go_wp2_with (first | (go_at_call 191; refine (HN.out _).mono ?_; rintro e w' ⟨rfl, rfl⟩) | (go_at_call_of 174 (Value.int .u64 m); refine (C1.out _).mono ?_; rintro e w' ⟨rfl, rfl⟩) | (go_at_call_of 142 (Value.int .u64 P0); refine (C2.out _).mono ?_; rintro e w' ⟨rfl, rfl⟩) | (go_at_call_of 142 (Value.int .u64 P1); refine (C3.out _).mono ?_; rintro e w' ⟨rfl, rfl⟩) | (go_at_call_of 174 (Value.int .u64 Y); refine (C4.out _).mono ?_; rintro e w' ⟨rfl, rfl⟩) | (go_at_call_of 144 (Value.int .u64 L); refine (C5.out _).mono ?_; rintro e w' ⟨rfl, rfl⟩) | (go_at_call_of 144 (Value.int .u64 u); refine (C6.out _).mono ?_; rintro e w' ⟨rfl, rfl⟩))
    go_ret2
    exact ⟨by rw [HFF.out.1, HFF.out.2]; rfl, rfl⟩
def divR : List Int → Int → Int → Int
 | [], r, _ => r
 | x :: t, r, y => (divR t r y * 18446744073709551616 + x) % y
def divD : List Int → Int → Int → List Int
 | [], _, _ => []
 | x :: t, r, y => (divR t r y * 18446744073709551616 + x) / y :: divD t r y
theorem divD_length : ∀ (xs : List Int) (r y : Int), (divD xs r y).length = xs.length
 | [], _, _ => rfl
 | x :: t, r, y => by simp [divD, divD_length t]
theorem divR_bd : ∀ (xs : List Int) {r y : Int}, 0 ≤ r → r < y → 0 ≤ divR xs r y ∧ divR xs r y < y
 | [], r, y, h0, h1 => ⟨h0, h1⟩
 | x :: t, r, y, h0, h1 => ⟨Int.emod_nonneg _ (by omega), Int.emod_lt_of_pos _ (by omega)⟩
theorem divD_val : ∀ (xs : List Int) {r y : Int}, y ≠ 0 → val (divD xs r y) * y + divR xs r y = BP xs.length * r + val xs
 | [], r, y, _ => by simp [divD, divR, val, BP_zero]
 | x :: t, r, y, h => by
  have ih := divD_val t (r := r) h
  have e := Int.mul_ediv_add_emod (divR t r y * 18446744073709551616 + x) y
  simp only [divD, divR, val, List.length_cons, BP_succ]
  generalize (divR t r y * 18446744073709551616 + x) / y = q at *
  generalize (divR t r y * 18446744073709551616 + x) % y = m at *
  rw [Int.add_mul, Int.mul_assoc, Int.mul_assoc]
  rw [Int.mul_comm y q] at e
  omega
set_option maxHeartbeats 1000000 in
theorem divWVW_any (bz cz bx cx n : Nat) (zs xs : List Int) (y : Int) (w : World) (hz : Row w bz zs) (hx : Row w bx xs) (hzl : n ≤ zs.length) (hxl : n ≤ xs.length)
  (hn1 : 1 ≤ n) (hn : n ≤ 1000000) (hy : Wd y) (hy1 : 1 ≤ y) :
  Calls Tryz.prog 198 #[.slice (some ⟨bz, 0, none⟩) n cz, .int .u64 0, .slice (some ⟨bx, 0, none⟩) n cx, .int .u64 y] w fun e w' =>
   e = .returned (.int .u64 (divR (seg xs 0 n) 0 y)) ∧ Row w' bz (put zs 0 (divD (seg xs 0 n) 0 y)) ∧ Chg (· = bz) w w' := by
 have hl : (seg xs 0 n).length = n := seg_length (by omega)
 have hws := seg_wds hx.2 0 n
 have hgd : ∀ k, k < n → (seg xs 0 n).getD k 0 = xs.getD k 0 := fun k hk => by rw [seg_getD hk, Nat.zero_add]
 have hstep : ∀ k, k < n → divR ((seg xs 0 n).drop k) 0 y = (divR ((seg xs 0 n).drop (k + 1)) 0 y * 18446744073709551616 + xs.getD k 0) % y ∧
   divD ((seg xs 0 n).drop k) 0 y = (divR ((seg xs 0 n).drop (k + 1)) 0 y * 18446744073709551616 + xs.getD k 0) / y :: divD ((seg xs 0 n).drop (k + 1)) 0 y := by
  intro k hk
  rw [← hgd k hk, List.getD_eq_getElem?_getD, List.getElem?_eq_getElem (by omega), Option.getD_some, List.drop_eq_getElem_cons (i := k) (by omega)]
  exact ⟨rfl, rfl⟩
 by_cases h1 : n = 1
 ·subst h1
  have hb := hstep 0 (by omega)
  have hlast : (seg xs 0 1).drop (0 + 1) = [] := by apply List.drop_of_length_le; omega
  rw [hlast] at hb
  simp only [divR, divD, List.drop_zero] at hb
  rw [Int.zero_mul] at hb
  have hcell := hx.cell (i := 0) (by omega)
  have hfz := hz.free 0
  have hcz := hz.cell (i := 0) (by omega)
  have hw0 := hx.wd 0
  have hdv := fun w => bitsDiv_any 0 (xs.getD 0 0) y (by omega) (by omega) hw0 hy w
  have hdw := div_wd (hi := 0) (lo := xs.getD 0 0) (y := y) (by omega) (by omega) hw0 hy
  rw [Int.zero_mul] at hdv hdw
  rw [hb.1, hb.2]
  have hz2 : ∀ w', Q w w' → ∀ c, w'.cell? c = w.cell? c := by rintro _ ⟨m, rfl⟩ c; rfl
  have hz3 : ∀ w', Q w w' → ∀ c, w'.frozen? c = w.frozen? c := by rintro _ ⟨m, rfl⟩ c; rfl
  have hfin : ∀ w' q, Q w w' → Wd q → Row (w'.setCell ⟨bz, 0, none⟩ (.int .u64 q)) bz (put zs 0 [q]) ∧ Chg (· = bz) w (w'.setCell ⟨bz, 0, none⟩ (.int .u64 q)) := by
   intro w' q hq hqw
   refine ⟨?_, (hq.chg (· = bz)).setCell (fun _ => rfl) _⟩
   have hz' : Row w' bz zs := by obtain ⟨m, rfl⟩ := hq; exact hz.drewN m
   have := hz'.set 0 hqw
   rwa [set_put _ (by omega)] at this
  have HFIN := hid hfin
  generalize xs.getD 0 0 = x at *
  generalize (0 + x) / y = q at *
  generalize (0 + x) % y = r at *
  have hqw := hdw.1
  obtain ⟨⟨hq0, hq1⟩, hr0, hr1⟩ := hdw
  have HDV := hid hdv
  have HQW := hid hqw
  have HZ2 := hid hz2
  have HZ3 := hid hz3
  clear hdv hfin hqw hb hstep hgd hl hlast hws hz2 hz3
  obtain ⟨hy0, hy2⟩ := hy
  obtain ⟨hx0, hx1⟩ := hw0
  go_enter Tryz.func198, Tryz.ntmps198
  go_wp2_with (go_at_call 222; refine (HDV.out _).mono ?_; rintro e w1 ⟨rfl, hq⟩; have hcz1 := (HZ2.out _ hq ⟨bz, 0, none⟩).trans hcz; have hfz1 := (HZ3.out _ hq ⟨bz, 0, none⟩).trans hfz; have hno := HFIN.out w1 q hq HQW.out; have HNO := hid hno; clear hno)
  go_ret
  exact ⟨rfl, HNO.out.1, HNO.out.2⟩
 ·have hb1 : ((n : Int) == 1) = false := beq_eq_false_iff_ne.2 (by omega)
  have hrec := fun w => reciprocalWord_any y hy hy1 w
  have hdv := fun (r x : Int) (h0 : 0 ≤ r) (h1 : r < y) (hx : Wd x) (w : World) => divWW_any r x y h0 h1 hx hy w
  obtain ⟨hs, hs1, hs2⟩ := nlzN_spec hy hy1
  have hrw := recN_wd hs1 hs2
  generalize recN (y * 2 ^ nlzN y) = m at *
  obtain ⟨hm0, hm1⟩ := hrw
  have hbd : ∀ k, 0 ≤ divR ((seg xs 0 n).drop k) 0 y ∧ divR ((seg xs 0 n).drop k) 0 y < y := fun k => divR_bd _ (by omega) (by omega)
  have hdl : ∀ k, (divD ((seg xs 0 n).drop k) 0 y).length = n - k := fun k => by rw [divD_length, List.length_drop, hl]
  have e0 : (seg xs 0 n).drop 0 = seg xs 0 n := rfl
  have en : (seg xs 0 n).drop n = [] := List.drop_of_length_le (by omega)
  rw [← e0]
  have HRN : Hid (divR ((seg xs 0 n).drop n) 0 y = 0 ∧ divD ((seg xs 0 n).drop n) 0 y = []) := by rw [en]; exact ⟨rfl, rfl⟩
  generalize hR : (fun k => divR ((seg xs 0 n).drop k) 0 y) = R at *
  generalize hD : (fun k => divD ((seg xs 0 n).drop k) 0 y) = D at *
  have hR' : ∀ k, divR ((seg xs 0 n).drop k) 0 y = R k := fun k => congrFun hR k
  have hD' : ∀ k, divD ((seg xs 0 n).drop k) 0 y = D k := fun k => congrFun hD k
  simp only [hR', hD'] at hstep hbd hdl HRN ⊢
  clear hR hD hR' hD' e0 en hgd hl hws
  have HSTEP := hid hstep; have HBD := hid hbd; have HDL := hid hdl; have HDV := hid hdv; have HREC := hid hrec
  clear hstep hbd hdl hdv hrec
  have HY := hid hy
  obtain ⟨hy0, hy2⟩ := hy
  go_enter Tryz.func198, Tryz.ntmps198
  go_wp2_with (go_at_call 223; refine (HREC.out _).mono ?_; rintro e w1 ⟨rfl, hq⟩)
  have hz1 : Row w1 bz zs := by obtain ⟨k, rfl⟩ := hq; exact hz.drewN k
  have hx1 : Row w1 bx xs := by obtain ⟨k, rfl⟩ := hq; exact hx.drewN k
  have hcq := hq.chg (· = bz)
  go_loopw [8, 12] (fun a i wr => ∃ k : Nat, k ≤ n ∧ i = .int .i64 ((k : Int) - 1) ∧ a = .int .u64 (R k) ∧ Row wr bz (put zs k (D k)) ∧ Chg (· = bz) w1 wr)
   (fun _ i _ => (intOf i + 1).toNat)
  case atStart => exact ⟨n, Nat.le_refl _, by go_num, by rw [HRN.out.1], by rw [HRN.out.2, put_nil]; exact hz1, Chg.refl _ _⟩
  case round =>
   obtain ⟨k, hk, rfl, rfl, hzr, hcr⟩ := hrel
   by_cases hk0 : k = 0
   ·subst hk0
    go_wp2_with fail
    go_ret
    exact ⟨rfl, hzr, hcq.trans hcr sb_⟩
   ·obtain ⟨q, rfl⟩ : ∃ q, k = q + 1 := ⟨k - 1, by omega⟩
    have hqi : (((q + 1 : Nat) : Int) - 1) = (q : Int) := by omega
    rw [hqi]
    have hdlq := HDL.out (q + 1)
    have hdlz := HDL.out q
    have hc0 := read_below (i := q) hz1 hx1 hzr hcr (by omega) (by omega) (fun _ => by omega)
    have hcz := hzr.cell (i := q) (by rw [put_length (by omega)]; omega)
    have hfz := hzr.free q
    have hwx := hx1.wd q
    have hst := HSTEP.out q (by omega)
    have hb := HBD.out (q + 1)
    have hdv := fun w => HDV.out _ _ hb.1 hb.2 hwx w
    have hdw := div_wd hb.1 hb.2 hwx HY.out
    rw [← hst.1] at hdv hdw
    have hset := hzr.set q hdw.1
    rw [put_cons _ (by omega), ← hst.2] at hset
    have HSET := hid hset
    have HCS := hid (hcr.setCell (p := ⟨bz, q, none⟩) (fun _ => rfl) (.int .u64 ((R (q + 1) * 18446744073709551616 + xs.getD q 0) / y)))
    have HDV2 := hid hdv
    clear hset hst hdv hdlq hdlz hqi
    generalize (R (q + 1) * 18446744073709551616 + xs.getD q 0) / y = dq at *
    generalize xs.getD q 0 = x at *
    generalize R (q + 1) = r at *
    obtain ⟨⟨hq0, hq1⟩, hr0, hr1⟩ := hdw
    obtain ⟨hb0, hb2⟩ := hb
    obtain ⟨hx0, hx2⟩ := hwx
    have hnn : (0 : Int) ≤ (q : Int) := by omega
    go_wp2_with (go_at_call 224; refine (HDV2.out _).mono ?_; rintro e w2 ⟨rfl, rfl⟩)
    go_roundw
    case rel => exact ⟨q, by omega, by go_num, rfl, HSET.out, HCS.out⟩
    case measure => simp [intOf]
def PNatR (w : World) (bo : Option Nat) (X r : Int) (e : Ending) (w' : World) : Prop :=
 ∃ v, e = .returned (.tuple #[v, .int .u64 r]) ∧ PNat w bo X (.returned v) w'
theorem PNat.get {w w' : World} {bo : Option Nat} {X : Int} {e : Ending} (h : PNat w bo X e w') : ∃ v, e = .returned v ∧ PNat w bo X (.returned v) w' := by
 obtain ⟨v, b', ds, rfl, h⟩ := h
 exact ⟨v, rfl, v, b', ds, rfl, h⟩
set_option maxHeartbeats 1000000 in
theorem divW_any (v vx : Value) (bo bx : Option Nat) (zs xs : List Int) (y : Int) (w : World) (hz : NatAt w v bo zs) (hx : NatAt w vx bx xs) (nx : Nrm xs) (hm : xs.length ≤ 100000) (hy : Wd y) (hy1 : 1 ≤ y) :
  Calls Tryz.prog 170 #[v, vx, .int .u64 y] w (PNatR w bo (val xs / y) (val xs % y)) := by
 have hb0 : (y == 0) = false := beq_eq_false_iff_ne.2 (by omega)
 by_cases h1 : y = 1
 ·subst h1
  have hb1 : ((1 : Int) == 1) = true := rfl
  rw [Int.ediv_one, Int.emod_one]
  obtain ⟨a1, c1, rfl⟩ := hx.len
  have HSET := hid (set_any v _ bo bx zs xs w hz hx nx (by omega))
  clear hz hx nx
  go_enter Tryz.func170, Tryz.ntmps170
  go_wp2_with (go_at_call 126; refine (HSET.out).mono ?_; rintro e w1 hp; obtain ⟨v', rfl, hp2⟩ := hp.get; have HP := hid hp2; clear hp hp2)
  go_ret2
  exact ⟨_, rfl, HP.out⟩
 ·have hb1 : (y == 1) = false := beq_eq_false_iff_ne.2 h1
  by_cases h0 : xs.length = 0
  ·obtain rfl : xs = [] := List.length_eq_zero_iff.1 h0
   obtain ⟨a, c, rfl⟩ := hz.len
   obtain ⟨a1, c1, rfl⟩ := hx.len
   have hfin : PNat w bo (val [] / y) (.returned (.slice a 0 c)) w := ⟨_, _, _, rfl, hz.cut0, Nrm.nil, by simp [val], .inl rfl, Chg.refl _ _⟩
   have e0 : val [] % y = 0 := by simp [val]
   rw [e0]
   have HFIN := hid hfin
   clear hfin hz hx e0
   go_enter Tryz.func170, Tryz.ntmps170
   go_wp2_with fail
   go_ret2
   exact ⟨_, rfl, HFIN.out⟩
  ·obtain ⟨b, rfl⟩ := hx.ne_nil (by intro e; subst e; exact h0 rfl)
   obtain ⟨sp, rfl, hrx, hx1, hx2⟩ := hx
   have hbm : ((xs.length : Int) == 0) = false := beq_eq_false_iff_ne.2 (by omega)
   have hmk := fun w1 hz => make_any v bo zs xs.length w1 hz (by omega) (by omega)
   have HMK := hid hmk
   clear hmk
   have hxs : seg (xs ++ sp) 0 xs.length = xs := by simp [seg]
   have hdv := fun (w1 : World) (g : Nat) (rs : List Int) (hg : Row w1 g rs) (hx : Row w1 b (xs ++ sp)) (hl : xs.length ≤ rs.length) => divWVW_any g rs.length b (xs.length + sp.length) xs.length rs (xs ++ sp) y w1 hg hx hl (by simp) (by omega) (by omega) hy hy1
   rw [hxs] at hdv
   have hlen := divD_length xs 0 y
   have hvl := divD_val xs (r := 0) (y := y) (by omega)
   have hbd := divR_bd xs (r := 0) (y := y) (by omega) (by omega)
   rw [Int.mul_zero, Int.zero_add] at hvl
   have hq : val (divD xs 0 y) = val xs / y := by
    rw [← hvl, Int.add_comm, Int.add_mul_ediv_right _ _ (by omega), Int.ediv_eq_zero_of_lt hbd.1 hbd.2, Int.zero_add]
   have hr : divR xs 0 y = val xs % y := by
    rw [← hvl, Int.add_comm, Int.add_mul_emod_self_right, Int.emod_eq_of_lt hbd.1 hbd.2]
   rw [hr] at hdv hbd
   have hfin : ∀ (g : Nat) (rs : List Int) (w1 w3 : World), Row w1 g rs → xs.length ≤ rs.length → 1 ≤ rs.length → rs.length ≤ 9223372036854775807 → (bo = some g ∨ w.heap.size ≤ g) → Chg (fun _ => False) w w1 → Row w3 g (put rs 0 (divD xs 0 y)) → Chg (· = g) w1 w3 →
     Calls Tryz.prog 129 #[.slice (some ⟨g, 0, none⟩) xs.length rs.length] w3 (PNat w bo (val xs / y)) := by
    intro g rs w1 w3 h1 h2 h3 h4 h5 h6 h7 h8
    exact (norm_put g xs.length rs _ w3 h7 hlen h2 h3 h4).mono fun e w' hp => nat_fin h6 h5 h8 hp hq
   have HFIN := hid hfin
   have HDV := hid hdv
   have hxne : 0 ≤ val xs % y := hbd.1
   have hxlt : val xs % y < 18446744073709551616 := by have := hbd.2; have := hy.2; omega
   obtain ⟨hy0, hy2⟩ := hy
   clear hfin hdv hq hr hvl hbd hlen hxs nx
   generalize xs.length + sp.length = cx at *
   go_enter Tryz.func170, Tryz.ntmps170
   go_wp2_with (first | (go_at_call 121; refine (HMK.out _ hz).mono ?_; rintro e w1 ⟨g, rs, rfl, hrr, hl1, hl2, hl3, hbo, hc⟩) | (go_at_call 198; refine (HDV.out _ g rs hrr (hrx.kept hc (fun h => h)) hl1).mono ?_; rintro e w3 ⟨rfl, hr3, hc3⟩; have hno := HFIN.out g rs w1 w3 hrr hl1 hl2 hl3 hbo hc hr3 hc3; have HNO := hid hno; clear hno) | (go_at_call 129; refine (HNO.out).mono ?_; rintro e w7 hp; obtain ⟨v', rfl, hp2⟩ := hp.get; have HP := hid hp2; clear hp hp2))
   go_ret2
   exact ⟨_, rfl, HP.out⟩
def IntAt (w : World) (p : Nat) (bo : Option Nat) (x : Int) : Prop :=
 ∃ (T : TypeId) (v : Value) (ds : List Int), w.heap[p]? = some (.cells #[.bool false, v] T (0, 0)) ∧ T ≠ 136 ∧ NatAt w v bo ds ∧ Nrm ds ∧ val ds = x
theorem IntAt.lt {w : World} {p : Nat} {bo : Option Nat} {x : Int} (h : IntAt w p bo x) : p < w.heap.size := by
 obtain ⟨T, v, ds, h1, _⟩ := h; exact (Array.getElem?_eq_some_iff.1 h1).1
theorem IntAt.ne {w : World} {p : Nat} {bo : Option Nat} {x : Int} (h : IntAt w p bo x) {q b : Nat} {bo2 : Option Nat} {y : Int} (k : IntAt w q bo2 y) (hb : bo2 = some b) : b ≠ p := by
 subst hb
 obtain ⟨T, v, ds, h1, h2, _⟩ := h
 obtain ⟨T', v', ds', _, _, ⟨sp, _, hr, _⟩, _⟩ := k
 rintro rfl
 have := hr.1.symm.trans h1
 simp only [Option.some.injEq, Obj.cells.injEq] at this
 exact h2 this.2.1.symm
theorem IntAt.nonneg {w : World} {p : Nat} {bo : Option Nat} {x : Int} (h : IntAt w p bo x) : 0 ≤ x := by
 obtain ⟨T, v, ds, _, _, h3, _, rfl⟩ := h; exact val_nonneg h3.wds
theorem IntAt.drew {w : World} {p : Nat} {bo : Option Nat} {x : Int} (h : IntAt w p bo x) : IntAt w.drew p bo x := by
 obtain ⟨T, v, ds, h1, h2, h3, h4, h5⟩ := h; exact ⟨T, v, ds, h1, h2, h3.drew, h4, h5⟩
theorem IntAt.drewN {w : World} {p : Nat} {bo : Option Nat} {x : Int} (h : IntAt w p bo x) (n : Nat) : IntAt (w.drewN n) p bo x := by
 obtain ⟨T, v, ds, h1, h2, h3, h4, h5⟩ := h; exact ⟨T, v, ds, h1, h2, h3.drewN n, h4, h5⟩
theorem IntAt.kept {S : Nat → Prop} {w w' : World} {p : Nat} {bo : Option Nat} {x : Int} (h : IntAt w p bo x) (hc : Chg S w w') (hp : ¬ S p) (hb : ∀ b, bo = some b → ¬ S b) : IntAt w' p bo x := by
 have hl := h.lt
 obtain ⟨T, v, ds, h1, h2, h3, h4, h5⟩ := h
 exact ⟨T, v, ds, (hc.keep p hl hp).trans h1, h2, h3.kept hc hb, h4, h5⟩
def Fld (w : World) (p : Nat) (bo : Option Nat) (x : Int) (v : Value) : Prop :=
 ∃ ds, w.cell? ⟨p, 0, none⟩ = some (.bool false) ∧ w.cell? ⟨p, 1, none⟩ = some v ∧ (∀ i, w.frozen? ⟨p, i, none⟩ = false) ∧ NatAt w v bo ds ∧ Nrm ds ∧ val ds = x
theorem IntAt.fld {w : World} {p : Nat} {bo : Option Nat} {x : Int} (h : IntAt w p bo x) : ∃ v, Fld w p bo x v := by
 obtain ⟨T, v, ds, h1, h2, h3, h4, h5⟩ := h
 exact ⟨v, ds, by simp [World.cell?, h1], by simp [World.cell?, h1], fun i => by simp [World.frozen?, h1], h3, h4, h5⟩
theorem len_bd {ds : List Int} {x : Int} (h : Wds ds) (hn : Nrm ds) (hv : val ds = x) (hx : x < BP 30) : ds.length ≤ 30 := len_le_of_val h hn (by rw [hv]; exact hx)
theorem PNat.chg {w w' : World} {bo : Option Nat} {X : Int} {e : Ending} (h : PNat w bo X e w') : Chg (fun k => bo = some k) w w' := by
 obtain ⟨_, _, _, _, _, _, _, _, hc⟩ := h; exact hc
theorem PNat.sl {w w' : World} {bo : Option Nat} {X : Int} {e : Ending} (h : PNat w bo X e w') : ∃ a n c, e = .returned (.slice a n c) ∧ PNat w bo X (.returned (.slice a n c)) w' ∧ (n = 0 ↔ X = 0) := by
 obtain ⟨v, bo', ds, rfl, h1, h2, h3, h4⟩ := h
 obtain ⟨a, c, rfl⟩ := h1.len
 refine ⟨a, ds.length, c, rfl, ⟨_, bo', ds, rfl, h1, h2, h3, h4⟩, fun e => ?_, fun e => ?_⟩
 ·rw [List.length_eq_zero_iff.1 e] at h3; exact h3.symm
 ·have := val_zero_nrm h1.wds h2 (h3.trans e); rw [this]; rfl
def PInt (w : World) (p : Nat) (bo : Option Nat) (X : Int) (ret : Value) (e : Ending) (w' : World) : Prop :=
 e = .returned ret ∧ ∃ bo', IntAt w' p bo' X ∧ (bo' = bo ∨ ∃ b, bo' = some b ∧ w.heap.size ≤ b) ∧ Chg (fun k => k = p ∨ bo = some k) w w'
theorem int_fin {w w1 : World} {p : Nat} {bo : Option Nat} {x X : Int} {v' ret : Value} (hp : IntAt w p bo x) (hn : PNat w bo X (.returned v') w1) :
  PInt w p bo X ret (.returned ret) ((w1.setCell ⟨p, 1, none⟩ v').setCell ⟨p, 0, none⟩ (.bool false)) := by
 have hl := hp.lt
 have hpb : bo ≠ some p := fun h => hp.ne hp h rfl
 obtain ⟨T, v, ds, h1, h2, h3, h4, h5⟩ := hp
 obtain ⟨v2, bo', ds', he, k1, k2, k3, k4, k5⟩ := hn
 simp only [Ending.returned.injEq] at he
 subst he
 have h1' := (k5.keep p hl hpb).trans h1
 have hs : ((w1.setCell ⟨p, 1, none⟩ v').setCell ⟨p, 0, none⟩ (.bool false)).heap[p]? = some (.cells #[.bool false, v'] T (0, 0)) := by
  simp [World.setCell, Array.getElem?_modify, h1']
 have hc : Chg (fun k => k = p) w1 ((w1.setCell ⟨p, 1, none⟩ v').setCell ⟨p, 0, none⟩ (.bool false)) := Chg.setCell (p := ⟨p, 0, none⟩) (Chg.setCell (p := ⟨p, 1, none⟩) (Chg.refl (fun k => k = p) w1) (fun _ => rfl) v') (fun _ => rfl) _
 have hb' : ∀ b, bo' = some b → b ≠ p := by
  rintro b rfl
  obtain ⟨sp, _, hr, _⟩ := k1
  rintro rfl
  have := hr.1.symm.trans h1'
  simp only [Option.some.injEq, Obj.cells.injEq] at this
  exact h2 this.2.1.symm
 exact ⟨rfl, bo', ⟨T, v', ds', hs, h2, k1.kept hc hb', k2, k3⟩, k4, (k5.mono (fun _ h => .inr h)).trans hc (fun _ _ h => .inl h)⟩
structure After (w1 : World) (p q : Nat) : Prop where
 neg : w1.cell? ⟨q, 0, none⟩ = some (.bool false)
 neg' : ∀ v', (w1.setCell ⟨p, 1, none⟩ v').cell? ⟨q, 0, none⟩ = some (.bool false)
 free : ∀ i, w1.frozen? ⟨q, i, none⟩ = false
 free' : ∀ v' i, (w1.setCell ⟨p, 1, none⟩ v').frozen? ⟨q, i, none⟩ = false
 words : ∃ v, w1.cell? ⟨q, 1, none⟩ = some v
 words' : q = p → ∀ v', (w1.setCell ⟨p, 1, none⟩ v').cell? ⟨p, 1, none⟩ = some v'
theorem int_after {w w1 : World} {p q : Nat} {bo bq : Option Nat} {x y : Int} (hp : IntAt w p bo x) (hq : IntAt w q bq y) (hc : Chg (fun k => bo = some k) w w1) : After w1 p q := by
 have hl := hq.lt
 have hqb : bo ≠ some q := fun h => hq.ne hp h rfl
 obtain ⟨T, v, ds, h1, h2, h3, h4, h5⟩ := hq
 have h1' := (hc.keep q hl hqb).trans h1
 refine ⟨by simp [World.cell?, h1'], fun v' => ?_, fun i => by simp [World.frozen?, h1'], fun v' i => ?_, ⟨v, by simp [World.cell?, h1']⟩, fun e v' => ?_⟩
 ·by_cases e : p = q
  ·subst e; simp [World.cell?, World.setCell, Array.getElem?_modify, h1']
  ·unfold World.cell?; rw [Below.heap_setCell _ _ _ _ (by simpa using fun h => e h.symm)]
   simp [h1']
 ·by_cases e : p = q
  ·subst e; simp [World.frozen?, World.setCell, Array.getElem?_modify, h1']
  ·unfold World.frozen?; rw [Below.heap_setCell _ _ _ _ (by simpa using fun h => e h.symm)]
   simp [h1']
 ·subst e; simp [World.cell?, World.setCell, Array.getElem?_modify, h1']
theorem Int_SetUint64 (p : Nat) (bo : Option Nat) (x0 x : Int) (w : World) (hp : IntAt w p bo x0) (hx : Wd x) :
  Calls Tryz.prog 90 #[.pointer (some ⟨p, 0, none⟩), .int .u64 x] w (PInt w p bo x (.pointer (some ⟨p, 0, none⟩))) := by
 obtain ⟨v, ds, c0, c1, cf, hn, nn, hv⟩ := hp.fld
 have HF := hid (fun v' w1 (h : PNat w bo x (.returned v') w1) => int_fin (ret := .pointer (some ⟨p, 0, none⟩)) hp h)
 have HA := hid (fun w1 (h : Chg (fun k => bo = some k) w w1) => int_after hp hp h)
 have HN := hid hn
 clear cf hn nn hv
 go_enter Tryz.func90, Tryz.ntmps90
 go_wp2_with (go_at_call 104; refine (setUint64_any v bo ds x _ HN.out hx).mono ?_; rintro e w1 h; obtain ⟨a, n, c, rfl, h', hn0⟩ := h.sl; have ha := HA.out w1 h'.chg; have d0 := ha.neg; obtain ⟨v1, d1⟩ := ha.words; have d2 := ha.neg' (.slice a n c); have df0 := ha.free 0; have df1 := ha.free 1; have df2 := ha.free' (.slice a n c) 0; have HR := hid (HF.out _ w1 h'); clear ha h' hn0)
 go_ret
 exact HR.out
theorem int_row : (Tryz.prog.info? 121).map (fun i => i.size) = some 2 := by kernel_rfl
noncomputable def intInfo : TypeInfo := (Tryz.prog.info? 121).get (by have := int_row; cases h : Tryz.prog.info? 121 with | none => simp [h] at this | some i => rfl)
theorem info_int : Tryz.prog.info? 121 = some intInfo := by unfold intInfo; simp
theorem int_size : intInfo.size = 2 := by have := int_row; rw [info_int] at this; simpa using this
theorem IntAt.obj {w : World} {p : Nat} {bo : Option Nat} {x : Int} (h : IntAt w p bo x) : ∃ cs T, w.heap[p]? = some (.cells cs T (0, 0)) := by
 obtain ⟨T, v, ds, h1, _⟩ := h; exact ⟨_, _, h1⟩
theorem pint_eql_other {w : World} {p q : Nat} {bo bq : Option Nat} {x y : Int} (hp : IntAt w p bo x) (hq : IntAt w q bq y) (hne : p ≠ q) :
  (binOp .eql 117 (.pointer (some ⟨p, 0, none⟩)) (.pointer (some ⟨q, 0, none⟩))).run Tryz.prog w = .ok (.bool false) w := by
 obtain ⟨c1, T1, h1⟩ := hp.obj
 obtain ⟨c2, T2, h2⟩ := hq.obj
 have h : ∀ d : Nat, (Op.equalIn (d + 1) 117 (.pointer (some ⟨p, 0, none⟩)) (.pointer (some ⟨q, 0, none⟩))).run Tryz.prog w = .ok false w := fun d => by
  simp [Op.equalIn, run_underlying Tryz.underlying117, sizeOf, typeInfo, info_int, int_size, run_sameAddr_other w (a := ⟨p, 0, none⟩) (b := ⟨q, 0, none⟩) (fun e => hne (Addr.mk.inj e).1) h1 h2]
 simp only [binOp]
 simp [Op.equal, Op.maxDepth, h 9999]
theorem PInt.ofQ {w w1 w' : World} {p : Nat} {bo : Option Nat} {X : Int} {ret : Value} {e : Ending} (hq : Q w w1) (h : PInt w1 p bo X ret e w') : PInt w p bo X ret e w' := by
 obtain ⟨n, rfl⟩ := hq
 obtain ⟨h1, bo', h2, h3, h4⟩ := h
 exact ⟨h1, bo', h2, h3, ⟨h4.os, h4.tape, h4.output, h4.size, h4.keep⟩⟩
theorem PInt.drew {w w' : World} {p : Nat} {bo : Option Nat} {X : Int} {ret : Value} {e : Ending} (h : PInt w p bo X ret e w') : PInt w p bo X ret e w'.drew := by
 obtain ⟨h1, bo', h2, h3, h4⟩ := h
 exact ⟨h1, bo', h2.drew, h3, h4.drew⟩
theorem PNat.undrew {w w' : World} {bo : Option Nat} {X : Int} {e : Ending} (h : PNat w.drew bo X e w') : PNat w bo X e w' := PNat.ofQ ⟨1, rfl⟩ h
set_option maxHeartbeats 2000000 in
theorem Int_mul (p q r : Nat) (bo bq br : Option Nat) (x0 x y : Int) (w : World) (hp : IntAt w p bo x0) (hq : IntAt w q bq x) (hr : IntAt w r br y) (hne : q ≠ r) (hx : x < BP 30) (hy : y < BP 30)
  (hkt : w.cell? ⟨5, 0, none⟩ = some (.int .i64 40)) :
  Calls Tryz.prog 122 #[.pointer (some ⟨p, 0, none⟩), .pointer none, .pointer (some ⟨q, 0, none⟩), .pointer (some ⟨r, 0, none⟩)] w (PInt w p bo (x * y) (.tuple #[])) := by
 have hpe := pint_eql_other hq hr hne
 obtain ⟨v, ds, c0, c1, cf, hn, nn, hv⟩ := hp.fld
 obtain ⟨vx, xs, cx0, cx1, cxf, hnx, nx, rfl⟩ := hq.fld
 obtain ⟨vy, ys, cy0, cy1, cyf, hny, ny, rfl⟩ := hr.fld
 have HC := hid (fun (w1 : World) (h1 : NatAt w1 v bo ds) (h2 : NatAt w1 vx bq xs) (h3 : NatAt w1 vy br ys) (h4 : w1.cell? ⟨5, 0, none⟩ = some (.int .i64 40)) =>
  mul_any v (.pointer none) vx vy bo bq br ds xs ys w1 h1 h2 h3 nx ny (by have := len_bd h2.wds nx rfl hx; omega) (by have := len_bd h3.wds ny rfl hy; omega) h4)
 have HN := hid hn; have HX := hid hnx; have HY := hid hny; have HK := hid hkt
 have HF := hid (fun a n c w1 (h : PNat w bo (val xs * val ys) (.returned (.slice a n c)) w1) => int_fin (ret := .tuple #[]) hp h)
 have HAp := hid (fun w1 (h : Chg (fun k => bo = some k) w w1) => int_after hp hp h)
 have HAx := hid (fun w1 (h : Chg (fun k => bo = some k) w w1) => int_after hp hq h)
 have HAy := hid (fun w1 (h : Chg (fun k => bo = some k) w w1) => int_after hp hr h)
 clear cf hn nn hv cxf hnx cyf hny hkt
 go_enter Tryz.func122, Tryz.ntmps122
 go_upto_region 3 with fail
 go_cut [41] from 27 to 43 (fun x wx => ∃ (a : Option Addr) (n c : Nat) (w1 : World), x = .slice a n c ∧ wx = w1.setCell ⟨p, 1, none⟩ (.slice a n c) ∧ Hid (PNat w bo (val xs * val ys) (.returned (.slice a n c)) w1))
 case first =>
  go_region_with (go_at_call 139; refine (HC.out _ HN.out.drew HX.out.drew HY.out.drew HK.out).mono ?_; rintro e w1 h; replace h := h.undrew; obtain ⟨a, n, c, rfl, h', hn0⟩ := h.sl; have HH := hid h'; have ha := HAp.out w1 h'.chg; obtain ⟨v1, d1⟩ := ha.words; have df1 := ha.free 1; clear ha h' h hn0)
  all_goals (go_wp2_with fail; go_meet; exact ⟨_, _, _, _, rfl, rfl, HH⟩)
 case rest =>
  obtain ⟨a, n, c, w1, rfl, rfl, HH⟩ := hcut
  have hc1 := HH.out.chg
  have ha := HAp.out w1 hc1
  have hax := HAx.out w1 hc1
  have hay := HAy.out w1 hc1
  have d2 := ha.neg' (.slice a n c)
  have d3 := ha.words' rfl (.slice a n c)
  have df2 := ha.free' (.slice a n c) 0
  have ex := hax.neg' (.slice a n c)
  have ey := hay.neg' (.slice a n c)
  have HR := hid (HF.out _ _ _ w1 HH.out)
  clear ha hax hay hc1
  by_cases h0 : 0 < n
  ·have hd : decide ((0 : Int) < (n : Int)) = true := decide_eq_true (by omega)
   go_wp2_with fail
   go_region
   all_goals (go_wp2_with fail; go_end0; exact HR.out.drew)
  ·have hd : decide ((0 : Int) < (n : Int)) = false := decide_eq_false (by omega)
   go_wp2_with fail
   go_region
   all_goals (go_wp2_with fail; go_end0; exact HR.out.drew)
theorem Int_Mul (p q r : Nat) (bo bq br : Option Nat) (x0 x y : Int) (w : World) (hp : IntAt w p bo x0) (hq : IntAt w q bq x) (hr : IntAt w r br y) (hne : q ≠ r) (hx : x < BP 30) (hy : y < BP 30)
  (hkt : w.cell? ⟨5, 0, none⟩ = some (.int .i64 40)) :
  Calls Tryz.prog 105 #[.pointer (some ⟨p, 0, none⟩), .pointer (some ⟨q, 0, none⟩), .pointer (some ⟨r, 0, none⟩)] w (PInt w p bo (x * y) (.pointer (some ⟨p, 0, none⟩))) := by
 have HM := hid (Int_mul p q r bo bq br x0 x y w hp hq hr hne hx hy hkt)
 go_enter Tryz.func105, Tryz.ntmps105
 go_wp2_with (go_at_call 122; refine HM.out.mono ?_; rintro e w1 ⟨rfl, h⟩; have HH := hid h; clear h)
 go_ret
 exact ⟨rfl, HH.out⟩
set_option maxHeartbeats 2000000 in
theorem Int_Add (p q r : Nat) (bo bq br : Option Nat) (x0 x y : Int) (w : World) (hp : IntAt w p bo x0) (hq : IntAt w q bq x) (hr : IntAt w r br y) (hx : x < BP 30) (hy : y < BP 30) :
  Calls Tryz.prog 94 #[.pointer (some ⟨p, 0, none⟩), .pointer (some ⟨q, 0, none⟩), .pointer (some ⟨r, 0, none⟩)] w (PInt w p bo (x + y) (.pointer (some ⟨p, 0, none⟩))) := by
 obtain ⟨v, ds, c0, c1, cf, hn, nn, hv⟩ := hp.fld
 obtain ⟨vx, xs, cx0, cx1, cxf, hnx, nx, rfl⟩ := hq.fld
 obtain ⟨vy, ys, cy0, cy1, cyf, hny, ny, rfl⟩ := hr.fld
 have HC := hid (fun (w1 : World) (h1 : NatAt w1 v bo ds) (h2 : NatAt w1 vx bq xs) (h3 : NatAt w1 vy br ys) => add_any v vx vy bo bq br ds xs ys w1 h1 h2 h3 nx ny (by have := len_bd h2.wds nx rfl hx; omega) (by have := len_bd h3.wds ny rfl hy; omega))
 have HN := hid hn; have HX := hid hnx; have HY := hid hny
 have HF := hid (fun a n c w1 (h : PNat w bo (val xs + val ys) (.returned (.slice a n c)) w1) => int_fin (ret := .pointer (some ⟨p, 0, none⟩)) hp h)
 have HAp := hid (fun w1 (h : Chg (fun k => bo = some k) w w1) => int_after hp hp h)
 clear cf hn nn hv cxf hnx cyf hny
 go_enter Tryz.func94, Tryz.ntmps94
 go_upto_region 2 with fail
 go_region
 all_goals skip
 go_upto_region 3 with fail
 go_cut [34] from 21 to 36 (fun x wx => ∃ (a : Option Addr) (n c : Nat) (w1 : World), x = .slice a n c ∧ wx = w1.setCell ⟨p, 1, none⟩ (.slice a n c) ∧ Hid (PNat w bo (val xs + val ys) (.returned (.slice a n c)) w1))
 case first =>
  go_region_with (go_at_call 109; refine (HC.out _ HN.out.drew.drew HX.out.drew.drew HY.out.drew.drew).mono ?_; rintro e w1 h; replace h := h.undrew.undrew; obtain ⟨a, n, c, rfl, h', hn0⟩ := h.sl; have HH := hid h'; have ha := HAp.out w1 h'.chg; obtain ⟨v1, d1⟩ := ha.words; have df1 := ha.free 1; clear ha h' h hn0)
  all_goals (go_wp2_with fail; go_meet; exact ⟨_, _, _, _, rfl, rfl, HH⟩)
 case rest =>
  obtain ⟨a, n, c, w1, rfl, rfl, HH⟩ := hcut
  have hc1 := HH.out.chg
  have ha := HAp.out w1 hc1
  have d2 := ha.neg' (.slice a n c)
  have d3 := ha.words' rfl (.slice a n c)
  have df2 := ha.free' (.slice a n c) 0
  have HR := hid (HF.out _ _ _ w1 HH.out)
  clear ha hc1
  by_cases h0 : 0 < n
  ·have hd : decide ((0 : Int) < (n : Int)) = true := decide_eq_true (by omega)
   go_wp2_with fail
   go_ret
   exact HR.out
  ·have hd : decide ((0 : Int) < (n : Int)) = false := decide_eq_false (by omega)
   go_wp2_with fail
   go_ret
   exact HR.out
theorem NatAt.heap {w w' : World} {v : Value} {bo : Option Nat} {ds : List Int} (h : NatAt w v bo ds) (e : w'.heap = w.heap) : NatAt w' v bo ds := by
 cases bo with
 | none => exact h
 | some b => obtain ⟨sp, hv, hr, h1, h2⟩ := h; exact ⟨sp, hv, ⟨by rw [e]; exact hr.1, hr.2⟩, h1, h2⟩
structure Alike (w w1 : World) : Prop where
 heap : w1.heap = w.heap
 os : w1.os = w.os
 tape : w1.tape = w.tape
 output : w1.output = w.output
theorem Chg.alike {S : Nat → Prop} {w w1 w' : World} (h : Chg S w1 w') (e : Alike w w1) : Chg S w w' :=
 ⟨h.os.trans e.os, h.tape.trans e.tape, h.output.trans e.output, by rw [← e.heap]; exact h.size, fun k hk hn => by rw [← e.heap] at hk ⊢; exact h.keep k hk hn⟩
theorem PNat.alike {w w1 w' : World} {bo : Option Nat} {X : Int} {e : Ending} (h : PNat w1 bo X e w') (k : Alike w w1) : PNat w bo X e w' := by
 obtain ⟨v, b, ds, h1, h2, h3, h4, h5, h6⟩ := h
 exact ⟨v, b, ds, h1, h2, h3, h4, by rw [← k.heap]; exact h5, h6.alike k⟩
theorem IntAt.alike {w w1 : World} {p : Nat} {bo : Option Nat} {x : Int} (h : IntAt w p bo x) (k : Alike w w1) : IntAt w1 p bo x := by
 obtain ⟨T, v, ds, h1, h2, h3, h4⟩ := h
 exact ⟨T, v, ds, by rw [k.heap]; exact h1, h2, h3.heap k.heap, h4⟩
theorem quiet_qk {P : Program} {f : FuncId} {args : Array Value} {w : World} {k n : Nat} {v : Value}
  (h : Calls P f args (w.drewN (k + n)) fun e w' => e = .returned v ∧ Q (w.drewN (k + n)) w') : Calls P f args (w.drewN (k + n)) fun e w'' => e = .returned v ∧ ∃ m, w'' = w.drewN (k + m) :=
 h.mono fun _ _ ⟨he, m, hm⟩ => ⟨he, n + m, by rw [hm, World.drewN_drewN, Nat.add_assoc]⟩
theorem cmpI_ge {x y : Int} (h : y ≤ x) : 0 ≤ cmpI x y := by unfold cmpI; split <;> (try split) <;> omega
set_option maxHeartbeats 2000000 in
theorem Int_Sub (p q r : Nat) (bo bq br : Option Nat) (x0 x y : Int) (w : World) (hp : IntAt w p bo x0) (hq : IntAt w q bq x) (hr : IntAt w r br y) (hx : x < BP 30) (hy : y ≤ x) :
  Calls Tryz.prog 112 #[.pointer (some ⟨p, 0, none⟩), .pointer (some ⟨q, 0, none⟩), .pointer (some ⟨r, 0, none⟩)] w (PInt w p bo (x - y) (.pointer (some ⟨p, 0, none⟩))) := by
 obtain ⟨v, ds, c0, c1, cf, hn, nn, hv⟩ := hp.fld
 obtain ⟨vx, xs, cx0, cx1, cxf, hnx, nx, rfl⟩ := hq.fld
 obtain ⟨vy, ys, cy0, cy1, cyf, hny, ny, rfl⟩ := hr.fld
 have HC := hid (fun (w1 : World) (h1 : NatAt w1 v bo ds) (h2 : NatAt w1 vx bq xs) (h3 : NatAt w1 vy br ys) => sub_any v vx vy bo bq br ds xs ys w1 h1 h2 h3 nx ny hy (by have := len_bd h2.wds nx rfl hx; omega))
 have hcmp := fun (w1 : World) (h2 : NatAt w1 vx bq xs) (h3 : NatAt w1 vy br ys) => cmp_any vx vy bq br xs ys w1 h2 h3 nx ny
 have hge := cmpI_ge hy
 generalize cmpI (val xs) (val ys) = k at *
 have HM := hid hcmp
 have HN := hid hn; have HX := hid hnx; have HY := hid hny
 have HF := hid (fun a n c w1 (h : PNat w bo (val xs - val ys) (.returned (.slice a n c)) w1) => int_fin (ret := .pointer (some ⟨p, 0, none⟩)) hp h)
 have HAp := hid (fun w1 (h : Chg (fun k => bo = some k) w w1) => int_after hp hp h)
 clear cf hn nn hv cxf hnx cyf hny hcmp
 have hbb : (false != false) = false := rfl
 go_enter Tryz.func112, Tryz.ntmps112
 go_upto_region 2 with fail
 go_region
 go_upto_region 4 with fail
 go_quiet ((go_at_call 110; exact quiet_qk (HM.out _ (by exact HX.out.heap rfl) (by exact HY.out.heap rfl))))
 go_upto_region 5 with fail
 go_cut [60] from 47 to 62 (fun x wx => ∃ (a : Option Addr) (n c : Nat) (w1 : World), x = .slice a n c ∧ wx = w1.setCell ⟨p, 1, none⟩ (.slice a n c) ∧ Hid (PNat w bo (val xs - val ys) (.returned (.slice a n c)) w1))
 case first =>
  go_region_with (go_at_call 111; refine (HC.out _ (by exact HN.out.heap rfl) (by exact HX.out.heap rfl) (by exact HY.out.heap rfl)).mono ?_; rintro e w1 h; replace h : PNat w bo _ _ _ := h.alike ⟨rfl, rfl, rfl, rfl⟩; obtain ⟨a, n, c, rfl, h', hn0⟩ := h.sl; have HH := hid h'; have ha := HAp.out w1 h'.chg; obtain ⟨v1, d1⟩ := ha.words; have df1 := ha.free 1; clear ha h' h hn0)
  all_goals (go_wp2_with fail; go_meet; exact ⟨_, _, _, _, rfl, rfl, HH⟩)
 case rest =>
  obtain ⟨a, n, c, w1, rfl, rfl, HH⟩ := hcut
  have hc1 := HH.out.chg
  have ha := HAp.out w1 hc1
  have d2 := ha.neg' (.slice a n c)
  have d3 := ha.words' rfl (.slice a n c)
  have df2 := ha.free' (.slice a n c) 0
  have HR := hid (HF.out _ _ _ w1 HH.out)
  clear ha hc1
  by_cases h0 : 0 < n
  ·have hd : decide ((0 : Int) < (n : Int)) = true := decide_eq_true (by omega)
   go_wp2_with fail
   go_ret
   exact HR.out
  ·have hd : decide ((0 : Int) < (n : Int)) = false := decide_eq_false (by omega)
   go_wp2_with fail
   go_ret
   exact HR.out
def StkAt (w : World) (s : Nat) : Prop := w.cell? ⟨s, 0, none⟩ = some (.pointer none) ∧ s < w.heap.size
theorem StkAt.kept {S : Nat → Prop} {w w' : World} {s : Nat} (h : StkAt w s) (hc : Chg S w w') (hs : ¬ S s) : StkAt w' s := by
 refine ⟨?_, by have := hc.size; have := h.2; omega⟩
 have := hc.keep s h.2 hs
 have h1 := h.1
 unfold World.cell? at h1 ⊢
 rw [this]; exact h1
theorem StkAt.drewN {w : World} {s : Nat} (h : StkAt w s) (n : Nat) : StkAt (w.drewN n) s := h
def PStk (w : World) (e : Ending) (w' : World) : Prop := ∃ s, e = .returned (.pointer (some ⟨s, 0, none⟩)) ∧ StkAt w' s ∧ w.heap.size ≤ s ∧ Chg (fun _ => False) w w'
theorem getStack_any (w : World) : Calls Tryz.prog 153 #[] w (PStk w) := by
 go_enter Tryz.func153, Tryz.ntmps153
 go_wp2
 go_ret
 refine ⟨w.heap.size, rfl, ⟨?_, by simp⟩, Nat.le_refl _, (Chg.refl _ _).alloc _⟩
 simp [World.cell?_alloc_new]
theorem save_any (s : Nat) (w : World) (h : StkAt w s) : Calls Tryz.prog 160 #[.pointer (some ⟨s, 0, none⟩)] w (fun e w' => e = .returned (.int .i64 0) ∧ w = w') := by
 have hc := h.1
 go_enter Tryz.func160, Tryz.ntmps160
 go_wp2
 go_ret
 exact ⟨rfl, rfl⟩
def PRow (w : World) (n : Nat) (k : Nat) (e : Ending) (w' : World) : Prop :=
 ∃ (b : Nat) (xs : List Int), e = .returned (.slice (some ⟨b, 0, none⟩) k xs.length) ∧ Row w' b xs ∧ n ≤ xs.length ∧ 1 ≤ xs.length ∧ xs.length ≤ 9223372036854775807 ∧ w.heap.size ≤ b ∧ Chg (fun _ => False) w w'
theorem zeroCells_words (n : Nat) : Builtin.zeroCells (Value.int .u64 0).cells n = (List.replicate n (Value.int .u64 0)).toArray := by
 apply Array.toList_inj.1
 simp only [Builtin.zeroCells, Value.cells]
 apply List.ext_getElem
 ·simp
 ·intro i h1 h2
  simp [Nat.mod_one]
theorem grow_any (n : Nat) (w : World) (hn1 : 1 ≤ n) (hn : n ≤ 1000000) :
  Calls Tryz.prog 180 #[.slice none 0 0, .int .i64 n] w (PRow w n 0) := by
 have happ := fun w => Lib.run_append_nil_zeros (P := Tryz.prog) w 119 3 119 136 wordInfo (.int .u64 0) .i64 .i64 Tryz.underlying119 Tryz.underlying3 info_word word_zero n (by omega) (by rw [word_size]; omega) (by omega) (by rw [word_bytes]; omega)
 have hge : ∀ w, n ≤ grownCap w n 0 136 := fun w => grownCap_ge w _ 0 _
 have hle : ∀ w, grownCap w n 0 136 ≤ maxLen := fun w => grownCap_le_maxLen w _ 0 _ (by unfold maxLen; omega)
 have hz : ∀ w, Builtin.zeroCells (Value.int .u64 0).cells n ++ Builtin.zeroCells (Value.int .u64 0).cells (grownCap w n 0 136 - n) = (List.replicate (grownCap w n 0 136) (Value.int .u64 0)).toArray := by
  intro w
  rw [zeroCells_words, zeroCells_words]
  apply Array.toList_inj.1
  rw [Array.toList_append]
  show List.replicate _ _ ++ List.replicate _ _ = List.replicate _ _
  rw [List.replicate_append_replicate, show n + (grownCap w n 0 136 - n) = grownCap w n 0 136 by have := hge w; omega]
 simp only [hz] at happ
 have hfin : ∀ w, PRow w n 0 (.returned (.slice (some ⟨w.heap.size, 0, none⟩) 0 (grownCap w n 0 136))) (w.drew.alloc (.cells (List.replicate (grownCap w n 0 136) (Value.int .u64 0)).toArray 136)) := by
  intro w
  have h1 := hge w
  have h2 := hle w
  unfold maxLen at h2
  exact ⟨w.heap.size, List.replicate (grownCap w n 0 136) 0, by simp, row_new w.drew _, by simpa using h1, by simp; omega, by simp; omega, Nat.le_refl _, ((Chg.refl _ _).drew).alloc _⟩
 have hfin := hfin w
 have HFIN := hid hfin
 have happ := happ w
 clear hfin hz hge hle
 have hpos : (0 : Int) < (n : Int) := by omega
 generalize grownCap w n 0 136 = cap at *
 have HA := hid happ
 clear happ
 go_enter Tryz.func180, Tryz.ntmps180
 go_wp2_with (at_builtin; refine Lib.wpList_append_run _ rfl _ _ _ _ rfl _ _ rfl rfl _ _ HA.out ?_)
 go_ret
 exact HFIN.out
theorem stkNat_any (s n : Nat) (w : World) (h : StkAt w s) (hn1 : 1 ≤ n) (hn : n ≤ 4) :
  Calls Tryz.prog 161 #[.pointer (some ⟨s, 0, none⟩), .int .i64 n] w (PRow w n n) := by
 have hc := h.1
 have hg := fun w => grow_any n w hn1 (by omega)
 have HG := hid hg
 have hle : (n : Int) ≤ 4 := by omega
 have hpos : (0 : Int) < (n : Int) := by omega
 have hposn : 0 < n := hn1
 clear hg h
 go_enter Tryz.func161, Tryz.ntmps161
 go_wp2_with (go_at_call 180; refine (HG.out _).mono ?_; rintro e w1 ⟨b, xs, rfl, hr, h1, h2, h3, h4, h5⟩; have hcell := hr.cell (i := 0) (by omega); have hfree := hr.free 0; have hln : ((n : Int) ≤ (xs.length : Int)) := by omega)
 go_ret
 have hs := hr.set 0 (v := 11259375) ⟨by omega, by omega⟩
 exact ⟨b, xs.set 0 11259375, by simp, hs, by simp; omega, by simp; omega, by simp; omega, h4, h5.setCell (fun hb => absurd hb (by have := h4; simp; omega)) _⟩
theorem Int_Cmp (q r : Nat) (bq br : Option Nat) (x y : Int) (w : World) (hq : IntAt w q bq x) (hr : IntAt w r br y) (hne : q ≠ r) :
  Calls Tryz.prog 95 #[.pointer (some ⟨q, 0, none⟩), .pointer (some ⟨r, 0, none⟩)] w (fun e w' => e = .returned (.int .i64 (cmpI x y)) ∧ Q w w') := by
 have hpe := pint_eql_other hq hr hne
 obtain ⟨vx, xs, cx0, cx1, cxf, hnx, nx, rfl⟩ := hq.fld
 obtain ⟨vy, ys, cy0, cy1, cyf, hny, ny, rfl⟩ := hr.fld
 have hcmp := fun (w1 : World) (h2 : NatAt w1 vx bq xs) (h3 : NatAt w1 vy br ys) => cmp_any vx vy bq br xs ys w1 h2 h3 nx ny
 generalize cmpI (val xs) (val ys) = k at *
 have HM := hid hcmp; have HX := hid hnx; have HY := hid hny
 clear cxf hnx cyf hny hcmp
 go_enter Tryz.func95, Tryz.ntmps95
 go_upto_region 3 with fail
 go_region
 go_upto_region 4 with fail
 go_quiet ((go_at_call 110; exact quiet_qk (HM.out _ (by exact HX.out.heap rfl) (by exact HY.out.heap rfl))))
 go_wp2_with fail
 go_ret
 exact ⟨rfl, by first | exact ⟨_, rfl⟩ | exact (⟨_, by simp [World.drewN_drewN]; rfl⟩)⟩
theorem Int_Uint64 (q : Nat) (bq : Option Nat) (x : Int) (w : World) (hq : IntAt w q bq x) (hx : Wd x) :
  Calls Tryz.prog 119 #[.pointer (some ⟨q, 0, none⟩)] w (fun e w' => e = .returned (.int .u64 x) ∧ w = w') := by
 obtain ⟨vx, xs, cx0, cx1, cxf, hnx, nx, rfl⟩ := hq.fld
 have hl : ∀ w, NatAt w vx bq xs → Calls Tryz.prog 137 #[vx] w (fun e w' => e = .returned (.int .u64 (val xs)) ∧ w = w') := by
  intro w hn
  cases xs with
  | nil =>
   obtain ⟨a, c, rfl⟩ := hn.len
   simp only [List.length_nil, val]
   clear hnx hx hn
   go_enter Tryz.func137, Tryz.ntmps137
   go_wp2_with fail
   go_ret
   exact ⟨rfl, rfl⟩
  | cons y t =>
   obtain ⟨b, rfl⟩ := hn.ne_nil (by simp)
   obtain ⟨sp, rfl, hr, h1, h2⟩ := hn
   have ht : val t = 0 := by
    have h0 := val_nonneg hr.2.left.tail
    have := hx.2; have := hr.2.left.head.1
    rw [val_cons] at *
    omega
   have hv : val (y :: t) = y := by rw [val_cons, ht]; omega
   have hcell := hr.cell (i := 0) (by simp)
   simp only [List.cons_append, List.getD_cons_zero] at hcell
   rw [hv]
   have hb : ((t.length + 1 : Nat) : Int) = (t.length : Int) + 1 := by omega
   have hne : (((t.length : Int) + 1) == 0) = false := beq_eq_false_iff_ne.2 (by omega)
   have hlt : (0 : Int) < (t.length : Int) + 1 := by omega
   obtain ⟨hw0, hw1⟩ := hr.2.left.head
   clear hnx hx hr hv ht nx hq
   simp only [List.length_cons]
   generalize t.length = k at *
   go_enter Tryz.func137, Tryz.ntmps137
   go_wp2_with fail
   go_ret
   exact ⟨rfl, rfl⟩
 have HL := hid hl; have HX := hid hnx
 clear hl hnx cxf
 go_enter Tryz.func119, Tryz.ntmps119
 go_wp2_with (go_at_call 137; refine (HL.out _ HX.out).mono ?_; rintro e w1 ⟨rfl, rfl⟩)
 go_ret
 exact ⟨rfl, rfl⟩
theorem Int_Sign (q : Nat) (bq : Option Nat) (x : Int) (w : World) (hq : IntAt w q bq x) :
  Calls Tryz.prog 133 #[.pointer (some ⟨q, 0, none⟩)] w (fun e w' => e = .returned (.int .i64 (if x = 0 then 0 else 1)) ∧ w = w') := by
 obtain ⟨vx, xs, cx0, cx1, cxf, hnx, nx, rfl⟩ := hq.fld
 obtain ⟨a, c, rfl⟩ := hnx.len
 have hz : xs.length = 0 ↔ val xs = 0 := ⟨fun h => by rw [List.length_eq_zero_iff.1 h]; rfl, fun h => by rw [val_zero_nrm hnx.wds nx h]; rfl⟩
 clear hnx
 generalize val xs = X at *
 generalize xs.length = n at *
 by_cases h0 : n = 0
 ·subst h0
  rw [if_pos (hz.1 rfl)]
  have hb : (((0 : Nat) : Int) == 0) = true := rfl
  clear hz
  go_enter Tryz.func133, Tryz.ntmps133
  go_wp2_with fail
  go_ret
  exact ⟨rfl, rfl⟩
 ·rw [if_neg (fun h => h0 (hz.2 h))]
  have hb : ((n : Int) == 0) = false := beq_eq_false_iff_ne.2 (by omega)
  clear hz
  go_enter Tryz.func133, Tryz.ntmps133
  go_wp2_with fail
  go_ret
  exact ⟨rfl, rfl⟩
set_option maxHeartbeats 2000000 in
theorem Int_Lsh (p q s : Nat) (bo bq : Option Nat) (x0 x : Int) (w : World) (hp : IntAt w p bo x0) (hq : IntAt w q bq x) (hx : x < BP 30) (hs1 : 1 ≤ s) (hs2 : s ≤ 63) :
  Calls Tryz.prog 135 #[.pointer (some ⟨p, 0, none⟩), .pointer (some ⟨q, 0, none⟩), .int .u64 s] w (PInt w p bo (x * 2 ^ s) (.pointer (some ⟨p, 0, none⟩))) := by
 obtain ⟨v, ds, c0, c1, cf, hn, nn, hv⟩ := hp.fld
 obtain ⟨vx, xs, cx0, cx1, cxf, hnx, nx, rfl⟩ := hq.fld
 have HC := hid (fun (w1 : World) (h1 : NatAt w1 v bo ds) (h2 : NatAt w1 vx bq xs) => lsh_any v vx bo bq ds xs s w1 h1 h2 hs1 hs2 (by have := len_bd h2.wds nx rfl hx; omega))
 have HN := hid hn; have HX := hid hnx
 have HF := hid (fun a n c w1 (h : PNat w bo (val xs * 2 ^ s) (.returned (.slice a n c)) w1) => int_fin (ret := .pointer (some ⟨p, 0, none⟩)) hp h)
 have HAp := hid (fun w1 (h : Chg (fun k => bo = some k) w w1) => int_after hp hp h)
 have HAx := hid (fun w1 (h : Chg (fun k => bo = some k) w w1) => int_after hp hq h)
 clear cf hn nn hv cxf hnx
 go_enter Tryz.func135, Tryz.ntmps135
 go_upto_region 1 with fail
 go_cut [17] from 7 to 19 (fun x wx => ∃ (a : Option Addr) (n c : Nat) (w1 : World), x = .slice a n c ∧ wx = w1.setCell ⟨p, 1, none⟩ (.slice a n c) ∧ Hid (PNat w bo (val xs * 2 ^ s) (.returned (.slice a n c)) w1))
 case first =>
  go_region_with (go_at_call 147; refine (HC.out _ (by exact HN.out.heap rfl) (by exact HX.out.heap rfl)).mono ?_; rintro e w1 h; replace h : PNat w bo _ _ _ := h.alike ⟨rfl, rfl, rfl, rfl⟩; obtain ⟨a, n, c, rfl, h', hn0⟩ := h.sl; have HH := hid h'; have ha := HAp.out w1 h'.chg; obtain ⟨v1, d1⟩ := ha.words; have df1 := ha.free 1; clear ha h' h hn0)
  all_goals (go_wp2_with fail; go_meet; exact ⟨_, _, _, _, rfl, rfl, HH⟩)
 case rest =>
  obtain ⟨a, n, c, w1, rfl, rfl, HH⟩ := hcut
  have hc1 := HH.out.chg
  have ha := HAp.out w1 hc1
  have hax := HAx.out w1 hc1
  have d2 := ha.neg' (.slice a n c)
  have df2 := ha.free' (.slice a n c) 0
  have ex := hax.neg' (.slice a n c)
  have HR := hid (HF.out _ _ _ w1 HH.out)
  clear ha hax hc1
  go_wp2_with fail
  go_ret
  exact HR.out
theorem and1 (x : Int) (hx : Wd x) : bits .and .u64 x 1 = x % 2 :=
 bits_mask .u64 64 (by decide) (fun n h0 h1 => IntWalk.u64_in n ⟨h0, by omega⟩) 1 (by decide) x hx.1 hx.2
theorem Int_Bit0 (q : Nat) (bq : Option Nat) (x : Int) (w : World) (hq : IntAt w q bq x) :
  Calls Tryz.prog 136 #[.pointer (some ⟨q, 0, none⟩), .int .i64 0] w (fun e w' => e = .returned (.int .u64 (x % 2)) ∧ w = w') := by
 obtain ⟨vx, xs, cx0, cx1, cxf, hnx, nx, rfl⟩ := hq.fld
 have hb0 : ((0 : Int) == 0) = true := rfl
 cases xs with
 | nil =>
  obtain ⟨a, c, rfl⟩ := hnx.len
  simp only [List.length_nil, val] at *
  clear hnx
  have hd : decide ((0 : Int) < ((0 : Nat) : Int)) = false := rfl
  go_enter Tryz.func136, Tryz.ntmps136
  go_wp2_with fail
  go_ret
  exact ⟨rfl, rfl⟩
 | cons y t =>
  obtain ⟨b, rfl⟩ := hnx.ne_nil (by simp)
  obtain ⟨sp, rfl, hr, h1, h2⟩ := hnx
  have hv : val (y :: t) % 2 = y % 2 := by rw [val_cons]; omega
  have hcell := hr.cell (i := 0) (by simp)
  simp only [List.cons_append, List.getD_cons_zero] at hcell
  rw [hv]
  have hlt : (0 : Int) < ((t.length + 1 : Nat) : Int) := by omega
  have hand := and1 y hr.2.left.head
  obtain ⟨hw0, hw1⟩ := hr.2.left.head
  clear hr hv nx hq
  simp only [List.length_cons] at *
  generalize t.length = k at *
  go_enter Tryz.func136, Tryz.ntmps136
  go_wp2_with fail
  go_ret
  exact ⟨by rw [← hand]; rfl, rfl⟩
theorem pint_neq_other {w : World} {p q : Nat} {bo bq : Option Nat} {x y : Int} (hp : IntAt w p bo x) (hq : IntAt w q bq y) (hne : p ≠ q) :
  (binOp .neq 117 (.pointer (some ⟨p, 0, none⟩)) (.pointer (some ⟨q, 0, none⟩))).run Tryz.prog w = .ok (.bool true) w := by
 obtain ⟨c1, T1, h1⟩ := hp.obj
 obtain ⟨c2, T2, h2⟩ := hq.obj
 have h : ∀ d : Nat, (Op.equalIn (d + 1) 117 (.pointer (some ⟨p, 0, none⟩)) (.pointer (some ⟨q, 0, none⟩))).run Tryz.prog w = .ok false w := fun d => by
  simp [Op.equalIn, run_underlying Tryz.underlying117, sizeOf, typeInfo, info_int, int_size, run_sameAddr_other w (a := ⟨p, 0, none⟩) (b := ⟨q, 0, none⟩) (fun e => hne (Addr.mk.inj e).1) h1 h2]
 simp only [binOp]
 simp [Op.equal, Op.maxDepth, h 9999]
set_option maxHeartbeats 2000000 in
theorem Int_Set (p q : Nat) (bo bq : Option Nat) (x0 x : Int) (w : World) (hp : IntAt w p bo x0) (hq : IntAt w q bq x) (hne : p ≠ q) (hx : x < BP 30) :
  Calls Tryz.prog 125 #[.pointer (some ⟨p, 0, none⟩), .pointer (some ⟨q, 0, none⟩)] w (PInt w p bo x (.pointer (some ⟨p, 0, none⟩))) := by
 have hpe := pint_neq_other hp hq hne
 obtain ⟨v, ds, c0, c1, cf, hn, nn, hv⟩ := hp.fld
 obtain ⟨vx, xs, cx0, cx1, cxf, hnx, nx, rfl⟩ := hq.fld
 have HC := hid (fun (w1 : World) (h1 : NatAt w1 v bo ds) (h2 : NatAt w1 vx bq xs) => set_any v vx bo bq ds xs w1 h1 h2 nx (by have := len_bd h2.wds nx rfl hx; omega))
 have HN := hid hn; have HX := hid hnx
 have HF := hid (fun a n c w1 (h : PNat w bo (val xs) (.returned (.slice a n c)) w1) => int_fin (ret := .pointer (some ⟨p, 0, none⟩)) hp h)
 have HAp := hid (fun w1 (h : Chg (fun k => bo = some k) w w1) => int_after hp hp h)
 have HAx := hid (fun w1 (h : Chg (fun k => bo = some k) w w1) => int_after hp hq h)
 clear cf hn nn hv cxf hnx
 go_enter Tryz.func125, Tryz.ntmps125
 go_upto_region 2 with fail
 go_cut [17] from 8 to 19 (fun x wx => ∃ (a : Option Addr) (n c : Nat) (w1 : World), x = .slice a n c ∧ wx = w1.setCell ⟨p, 1, none⟩ (.slice a n c) ∧ Hid (PNat w bo (val xs) (.returned (.slice a n c)) w1))
 case first =>
  go_region_with (go_at_call 126; refine (HC.out _ (by exact HN.out.heap rfl) (by exact HX.out.heap rfl)).mono ?_; rintro e w1 h; replace h : PNat w bo _ _ _ := h.alike ⟨rfl, rfl, rfl, rfl⟩; obtain ⟨a, n, c, rfl, h', hn0⟩ := h.sl; have HH := hid h'; have ha := HAp.out w1 h'.chg; obtain ⟨v1, d1⟩ := ha.words; have df1 := ha.free 1; clear ha h' h hn0)
  all_goals (go_wp2_with fail; go_meet; exact ⟨_, _, _, _, rfl, rfl, HH⟩)
 case rest =>
  obtain ⟨a, n, c, w1, rfl, rfl, HH⟩ := hcut
  have hc1 := HH.out.chg
  have ha := HAp.out w1 hc1
  have hax := HAx.out w1 hc1
  have d2 := ha.neg' (.slice a n c)
  have df2 := ha.free' (.slice a n c) 0
  have ex := hax.neg' (.slice a n c)
  have HR := hid (HF.out _ _ _ w1 HH.out)
  clear ha hax hc1
  go_wp2_with fail
  go_ret
  exact HR.out
end Go.Proofs.YthdkandofddohaaGreatDoor
