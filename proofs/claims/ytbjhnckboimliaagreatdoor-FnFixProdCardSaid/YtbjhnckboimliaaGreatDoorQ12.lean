/- Part 12 of the proof. -/
import Derived.Shelf.Small.Bits
import Derived.Shelf.Strconv.Itoa0
import Derived.Shelf.Bits.Mul64
import Derived.Test.YtbjhnckboimliaaGreatDoorQ11
namespace Go.Proofs
open Go.Shelf
def Tryz.lays134_ren : Go.Shelf.Ren := ⟨fun | 134 => 275 | 129 => 261 | n => n, fun | 53 => 22 | 3 => 3 | 4 => 4 | 46 => 138 | 5 => 5 | 9 => 9 | n => n, fun | n => n⟩
theorem Tryz.lays134 : Go.Proofs.Lays.n134 Tryz.prog Tryz.lays134_ren := {
 mixed := by kernel_rfl
 f129 := Tryz.func261.trans (congrArg some (by kernel_rfl))
 f134 := Tryz.func275.trans (congrArg some (by kernel_rfl))
 t3 := Tryz.underlying3
 a3 := Tryz.isAgg3
 z3 := Tryz.sizeOf3
 v3 := Tryz.zeroValue3
 t4 := Tryz.underlying4
 a4 := Tryz.isAgg4
 z4 := Tryz.sizeOf4
 v4 := Tryz.zeroValue4
 t5 := Tryz.underlying5
 a5 := Tryz.isAgg5
 z5 := Tryz.sizeOf5
 v5 := Tryz.zeroValue5
 t9 := Tryz.underlying9
 a9 := Tryz.isAgg9
 z9 := Tryz.sizeOf9
 v9 := Tryz.zeroValue9
 t46 := Tryz.underlying138
 a46 := Tryz.isAgg138
 z46 := Tryz.sizeOf138
 v46 := Tryz.zeroValue138
 t53 := Tryz.underlying22
 a53 := Tryz.isAgg22
 z53 := Tryz.sizeOf22
 v53 := Tryz.zeroValue22 }
theorem Tryz.bits_LeadingZeros64 (x : Int) (w : World) (h0 : 0 ≤ x) (h1 : x ≤ 18446744073709551615) :
  Calls Tryz.prog 275 #[.int .u64 x] w fun e w' => e = .returned (.int .i64 (64 - (Lib.bitLen x.toNat : Int))) ∧ w' = w := Any.bits_LeadingZeros64 Tryz.lays134 x w h0 h1
def Tryz.lays130_ren : Go.Shelf.Ren := ⟨fun | 130 => 248 | 125 => 239 | 128 => 260 | 129 => 261 | n => n, fun | 46 => 138 | 3 => 3 | 51 => 79 | 53 => 22 | 4 => 4 | 5 => 5 | 9 => 9 | n => n, fun | n => n⟩
theorem Tryz.lays130 : Go.Proofs.Lays.n130 Tryz.prog Tryz.lays130_ren := {
 mixed := by kernel_rfl
 f125 := Tryz.func239.trans (congrArg some (by kernel_rfl))
 f128 := Tryz.func260.trans (congrArg some (by kernel_rfl))
 f129 := Tryz.func261.trans (congrArg some (by kernel_rfl))
 f130 := Tryz.func248.trans (congrArg some (by kernel_rfl))
 t3 := Tryz.underlying3
 a3 := Tryz.isAgg3
 z3 := Tryz.sizeOf3
 v3 := Tryz.zeroValue3
 t4 := Tryz.underlying4
 a4 := Tryz.isAgg4
 z4 := Tryz.sizeOf4
 v4 := Tryz.zeroValue4
 t5 := Tryz.underlying5
 a5 := Tryz.isAgg5
 z5 := Tryz.sizeOf5
 v5 := Tryz.zeroValue5
 t9 := Tryz.underlying9
 a9 := Tryz.isAgg9
 z9 := Tryz.sizeOf9
 v9 := Tryz.zeroValue9
 t46 := Tryz.underlying138
 a46 := Tryz.isAgg138
 z46 := Tryz.sizeOf138
 v46 := Tryz.zeroValue138
 t51 := Tryz.underlying79
 a51 := Tryz.isAgg79
 z51 := Tryz.sizeOf79
 v51 := Tryz.zeroValue79
 t53 := Tryz.underlying22
 a53 := Tryz.isAgg22
 z53 := Tryz.sizeOf22
 v53 := Tryz.zeroValue22 }
theorem Tryz.bits_LeadingZeros (x : Int) (w : World) (h0 : 0 ≤ x) (h1 : x ≤ 18446744073709551615) :
  Calls Tryz.prog 248 #[.int .u64 x] w fun e w' => e = .returned (.int .i64 (64 - (Lib.bitLen x.toNat : Int))) ∧ w' = w := Any.bits_LeadingZeros Tryz.lays130 x w h0 h1
end Go.Proofs
namespace Go.Proofs.YtbjhnckboimliaaGreatDoor
open Go.RowKit
set_option linter.unusedVariables false
set_option linter.unusedSimpArgs false
set_option maxRecDepth 20000
theorem bitLen_bds : ∀ (f x : Nat), x < 2 ^ f → x ≠ 0 → 1 ≤ Lib.bitLenAux f x ∧ 2 ^ (Lib.bitLenAux f x - 1) ≤ x ∧ x < 2 ^ Lib.bitLenAux f x
 | 0, x, h, h0 => by simp at h; omega
 | f + 1, x, h, h0 => by
  simp only [Lib.bitLenAux, if_neg h0]
  by_cases k : x / 2 = 0
  ·have : Lib.bitLenAux f (x / 2) = 0 := by rw [k]; cases f <;> simp [Lib.bitLenAux]
   rw [this]
   simp
   omega
  ·obtain ⟨a, b, c⟩ := bitLen_bds f (x / 2) (by rw [Nat.pow_succ] at h; omega) k
   generalize Lib.bitLenAux f (x / 2) = L at *
   obtain ⟨m, rfl⟩ : ∃ m, L = m + 1 := ⟨L - 1, by omega⟩
   refine ⟨by omega, ?_, ?_⟩
   ·rw [show 1 + (m + 1) - 1 = m + 1 by omega, Nat.pow_succ]
    simp at b; omega
   ·rw [show 1 + (m + 1) = (m + 1) + 1 by omega, Nat.pow_succ]; omega
def nlzN (y : Int) : Nat := 64 - Lib.bitLen y.toNat
theorem bitLen_le64 {y : Int} (hy : Wd y) : Lib.bitLen y.toNat ≤ 64 := Lib.bitLen_le _ 64 (by omega) (by obtain ⟨h0, h1⟩ := hy; have : (2 : Nat) ^ 64 = 18446744073709551616 := rfl; omega)
theorem nlzN_int {y : Int} (hy : Wd y) : (64 - (Lib.bitLen y.toNat : Int)) = (nlzN y : Int) := by
 have := bitLen_le64 hy
 unfold nlzN; omega
theorem nlzN_spec {y : Int} (hy : Wd y) (h1 : 1 ≤ y) : nlzN y ≤ 63 ∧ 9223372036854775808 ≤ y * 2 ^ nlzN y ∧ y * 2 ^ nlzN y < 18446744073709551616 := by
 obtain ⟨hy0, hy1⟩ := hy
 obtain ⟨n, rfl⟩ := Int.eq_ofNat_of_zero_le hy0
 have hn : n < 2 ^ 64 := by have : (2 : Nat) ^ 64 = 18446744073709551616 := rfl; omega
 obtain ⟨k1, k2, k3⟩ := bitLen_bds 64 n hn (by omega)
 have hb := Lib.bitLen_le n 64 (by omega) hn
 have e : Lib.bitLen n = Lib.bitLenAux 64 n := rfl
 unfold nlzN
 rw [Int.toNat_natCast]
 rw [← e] at k1 k2 k3
 generalize Lib.bitLen n = L at *
 have e1 : (2 : Nat) ^ L * 2 ^ (64 - L) = 18446744073709551616 := by rw [← Nat.pow_add, show L + (64 - L) = 64 by omega]
 have e2 : (2 : Nat) ^ (L - 1) * 2 ^ (64 - L) = 9223372036854775808 := by rw [← Nat.pow_add, show L - 1 + (64 - L) = 63 by omega]
 have hp : 0 < (2 : Nat) ^ (64 - L) := Nat.pow_pos (by omega)
 have k4 := Nat.mul_le_mul_right (2 ^ (64 - L)) k2
 have k5 := Nat.mul_lt_mul_of_pos_right k3 hp
 rw [e2] at k4; rw [e1] at k5
 have e3 : ((n : Int) * 2 ^ (64 - L)) = ((n * 2 ^ (64 - L) : Nat) : Int) := by simp
 rw [e3]
 generalize n * 2 ^ (64 - L) = p at *
 exact ⟨by omega, by omega, by omega⟩
theorem nlz_any (y : Int) (hy : Wd y) (w : World) :
  Calls Tryz.prog 220 #[.int .u64 y] w fun e w' => e = .returned (.int .u64 (nlzN y)) ∧ w = w' := by
 have hb := bitLen_le64 hy
 have hn := nlzN_int hy
 have hcall := fun w => Tryz.bits_LeadingZeros y w hy.1 (by have := hy.2; omega)
 rw [hn] at hcall
 have hle : nlzN y ≤ 64 := by unfold nlzN; omega
 clear hn hb
 generalize nlzN y = s at *
 obtain ⟨hy0, hy1⟩ := hy
 go_enter Tryz.func220, Tryz.ntmps220
 go_wp2_with (go_at_call 248; refine (hcall _).mono ?_; rintro e w' ⟨rfl, rfl⟩)
 go_ret
 exact ⟨rfl, rfl⟩
structure Half (y1 y0 u d : Int) : Prop where
 h1 : 2147483648 ≤ y1
 h2 : y1 < 4294967296
 h3 : 0 ≤ y0
 h4 : y0 < 4294967296
 h5 : 0 ≤ u
 h6 : u < y1 * 4294967296 + y0
 h7 : 0 ≤ d
 h8 : d < 4294967296
def halfQ (y1 y0 u d : Int) : Int := (u * 4294967296 + d) / (y1 * 4294967296 + y0)
theorem Half.pos {y1 y0 u d : Int} (h : Half y1 y0 u d) : 0 < y1 * 4294967296 + y0 := by have := h.h1; have := h.h3; omega
theorem Half.q_lt {y1 y0 u d : Int} (h : Half y1 y0 u d) : 0 ≤ halfQ y1 y0 u d ∧ halfQ y1 y0 u d < 4294967296 := by
 obtain ⟨h1, h2, h3, h4, h5, h6, h7, h8⟩ := h
 exact ⟨Int.ediv_nonneg (by omega) (by omega), Int.ediv_lt_of_lt_mul (by omega) (by omega)⟩
theorem Half.start {y1 y0 u d : Int} (h : Half y1 y0 u d) : halfQ y1 y0 u d ≤ u / y1 ∧ 0 ≤ u / y1 ∧ u / y1 ≤ 8589934592 ∧ 0 ≤ u - u / y1 * y1 ∧ u - u / y1 * y1 < 4294967296 ∧ 0 ≤ u / y1 * y1 ∧ u / y1 * y1 ≤ u ∧ u < 18446744073709551616 := by
 have hq := h.q_lt
 obtain ⟨h1, h2, h3, h4, h5, h6, h7, h8⟩ := h
 have e := Int.mul_ediv_add_emod u y1
 have m0 := Int.emod_nonneg u (show y1 ≠ 0 by omega)
 have m1 := Int.emod_lt_of_pos u (show 0 < y1 by omega)
 have q0 : 0 ≤ u / y1 := Int.ediv_nonneg h5 (by omega)
 rw [Int.mul_comm] at e
 have q1 : u / y1 ≤ 8589934592 := by
  have : u / y1 < 8589934593 := Int.ediv_lt_of_lt_mul (by omega) (by omega)
  omega
 refine ⟨?_, q0, q1, by omega, by omega, Int.mul_nonneg q0 (by omega), by omega, by omega⟩
 unfold halfQ
 have hlt : (u * 4294967296 + d) / (y1 * 4294967296 + y0) < u / y1 + 1 := by
  apply Int.ediv_lt_of_lt_mul (by omega)
  generalize u / y1 = q at *
  generalize u % y1 = r at *
  have e2 : (q + 1) * (y1 * 4294967296 + y0) = q * y1 * 4294967296 + q * y0 + y1 * 4294967296 + y0 := by
   rw [Int.add_mul, Int.mul_add, ← Int.mul_assoc]; omega
  have := Int.mul_nonneg q0 h3
  omega
 omega
theorem Half.test {y1 y0 u d q r : Int} (h : Half y1 y0 u d) (e : u = q * y1 + r) : (q * y0 ≤ 4294967296 * r + d) ↔ q ≤ halfQ y1 y0 u d := by
 have hp := h.pos
 unfold halfQ
 rw [Int.le_ediv_iff_mul_le hp]
 have e2 : q * (y1 * 4294967296 + y0) = q * y1 * 4294967296 + q * y0 := by rw [Int.mul_add, ← Int.mul_assoc]
 omega
theorem Half.brk {y1 y0 u d q r : Int} (h : Half y1 y0 u d) (e : u = q * y1 + r) (hq : 0 ≤ q) (hr : 4294967296 ≤ r) : q ≤ halfQ y1 y0 u d := by
 have hqb : q < 4294967296 := by
  obtain ⟨h1, h2, h3, h4, h5, h6, h7, h8⟩ := h
  by_cases k : q < 4294967296
  ·exact k
  ·exfalso
   have := Int.mul_le_mul_of_nonneg_right (show (4294967296 : Int) ≤ q by omega) (show 0 ≤ y1 by omega)
   omega
 rw [← h.test e]
 have h7 := h.h7
 have h3 := h.h3
 have h4 := h.h4
 have := Int.mul_le_mul (show q ≤ 4294967295 by omega) (show y0 ≤ 4294967295 by omega) h3 (by omega)
 omega
theorem Half.rest {y1 y0 u d : Int} (h : Half y1 y0 u d) : u * 4294967296 + d - halfQ y1 y0 u d * (y1 * 4294967296 + y0) = (u * 4294967296 + d) % (y1 * 4294967296 + y0) ∧
  0 ≤ (u * 4294967296 + d) % (y1 * 4294967296 + y0) ∧ (u * 4294967296 + d) % (y1 * 4294967296 + y0) < y1 * 4294967296 + y0 := by
 have hp := h.pos
 have e := Int.mul_ediv_add_emod (u * 4294967296 + d) (y1 * 4294967296 + y0)
 rw [Int.mul_comm] at e
 refine ⟨by unfold halfQ; omega, Int.emod_nonneg _ (by omega), Int.emod_lt_of_pos _ hp⟩
structure DivNum (hi lo y : Int) (s : Nat) (Y u L y1 y0 d1 d0 Q1 R1 Q0 R0 : Int) : Prop where
 eY : y * 2 ^ s = Y
 eu : bits BinOp.or IntKind.u64 (IntKind.u64.wrap (hi * 2 ^ s)) (lo / 2 ^ (64 - s)) = u
 eL : IntKind.u64.wrap (lo * 2 ^ s) = L
 ey1 : Y / 4294967296 = y1
 ey0 : bits BinOp.and IntKind.u64 Y 4294967295 = y0
 ed1 : L / 4294967296 = d1
 ed0 : bits BinOp.and IntKind.u64 L 4294967295 = d0
 hY : Y = y1 * 4294967296 + y0
 hH1 : Half y1 y0 u d1
 hH0 : Half y1 y0 R1 d0
 eQ1 : halfQ y1 y0 u d1 = Q1
 eQ0 : halfQ y1 y0 R1 d0 = Q0
 eR1 : u * 4294967296 + d1 = Q1 * Y + R1
 eR0 : R1 * 4294967296 + d0 = Q0 * Y + R0
 eq : (hi * 18446744073709551616 + lo) / y = Q1 * 4294967296 + Q0
 er : (hi * 18446744073709551616 + lo) % y = R0 / 2 ^ s
 hR0 : 0 ≤ R0
 hR0' : R0 < Y
 hYb : Y < 18446744073709551616
theorem divNum {hi lo y : Int} {s : Nat} (hh : 0 ≤ hi) (hhy : hi < y) (hl : Wd lo) (hs : s ≤ 63) (hs1 : 9223372036854775808 ≤ y * 2 ^ s) (hs2 : y * 2 ^ s < 18446744073709551616) :
  ∃ Y u L y1 y0 d1 d0 Q1 R1 Q0 R0 : Int, DivNum hi lo y s Y u L y1 y0 d1 d0 Q1 R1 Q0 R0 := by
 have hp := pow_pos' s
 have hlow := shr_lt (s := s) (by omega) hl
 have hY1 : (hi + 1) * 2 ^ s ≤ y * 2 ^ s := Int.mul_le_mul_of_nonneg_right (by omega) (by omega)
 rw [Int.add_mul, Int.one_mul] at hY1
 have h0 : 0 ≤ hi * 2 ^ s := Int.mul_nonneg hh (by omega)
 have hw : IntKind.u64.wrap (hi * 2 ^ s) = (hi * 2 ^ s) % 18446744073709551616 := IntKind.wrap_u64 _
 have hu : bits BinOp.or IntKind.u64 (IntKind.u64.wrap (hi * 2 ^ s)) (lo / 2 ^ (64 - s)) = hi * 2 ^ s + lo / 2 ^ (64 - s) := by
  rw [hw, shl_or (by omega) hh hl]; omega
 have hN : (hi * 18446744073709551616 + lo) * 2 ^ s = (hi * 2 ^ s + lo / 2 ^ (64 - s)) * 18446744073709551616 + (lo * 2 ^ s) % 18446744073709551616 := by
  have := shl_carry (x := lo) (s := s) (c := 0) (by omega) (by omega) hp
  rw [Int.add_zero] at this
  rw [← this, Int.add_mul, Int.mul_right_comm hi]
  omega
 have hwL : IntKind.u64.wrap (lo * 2 ^ s) = (lo * 2 ^ s) % 18446744073709551616 := IntKind.wrap_u64 _
 have hL := Wd.mod (lo * 2 ^ s)
 have hul : hi * 2 ^ s + lo / 2 ^ (64 - s) < y * 2 ^ s := by omega
 have hu0 : 0 ≤ hi * 2 ^ s + lo / 2 ^ (64 - s) := by omega
 rw [← hwL] at hN hL
 rw [← hu] at hN hul hu0
 generalize hLd : IntKind.u64.wrap (lo * 2 ^ s) = L at *
 generalize hud : bits BinOp.or IntKind.u64 (IntKind.u64.wrap (hi * 2 ^ s)) (lo / 2 ^ (64 - s)) = u at *
 obtain ⟨hL0, hL1⟩ := hL
 have ha := and_low32 (y * 2 ^ s) (by omega) (by omega)
 have hb := and_low32 L (by omega) (by omega)
 have hq : ∀ Q R : Int, (hi * 18446744073709551616 + lo) * 2 ^ s = Q * (y * 2 ^ s) + R → 0 ≤ R → R < y * 2 ^ s → (hi * 18446744073709551616 + lo) / y = Q ∧ (hi * 18446744073709551616 + lo) % y = R / 2 ^ s := by
  intro Q R e r0 r1
  have k1 : (hi * 18446744073709551616 + lo) * 2 ^ s / (y * 2 ^ s) = Q := by
   rw [e, Int.add_comm, Int.add_mul_ediv_right _ _ (by omega), Int.ediv_eq_zero_of_lt r0 r1, Int.zero_add]
  have k2 : (hi * 18446744073709551616 + lo) * 2 ^ s % (y * 2 ^ s) = R := by
   rw [e, Int.add_comm, Int.add_mul_emod_self_right, Int.emod_eq_of_lt r0 r1]
  rw [Int.mul_ediv_mul_of_pos_left _ _ hp] at k1
  refine ⟨k1, ?_⟩
  rw [Int.mul_comm, Int.mul_comm y, Int.mul_emod_mul_of_pos _ _ hp] at k2
  rw [← k2, Int.mul_ediv_cancel_left _ (show (2 : Int) ^ s ≠ 0 by omega)]
 generalize hYd : y * 2 ^ s = Y at *
 generalize hNd : hi * 18446744073709551616 + lo = N at *
 have hH1 : Half (Y / 4294967296) (Y % 4294967296) u (L / 4294967296) := ⟨by omega, by omega, by omega, by omega, hu0, by omega, by omega, by omega⟩
 have hYe : Y = Y / 4294967296 * 4294967296 + Y % 4294967296 := by omega
 obtain ⟨r1, r2, r3⟩ := hH1.rest
 rw [← hYe] at r1 r2 r3
 generalize hR1 : (u * 4294967296 + L / 4294967296) % Y = R1 at *
 have hH0 : Half (Y / 4294967296) (Y % 4294967296) R1 (L % 4294967296) := ⟨by omega, by omega, by omega, by omega, r2, by omega, by omega, by omega⟩
 obtain ⟨r4, r5, r6⟩ := hH0.rest
 rw [← hYe] at r4 r5 r6
 generalize hR0 : (R1 * 4294967296 + L % 4294967296) % Y = R0 at *
 have hfin : N * 2 ^ s = (halfQ (Y / 4294967296) (Y % 4294967296) u (L / 4294967296) * 4294967296 + halfQ (Y / 4294967296) (Y % 4294967296) R1 (L % 4294967296)) * Y + R0 := by
  rw [hN, Int.add_mul, Int.mul_right_comm]
  omega
 obtain ⟨f1, f2⟩ := hq _ _ hfin r5 r6
 exact ⟨Y, u, L, _, _, _, _, _, R1, _, R0, hYd, hud, hLd, rfl, ha, rfl, hb, hYe, hH1, hH0, rfl, rfl, by omega, by omega, by rw [hNd]; exact f1, by rw [hNd]; exact f2, r5, r6, by omega⟩
structure HalfAt (y1 u Q q r : Int) : Prop where
 e : u = q * y1 + r
 r0 : 0 ≤ r
 r1 : r < 4294967296
 le : Q ≤ q
 top : q ≤ 8589934592
 pos : 0 ≤ Q
set_option maxHeartbeats 2000000 in
theorem bitsDiv64_pos (hi lo y : Int) (hh : 1 ≤ hi) (hhy : hi < y) (hl : Wd lo) (hy : Wd y) (w : World) :
  Calls Tryz.prog 264 #[.int .u64 hi, .int .u64 lo, .int .u64 y] w fun e w' =>
   e = .returned (.tuple #[.int .u64 ((hi * 18446744073709551616 + lo) / y), .int .u64 ((hi * 18446744073709551616 + lo) % y)]) ∧ w = w' := by
 have hn := nlzN_int hy
 have hcall := fun w => Tryz.bits_LeadingZeros64 y w hy.1 (by have := hy.2; omega)
 rw [hn] at hcall
 obtain ⟨hs, hs1, hs2⟩ := nlzN_spec hy (by omega)
 clear hn
 generalize nlzN y = s at *
 obtain ⟨Y, u, L, y1, y0, d1, d0, Q1, R1, Q0, R0, hD⟩ := divNum (by omega) hhy hl hs hs1 hs2
 obtain ⟨eY, eu, eL, ey1, ey0, ed1, ed0, hY, hH1, hH0, eQ1, eQ0, eR1, eR0, eq, er, hR0, hR0', hYb⟩ := hD
 have hb1 : (y == 0) = false := beq_eq_false_iff_ne.2 (by omega)
 have hb2 : decide (y ≤ hi) = false := decide_eq_false (by omega)
 have hb3 : (hi == 0) = false := beq_eq_false_iff_ne.2 (by omega)
 have hb4 : (y1 == 0) = false := beq_eq_false_iff_ne.2 (by have := hH1.h1; omega)
 rw [eq, er]
 obtain ⟨s1, s2, s3, s4, s5, s6, s7, s8⟩ := hH1.start
 obtain ⟨t1, t2, t3, t4, t5, t6, t7, t8⟩ := hH0.start
 rw [eQ1] at s1; rw [eQ0] at t1
 have q1p := hH1.q_lt; have q0p := hH0.q_lt
 rw [eQ1] at q1p; rw [eQ0] at q0p
 have hd1 : IntKind.u64.wrap (u.tdiv y1) = u / y1 := by rw [Int.tdiv_eq_ediv_of_nonneg hH1.h5, IntKind.wrap_u64]; omega
 have hd0 : IntKind.u64.wrap (R1.tdiv y1) = R1 / y1 := by rw [Int.tdiv_eq_ediv_of_nonneg hH0.h5, IntKind.wrap_u64]; omega
 have hm1 : IntKind.u64.wrap (u / y1 * y1) = u / y1 * y1 := by rw [IntKind.wrap_u64]; omega
 have hm0 : IntKind.u64.wrap (R1 / y1 * y1) = R1 / y1 * y1 := by rw [IntKind.wrap_u64]; omega
 have hr1 : IntKind.u64.wrap (u - u / y1 * y1) = u - u / y1 * y1 := by rw [IntKind.wrap_u64]; omega
 have hr0 : IntKind.u64.wrap (R1 - R1 / y1 * y1) = R1 - R1 / y1 * y1 := by rw [IntKind.wrap_u64]; omega
 have hR1b := hH0.h6
 have hR1a := hH0.h5
 rw [← hY] at hR1b
 have hx1 : IntKind.u64.wrap (IntKind.u64.wrap (IntKind.u64.wrap (u * 4294967296) + d1) - IntKind.u64.wrap (Q1 * Y)) = R1 := by
  simp only [IntKind.wrap_u64]; omega
 have hx0 : IntKind.u64.wrap (IntKind.u64.wrap (IntKind.u64.wrap (R1 * 4294967296) + d0) - IntKind.u64.wrap (Q0 * Y)) = R0 := by
  simp only [IntKind.wrap_u64]; omega
 have hq : IntKind.u64.wrap (IntKind.u64.wrap (Q1 * 4294967296) + Q0) = Q1 * 4294967296 + Q0 := by
  simp only [IntKind.wrap_u64]; omega
 have A1 : HalfAt y1 u Q1 (u / y1) (u - u / y1 * y1) := ⟨by omega, s4, s5, s1, s3, q1p.1⟩
 have A0 : HalfAt y1 R1 Q0 (R1 / y1) (R1 - R1 / y1 * y1) := ⟨by omega, t4, t5, t1, t3, q0p.1⟩
 generalize u / y1 = qa at *
 generalize R1 / y1 = qb at *
 generalize hra : u - qa * y1 = ra at *
 generalize hrb : R1 - qb * y1 = rb at *
 have HA1 := hid A1; have HA0 := hid A0; have HH1 := hid hH1; have HH0 := hid hH0; have HQ1 := hid eQ1; have HQ0 := hid eQ0
 have HY := hid hY; have HR1 := hid eR1; have HR0 := hid eR0
 clear A1 A0 eQ1 eQ0 eq er s1 s2 s3 s4 s5 s6 s7 s8 t1 t2 t3 t4 t5 t6 t7 t8 hY eR1 eR0
 obtain ⟨hy0, hy1⟩ := hy
 obtain ⟨hl0, hl1⟩ := hl
 obtain ⟨g1, g2, g3, g4, g5, g6, g7, g8⟩ := hH1
 obtain ⟨k1, k2, k3, k4, k5, k6, k7, k8⟩ := hH0
 clear g6 k6
 have hY0 : 0 ≤ Y := by omega
 go_enter Tryz.func264, Tryz.ntmps264
 go_upto_block 0 with (go_at_call 275; refine (hcall _).mono ?_; rintro e w' ⟨rfl, rfl⟩)
 go_cut [15, 16] (fun a b wx => a = .int .u64 Q1 ∧ (∃ r, b = .int .u64 r) ∧ w' = wx)
 case first =>
  go_wp2_with fail
  go_loopw [15, 16] (fun a b wr => ∃ q r, a = .int .u64 q ∧ b = .int .u64 r ∧ HalfAt y1 u Q1 q r ∧ w' = wr) (fun a _ _ => (intOf a).toNat)
  case atStart => exact ⟨_, _, rfl, rfl, HA1.out, rfl⟩
  case round =>
   obtain ⟨q, r, rfl, rfl, ⟨ie, ir0, ir1, ile, itop, ipos⟩, rfl⟩ := hrel
   have htest := HH1.out.test ie
   have hbrk := fun h1 h2 => HH1.out.brk (q := q - 1) (r := r + y1) (by rw [Int.sub_mul, Int.one_mul]; omega) h1 h2
   rw [HQ1.out] at htest hbrk
   have hstep : u = (q - 1) * y1 + (r + y1) := by rw [Int.sub_mul, Int.one_mul]; omega
   have hw1 : IntKind.u64.wrap (4294967296 * r) = 4294967296 * r := by rw [IntKind.wrap_u64]; omega
   have hw2 : IntKind.u64.wrap (4294967296 * r + d1) = 4294967296 * r + d1 := by rw [IntKind.wrap_u64]; omega
   have hw4 : IntKind.u64.wrap (r + y1) = r + y1 := by rw [IntKind.wrap_u64]; omega
   have hq0 : 0 ≤ q := by omega
   have HST := hid hstep; have HBR := hid hbrk; have HIE := hid ie; have HT := hid htest
   clear hstep hbrk ie htest
   by_cases c1 : 4294967296 ≤ q
   ·have hc1 : decide (4294967296 ≤ q) = true := decide_eq_true c1
    have hw3 : IntKind.u64.wrap (q - 1) = q - 1 := by rw [IntKind.wrap_u64]; omega
    by_cases c3 : 4294967296 ≤ r + y1
    ·have hc3 : decide (4294967296 ≤ r + y1) = true := decide_eq_true c3
     go_wp2_with fail
     go_meet
     exact ⟨by have := HBR.out (by omega) c3; rw [show q - 1 = Q1 by omega], ⟨_, rfl⟩, rfl⟩
    ·have hc3 : decide (4294967296 ≤ r + y1) = false := decide_eq_false c3
     go_wp2_with fail
     go_roundw
     case rel => exact ⟨_, _, rfl, rfl, ⟨HST.out, by omega, by omega, by omega, by omega, ipos⟩, by first | rfl | trivial⟩
     case measure => simp [intOf]; omega
   ·have hc1 : decide (4294967296 ≤ q) = false := decide_eq_false c1
    have hqy0 : 0 ≤ q * y0 := Int.mul_nonneg hq0 (by omega)
    have hqy1 : q * y0 ≤ 4294967295 * 4294967295 := Int.mul_le_mul (by omega) (by omega) (by omega) (by omega)
    have hw5 : IntKind.u64.wrap (q * y0) = q * y0 := by rw [IntKind.wrap_u64]; omega
    by_cases c2 : q * y0 ≤ 4294967296 * r + d1
    ·have hc2 : decide (4294967296 * r + d1 < q * y0) = false := decide_eq_false (by omega)
     have hqe : q = Q1 := by have := HT.out.1 c2; omega
     have HQE := hid hqe
     clear hqe
     go_wp2_with fail
     go_meet
     exact ⟨by rw [HQE.out], ⟨_, rfl⟩, rfl⟩
    ·have hc2 : decide (4294967296 * r + d1 < q * y0) = true := decide_eq_true (by omega)
     have hgt : Q1 < q := by
      by_cases k : q ≤ Q1
      ·exact absurd (HT.out.2 k) c2
      ·omega
     have hw3 : IntKind.u64.wrap (q - 1) = q - 1 := by rw [IntKind.wrap_u64]; omega
     by_cases c3 : 4294967296 ≤ r + y1
     ·have hc3 : decide (4294967296 ≤ r + y1) = true := decide_eq_true c3
      go_wp2_with fail
      go_meet
      exact ⟨by have := HBR.out (by omega) c3; rw [show q - 1 = Q1 by omega], ⟨_, rfl⟩, rfl⟩
     ·have hc3 : decide (4294967296 ≤ r + y1) = false := decide_eq_false c3
      go_wp2_with fail
      go_roundw
      case rel => exact ⟨_, _, rfl, rfl, ⟨HST.out, by omega, by omega, by omega, by omega, ipos⟩, by first | rfl | trivial⟩
      case measure => simp [intOf]; omega
 case rest =>
  obtain ⟨rfl, ⟨r, rfl⟩, rfl⟩ := hcut
  go_upto_block 2 with fail
  go_cut [18, 16] (fun a b wx => a = .int .u64 Q0 ∧ (∃ r, b = .int .u64 r) ∧ w' = wx)
  case first =>
   go_wp2_with fail
   go_loopw [18, 16] (fun a b wr => ∃ q r, a = .int .u64 q ∧ b = .int .u64 r ∧ HalfAt y1 R1 Q0 q r ∧ w' = wr) (fun a _ _ => (intOf a).toNat)
   case atStart => exact ⟨_, _, rfl, rfl, HA0.out, rfl⟩
   case round =>
    obtain ⟨q, r, rfl, rfl, ⟨ie, ir0, ir1, ile, itop, ipos⟩, rfl⟩ := hrel
    have htest := HH0.out.test ie
    have hbrk := fun h1 h2 => HH0.out.brk (q := q - 1) (r := r + y1) (by rw [Int.sub_mul, Int.one_mul]; omega) h1 h2
    rw [HQ0.out] at htest hbrk
    have hstep : R1 = (q - 1) * y1 + (r + y1) := by rw [Int.sub_mul, Int.one_mul]; omega
    have hw1 : IntKind.u64.wrap (4294967296 * r) = 4294967296 * r := by rw [IntKind.wrap_u64]; omega
    have hw2 : IntKind.u64.wrap (4294967296 * r + d0) = 4294967296 * r + d0 := by rw [IntKind.wrap_u64]; omega
    have hw4 : IntKind.u64.wrap (r + y1) = r + y1 := by rw [IntKind.wrap_u64]; omega
    have hq0 : 0 ≤ q := by omega
    have HST := hid hstep; have HBR := hid hbrk; have HIE := hid ie; have HT := hid htest
    clear hstep hbrk ie htest
    by_cases c1 : 4294967296 ≤ q
    ·have hc1 : decide (4294967296 ≤ q) = true := decide_eq_true c1
     have hw3 : IntKind.u64.wrap (q - 1) = q - 1 := by rw [IntKind.wrap_u64]; omega
     by_cases c3 : 4294967296 ≤ r + y1
     ·have hc3 : decide (4294967296 ≤ r + y1) = true := decide_eq_true c3
      go_wp2_with fail
      go_meet
      exact ⟨by have := HBR.out (by omega) c3; rw [show q - 1 = Q0 by omega], ⟨_, rfl⟩, rfl⟩
     ·have hc3 : decide (4294967296 ≤ r + y1) = false := decide_eq_false c3
      go_wp2_with fail
      go_roundw
      case rel => exact ⟨_, _, rfl, rfl, ⟨HST.out, by omega, by omega, by omega, by omega, ipos⟩, by first | rfl | trivial⟩
      case measure => simp [intOf]; omega
    ·have hc1 : decide (4294967296 ≤ q) = false := decide_eq_false c1
     have hqy0 : 0 ≤ q * y0 := Int.mul_nonneg hq0 (by omega)
     have hqy1 : q * y0 ≤ 4294967295 * 4294967295 := Int.mul_le_mul (by omega) (by omega) (by omega) (by omega)
     have hw5 : IntKind.u64.wrap (q * y0) = q * y0 := by rw [IntKind.wrap_u64]; omega
     by_cases c2 : q * y0 ≤ 4294967296 * r + d0
     ·have hc2 : decide (4294967296 * r + d0 < q * y0) = false := decide_eq_false (by omega)
      have hqe : q = Q0 := by have := HT.out.1 c2; omega
      have HQE := hid hqe
      clear hqe
      go_wp2_with fail
      go_meet
      exact ⟨by rw [HQE.out], ⟨_, rfl⟩, rfl⟩
     ·have hc2 : decide (4294967296 * r + d0 < q * y0) = true := decide_eq_true (by omega)
      have hgt : Q0 < q := by
       by_cases k : q ≤ Q0
       ·exact absurd (HT.out.2 k) c2
       ·omega
      have hw3 : IntKind.u64.wrap (q - 1) = q - 1 := by rw [IntKind.wrap_u64]; omega
      by_cases c3 : 4294967296 ≤ r + y1
      ·have hc3 : decide (4294967296 ≤ r + y1) = true := decide_eq_true c3
       go_wp2_with fail
       go_meet
       exact ⟨by have := HBR.out (by omega) c3; rw [show q - 1 = Q0 by omega], ⟨_, rfl⟩, rfl⟩
      ·have hc3 : decide (4294967296 ≤ r + y1) = false := decide_eq_false c3
       go_wp2_with fail
       go_roundw
       case rel => exact ⟨_, _, rfl, rfl, ⟨HST.out, by omega, by omega, by omega, by omega, ipos⟩, by first | rfl | trivial⟩
       case measure => simp [intOf]; omega
  case rest =>
   obtain ⟨rfl, ⟨r', rfl⟩, rfl⟩ := hcut
   go_wp2_with fail
   go_ret2
   exact ⟨rfl, rfl⟩
theorem bitsDiv64_zero (lo y : Int) (hl : Wd lo) (hy : Wd y) (hy1 : 1 ≤ y) (w : World) :
  Calls Tryz.prog 264 #[.int .u64 0, .int .u64 lo, .int .u64 y] w fun e w' =>
   e = .returned (.tuple #[.int .u64 (lo / y), .int .u64 (lo % y)]) ∧ Q w w' := by
 have hb1 : (y == 0) = false := beq_eq_false_iff_ne.2 (by omega)
 have hb2 : decide (y ≤ 0) = false := decide_eq_false (by omega)
 have hb3 : ((0 : Int) == 0) = true := rfl
 have q0 := Int.ediv_nonneg hl.1 (show 0 ≤ y by omega)
 have q1 : lo / y ≤ lo := Int.ediv_le_self _ hl.1
 have q2 := Int.emod_nonneg lo (show y ≠ 0 by omega)
 have q3 := Int.emod_lt_of_pos lo (show 0 < y by omega)
 have hd1 : IntKind.u64.wrap (lo.tdiv y) = lo / y := by rw [Int.tdiv_eq_ediv_of_nonneg hl.1, IntKind.wrap_u64]; have := hl.2; omega
 have hd2 : IntKind.u64.wrap (lo.tmod y) = lo % y := by rw [Int.tmod_eq_emod_of_nonneg hl.1, IntKind.wrap_u64]; have := hy.2; omega
 generalize lo / y = a at *
 obtain ⟨hl0, hl1⟩ := hl
 obtain ⟨hy0, hy2⟩ := hy
 go_enter Tryz.func264, Tryz.ntmps264
 go_wp2_with fail
 go_quiet (fail)
 go_wp2_with fail
 go_ret2
 exact ⟨rfl, (Q.refl _).step _⟩
theorem bitsDiv64_any (hi lo y : Int) (hh : 0 ≤ hi) (hhy : hi < y) (hl : Wd lo) (hy : Wd y) (w : World) :
  Calls Tryz.prog 264 #[.int .u64 hi, .int .u64 lo, .int .u64 y] w fun e w' =>
   e = .returned (.tuple #[.int .u64 ((hi * 18446744073709551616 + lo) / y), .int .u64 ((hi * 18446744073709551616 + lo) % y)]) ∧ Q w w' := by
 by_cases h : hi = 0
 ·subst h
  rw [Int.zero_mul, Int.zero_add]
  exact bitsDiv64_zero lo y hl hy (by omega) w
 ·exact (bitsDiv64_pos hi lo y (by omega) hhy hl hy w).mono fun e w' h => ⟨h.1, by rw [← h.2]; exact Q.refl _⟩
theorem div_wd {hi lo y : Int} (hh : 0 ≤ hi) (hhy : hi < y) (hl : Wd lo) (hy : Wd y) : Wd ((hi * 18446744073709551616 + lo) / y) ∧ Wd ((hi * 18446744073709551616 + lo) % y) := by
 obtain ⟨hl0, hl1⟩ := hl
 obtain ⟨hy0, hy1⟩ := hy
 refine ⟨⟨Int.ediv_nonneg (by omega) (by omega), Int.ediv_lt_of_lt_mul (by omega) ?_⟩, ⟨Int.emod_nonneg _ (by omega), ?_⟩⟩
 ·omega
 ·have := Int.emod_lt_of_pos (hi * 18446744073709551616 + lo) (show 0 < y by omega)
  omega
theorem bitsDiv_any (hi lo y : Int) (hh : 0 ≤ hi) (hhy : hi < y) (hl : Wd lo) (hy : Wd y) (w : World) :
  Calls Tryz.prog 245 #[.int .u64 hi, .int .u64 lo, .int .u64 y] w fun e w' =>
   e = .returned (.tuple #[.int .u64 ((hi * 18446744073709551616 + lo) / y), .int .u64 ((hi * 18446744073709551616 + lo) % y)]) ∧ Q w w' := by
 have hcall := fun w => bitsDiv64_any hi lo y hh hhy hl hy w
 have hd := div_wd hh hhy hl hy
 generalize (hi * 18446744073709551616 + lo) / y = a at *
 generalize (hi * 18446744073709551616 + lo) % y = b at *
 obtain ⟨⟨ha0, ha1⟩, ⟨hb0, hb1⟩⟩ := hd
 have HC := hid hcall
 clear hcall
 obtain ⟨hl0, hl1⟩ := hl
 obtain ⟨hy0, hy1⟩ := hy
 go_enter Tryz.func245, Tryz.ntmps245
 go_wp2_with (go_at_call 264; refine (HC.out _).mono ?_; rintro e w' ⟨rfl, hq⟩)
 go_ret2
 exact ⟨rfl, hq⟩
theorem u64_not (a : Int) (h0 : 0 ≤ a) (h1 : a < 18446744073709551616) : bits .xor .u64 (if IntKind.u64.signed = true then -1 else IntKind.u64.max) a = 18446744073709551615 - a := by
 obtain ⟨n, rfl⟩ := Int.eq_ofNat_of_zero_le h0
 show IntKind.u64.wrap ((BitVec.ofInt 64 18446744073709551615 ^^^ BitVec.ofInt 64 (n : Int)).toNat : Int) = _
 have h2 : BitVec.ofInt 64 18446744073709551615 = BitVec.allOnes 64 := by decide
 rw [h2, BitVec.allOnes_xor, BitVec.toNat_not]
 have h3 : (BitVec.ofInt 64 (n : Int)).toNat = n := by simp; omega
 rw [h3, IntKind.wrap_u64]
 have : (2 : Nat) ^ 64 = 18446744073709551616 := rfl
 omega
def recN (u : Int) : Int := (18446744073709551616 * 18446744073709551616 - 1) / u - 18446744073709551616
theorem recN_eq {u : Int} (h0 : 0 < u) : ((18446744073709551615 - u) * 18446744073709551616 + 18446744073709551615) / u = recN u := by
 unfold recN
 rw [show (18446744073709551615 - u) * 18446744073709551616 + 18446744073709551615 = (18446744073709551616 * 18446744073709551616 - 1) + (-18446744073709551616) * u by omega, Int.add_mul_ediv_right _ _ (by omega)]
 omega
theorem recN_wd {u : Int} (h0 : 9223372036854775808 ≤ u) (h1 : u < 18446744073709551616) : Wd (recN u) := by
 rw [← recN_eq (by omega)]
 exact (div_wd (by omega) (by omega) ⟨by omega, by omega⟩ ⟨by omega, h1⟩).1
theorem reciprocalWord_any (y : Int) (hy : Wd y) (hy1 : 1 ≤ y) (w : World) :
  Calls Tryz.prog 246 #[.int .u64 y] w fun e w' => e = .returned (.int .u64 (recN (y * 2 ^ nlzN y))) ∧ Q w w' := by
 have hn := fun w => nlz_any y hy w
 obtain ⟨hs, hs1, hs2⟩ := nlzN_spec hy hy1
 have hcall := fun w => bitsDiv_any (18446744073709551615 - y * 2 ^ nlzN y) 18446744073709551615 (y * 2 ^ nlzN y) (by omega) (by omega) ⟨by omega, by omega⟩ ⟨by omega, by omega⟩ w
 rw [recN_eq (by omega)] at hcall
 have hr := recN_wd hs1 hs2
 generalize nlzN y = s at *
 generalize recN (y * 2 ^ s) = r at *
 generalize hY : y * 2 ^ s = Y at *
 generalize ((18446744073709551615 - Y) * 18446744073709551616 + 18446744073709551615) % Y = b at *
 have hnot := u64_not Y (by omega) hs2
 have HC := hid hcall
 have HN := hid hn
 clear hcall hn
 obtain ⟨hy0, hy2⟩ := hy
 obtain ⟨hr0, hr1⟩ := hr
 go_enter Tryz.func246, Tryz.ntmps246
 go_wp2_with (first | (go_at_call 220; refine (HN.out _).mono ?_; rintro e w' ⟨rfl, rfl⟩) | (go_at_call 245; refine (HC.out _).mono ?_; rintro e w' ⟨rfl, hq⟩))
 go_ret
 exact ⟨rfl, hq⟩
theorem divScale {hi lo y : Int} {s : Nat} (hh : 0 ≤ hi) (hhy : hi < y) (hl : Wd lo) (hs : s ≤ 63) (hs2 : y * 2 ^ s < 18446744073709551616) :
  ∃ u L : Int, bits BinOp.or IntKind.u64 (IntKind.u64.wrap (hi * 2 ^ s)) (lo / 2 ^ (64 - s)) = u ∧ IntKind.u64.wrap (lo * 2 ^ s) = L ∧ 0 ≤ u ∧ u < y * 2 ^ s ∧ Wd L ∧
   (s = 0 → u = hi ∧ L = lo) ∧
   ∀ Q R : Int, u * 18446744073709551616 + L = Q * (y * 2 ^ s) + R → 0 ≤ R → R < y * 2 ^ s → (hi * 18446744073709551616 + lo) / y = Q ∧ (hi * 18446744073709551616 + lo) % y = R / 2 ^ s := by
 have hp := pow_pos' s
 have hlow := shr_lt (s := s) (by omega) hl
 have hY1 : (hi + 1) * 2 ^ s ≤ y * 2 ^ s := Int.mul_le_mul_of_nonneg_right (by omega) (by omega)
 rw [Int.add_mul, Int.one_mul] at hY1
 have h0 : 0 ≤ hi * 2 ^ s := Int.mul_nonneg hh (by omega)
 have hw : IntKind.u64.wrap (hi * 2 ^ s) = (hi * 2 ^ s) % 18446744073709551616 := IntKind.wrap_u64 _
 have hu : bits BinOp.or IntKind.u64 (IntKind.u64.wrap (hi * 2 ^ s)) (lo / 2 ^ (64 - s)) = hi * 2 ^ s + lo / 2 ^ (64 - s) := by
  rw [hw, shl_or (by omega) hh hl]; omega
 have hN : (hi * 18446744073709551616 + lo) * 2 ^ s = (hi * 2 ^ s + lo / 2 ^ (64 - s)) * 18446744073709551616 + (lo * 2 ^ s) % 18446744073709551616 := by
  have := shl_carry (x := lo) (s := s) (c := 0) (by omega) (by omega) hp
  rw [Int.add_zero] at this
  rw [← this, Int.add_mul, Int.mul_right_comm hi]
  omega
 have hwL : IntKind.u64.wrap (lo * 2 ^ s) = (lo * 2 ^ s) % 18446744073709551616 := IntKind.wrap_u64 _
 refine ⟨_, _, rfl, rfl, by rw [hu]; omega, by rw [hu]; omega, by rw [hwL]; exact Wd.mod _, ?_, ?_⟩
 ·intro e
  subst e
  obtain ⟨l0, l1⟩ := hl
  rw [hu, hwL]
  have e64 : (2 : Int) ^ (64 - 0) = 18446744073709551616 := rfl
  have e0 : (2 : Int) ^ 0 = 1 := rfl
  rw [e64, e0]; omega
 ·intro Q R e r0 r1
  rw [hu, hwL, ← hN] at e
  generalize hi * 18446744073709551616 + lo = N at *
  have k1 : N * 2 ^ s / (y * 2 ^ s) = Q := by
   rw [e, Int.add_comm, Int.add_mul_ediv_right _ _ (by omega), Int.ediv_eq_zero_of_lt r0 r1, Int.zero_add]
  have k2 : N * 2 ^ s % (y * 2 ^ s) = R := by
   rw [e, Int.add_comm, Int.add_mul_emod_self_right, Int.emod_eq_of_lt r0 r1]
  rw [Int.mul_ediv_mul_of_pos_left _ _ hp] at k1
  refine ⟨k1, ?_⟩
  rw [Int.mul_comm, Int.mul_comm y, Int.mul_emod_mul_of_pos _ _ hp] at k2
  rw [← k2, Int.mul_ediv_cancel_left _ (show (2 : Int) ^ s ≠ 0 by omega)]
theorem guess_bd {u L d v q : Int} (hu : 0 ≤ u) (hud : u < d) (hL : Wd L) (hd : 9223372036854775808 ≤ d) (hd' : d < 18446744073709551616)
  (hv : v = (18446744073709551616 * 18446744073709551616 - 1) / d) (hq : q = (u * v + L) / 18446744073709551616) :
  0 ≤ q ∧ q < 18446744073709551616 ∧ 0 ≤ u * 18446744073709551616 + L - q * d ∧ u * 18446744073709551616 + L - q * d < 18446744073709551616 + d := by
 obtain ⟨l0, l1⟩ := hL
 have e1 := Int.mul_ediv_add_emod (18446744073709551616 * 18446744073709551616 - 1) d
 have m0 := Int.emod_nonneg (18446744073709551616 * 18446744073709551616 - 1) (show d ≠ 0 by omega)
 have m1 := Int.emod_lt_of_pos (18446744073709551616 * 18446744073709551616 - 1) (show 0 < d by omega)
 rw [← hv] at e1
 generalize (18446744073709551616 * 18446744073709551616 - 1) % d = m at *
 have v0 : 0 ≤ v := by rw [hv]; exact Int.ediv_nonneg (by omega) (by omega)
 have uv0 := Int.mul_nonneg hu v0
 have hq0 : 0 ≤ q := by rw [hq]; exact Int.ediv_nonneg (by omega) (by omega)
 have e2 : u * v + L = q * 18446744073709551616 + (u * v + L) % 18446744073709551616 := by omega
 have hn0 := Int.emod_nonneg (u * v + L) (show (18446744073709551616 : Int) ≠ 0 by omega)
 have hn1 := Int.emod_lt_of_pos (u * v + L) (show (0 : Int) < 18446744073709551616 by omega)
 generalize (u * v + L) % 18446744073709551616 = n at *
 have e3 : u * (d * v) + L * d = q * d * 18446744073709551616 + n * d := by
  have := congrArg (· * d) e2
  simp only [Int.add_mul] at this
  rw [show u * (d * v) = u * v * d by rw [Int.mul_assoc, Int.mul_comm d], this, Int.mul_right_comm q]
 have e4 : d * v = 18446744073709551616 * 18446744073709551616 - 1 - m := by omega
 rw [e4, Int.mul_sub, Int.mul_sub] at e3
 have a1 : 0 ≤ u * m := Int.mul_nonneg hu m0
 have a2 : u * m ≤ u * (d - 1) := Int.mul_le_mul_of_nonneg_left (by omega) hu
 have a3 : 0 ≤ n * d := Int.mul_nonneg hn0 (by omega)
 have a4 : n * d ≤ 18446744073709551615 * d := Int.mul_le_mul_of_nonneg_right (by omega) (by omega)
 have a5 : L * d ≤ L * 18446744073709551616 := Int.mul_le_mul_of_nonneg_left (by omega) l0
 have a6 : u * (d - 1) ≤ (d - 1) * (d - 1) := Int.mul_le_mul_of_nonneg_right (by omega) (by omega)
 have a7 : L * (18446744073709551616 - d) ≤ 18446744073709551615 * (18446744073709551616 - d) := Int.mul_le_mul_of_nonneg_right (by omega) (by omega)
 rw [Int.mul_sub] at a7 a2
 have a10 : 18446744073709551616 ≤ q → 18446744073709551616 * d ≤ q * d := fun h => Int.mul_le_mul_of_nonneg_right h (by omega)
 have a8 : (d - 1) * (d - 1) = d * d - 2 * d + 1 := by rw [Int.sub_mul, Int.mul_sub]; omega
 rw [a8, Int.mul_sub] at a6
 have a9 : d * d ≤ 18446744073709551615 * d := Int.mul_le_mul_of_nonneg_right (by omega) (by omega)
 generalize q * d = qd at *
 generalize u * m = um at *
 generalize n * d = nd at *
 generalize L * d = Ld at *
 generalize d * d = dd at *
 have b1 : 0 ≤ u * 18446744073709551616 + L - qd := by omega
 refine ⟨hq0, ?_, b1, by omega⟩
 by_cases k : q < 18446744073709551616
 ·exact k
 ·have := a10 (by omega)
  omega
structure DivSteps (u L d m P1 P0 A0 c q cc D1 D0 r0 b r1 bb : Int) : Prop where
 c1 : ∀ w, Calls Tryz.prog 205 #[.int .u64 m, .int .u64 u] w fun e w' => e = .returned (.tuple #[.int .u64 P1, .int .u64 P0]) ∧ w = w'
 c2 : ∀ w, Calls Tryz.prog 175 #[.int .u64 P0, .int .u64 L, .int .u64 0] w fun e w' => e = .returned (.tuple #[.int .u64 A0, .int .u64 c]) ∧ w = w'
 c3 : ∀ w, Calls Tryz.prog 175 #[.int .u64 P1, .int .u64 u, .int .u64 c] w fun e w' => e = .returned (.tuple #[.int .u64 q, .int .u64 cc]) ∧ w = w'
 c4 : ∀ w, Calls Tryz.prog 205 #[.int .u64 d, .int .u64 q] w fun e w' => e = .returned (.tuple #[.int .u64 D1, .int .u64 D0]) ∧ w = w'
 c5 : ∀ w, Calls Tryz.prog 177 #[.int .u64 L, .int .u64 D0, .int .u64 0] w fun e w' => e = .returned (.tuple #[.int .u64 r0, .int .u64 b]) ∧ w = w'
 c6 : ∀ w, Calls Tryz.prog 177 #[.int .u64 u, .int .u64 D1, .int .u64 b] w fun e w' => e = .returned (.tuple #[.int .u64 r1, .int .u64 bb]) ∧ w = w'
 wP1 : Wd P1
 wP0 : Wd P0
 wA0 : Wd A0
 wc : Wd c
 wcc : Wd cc
 wq : Wd q
 wD1 : Wd D1
 wD0 : Wd D0
 wb : Wd b
 wbb : Wd bb
 wr0 : Wd r0
 hr1 : 0 ≤ r1
 hr1' : r1 ≤ 1
 lo : 0 ≤ u * 18446744073709551616 + L - q * d
 hi : u * 18446744073709551616 + L - q * d < 18446744073709551616 + d
 eq : u * 18446744073709551616 + L - q * d = r1 * 18446744073709551616 + r0
theorem divSteps {u L d : Int} (hu : 0 ≤ u) (hud : u < d) (hL : Wd L) (hd : 9223372036854775808 ≤ d) (hd' : d < 18446744073709551616) :
  ∃ P1 P0 A0 c q cc D1 D0 r0 b r1 bb : Int, DivSteps u L d (recN d) P1 P0 A0 c q cc D1 D0 r0 b r1 bb := by
 have hm := recN_wd hd hd'
 have huw : Wd u := ⟨hu, by omega⟩
 have hdw : Wd d := ⟨by omega, hd'⟩
 have hP := mul_wd hm huw wd0
 rw [Int.add_zero] at hP
 have hPm := Wd.mod (recN d * u)
 have e1 := Int.mul_ediv_add_emod (recN d * u) 18446744073709551616
 have hv : u * ((18446744073709551616 * 18446744073709551616 - 1) / d) = recN d * u + u * 18446744073709551616 := by
  unfold recN
  rw [Int.sub_mul, Int.mul_comm u]
  omega
 obtain ⟨q0, q1, q2, q3⟩ := guess_bd hu hud hL hd hd' rfl rfl
 have k1 := fun w => bits_Mul (recN d) u hm huw w
 rw [hv] at q0 q1 q2 q3
 generalize hp1 : recN d * u / 18446744073709551616 = P1 at *
 generalize hp0 : recN d * u % 18446744073709551616 = P0 at *
 generalize recN d * u = mu at *
 obtain ⟨L0, L1⟩ := hL
 have k2 := fun w => bits_Add P0 L 0 hPm.1 L0 (by omega) (by omega) w
 have hc0 : 0 ≤ (P0 + L + 0) / 18446744073709551616 ∧ (P0 + L + 0) / 18446744073709551616 ≤ 1 := by have := hPm.1; have := hPm.2; omega
 have hA := Wd.mod (P0 + L + 0)
 have hqe : (mu + u * 18446744073709551616 + L) / 18446744073709551616 = P1 + u + (P0 + L + 0) / 18446744073709551616 := by omega
 rw [hqe] at q0 q1 q2 q3
 have k3 := fun w => bits_Add P1 u _ hP.1 hu hc0.1 hc0.2 w
 have hmod : (P1 + u + (P0 + L + 0) / 18446744073709551616) % 18446744073709551616 = P1 + u + (P0 + L + 0) / 18446744073709551616 := by omega
 have hdiv : (P1 + u + (P0 + L + 0) / 18446744073709551616) / 18446744073709551616 = 0 := by omega
 rw [hmod, hdiv] at k3
 have hcw : Wd ((P0 + L + 0) / 18446744073709551616) := ⟨hc0.1, by omega⟩
 generalize (P0 + L + 0) / 18446744073709551616 = c at *
 generalize (P0 + L + 0) % 18446744073709551616 = A0 at *
 generalize P1 + u + c = q at *
 have hqw : Wd q := ⟨q0, q1⟩
 have k4 := fun w => bits_Mul d q hdw hqw w
 have hD := mul_wd hdw hqw wd0
 rw [Int.add_zero] at hD
 have hDm := Wd.mod (d * q)
 have e2 := Int.mul_ediv_add_emod (d * q) 18446744073709551616
 rw [Int.mul_comm q d] at q2 q3
 generalize d * q / 18446744073709551616 = D1 at *
 generalize d * q % 18446744073709551616 = D0 at *
 have k5 := fun w => bits_Sub L D0 0 ⟨L0, L1⟩ hDm (by omega) (by omega) w
 have hb := brw_bd L (D0 + 0)
 have s1 := brw_spec (x := L) (y := D0) (c := 0) ⟨L0, L1⟩ hDm (by omega) (by omega)
 have k6 := fun w => bits_Sub u D1 _ huw hD hb.1 hb.2 w
 have hb2 := brw_bd u (D1 + brw L (D0 + 0))
 have s2 := brw_spec (x := u) (y := D1) huw hD hb.1 hb.2
 have hr0 := Wd.mod (L - D0 - 0)
 have hr1 := Wd.mod (u - D1 - brw L (D0 + 0))
 have hbw : Wd (brw L (D0 + 0)) := ⟨hb.1, by omega⟩
 have hbbw : Wd (brw u (D1 + brw L (D0 + 0))) := ⟨hb2.1, by omega⟩
 obtain ⟨hr00, hr01⟩ := hr0
 obtain ⟨hr10, hr11⟩ := hr1
 generalize brw L (D0 + 0) = b at *
 generalize brw u (D1 + b) = bb at *
 generalize (L - D0 - 0) % 18446744073709551616 = r0 at *
 generalize (u - D1 - b) % 18446744073709551616 = r1 at *
 generalize hdq : d * q = dq at *
 refine ⟨P1, P0, A0, c, q, 0, D1, D0, r0, b, r1, bb, k1, k2, k3, k4, k5, k6, hP, hPm, hA, hcw, wd0, hqw, hD, hDm, hbw, hbbw, ⟨hr00, hr01⟩, hr10, ?_, ?_, ?_, ?_⟩
 ·have : bb = 0 := by omega
  omega
 ·rw [Int.mul_comm q, hdq]; omega
 ·rw [Int.mul_comm q, hdq]; omega
 ·rw [Int.mul_comm q, hdq]; omega
set_option maxHeartbeats 2000000 in
theorem divWW_any (hi lo y : Int) (hh : 0 ≤ hi) (hhy : hi < y) (hl : Wd lo) (hy : Wd y) (w : World) :
  Calls Tryz.prog 247 #[.int .u64 hi, .int .u64 lo, .int .u64 y, .int .u64 (recN (y * 2 ^ nlzN y))] w fun e w' =>
   e = .returned (.tuple #[.int .u64 ((hi * 18446744073709551616 + lo) / y), .int .u64 ((hi * 18446744073709551616 + lo) % y)]) ∧ w = w' := by
 have hn := fun w => nlz_any y hy w
 obtain ⟨hs, hs1, hs2⟩ := nlzN_spec hy (by omega)
 generalize nlzN y = s at *
 have hrw := recN_wd hs1 hs2
 obtain ⟨u, L, eu, eL, hu0, hu1, hL, h00, hfin⟩ := divScale hh hhy hl hs hs2
 obtain ⟨P1, P0, A0, c, q, cc, D1, D0, r0, b, r1, bb, hS⟩ := divSteps hu0 hu1 hL hs1 hs2
 obtain ⟨c1, c2, c3, c4, c5, c6, ⟨wP1, wP1'⟩, ⟨wP0, wP0'⟩, ⟨wA0, wA0'⟩, ⟨wc, wc'⟩, ⟨wcc, wcc'⟩, ⟨wq, wq'⟩, ⟨wD1, wD1'⟩, ⟨wD0, wD0'⟩, ⟨wb, wb'⟩, ⟨wbb, wbb'⟩, ⟨wr0, wr0'⟩, hr1, hr1', hlo, hhi, heq⟩ := hS
 have hqd : q * (y * 2 ^ s) < 18446744073709551616 * 18446744073709551616 → True := fun _ => trivial
 have hqb : u * 18446744073709551616 + L < y * 2 ^ s * 18446744073709551616 := by
  obtain ⟨L0, L1⟩ := hL
  generalize y * 2 ^ s = Y at *
  omega
 have hq2 : r1 ≠ 0 ∨ y * 2 ^ s ≤ r0 → q + 1 < 18446744073709551616 := by
  intro h
  by_cases k : q + 1 < 18446744073709551616
  ·exact k
  ·exfalso
   obtain rfl : q = 18446744073709551615 := by omega
   generalize y * 2 ^ s = Y at *
   omega
 have hq3 : r1 ≠ 0 → y * 2 ^ s ≤ r0 - y * 2 ^ s + 18446744073709551616 → q + 1 + 1 < 18446744073709551616 := by
  intro h1 h2
  by_cases k : q + 1 + 1 < 18446744073709551616
  ·exact k
  ·exfalso
   have := hq2 (.inl h1)
   obtain rfl : q = 18446744073709551614 := by omega
   generalize y * 2 ^ s = Y at *
   omega
 generalize recN (y * 2 ^ s) = m at *
 obtain ⟨hm0, hm1⟩ := hrw
 have HN := hid hn; have C1 := hid c1; have C2 := hid c2; have C3 := hid c3; have C4 := hid c4; have C5 := hid c5; have C6 := hid c6; have HF := hid hfin
 clear hn c1 c2 c3 c4 c5 c6 hfin hqd
 obtain ⟨hl0, hl1⟩ := hl
 obtain ⟨hL0, hL1⟩ := hL
 obtain ⟨hy0, hy1⟩ := hy
 by_cases h0 : s = 0
 ·obtain ⟨rfl, rfl⟩ := h00 h0
  have hb0 : ((s : Int) == 0) = true := by subst h0; rfl
  have hY : y * 2 ^ s = y := by subst h0; rw [Int.pow_zero, Int.mul_one]
  rw [hY] at C4 hs1 hs2 hu1 hlo hhi heq HF hq2 hq3 hqb
  clear eu eL hY h00 h0
  by_cases c1 : r1 = 0
  ·have b1 : (r1 == 0) = true := beq_iff_eq.2 c1
   by_cases c2 : y ≤ r0
   ·have b2 : decide (y ≤ r0) = true := decide_eq_true c2
    have w1 : IntKind.u64.wrap (q + 1) = q + 1 := by rw [IntKind.wrap_u64]; omega
    have w2 : IntKind.u64.wrap (r0 - y) = r0 - y := by rw [IntKind.wrap_u64]; omega
    have hf := HF.out (q + 1) (r0 - y) (by rw [Int.add_mul, Int.one_mul]; omega) (by omega) (by omega)
    have HFF := hid hf
    clear hf c1
    go_enter Tryz.func247, Tryz.ntmps247
    go_wp2_with (first | (go_at_call 220; refine (HN.out _).mono ?_; rintro e w' ⟨rfl, rfl⟩) | (go_at_call_of 205 (Value.int .u64 m); refine (C1.out _).mono ?_; rintro e w' ⟨rfl, rfl⟩) | (go_at_call_of 175 (Value.int .u64 P0); refine (C2.out _).mono ?_; rintro e w' ⟨rfl, rfl⟩) | (go_at_call_of 175 (Value.int .u64 P1); refine (C3.out _).mono ?_; rintro e w' ⟨rfl, rfl⟩) | (go_at_call_of 205 (Value.int .u64 y); refine (C4.out _).mono ?_; rintro e w' ⟨rfl, rfl⟩) | (go_at_call_of 177 (Value.int .u64 L); refine (C5.out _).mono ?_; rintro e w' ⟨rfl, rfl⟩) | (go_at_call_of 177 (Value.int .u64 u); refine (C6.out _).mono ?_; rintro e w' ⟨rfl, rfl⟩))
    go_ret2
    exact ⟨by rw [HFF.out.1, HFF.out.2]; rfl, rfl⟩
   ·have b2 : decide (y ≤ r0) = false := decide_eq_false c2
    have hf := HF.out q r0 (by omega) (by omega) (by omega)
    have HFF := hid hf
    clear hf c1
    go_enter Tryz.func247, Tryz.ntmps247
    go_wp2_with (first | (go_at_call 220; refine (HN.out _).mono ?_; rintro e w' ⟨rfl, rfl⟩) | (go_at_call_of 205 (Value.int .u64 m); refine (C1.out _).mono ?_; rintro e w' ⟨rfl, rfl⟩) | (go_at_call_of 175 (Value.int .u64 P0); refine (C2.out _).mono ?_; rintro e w' ⟨rfl, rfl⟩) | (go_at_call_of 175 (Value.int .u64 P1); refine (C3.out _).mono ?_; rintro e w' ⟨rfl, rfl⟩) | (go_at_call_of 205 (Value.int .u64 y); refine (C4.out _).mono ?_; rintro e w' ⟨rfl, rfl⟩) | (go_at_call_of 177 (Value.int .u64 L); refine (C5.out _).mono ?_; rintro e w' ⟨rfl, rfl⟩) | (go_at_call_of 177 (Value.int .u64 u); refine (C6.out _).mono ?_; rintro e w' ⟨rfl, rfl⟩))
    go_ret2
    exact ⟨by rw [HFF.out.1, HFF.out.2]; rfl, rfl⟩
  ·have b1 : (r1 == 0) = false := beq_eq_false_iff_ne.2 c1
   have w1 : IntKind.u64.wrap (q + 1) = q + 1 := by rw [IntKind.wrap_u64]; omega
   have w2 : IntKind.u64.wrap (r0 - y) = r0 - y + 18446744073709551616 := by rw [IntKind.wrap_u64]; omega
   by_cases c2 : y ≤ r0 - y + 18446744073709551616
   ·have b2 : decide (y ≤ r0 - y + 18446744073709551616) = true := decide_eq_true c2
    have w3 : IntKind.u64.wrap (q + 1 + 1) = q + 1 + 1 := by rw [IntKind.wrap_u64]; omega
    have w4 : IntKind.u64.wrap (r0 - y + 18446744073709551616 - y) = r0 - y + 18446744073709551616 - y := by rw [IntKind.wrap_u64]; omega
    have hf := HF.out (q + 1 + 1) (r0 - y + 18446744073709551616 - y) (by rw [Int.add_mul, Int.add_mul, Int.one_mul]; omega) (by omega) (by omega)
    have HFF := hid hf
    clear hf c1
    go_enter Tryz.func247, Tryz.ntmps247
    go_wp2_with (first | (go_at_call 220; refine (HN.out _).mono ?_; rintro e w' ⟨rfl, rfl⟩) | (go_at_call_of 205 (Value.int .u64 m); refine (C1.out _).mono ?_; rintro e w' ⟨rfl, rfl⟩) | (go_at_call_of 175 (Value.int .u64 P0); refine (C2.out _).mono ?_; rintro e w' ⟨rfl, rfl⟩) | (go_at_call_of 175 (Value.int .u64 P1); refine (C3.out _).mono ?_; rintro e w' ⟨rfl, rfl⟩) | (go_at_call_of 205 (Value.int .u64 y); refine (C4.out _).mono ?_; rintro e w' ⟨rfl, rfl⟩) | (go_at_call_of 177 (Value.int .u64 L); refine (C5.out _).mono ?_; rintro e w' ⟨rfl, rfl⟩) | (go_at_call_of 177 (Value.int .u64 u); refine (C6.out _).mono ?_; rintro e w' ⟨rfl, rfl⟩))
    go_ret2
    exact ⟨by rw [HFF.out.1, HFF.out.2]; rfl, rfl⟩
   ·have b2 : decide (y ≤ r0 - y + 18446744073709551616) = false := decide_eq_false c2
    have hf := HF.out (q + 1) (r0 - y + 18446744073709551616) (by rw [Int.add_mul, Int.one_mul]; omega) (by omega) (by omega)
    have HFF := hid hf
    clear hf c1
    go_enter Tryz.func247, Tryz.ntmps247
    go_wp2_with (first | (go_at_call 220; refine (HN.out _).mono ?_; rintro e w' ⟨rfl, rfl⟩) | (go_at_call_of 205 (Value.int .u64 m); refine (C1.out _).mono ?_; rintro e w' ⟨rfl, rfl⟩) | (go_at_call_of 175 (Value.int .u64 P0); refine (C2.out _).mono ?_; rintro e w' ⟨rfl, rfl⟩) | (go_at_call_of 175 (Value.int .u64 P1); refine (C3.out _).mono ?_; rintro e w' ⟨rfl, rfl⟩) | (go_at_call_of 205 (Value.int .u64 y); refine (C4.out _).mono ?_; rintro e w' ⟨rfl, rfl⟩) | (go_at_call_of 177 (Value.int .u64 L); refine (C5.out _).mono ?_; rintro e w' ⟨rfl, rfl⟩) | (go_at_call_of 177 (Value.int .u64 u); refine (C6.out _).mono ?_; rintro e w' ⟨rfl, rfl⟩))
    go_ret2
    exact ⟨by rw [HFF.out.1, HFF.out.2]; rfl, rfl⟩
 ·have hb0 : ((s : Int) == 0) = false := beq_eq_false_iff_ne.2 (by omega)
  clear h00 h0
  generalize hYd : y * 2 ^ s = Y at *
  by_cases c1 : r1 = 0
  ·have b1 : (r1 == 0) = true := beq_iff_eq.2 c1
   by_cases c2 : Y ≤ r0
   ·have b2 : decide (Y ≤ r0) = true := decide_eq_true c2
    have w1 : IntKind.u64.wrap (q + 1) = q + 1 := by rw [IntKind.wrap_u64]; omega
    have w2 : IntKind.u64.wrap (r0 - Y) = r0 - Y := by rw [IntKind.wrap_u64]; omega
    have hf := HF.out (q + 1) (r0 - Y) (by rw [Int.add_mul, Int.one_mul]; omega) (by omega) (by omega)
    have HFF := hid hf
    clear hf c1
    go_enter Tryz.func247, Tryz.ntmps247
    go_wp2_with (first | (go_at_call 220; refine (HN.out _).mono ?_; rintro e w' ⟨rfl, rfl⟩) | (go_at_call_of 205 (Value.int .u64 m); refine (C1.out _).mono ?_; rintro e w' ⟨rfl, rfl⟩) | (go_at_call_of 175 (Value.int .u64 P0); refine (C2.out _).mono ?_; rintro e w' ⟨rfl, rfl⟩) | (go_at_call_of 175 (Value.int .u64 P1); refine (C3.out _).mono ?_; rintro e w' ⟨rfl, rfl⟩) | (go_at_call_of 205 (Value.int .u64 Y); refine (C4.out _).mono ?_; rintro e w' ⟨rfl, rfl⟩) | (go_at_call_of 177 (Value.int .u64 L); refine (C5.out _).mono ?_; rintro e w' ⟨rfl, rfl⟩) | (go_at_call_of 177 (Value.int .u64 u); refine (C6.out _).mono ?_; rintro e w' ⟨rfl, rfl⟩))
    go_ret2
    exact ⟨by rw [HFF.out.1, HFF.out.2]; rfl, rfl⟩
   ·have b2 : decide (Y ≤ r0) = false := decide_eq_false c2
    have hf := HF.out q r0 (by omega) (by omega) (by omega)
    have HFF := hid hf
    clear hf c1
    go_enter Tryz.func247, Tryz.ntmps247
    go_wp2_with (first | (go_at_call 220; refine (HN.out _).mono ?_; rintro e w' ⟨rfl, rfl⟩) | (go_at_call_of 205 (Value.int .u64 m); refine (C1.out _).mono ?_; rintro e w' ⟨rfl, rfl⟩) | (go_at_call_of 175 (Value.int .u64 P0); refine (C2.out _).mono ?_; rintro e w' ⟨rfl, rfl⟩) | (go_at_call_of 175 (Value.int .u64 P1); refine (C3.out _).mono ?_; rintro e w' ⟨rfl, rfl⟩) | (go_at_call_of 205 (Value.int .u64 Y); refine (C4.out _).mono ?_; rintro e w' ⟨rfl, rfl⟩) | (go_at_call_of 177 (Value.int .u64 L); refine (C5.out _).mono ?_; rintro e w' ⟨rfl, rfl⟩) | (go_at_call_of 177 (Value.int .u64 u); refine (C6.out _).mono ?_; rintro e w' ⟨rfl, rfl⟩))
    go_ret2
    exact ⟨by rw [HFF.out.1, HFF.out.2]; rfl, rfl⟩
  ·have b1 : (r1 == 0) = false := beq_eq_false_iff_ne.2 c1
   have w1 : IntKind.u64.wrap (q + 1) = q + 1 := by rw [IntKind.wrap_u64]; omega
   have w2 : IntKind.u64.wrap (r0 - Y) = r0 - Y + 18446744073709551616 := by rw [IntKind.wrap_u64]; omega
   by_cases c2 : Y ≤ r0 - Y + 18446744073709551616
   ·have b2 : decide (Y ≤ r0 - Y + 18446744073709551616) = true := decide_eq_true c2
    have w3 : IntKind.u64.wrap (q + 1 + 1) = q + 1 + 1 := by rw [IntKind.wrap_u64]; omega
    have w4 : IntKind.u64.wrap (r0 - Y + 18446744073709551616 - Y) = r0 - Y + 18446744073709551616 - Y := by rw [IntKind.wrap_u64]; omega
    have hf := HF.out (q + 1 + 1) (r0 - Y + 18446744073709551616 - Y) (by rw [Int.add_mul, Int.add_mul, Int.one_mul]; omega) (by omega) (by omega)
    have HFF := hid hf
    clear hf c1
    go_enter Tryz.func247, Tryz.ntmps247
    go_wp2_with (first | (go_at_call 220; refine (HN.out _).mono ?_; rintro e w' ⟨rfl, rfl⟩) | (go_at_call_of 205 (Value.int .u64 m); refine (C1.out _).mono ?_; rintro e w' ⟨rfl, rfl⟩) | (go_at_call_of 175 (Value.int .u64 P0); refine (C2.out _).mono ?_; rintro e w' ⟨rfl, rfl⟩) | (go_at_call_of 175 (Value.int .u64 P1); refine (C3.out _).mono ?_; rintro e w' ⟨rfl, rfl⟩) | (go_at_call_of 205 (Value.int .u64 Y); refine (C4.out _).mono ?_; rintro e w' ⟨rfl, rfl⟩) | (go_at_call_of 177 (Value.int .u64 L); refine (C5.out _).mono ?_; rintro e w' ⟨rfl, rfl⟩) | (go_at_call_of 177 (Value.int .u64 u); refine (C6.out _).mono ?_; rintro e w' ⟨rfl, rfl⟩))
    go_ret2
    exact ⟨by rw [HFF.out.1, HFF.out.2]; rfl, rfl⟩
   ·have b2 : decide (Y ≤ r0 - Y + 18446744073709551616) = false := decide_eq_false c2
    have hf := HF.out (q + 1) (r0 - Y + 18446744073709551616) (by rw [Int.add_mul, Int.one_mul]; omega) (by omega) (by omega)
    have HFF := hid hf
    clear hf c1
    go_enter Tryz.func247, Tryz.ntmps247
    go_wp2_with (first | (go_at_call 220; refine (HN.out _).mono ?_; rintro e w' ⟨rfl, rfl⟩) | (go_at_call_of 205 (Value.int .u64 m); refine (C1.out _).mono ?_; rintro e w' ⟨rfl, rfl⟩) | (go_at_call_of 175 (Value.int .u64 P0); refine (C2.out _).mono ?_; rintro e w' ⟨rfl, rfl⟩) | (go_at_call_of 175 (Value.int .u64 P1); refine (C3.out _).mono ?_; rintro e w' ⟨rfl, rfl⟩) | (go_at_call_of 205 (Value.int .u64 Y); refine (C4.out _).mono ?_; rintro e w' ⟨rfl, rfl⟩) | (go_at_call_of 177 (Value.int .u64 L); refine (C5.out _).mono ?_; rintro e w' ⟨rfl, rfl⟩) | (go_at_call_of 177 (Value.int .u64 u); refine (C6.out _).mono ?_; rintro e w' ⟨rfl, rfl⟩))
    go_ret2
    exact ⟨by rw [HFF.out.1, HFF.out.2]; rfl, rfl⟩
def divR : List Int → Int → Int → Int
 | [], r, _ => r
 | x :: t, r, y => (divR t r y * 18446744073709551616 + x) % y
def divD : List Int → Int → Int → List Int
 | [], _, _ => []
 | x :: t, r, y => (divR t r y * 18446744073709551616 + x) / y :: divD t r y
theorem divD_length : ∀ (xs : List Int) (r y : Int), (divD xs r y).length = xs.length
 | [], _, _ => rfl
 | x :: t, r, y => by simp [divD, divD_length t]
theorem divR_bd : ∀ (xs : List Int) {r y : Int}, 0 ≤ r → r < y → 0 ≤ divR xs r y ∧ divR xs r y < y
 | [], r, y, h0, h1 => ⟨h0, h1⟩
 | x :: t, r, y, h0, h1 => ⟨Int.emod_nonneg _ (by omega), Int.emod_lt_of_pos _ (by omega)⟩
theorem divD_val : ∀ (xs : List Int) {r y : Int}, y ≠ 0 → val (divD xs r y) * y + divR xs r y = BP xs.length * r + val xs
 | [], r, y, _ => by simp [divD, divR, val, BP_zero]
 | x :: t, r, y, h => by
  have ih := divD_val t (r := r) h
  have e := Int.mul_ediv_add_emod (divR t r y * 18446744073709551616 + x) y
  simp only [divD, divR, val, List.length_cons, BP_succ]
  generalize (divR t r y * 18446744073709551616 + x) / y = q at *
  generalize (divR t r y * 18446744073709551616 + x) % y = m at *
  rw [Int.add_mul, Int.mul_assoc, Int.mul_assoc]
  rw [Int.mul_comm y q] at e
  omega
set_option maxHeartbeats 1000000 in
theorem divWVW_any (bz cz bx cx n : Nat) (zs xs : List Int) (y : Int) (w : World) (hz : Row w bz zs) (hx : Row w bx xs) (hzl : n ≤ zs.length) (hxl : n ≤ xs.length)
  (hn1 : 1 ≤ n) (hn : n ≤ 1000000) (hy : Wd y) (hy1 : 1 ≤ y) :
  Calls Tryz.prog 219 #[.slice (some ⟨bz, 0, none⟩) n cz, .int .u64 0, .slice (some ⟨bx, 0, none⟩) n cx, .int .u64 y] w fun e w' =>
   e = .returned (.int .u64 (divR (seg xs 0 n) 0 y)) ∧ Row w' bz (put zs 0 (divD (seg xs 0 n) 0 y)) ∧ Chg (· = bz) w w' := by
 have hl : (seg xs 0 n).length = n := seg_length (by omega)
 have hws := seg_wds hx.2 0 n
 have hgd : ∀ k, k < n → (seg xs 0 n).getD k 0 = xs.getD k 0 := fun k hk => by rw [seg_getD hk, Nat.zero_add]
 have hstep : ∀ k, k < n → divR ((seg xs 0 n).drop k) 0 y = (divR ((seg xs 0 n).drop (k + 1)) 0 y * 18446744073709551616 + xs.getD k 0) % y ∧
   divD ((seg xs 0 n).drop k) 0 y = (divR ((seg xs 0 n).drop (k + 1)) 0 y * 18446744073709551616 + xs.getD k 0) / y :: divD ((seg xs 0 n).drop (k + 1)) 0 y := by
  intro k hk
  rw [← hgd k hk, List.getD_eq_getElem?_getD, List.getElem?_eq_getElem (by omega), Option.getD_some, List.drop_eq_getElem_cons (i := k) (by omega)]
  exact ⟨rfl, rfl⟩
 by_cases h1 : n = 1
 ·subst h1
  have hb := hstep 0 (by omega)
  have hlast : (seg xs 0 1).drop (0 + 1) = [] := by apply List.drop_of_length_le; omega
  rw [hlast] at hb
  simp only [divR, divD, List.drop_zero] at hb
  rw [Int.zero_mul] at hb
  have hcell := hx.cell (i := 0) (by omega)
  have hfz := hz.free 0
  have hcz := hz.cell (i := 0) (by omega)
  have hw0 := hx.wd 0
  have hdv := fun w => bitsDiv_any 0 (xs.getD 0 0) y (by omega) (by omega) hw0 hy w
  have hdw := div_wd (hi := 0) (lo := xs.getD 0 0) (y := y) (by omega) (by omega) hw0 hy
  rw [Int.zero_mul] at hdv hdw
  rw [hb.1, hb.2]
  have hz2 : ∀ w', Q w w' → ∀ c, w'.cell? c = w.cell? c := by rintro _ ⟨m, rfl⟩ c; rfl
  have hz3 : ∀ w', Q w w' → ∀ c, w'.frozen? c = w.frozen? c := by rintro _ ⟨m, rfl⟩ c; rfl
  have hfin : ∀ w' q, Q w w' → Wd q → Row (w'.setCell ⟨bz, 0, none⟩ (.int .u64 q)) bz (put zs 0 [q]) ∧ Chg (· = bz) w (w'.setCell ⟨bz, 0, none⟩ (.int .u64 q)) := by
   intro w' q hq hqw
   refine ⟨?_, (hq.chg (· = bz)).setCell (fun _ => rfl) _⟩
   have hz' : Row w' bz zs := by obtain ⟨m, rfl⟩ := hq; exact hz.drewN m
   have := hz'.set 0 hqw
   rwa [set_put _ (by omega)] at this
  have HFIN := hid hfin
  generalize xs.getD 0 0 = x at *
  generalize (0 + x) / y = q at *
  generalize (0 + x) % y = r at *
  have hqw := hdw.1
  obtain ⟨⟨hq0, hq1⟩, hr0, hr1⟩ := hdw
  have HDV := hid hdv
  have HQW := hid hqw
  have HZ2 := hid hz2
  have HZ3 := hid hz3
  clear hdv hfin hqw hb hstep hgd hl hlast hws hz2 hz3
  obtain ⟨hy0, hy2⟩ := hy
  obtain ⟨hx0, hx1⟩ := hw0
  go_enter Tryz.func219, Tryz.ntmps219
  go_wp2_with (go_at_call 245; refine (HDV.out _).mono ?_; rintro e w1 ⟨rfl, hq⟩; have hcz1 := (HZ2.out _ hq ⟨bz, 0, none⟩).trans hcz; have hfz1 := (HZ3.out _ hq ⟨bz, 0, none⟩).trans hfz; have hno := HFIN.out w1 q hq HQW.out; have HNO := hid hno; clear hno)
  go_ret
  exact ⟨rfl, HNO.out.1, HNO.out.2⟩
 ·have hb1 : ((n : Int) == 1) = false := beq_eq_false_iff_ne.2 (by omega)
  have hrec := fun w => reciprocalWord_any y hy hy1 w
  have hdv := fun (r x : Int) (h0 : 0 ≤ r) (h1 : r < y) (hx : Wd x) (w : World) => divWW_any r x y h0 h1 hx hy w
  obtain ⟨hs, hs1, hs2⟩ := nlzN_spec hy hy1
  have hrw := recN_wd hs1 hs2
  generalize recN (y * 2 ^ nlzN y) = m at *
  obtain ⟨hm0, hm1⟩ := hrw
  have hbd : ∀ k, 0 ≤ divR ((seg xs 0 n).drop k) 0 y ∧ divR ((seg xs 0 n).drop k) 0 y < y := fun k => divR_bd _ (by omega) (by omega)
  have hdl : ∀ k, (divD ((seg xs 0 n).drop k) 0 y).length = n - k := fun k => by rw [divD_length, List.length_drop, hl]
  have e0 : (seg xs 0 n).drop 0 = seg xs 0 n := rfl
  have en : (seg xs 0 n).drop n = [] := List.drop_of_length_le (by omega)
  rw [← e0]
  have HRN : Hid (divR ((seg xs 0 n).drop n) 0 y = 0 ∧ divD ((seg xs 0 n).drop n) 0 y = []) := by rw [en]; exact ⟨rfl, rfl⟩
  generalize hR : (fun k => divR ((seg xs 0 n).drop k) 0 y) = R at *
  generalize hD : (fun k => divD ((seg xs 0 n).drop k) 0 y) = D at *
  have hR' : ∀ k, divR ((seg xs 0 n).drop k) 0 y = R k := fun k => congrFun hR k
  have hD' : ∀ k, divD ((seg xs 0 n).drop k) 0 y = D k := fun k => congrFun hD k
  simp only [hR', hD'] at hstep hbd hdl HRN ⊢
  clear hR hD hR' hD' e0 en hgd hl hws
  have HSTEP := hid hstep; have HBD := hid hbd; have HDL := hid hdl; have HDV := hid hdv; have HREC := hid hrec
  clear hstep hbd hdl hdv hrec
  have HY := hid hy
  obtain ⟨hy0, hy2⟩ := hy
  go_enter Tryz.func219, Tryz.ntmps219
  go_wp2_with (go_at_call 246; refine (HREC.out _).mono ?_; rintro e w1 ⟨rfl, hq⟩)
  have hz1 : Row w1 bz zs := by obtain ⟨k, rfl⟩ := hq; exact hz.drewN k
  have hx1 : Row w1 bx xs := by obtain ⟨k, rfl⟩ := hq; exact hx.drewN k
  have hcq := hq.chg (· = bz)
  go_loopw [8, 12] (fun a i wr => ∃ k : Nat, k ≤ n ∧ i = .int .i64 ((k : Int) - 1) ∧ a = .int .u64 (R k) ∧ Row wr bz (put zs k (D k)) ∧ Chg (· = bz) w1 wr)
   (fun _ i _ => (intOf i + 1).toNat)
  case atStart => exact ⟨n, Nat.le_refl _, by go_num, by rw [HRN.out.1], by rw [HRN.out.2, put_nil]; exact hz1, Chg.refl _ _⟩
  case round =>
   obtain ⟨k, hk, rfl, rfl, hzr, hcr⟩ := hrel
   by_cases hk0 : k = 0
   ·subst hk0
    go_wp2_with fail
    go_ret
    exact ⟨rfl, hzr, hcq.trans hcr sb_⟩
   ·obtain ⟨q, rfl⟩ : ∃ q, k = q + 1 := ⟨k - 1, by omega⟩
    have hqi : (((q + 1 : Nat) : Int) - 1) = (q : Int) := by omega
    rw [hqi]
    have hdlq := HDL.out (q + 1)
    have hdlz := HDL.out q
    have hc0 := read_below (i := q) hz1 hx1 hzr hcr (by omega) (by omega) (fun _ => by omega)
    have hcz := hzr.cell (i := q) (by rw [put_length (by omega)]; omega)
    have hfz := hzr.free q
    have hwx := hx1.wd q
    have hst := HSTEP.out q (by omega)
    have hb := HBD.out (q + 1)
    have hdv := fun w => HDV.out _ _ hb.1 hb.2 hwx w
    have hdw := div_wd hb.1 hb.2 hwx HY.out
    rw [← hst.1] at hdv hdw
    have hset := hzr.set q hdw.1
    rw [put_cons _ (by omega), ← hst.2] at hset
    have HSET := hid hset
    have HCS := hid (hcr.setCell (p := ⟨bz, q, none⟩) (fun _ => rfl) (.int .u64 ((R (q + 1) * 18446744073709551616 + xs.getD q 0) / y)))
    have HDV2 := hid hdv
    clear hset hst hdv hdlq hdlz hqi
    generalize (R (q + 1) * 18446744073709551616 + xs.getD q 0) / y = dq at *
    generalize xs.getD q 0 = x at *
    generalize R (q + 1) = r at *
    obtain ⟨⟨hq0, hq1⟩, hr0, hr1⟩ := hdw
    obtain ⟨hb0, hb2⟩ := hb
    obtain ⟨hx0, hx2⟩ := hwx
    have hnn : (0 : Int) ≤ (q : Int) := by omega
    go_wp2_with (go_at_call 247; refine (HDV2.out _).mono ?_; rintro e w2 ⟨rfl, rfl⟩)
    go_roundw
    case rel => exact ⟨q, by omega, by go_num, rfl, HSET.out, HCS.out⟩
    case measure => simp [intOf]
def PNatR (w : World) (bo : Option Nat) (X r : Int) (e : Ending) (w' : World) : Prop :=
 ∃ v, e = .returned (.tuple #[v, .int .u64 r]) ∧ PNat w bo X (.returned v) w'
theorem PNat.get {w w' : World} {bo : Option Nat} {X : Int} {e : Ending} (h : PNat w bo X e w') : ∃ v, e = .returned v ∧ PNat w bo X (.returned v) w' := by
 obtain ⟨v, b', ds, rfl, h⟩ := h
 exact ⟨v, rfl, v, b', ds, rfl, h⟩
set_option maxHeartbeats 1000000 in
theorem divW_any (v vx : Value) (bo bx : Option Nat) (zs xs : List Int) (y : Int) (w : World) (hz : NatAt w v bo zs) (hx : NatAt w vx bx xs) (nx : Nrm xs) (hm : xs.length ≤ 100000) (hy : Wd y) (hy1 : 1 ≤ y) :
  Calls Tryz.prog 195 #[v, vx, .int .u64 y] w (PNatR w bo (val xs / y) (val xs % y)) := by
 have hb0 : (y == 0) = false := beq_eq_false_iff_ne.2 (by omega)
 by_cases h1 : y = 1
 ·subst h1
  have hb1 : ((1 : Int) == 1) = true := rfl
  rw [Int.ediv_one, Int.emod_one]
  obtain ⟨a1, c1, rfl⟩ := hx.len
  have HSET := hid (set_any v _ bo bx zs xs w hz hx nx (by omega))
  clear hz hx nx
  go_enter Tryz.func195, Tryz.ntmps195
  go_wp2_with (go_at_call 160; refine (HSET.out).mono ?_; rintro e w1 hp; obtain ⟨v', rfl, hp2⟩ := hp.get; have HP := hid hp2; clear hp hp2)
  go_ret2
  exact ⟨_, rfl, HP.out⟩
 ·have hb1 : (y == 1) = false := beq_eq_false_iff_ne.2 h1
  by_cases h0 : xs.length = 0
  ·obtain rfl : xs = [] := List.length_eq_zero_iff.1 h0
   obtain ⟨a, c, rfl⟩ := hz.len
   obtain ⟨a1, c1, rfl⟩ := hx.len
   have hfin : PNat w bo (val [] / y) (.returned (.slice a 0 c)) w := ⟨_, _, _, rfl, hz.cut0, Nrm.nil, by simp [val], .inl rfl, Chg.refl _ _⟩
   have e0 : val [] % y = 0 := by simp [val]
   rw [e0]
   have HFIN := hid hfin
   clear hfin hz hx e0
   go_enter Tryz.func195, Tryz.ntmps195
   go_wp2_with fail
   go_ret2
   exact ⟨_, rfl, HFIN.out⟩
  ·obtain ⟨b, rfl⟩ := hx.ne_nil (by intro e; subst e; exact h0 rfl)
   obtain ⟨sp, rfl, hrx, hx1, hx2⟩ := hx
   have hbm : ((xs.length : Int) == 0) = false := beq_eq_false_iff_ne.2 (by omega)
   have hmk := fun w1 hz => make_any v bo zs xs.length w1 hz (by omega) (by omega)
   have HMK := hid hmk
   clear hmk
   have hxs : seg (xs ++ sp) 0 xs.length = xs := by simp [seg]
   have hdv := fun (w1 : World) (g : Nat) (rs : List Int) (hg : Row w1 g rs) (hx : Row w1 b (xs ++ sp)) (hl : xs.length ≤ rs.length) => divWVW_any g rs.length b (xs.length + sp.length) xs.length rs (xs ++ sp) y w1 hg hx hl (by simp) (by omega) (by omega) hy hy1
   rw [hxs] at hdv
   have hlen := divD_length xs 0 y
   have hvl := divD_val xs (r := 0) (y := y) (by omega)
   have hbd := divR_bd xs (r := 0) (y := y) (by omega) (by omega)
   rw [Int.mul_zero, Int.zero_add] at hvl
   have hq : val (divD xs 0 y) = val xs / y := by
    rw [← hvl, Int.add_comm, Int.add_mul_ediv_right _ _ (by omega), Int.ediv_eq_zero_of_lt hbd.1 hbd.2, Int.zero_add]
   have hr : divR xs 0 y = val xs % y := by
    rw [← hvl, Int.add_comm, Int.add_mul_emod_self_right, Int.emod_eq_of_lt hbd.1 hbd.2]
   rw [hr] at hdv hbd
   have hfin : ∀ (g : Nat) (rs : List Int) (w1 w3 : World), Row w1 g rs → xs.length ≤ rs.length → 1 ≤ rs.length → rs.length ≤ 9223372036854775807 → (bo = some g ∨ w.heap.size ≤ g) → Chg (fun _ => False) w w1 → Row w3 g (put rs 0 (divD xs 0 y)) → Chg (· = g) w1 w3 →
     Calls Tryz.prog 163 #[.slice (some ⟨g, 0, none⟩) xs.length rs.length] w3 (PNat w bo (val xs / y)) := by
    intro g rs w1 w3 h1 h2 h3 h4 h5 h6 h7 h8
    exact (norm_put g xs.length rs _ w3 h7 hlen h2 h3 h4).mono fun e w' hp => nat_fin h6 h5 h8 hp hq
   have HFIN := hid hfin
   have HDV := hid hdv
   have hxne : 0 ≤ val xs % y := hbd.1
   have hxlt : val xs % y < 18446744073709551616 := by have := hbd.2; have := hy.2; omega
   obtain ⟨hy0, hy2⟩ := hy
   clear hfin hdv hq hr hvl hbd hlen hxs nx
   generalize xs.length + sp.length = cx at *
   go_enter Tryz.func195, Tryz.ntmps195
   go_wp2_with (first | (go_at_call 158; refine (HMK.out _ hz).mono ?_; rintro e w1 ⟨g, rs, rfl, hrr, hl1, hl2, hl3, hbo, hc⟩) | (go_at_call 219; refine (HDV.out _ g rs hrr (hrx.kept hc (fun h => h)) hl1).mono ?_; rintro e w3 ⟨rfl, hr3, hc3⟩; have hno := HFIN.out g rs w1 w3 hrr hl1 hl2 hl3 hbo hc hr3 hc3; have HNO := hid hno; clear hno) | (go_at_call 163; refine (HNO.out).mono ?_; rintro e w7 hp; obtain ⟨v', rfl, hp2⟩ := hp.get; have HP := hid hp2; clear hp hp2))
   go_ret2
   exact ⟨_, rfl, HP.out⟩
end Go.Proofs.YtbjhnckboimliaaGreatDoor
