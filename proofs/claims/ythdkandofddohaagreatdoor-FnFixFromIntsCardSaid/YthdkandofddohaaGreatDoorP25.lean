/- Part 25 of the proof. -/
import Derived.Test.YthdkandofddohaaGreatDoorP24
namespace Go.Proofs.YthdkandofddohaaGreatDoor
open Go.RowKit
set_option linter.unusedVariables false
set_option linter.unusedSimpArgs false
theorem room_none' {E : Nat} {f : Nat → Nat} : ∀ {k : Nat}, room E f k = none → ∀ n, n ≤ k → E ≤ f n
 | 0, h, n, hn => by
  obtain rfl : n = 0 := by omega
  unfold room at h
  by_cases e : f 0 < E
  ·rw [if_pos e] at h; cases h
  ·omega
 | k + 1, h, n, hn => by
  unfold room at h
  by_cases e : f (k + 1) < E
  ·rw [if_pos e] at h; cases h
  ·rw [if_neg e] at h
   by_cases hk : n = k + 1
   ·subst hk; omega
   ·exact room_none' h n (by omega)
theorem room_max {E : Nat} {f : Nat → Nat} {R : Nat} : ∀ {k : Nat}, room E f k = some R → ∀ n, R < n → n ≤ k → E ≤ f n
 | 0, h, n, h1, hn => by
  have := (room_lt h).1
  omega
 | k + 1, h, n, h1, hn => by
  unfold room at h
  by_cases e : f (k + 1) < E
  ·rw [if_pos e] at h; cases h; omega
  ·rw [if_neg e] at h
   by_cases hk : n = k + 1
   ·subst hk; omega
   ·exact room_max h n h1 (by omega)
theorem from19_own {c S m : Nat} (hc : c < 10 ^ 19) (h1 : m ≤ S) (h2 : S ≤ 19) : from19 (10 ^ 19) 2 c S m = some (c, S) := by
 have hd : digs c ≤ 19 := digs_le.2 hc
 exact from19_one (by omega) (by unfold step19; rw [if_neg (by omega), if_neg (by omega), if_neg (by omega)]) hc
theorem rnd_mono {c s m n : Nat} (h : m ≤ n) : rnd c s m ≤ rnd c s n := rhe_mono (pow10_pos _) (Nat.mul_le_mul_left _ (pow_le' h))
theorem rnd_wide {c s t n : Nat} (h : t ≤ s) : rnd (c * 10 ^ (s - t)) s n = rnd c t n := by
 unfold rnd
 have e : 10 ^ s = 10 ^ t * 10 ^ (s - t) := by rw [← Nat.pow_add, show t + (s - t) = s by omega]
 rw [e, show c * 10 ^ (s - t) * 10 ^ n = c * 10 ^ n * 10 ^ (s - t) by rw [Nat.mul_assoc, Nat.mul_comm (10 ^ (s - t)), ← Nat.mul_assoc]]
 exact rhe_scale (pow10_pos _) (pow10_pos _)
theorem mod_ten {w c t : Nat} (h : t ≠ 0) : (w * 10 ^ t + c) % 10 = c % 10 := by
 obtain ⟨u, rfl⟩ : ∃ u, t = u + 1 := ⟨t - 1, by omega⟩
 rw [Nat.pow_succ, ← Nat.mul_assoc]
 omega
theorem fi_plain {w f c s t : Nat} (hs : s ≤ 19) (ht : t ≤ s) (hw : w ≤ 9223372036854775808) (hf : f = c * 10 ^ (s - t)) (hfs : f < 10 ^ s) (hc : t = 0 ∨ c % 10 ≠ 0) :
  ∃ k u p, from19 (10 ^ 19) 2 (w * 10 ^ t + c) t 0 = some (k, u) ∧ u ≤ 19 ∧ k < 10 ^ 19 ∧ p ≤ s ∧ room (10 ^ 19) (rnd (w * 10 ^ s + f) s) s = some p ∧ rnd (w * 10 ^ s + f) s p < 10 ^ 19 ∧ k * 10 ^ p = rnd (w * 10 ^ s + f) s p * 10 ^ u ∧
   (u = 0 ∨ k % 10 ≠ 0 ∨ rnd (w * 10 ^ s + f) s p * 10 ^ s ≠ (w * 10 ^ s + f) * 10 ^ p) ∧ (w * 10 ^ t + c = 0 → k = 0) := by
 have e10 : 10 ^ s = 10 ^ t * 10 ^ (s - t) := by rw [← Nat.pow_add, show t + (s - t) = s by omega]
 have hM : w * 10 ^ s + f = (w * 10 ^ t + c) * 10 ^ (s - t) := by rw [e10, hf, Nat.add_mul, Nat.mul_assoc]
 have hct : c < 10 ^ t := by
  rw [hf, e10] at hfs
  exact Nat.lt_of_mul_lt_mul_right hfs
 have hE : (10 : Nat) ^ 19 = 10000000000000000000 := by decide
 have hmod : t ≠ 0 → (w * 10 ^ t + c) % 10 ≠ 0 := fun h => by rw [mod_ten h]; exact hc.resolve_left h
 have h0 : rnd (w * 10 ^ t + c) t 0 ≤ w + 1 := by
  have h1 := rhe_mono (b := 10 ^ t) (pow10_pos t) (show (w * 10 ^ t + c) * 10 ^ 0 ≤ (w + 1) * 10 ^ t by rw [Nat.pow_zero, Nat.mul_one, Nat.add_mul, Nat.one_mul]; omega)
  rw [rhe_exact (pow10_pos t)] at h1
  exact h1
 rw [hM]
 have hrw : ∀ n, rnd ((w * 10 ^ t + c) * 10 ^ (s - t)) s n = rnd (w * 10 ^ t + c) t n := fun n => rnd_wide ht
 rw [show rnd ((w * 10 ^ t + c) * 10 ^ (s - t)) s = rnd (w * 10 ^ t + c) t from funext hrw]
 obtain ⟨C, hC⟩ : ∃ C, w * 10 ^ t + c = C := ⟨_, rfl⟩
 rw [hC] at hmod h0 ⊢
 clear hM hrw hf hfs hC hc
 cases hR : room (10 ^ 19) (rnd C t) 19 with
 | none => exact absurd (room_none' hR 0 (by omega)) (by omega)
 | some R =>
  obtain ⟨hR19, hRE⟩ := room_lt hR
  obtain ⟨k, u, g1, g2, g3, g4, g5⟩ := ((from19_right pow19 0 C t 0 (by omega)).2 R hR).2 (by omega)
  have hu := from19_places pow19 g1 hR
  have hp : room (10 ^ 19) (rnd C t) s = some (min s R) := room_some (by omega) (Nat.lt_of_le_of_lt (rnd_mono (by omega)) hRE) (fun n h1 h2 => by
   by_cases hsr : s ≤ R
   ·omega
   ·exact room_max hR n (by omega) (by omega))
  have hz : C = 0 → k = 0 := fun h => by
   subst h
   have : rnd 0 t R = 0 := by unfold rnd; rw [Nat.zero_mul]; have := rhe_exact (q := 0) (pow10_pos t); rwa [Nat.zero_mul] at this
   rw [this, Nat.zero_mul] at g5
   rcases Nat.mul_eq_zero.1 g5 with h | h
   ·exact h
   ·exact absurd h (Nat.ne_of_gt (pow10_pos _))
  refine ⟨k, u, min s R, g1, g3, g4, by omega, hp, Nat.lt_of_le_of_lt (rnd_mono (by omega)) hRE, ?_, ?_, hz⟩
  ·by_cases htR : t ≤ R
   ·have e1 : u = t := by omega
    have hk : k = C := by
     rw [rnd_exact htR, e1, Nat.mul_assoc, ← Nat.pow_add, show R - t + t = R by omega] at g5
     exact Nat.eq_of_mul_eq_mul_right (pow10_pos R) g5
    rw [rnd_exact (show t ≤ min s R by omega), e1, hk, Nat.mul_assoc, ← Nat.pow_add, show min s R - t + t = min s R by omega]
   ·rw [show min s R = R by omega]
    exact g5
  ·by_cases htR : t ≤ R
   ·have e1 : u = t := by omega
    have hk : k = C := by
     rw [rnd_exact htR, e1, Nat.mul_assoc, ← Nat.pow_add, show R - t + t = R by omega] at g5
     exact Nat.eq_of_mul_eq_mul_right (pow10_pos R) g5
    by_cases ht0 : t = 0
    ·exact .inl (by omega)
    ·exact .inr (.inl (by rw [hk]; exact hmod ht0))
   ·refine .inr (.inr (fun h => ?_))
    rw [show min s R = R by omega, e10] at h
    have h2 : rnd C t R * 10 ^ t = C * 10 ^ R := by
     refine Nat.eq_of_mul_eq_mul_right (pow10_pos (s - t)) ?_
     rw [Nat.mul_assoc, h, Nat.mul_assoc, Nat.mul_comm (10 ^ (s - t)), ← Nat.mul_assoc]
    have h3 : rnd C t R * 10 ^ (t - R) = C := by
     refine Nat.eq_of_mul_eq_mul_right (pow10_pos R) ?_
     rw [Nat.mul_assoc, ← Nat.pow_add, show t - R + R = t by omega, h2]
    have h4 := hmod (by omega)
    rw [← h3, show t - R = t - R - 1 + 1 by omega, Nat.pow_succ, ← Nat.mul_assoc] at h4
    omega
theorem fi_sum {W F : Int} (h1 : ¬ (0 < W ∧ F < 0)) (h2 : ¬ (W < 0 ∧ 0 < F)) {A B : Nat} (hA : A = 0 ↔ W = 0) (hB : B = 0 ↔ F = 0) :
  (sumS (decide (W < 0)) A (decide (F < 0)) B).2 = A + B ∧ ((sumS (decide (W < 0)) A (decide (F < 0)) B).1 && A + B != 0) = decide (W < 0 ∨ F < 0) ∧ (decide (W < 0) && A != 0) = decide (W < 0) ∧ (decide (F < 0) && B != 0) = decide (F < 0) := by
 unfold sumS
 by_cases hw : W < 0
 ·have hA0 : A ≠ 0 := fun h => by have := hA.1 h; omega
  by_cases hf : F < 0
  ·have hB0 : B ≠ 0 := fun h => by have := hB.1 h; omega
   simp [hw, hf, hA0, hB0]
  ·have hB0 : B = 0 := hB.2 (by omega)
   subst hB0
   simp [hw, hf, hA0]
 ·by_cases hf : F < 0
  ·have hA0 : A = 0 := hA.2 (by omega)
   have hB0 : B ≠ 0 := fun h => by have := hB.1 h; omega
   subst hA0
   simp [hw, hf, hB0, Nat.pos_of_ne_zero hB0]
  ·simp [hw, hf]
end Go.Proofs.YthdkandofddohaaGreatDoor
namespace Go.Proofs.YthdkandofddohaaGreatDoor
open Go.RowKit
set_option linter.unusedVariables false
set_option linter.unusedSimpArgs false
set_option maxRecDepth 20000
theorem nat_bne (k : Nat) : ((k : Int) != 0) = (k != 0) := by
 by_cases h : k = 0
 ·subst h; rfl
 ·rw [bne_iff_ne.2 h, bne_iff_ne.2 (by omega : (k : Int) ≠ 0)]
def PX (P : Bool → Option (Nat × Nat) → Prop) (w : World) (e : Ending) (w' : World) : Prop := ∃ sg o, P sg o ∧ PDecN w sg o e w'
def PO (P : Bool → Option (Nat × Nat) → Prop) (w : World) (e : Ending) (w' : World) : Prop := ∃ sg o, P sg o ∧ e = .returned (fixOut sg o) ∧ Chg (fun _ => False) w w'
def FIbad (W F s : Int) : Prop := s < 0 ∨ 19 < s ∨ (0 < W ∧ F < 0) ∨ (W < 0 ∧ 0 < F) ∨ (10 : Int) ^ s.toNat ≤ (F.natAbs : Int)
def PFI (W F s : Int) (g : Bool) (o : Option (Nat × Nat)) : Prop :=
 (FIbad W F s ∧ o = none) ∨ (¬ FIbad W F s ∧ ∃ c t : Nat, t ≤ s.toNat ∧ F.natAbs = c * 10 ^ (s.toNat - t) ∧ (t = 0 ∨ c % 10 ≠ 0) ∧ (g && (W.natAbs * 10 ^ t + c) != 0) = decide (W < 0 ∨ F < 0) ∧ o = from19 (10 ^ 19) 2 (W.natAbs * 10 ^ t + c) t 0)
set_option maxHeartbeats 4000000 in
theorem nfi_scale (W F s : Int) (hs : s < 0 ∨ 19 < s) (hW0 : -9223372036854775808 ≤ W) (hW1 : W < 9223372036854775808) (hF0 : -9223372036854775808 ≤ F) (hF1 : F < 9223372036854775808) (w : World) (he : EnvS w) :
  Calls Tryz.prog 30 #[.int .i64 W, .int .i64 F, .int .i64 s] w (PNo w) := by
 have HN0 : Hid (∀ w, Calls Tryz.prog 53 #[.int .i64 W, .int .i64 0] w (fun e w' => e = .returned (.tuple #[.agg #[.bool (decide (W < 0)), .int .i8 0, .int .u64 (W.natAbs : Int)], .nilIface]) ∧ Chg (fun _ => False) w w')) := hid (fun w => New_any W 0 (by omega) hW0 hW1 w)
 have HNB := hid (fun w he => New_bad F s hs hF0 hF1 w he)
 have HE := hid he
 obtain ⟨nw, hnw⟩ : ∃ b, decide (W < 0) = b := ⟨_, rfl⟩
 obtain ⟨cw, hcw⟩ : ∃ v : Int, (W.natAbs : Int) = v := ⟨_, rfl⟩
 rw [hnw, hcw] at HN0
 have hz0 := heap_alloc_new w (.cells #[.bool false, .int .i8 0, .int .u64 0] 54)
 have HC0 := hid ((Chg.refl (fun _ => False) w).alloc (.cells #[.bool false, .int .i8 0, .int .u64 0] 54))
 have HBX := hid (fun w1 (h : Chg (fun _ => False) (w.alloc (.cells #[.bool false, .int .i8 0, .int .u64 0] 54)) w1) => kept_heap h hz0)
 have hk := Chg.refl (fun _ => False) (w.alloc (.cells #[.bool false, .int .i8 0, .int .u64 0] 54))
 obtain ⟨r0, r1, r2, q0, q1, q2⟩ := cell3 (HBX.out _ hk)
 clear hs hW0 hW1 hF0 hF1 he hnw hcw hz0
 go_enter Tryz.func30, Tryz.ntmps30
 go_wp2_with (first | (go_at_call_of 53 (Value.int .i64 W); refine (HN0.out _).mono ?_; intro e w1 h; obtain ⟨he, hc⟩ := h; subst he; replace hk := (hk.trans hc sb_).alloc (.cells #[.bool nw, .int .i8 0, .int .u64 cw] 54); clear hc r0 r1 r2 q0 q1 q2; obtain ⟨r0, r1, r2, q0, q1, q2⟩ := cell3 (HBX.out _ hk)) | (go_at_call 53; refine (HNB.out _ (HE.out.kept (HC0.out.trans hk sb_))).mono ?_; intro e w2 h; obtain ⟨⟨t, u, he⟩, hc⟩ := h; subst he; replace hk := (hk.trans hc sb_).alloc (.cells #[.bool false, .int .i8 0, .int .u64 0] 54); clear hc r0 r1 r2 q0 q1 q2; obtain ⟨r0, r1, r2, q0, q1, q2⟩ := cell3 (HBX.out _ hk)) | (go_at_call 54; refine (errorsNew_any _ _).mono ?_; intro e w3 h; obtain ⟨⟨tv, vv, he1⟩, hc⟩ := h; subst he1; replace hk := hk.trans hc sb_; clear hc; clear r0 r1 r2 q0 q1 q2; obtain ⟨r0, r1, r2, q0, q1, q2⟩ := cell3 (HBX.out _ hk)))
 exact bodyPost_ret (v := .tuple #[.agg #[.bool false, .int .i8 0, .int .u64 0], .iface tv vv]) (dec_result rfl _ _ w.heap.size _ _ _ _ 54 rfl rfl (store3 (HBX.out _ hk) _ _ _)) rfl ⟨⟨tv, vv, rfl⟩, chg3 (HC0.out.trans hk sb_) (Nat.le_refl _) _ _ _⟩
theorem ten19 : (10 : Nat) ^ 19 = 10000000000000000000 := by decide
theorem Add_fi {W F : Int} {s c t : Nat} (hs : s ≤ 19) (hW0 : -9223372036854775808 ≤ W) (hW1 : W < 9223372036854775808) (h1 : ¬ (0 < W ∧ F < 0)) (h2 : ¬ (W < 0 ∧ 0 < F)) (hFs : F.natAbs < 10 ^ s) (ht : t ≤ s) (hf : F.natAbs = c * 10 ^ (s - t)) (hc : t = 0 ∨ c % 10 ≠ 0) :
  ∃ g k u, (g && (W.natAbs * 10 ^ t + c) != 0) = decide (W < 0 ∨ F < 0) ∧ from19 (10 ^ 19) 2 (W.natAbs * 10 ^ t + c) t 0 = some (k, u) ∧ ∀ w, EnvD w → Calls Tryz.prog 52 #[.agg #[.bool (decide (W < 0)), .int .i8 0, .int .u64 (W.natAbs : Int)], .agg #[.bool (decide (F < 0)), .int .i8 t, .int .u64 (c : Int)]] w (fun e w' => e = .returned (.tuple #[.agg #[.bool (g && (k : Int) != 0), .int .i8 u, .int .u64 (k : Int)], .nilIface]) ∧ Chg (fun _ => False) w w') := by
 obtain ⟨k, u, p, g1, _⟩ := fi_plain (w := W.natAbs) hs ht (by omega) hf hFs hc
 have hct : c < 10 ^ 19 := by
  have : c ≤ F.natAbs := by rw [hf]; exact Nat.le_mul_of_pos_right _ (pow10_pos _)
  exact Nat.lt_of_le_of_lt this (Nat.lt_of_lt_of_le hFs (pow_le' hs))
 have hA : W.natAbs * 10 ^ t = 0 ↔ W = 0 := by
  rw [Nat.mul_eq_zero]
  exact ⟨fun h => h.elim (fun h => by omega) (fun h => absurd h (Nat.ne_of_gt (pow10_pos _))), fun h => .inl (by omega)⟩
 have hB : c = 0 ↔ F = 0 := by
  constructor
  ·intro h; rw [h, Nat.zero_mul] at hf; omega
  ·intro h
   rw [h] at hf
   rcases Nat.mul_eq_zero.1 hf.symm with h | h
   ·exact h
   ·exact absurd h (Nat.ne_of_gt (pow10_pos _))
 obtain ⟨s1, s2, _, _⟩ := fi_sum (A := W.natAbs * 10 ^ t) (B := c) h1 h2 hA hB
 have hm : mxp 0 t = t := by unfold mxp; split <;> omega
 have hsd : sumD (decide (W < 0)) W.natAbs 0 (decide (F < 0)) c t = sumS (decide (W < 0)) (W.natAbs * 10 ^ t) (decide (F < 0)) c := by
  unfold sumD
  rw [hm, Nat.sub_zero, Nat.sub_self, Nat.pow_zero, Nat.mul_one]
 refine ⟨_, k, u, s2, g1, fun w he => (Add_any (decide (W < 0)) (decide (F < 0)) W.natAbs c 0 t (by rw [ten19]; omega) hct (by omega) (by omega) w he).mono (fun e w' h => ?_)⟩
 unfold PAdd at h
 rw [if_neg (by omega), hsd, hm, s1] at h
 have hg : from19 (10 ^ 19) 2 (W.natAbs * 10 ^ t + c) t (0 : Int).toNat = some (k, u) := g1
 rw [hg] at h
 exact ⟨h.2, h.1⟩
set_option maxHeartbeats 8000000 in
theorem nfi_in (W F : Int) (s : Nat) (hs : s ≤ 19) (hW0 : -9223372036854775808 ≤ W) (hW1 : W < 9223372036854775808) (hF0 : -9223372036854775808 ≤ F) (hF1 : F < 9223372036854775808) (w : World) (he : EnvD w) :
  Calls Tryz.prog 30 #[.int .i64 W, .int .i64 F, .int .i64 s] w (PX (PFI W F s) w) := by
 have hc19 : F.natAbs < 10 ^ 19 := by rw [ten19]; omega
 have HN0 : Hid (∀ w, Calls Tryz.prog 53 #[.int .i64 W, .int .i64 0] w (fun e w' => e = .returned (.tuple #[.agg #[.bool (decide (W < 0)), .int .i8 0, .int .u64 (W.natAbs : Int)], .nilIface]) ∧ Chg (fun _ => False) w w')) := hid (fun w => New_any W 0 (by omega) hW0 hW1 w)
 have HNF := hid (fun w => New_any F s hs hF0 hF1 w)
 have HZD : Hid (∀ w, Calls Tryz.prog 55 #[.agg #[.bool (decide (W < 0)), .int .i8 0, .int .u64 (W.natAbs : Int)]] w (fun e w' => e = .returned (.bool ((W.natAbs : Int) == 0)) ∧ Chg (fun _ => False) w w')) := hid (fun w => IsZero_any (decide (W < 0)) (W.natAbs : Int) 0 w)
 have HZF := hid (fun w => IsZero_any (decide (F < 0)) (F.natAbs : Int) s w)
 have HSD := hid (fun w => Sign_any (decide (W < 0)) (W.natAbs : Int) 0 w)
 have HSF := hid (fun w => Sign_any (decide (F < 0)) (F.natAbs : Int) s w)
 have HWO := hid (fun w he => WithinOne_any (decide (F < 0)) (F.natAbs : Int) s hs w he)
 have HTR := hid (fun w he => Trim_zero (decide (F < 0)) F.natAbs s 0 rfl hc19 hs (by rw [nat_bne]; by_cases h : F < 0 <;> simp [h]; omega) w he)
 have HE := hid he
 have hzW : ((W.natAbs : Int) == 0) = decide (W = 0) := by rw [Bool.beq_eq_decide_eq]; exact decide_eq_decide.2 (by omega)
 have hzF : ((F.natAbs : Int) == 0) = decide (F = 0) := by rw [Bool.beq_eq_decide_eq]; exact decide_eq_decide.2 (by omega)
 have hsW : sgnI (decide (W < 0)) (W.natAbs : Int) = if W < 0 then -1 else if W = 0 then 0 else 1 := by unfold sgnI; by_cases h : W < 0 <;> simp [h]
 have hsF : sgnI (decide (F < 0)) (F.natAbs : Int) = if F < 0 then -1 else if F = 0 then 0 else 1 := by unfold sgnI; by_cases h : F < 0 <;> simp [h]
 rw [hzW] at HZD
 rw [hzF] at HZF
 rw [hsW] at HSD
 rw [hsF] at HSF
 have hb10 : (decide ((F.natAbs : Int) < 10 ^ s)) = decide (F.natAbs < 10 ^ s) := decide_eq_decide.2 (by rw [← pow_cast]; exact Int.ofNat_lt)
 rw [hb10] at HWO
 have HPF : Hid (∀ g k u c t, ¬ FIbad W F s → t ≤ s → F.natAbs = c * 10 ^ (s - t) → (t = 0 ∨ c % 10 ≠ 0) → (g && (W.natAbs * 10 ^ t + c) != 0) = decide (W < 0 ∨ F < 0) → from19 (10 ^ 19) 2 (W.natAbs * 10 ^ t + c) t 0 = some (k, u) → PFI W F s g (some (k, u))) := hid (fun g k u c t h1 h2 h3 h4 h5 h6 => .inr ⟨h1, c, t, by simpa using h2, by simpa using h3, h4, h5, h6.symm⟩)
 have HPN : Hid (FIbad W F s → PFI W F s false none) := hid (fun h => .inl ⟨h, rfl⟩)
 have HIN : Hid (FIbad W F s ↔ (0 < W ∧ F < 0) ∨ (W < 0 ∧ 0 < F) ∨ ¬ F.natAbs < 10 ^ s) := hid (by
  unfold FIbad
  rw [show (10 : Int) ^ ((s : Int)).toNat = ((10 ^ s : Nat) : Int) by rw [Int.toNat_natCast, pow_cast]]
  constructor
  ·rintro (h | h | h | h | h)
   ·omega
   ·omega
   ·exact .inl h
   ·exact .inr (.inl h)
   ·exact .inr (.inr (by omega))
  ·rintro (h | h | h)
   ·exact .inr (.inr (.inl h))
   ·exact .inr (.inr (.inr (.inl h)))
   ·exact .inr (.inr (.inr (.inr (by omega)))))
 have HADD := hid (fun c t h1 h2 h3 => @Add_fi W F s c t hs hW0 hW1 h1 h2 h3)
 have HW0 := hid (show W.natAbs < 10 ^ 19 from by rw [ten19]; omega)
 have hz0 := heap_alloc_new w (.cells #[.bool false, .int .i8 0, .int .u64 0] 54)
 have HC0 := hid ((Chg.refl (fun _ => False) w).alloc (.cells #[.bool false, .int .i8 0, .int .u64 0] 54))
 have HBX := hid (fun w1 (h : Chg (fun _ => False) (w.alloc (.cells #[.bool false, .int .i8 0, .int .u64 0] 54)) w1) => kept_heap h hz0)
 have hk := Chg.refl (fun _ => False) (w.alloc (.cells #[.bool false, .int .i8 0, .int .u64 0] 54))
 obtain ⟨r0, r1, r2, q0, q1, q2⟩ := cell3 (HBX.out _ hk)
 clear hs hW0 hW1 hF0 hF1 he hz0 hc19 hzW hzF hsW hsF hb10
 by_cases hF : F = 0
 ·have HBD : Hid (¬ FIbad W F s) := hid (by rw [HIN.out]; subst hF; have := pow10_pos s; simp)
  have HPP : Hid (PFI W F s (decide (W < 0)) (some (W.natAbs, 0))) := hid (HPF.out (decide (W < 0)) W.natAbs 0 0 0 HBD.out (by omega) (by subst hF; simp) (.inl rfl) (by subst hF; by_cases h : W < 0 <;> simp [h]; omega) (by rw [Nat.pow_zero, Nat.mul_one, Nat.add_zero]; exact from19_own HW0.out (by omega) (by omega)))
  have HNB : Hid ((decide (W < 0) && (W.natAbs : Int) != 0) = decide (W < 0)) := hid (by rw [nat_bne]; by_cases h : W < 0 <;> simp [h]; omega)
  rw [decide_eq_true hF] at HZF
  have HFF := hid hF
  generalize decide (W < 0) = nw at *
  generalize decide (F < 0) = nf at *
  generalize (F.natAbs : Int) = cf at *
  generalize W.natAbs = NA at *
  obtain ⟨cw, hcw⟩ : ∃ v : Int, (NA : Int) = v := ⟨_, rfl⟩
  have HCW := hid hcw
  rw [hcw] at HN0 HNB
  clear hF HADD HIN HPF HPN HSD HSF HWO HTR HZD hcw
  go_enter Tryz.func30, Tryz.ntmps30
  go_wp2_with (first | (go_at_call_of 53 (Value.int .i64 W); refine (HN0.out _).mono ?_; intro e w1 h; obtain ⟨he, hc⟩ := h; subst he; replace hk := (hk.trans hc sb_).alloc (.cells #[.bool nw, .int .i8 0, .int .u64 cw] 54); have HGD := hid (heap_alloc_new w1 (.cells #[.bool nw, .int .i8 0, .int .u64 cw] 54)); have HS1 := hid (show (w.alloc (.cells #[.bool false, .int .i8 0, .int .u64 0] 54)).heap.size ≤ w1.heap.size from hc.size); clear hc; clear r0 r1 r2 q0 q1 q2; obtain ⟨r0, r1, r2, q0, q1, q2⟩ := cell3 (HBX.out _ hk); obtain ⟨d0, d1, d2, x0, x1, x2⟩ := cell3 HGD.out) | (go_at_call 53; refine (HNF.out _).mono ?_; intro e w2 h; obtain ⟨he, hc⟩ := h; subst he; have HS2 := hid (show (w1.alloc (.cells #[.bool nw, .int .i8 0, .int .u64 cw] 54)).heap.size ≤ w2.heap.size from hc.size); replace hk := (hk.trans hc sb_).alloc (.cells #[.bool nf, .int .i8 s, .int .u64 cf] 54); replace HGD := hid (kept_heap (hc.alloc (.cells #[.bool nf, .int .i8 s, .int .u64 cf] 54)) HGD.out); have HGF := hid (heap_alloc_new w2 (.cells #[.bool nf, .int .i8 s, .int .u64 cf] 54)); clear hc; clear r0 r1 r2 q0 q1 q2; obtain ⟨r0, r1, r2, q0, q1, q2⟩ := cell3 (HBX.out _ hk); clear d0 d1 d2 x0 x1 x2; obtain ⟨d0, d1, d2, x0, x1, x2⟩ := cell3 HGD.out; obtain ⟨g0, g1, g2, y0, y1, y2⟩ := cell3 HGF.out) | (go_at_call 55; (first | refine (HZF.out _).mono ?_); intro e w3 h; obtain ⟨he, hc⟩ := h; subst he; replace hk := hk.trans hc sb_; replace HGD := hid (kept_heap hc HGD.out); replace HGF := hid (kept_heap hc HGF.out); clear hc; clear r0 r1 r2 q0 q1 q2; obtain ⟨r0, r1, r2, q0, q1, q2⟩ := cell3 (HBX.out _ hk); clear d0 d1 d2 x0 x1 x2 g0 g1 g2 y0 y1 y2; obtain ⟨d0, d1, d2, x0, x1, x2⟩ := cell3 HGD.out; obtain ⟨g0, g1, g2, y0, y1, y2⟩ := cell3 HGF.out))
  exact bodyPost_ret (v := .tuple #[.agg #[.bool nw, .int .i8 0, .int .u64 cw], .nilIface]) (dec_result rfl _ _ w.heap.size _ _ _ _ 54 rfl rfl (store3 (HBX.out _ hk) _ _ _)) rfl ⟨nw, some (NA, 0), HPP.out, chg3 (HC0.out.trans hk sb_) (Nat.le_refl _) _ _ _, by show _ = Ending.returned (.tuple #[decV (nw && (NA : Int) != 0) NA 0, .nilIface]); rw [HCW.out, HNB.out]; rfl⟩
 ·have HFF := hid hF
  rw [decide_eq_false hF] at HZF
  by_cases hsg : (0 < W ∧ F < 0) ∨ (W < 0 ∧ 0 < F)
  ·have HPP : Hid (PFI W F s false none) := hid (HPN.out (HIN.out.2 (by omega)))
   have hW : ¬ W = 0 := by omega
   rw [decide_eq_false hW] at HZD
   have hne : ((if W < 0 then (-1 : Int) else if W = 0 then 0 else 1) != (if F < 0 then (-1 : Int) else if F = 0 then 0 else 1)) = true := bne_iff_ne.2 (by
    rcases hsg with ⟨h1, h2⟩ | ⟨h1, h2⟩
    ·rw [if_neg (show ¬ W < 0 by omega), if_neg hW, if_pos h2]; decide
    ·rw [if_pos h1, if_neg (show ¬ F < 0 by omega), if_neg hF]; decide)
   generalize (if W < 0 then (-1 : Int) else if W = 0 then 0 else 1) = sd at *
   generalize (if F < 0 then (-1 : Int) else if F = 0 then 0 else 1) = sf at *
   generalize decide (W < 0) = nw at *
   generalize decide (F < 0) = nf at *
   generalize (F.natAbs : Int) = cf at *
   generalize (W.natAbs : Int) = cw at *
   clear hF hsg hW HADD HIN HPF HPN HWO HTR HW0
   go_enter Tryz.func30, Tryz.ntmps30
   go_upto_region 8 with (first | (go_at_call_of 53 (Value.int .i64 W); refine (HN0.out _).mono ?_; intro e w1 h; obtain ⟨he, hc⟩ := h; subst he; replace hk := (hk.trans hc sb_).alloc (.cells #[.bool nw, .int .i8 0, .int .u64 cw] 54); have HGD := hid (heap_alloc_new w1 (.cells #[.bool nw, .int .i8 0, .int .u64 cw] 54)); have HS1 := hid (show (w.alloc (.cells #[.bool false, .int .i8 0, .int .u64 0] 54)).heap.size ≤ w1.heap.size from hc.size); clear hc; clear r0 r1 r2 q0 q1 q2; obtain ⟨r0, r1, r2, q0, q1, q2⟩ := cell3 (HBX.out _ hk); obtain ⟨d0, d1, d2, x0, x1, x2⟩ := cell3 HGD.out) | (go_at_call 53; refine (HNF.out _).mono ?_; intro e w2 h; obtain ⟨he, hc⟩ := h; subst he; have HS2 := hid (show (w1.alloc (.cells #[.bool nw, .int .i8 0, .int .u64 cw] 54)).heap.size ≤ w2.heap.size from hc.size); replace hk := (hk.trans hc sb_).alloc (.cells #[.bool nf, .int .i8 s, .int .u64 cf] 54); replace HGD := hid (kept_heap (hc.alloc (.cells #[.bool nf, .int .i8 s, .int .u64 cf] 54)) HGD.out); have HGF := hid (heap_alloc_new w2 (.cells #[.bool nf, .int .i8 s, .int .u64 cf] 54)); clear hc; clear r0 r1 r2 q0 q1 q2; obtain ⟨r0, r1, r2, q0, q1, q2⟩ := cell3 (HBX.out _ hk); clear d0 d1 d2 x0 x1 x2; obtain ⟨d0, d1, d2, x0, x1, x2⟩ := cell3 HGD.out; obtain ⟨g0, g1, g2, y0, y1, y2⟩ := cell3 HGF.out) | (go_at_call 55; (first | refine (HZF.out _).mono ?_); intro e w3 h; obtain ⟨he, hc⟩ := h; subst he; replace hk := hk.trans hc sb_; replace HGD := hid (kept_heap hc HGD.out); replace HGF := hid (kept_heap hc HGF.out); clear hc; clear r0 r1 r2 q0 q1 q2; obtain ⟨r0, r1, r2, q0, q1, q2⟩ := cell3 (HBX.out _ hk); clear d0 d1 d2 x0 x1 x2 g0 g1 g2 y0 y1 y2; obtain ⟨d0, d1, d2, x0, x1, x2⟩ := cell3 HGD.out; obtain ⟨g0, g1, g2, y0, y1, y2⟩ := cell3 HGF.out))
   go_cut [42] (fun c wx => c = .bool true ∧ Chg (fun _ => False) w3 wx)
   case first =>
    clear hk r0 r1 r2 q0 q1 q2 HC0 HBX HPP HE
    have hk := (Chg.refl (fun _ => False) w3).drew
    clear d0 d1 d2 x0 x1 x2 g0 g1 g2 y0 y1 y2
    have HS8 := hid (fun w4 (h : Chg (fun _ => False) w3 w4) => And.intro (cell3 (kept_heap h HGD.out)).1 (And.intro (cell3 (kept_heap h HGD.out)).2.1 (And.intro (cell3 (kept_heap h HGD.out)).2.2.1 (And.intro (cell3 (kept_heap h HGF.out)).1 (And.intro (cell3 (kept_heap h HGF.out)).2.1 (cell3 (kept_heap h HGF.out)).2.2.1)))))
    clear HGD HGF
    first | (go_region_held3 (fun w' => w'.cell? ⟨w1.heap.size, 0, none⟩ = some (.bool nw) ∧ w'.cell? ⟨w1.heap.size, 1, none⟩ = some (.int .i8 0) ∧ w'.cell? ⟨w1.heap.size, 2, none⟩ = some (.int .u64 cw) ∧ w'.cell? ⟨w2.heap.size, 0, none⟩ = some (.bool nf) ∧ w'.cell? ⟨w2.heap.size, 1, none⟩ = some (.int .i8 s) ∧ w'.cell? ⟨w2.heap.size, 2, none⟩ = some (.int .u64 cf)) (first | with_reducible exact HS8.out _ hk) (first | (go_at_call_of 55 (Value.agg #[Value.bool nw, Value.int .i8 0, Value.int .u64 cw]); refine (HZD.out _).mono ?_; intro e w4 h; obtain ⟨he, hc⟩ := h; subst he; replace hk := hk.trans hc sb_; clear hc) | (go_at_call_of 56 (Value.agg #[Value.bool nw, Value.int .i8 0, Value.int .u64 cw]); refine (HSD.out _).mono ?_; intro e w4 h; obtain ⟨he, hc⟩ := h; subst he; replace hk := hk.trans hc sb_; clear hc) | (go_at_call_of 56 (Value.agg #[Value.bool nf, Value.int .i8 s, Value.int .u64 cf]); refine (HSF.out _).mono ?_; intro e w4 h; obtain ⟨he, hc⟩ := h; subst he; replace hk := hk.trans hc sb_; clear hc))) | fail
    all_goals (go_wp2_with fail; go_meet; exact ⟨rfl, hk⟩)
   case rest =>
    obtain ⟨hv, hc⟩ := hcut
    subst hv
    replace hk := hk.trans hc sb_
    replace HGD := hid (kept_heap hc HGD.out)
    replace HGF := hid (kept_heap hc HGF.out)
    clear hc
    clear r0 r1 r2 q0 q1 q2; obtain ⟨r0, r1, r2, q0, q1, q2⟩ := cell3 (HBX.out _ hk)
    clear d0 d1 d2 x0 x1 x2 g0 g1 g2 y0 y1 y2
    obtain ⟨d0, d1, d2, x0, x1, x2⟩ := cell3 HGD.out; obtain ⟨g0, g1, g2, y0, y1, y2⟩ := cell3 HGF.out
    go_wp2_with (first | (go_at_call 54; refine (errorsNew_any _ _).mono ?_; intro e w4 h; obtain ⟨⟨tv, vv, he1⟩, hc⟩ := h; subst he1; replace hk := hk.trans hc sb_; clear hc; clear r0 r1 r2 q0 q1 q2; obtain ⟨r0, r1, r2, q0, q1, q2⟩ := cell3 (HBX.out _ hk)))
    exact bodyPost_ret (v := .tuple #[.agg #[.bool false, .int .i8 0, .int .u64 0], .iface tv vv]) (dec_result rfl _ _ w.heap.size _ _ _ _ 54 rfl rfl (store3 (HBX.out _ hk) _ _ _)) rfl ⟨false, none, HPP.out, chg3 (HC0.out.trans hk sb_) (Nat.le_refl _) _ _ _, tv, vv, rfl⟩
  ·have hor : (decide (W = 0) = true) ∨ (decide (W = 0) = false ∧ ((if W < 0 then (-1 : Int) else if W = 0 then 0 else 1) != (if F < 0 then (-1 : Int) else if F = 0 then 0 else 1)) = false) := by
    by_cases hW : W = 0
    ·exact .inl (decide_eq_true hW)
    ·refine .inr ⟨decide_eq_false hW, ?_⟩
     by_cases h1 : W < 0
     ·rw [if_pos h1, if_pos (show F < 0 by omega)]; rfl
     ·rw [if_neg h1, if_neg hW, if_neg (show ¬ F < 0 by omega), if_neg hF]; rfl
   have HSG := hid hsg
   generalize (if W < 0 then (-1 : Int) else if W = 0 then 0 else 1) = sd at *
   generalize (if F < 0 then (-1 : Int) else if F = 0 then 0 else 1) = sf at *
   generalize decide (W = 0) = zw at *
   by_cases hb : F.natAbs < 10 ^ s
   ·have HNB : Hid (¬ FIbad W F s) := hid (fun h => (HIN.out.1 h).elim (fun h => HSG.out (.inl h)) (fun h => h.elim (fun h => HSG.out (.inr h)) (fun h => h hb)))
    have HADX := hid (fun c t h3 h4 h5 => HADD.out c t (fun h => HSG.out (.inl h)) (fun h => HSG.out (.inr h)) hb h3 h4 h5)
    have HFN := hid (show F.natAbs ≠ 0 from fun h => HFF.out (by omega))
    have HTX : Hid (∀ w, EnvD w → Calls Tryz.prog 58 #[.agg #[.bool (decide (F < 0)), .int .i8 s, .int .u64 (F.natAbs : Int)], .int .i64 0] w (PTrim0 (decide (F < 0)) F.natAbs s w)) := hid (fun w he => HTR.out w he)
    rw [decide_eq_true hb] at HWO
    clear hF hsg hb HADD HIN HPN HTR HW0
    obtain ⟨nw, hnw⟩ : ∃ b, decide (W < 0) = b := ⟨_, rfl⟩
    obtain ⟨nf, hnf⟩ : ∃ b, decide (F < 0) = b := ⟨_, rfl⟩
    obtain ⟨cf, hcf⟩ : ∃ v : Int, (F.natAbs : Int) = v := ⟨_, rfl⟩
    obtain ⟨cw, hcw⟩ : ∃ v : Int, (W.natAbs : Int) = v := ⟨_, rfl⟩
    rw [hnw, hcw] at HN0 HZD
    rw [hnf, hcf] at HNF HZF HWO HTX
    rw [hnw, hcw] at HSD
    rw [hnf, hcf] at HSF
    rw [hnw, hnf, hcw] at HADX
    have HCF := hid hcf
    clear hnw hnf hcf hcw
    rcases hor with hor | ⟨hor, hne⟩
    ·subst hor
     go_enter Tryz.func30, Tryz.ntmps30
     go_upto_region 8 with (first | (go_at_call_of 53 (Value.int .i64 W); refine (HN0.out _).mono ?_; intro e w1 h; obtain ⟨he, hc⟩ := h; subst he; replace hk := (hk.trans hc sb_).alloc (.cells #[.bool nw, .int .i8 0, .int .u64 cw] 54); have HGD := hid (heap_alloc_new w1 (.cells #[.bool nw, .int .i8 0, .int .u64 cw] 54)); have HS1 := hid (show (w.alloc (.cells #[.bool false, .int .i8 0, .int .u64 0] 54)).heap.size ≤ w1.heap.size from hc.size); clear hc; clear r0 r1 r2 q0 q1 q2; obtain ⟨r0, r1, r2, q0, q1, q2⟩ := cell3 (HBX.out _ hk); obtain ⟨d0, d1, d2, x0, x1, x2⟩ := cell3 HGD.out) | (go_at_call 53; refine (HNF.out _).mono ?_; intro e w2 h; obtain ⟨he, hc⟩ := h; subst he; have HS2 := hid (show (w1.alloc (.cells #[.bool nw, .int .i8 0, .int .u64 cw] 54)).heap.size ≤ w2.heap.size from hc.size); replace hk := (hk.trans hc sb_).alloc (.cells #[.bool nf, .int .i8 s, .int .u64 cf] 54); replace HGD := hid (kept_heap (hc.alloc (.cells #[.bool nf, .int .i8 s, .int .u64 cf] 54)) HGD.out); have HGF := hid (heap_alloc_new w2 (.cells #[.bool nf, .int .i8 s, .int .u64 cf] 54)); clear hc; clear r0 r1 r2 q0 q1 q2; obtain ⟨r0, r1, r2, q0, q1, q2⟩ := cell3 (HBX.out _ hk); clear d0 d1 d2 x0 x1 x2; obtain ⟨d0, d1, d2, x0, x1, x2⟩ := cell3 HGD.out; obtain ⟨g0, g1, g2, y0, y1, y2⟩ := cell3 HGF.out) | (go_at_call 55; (first | refine (HZF.out _).mono ?_); intro e w3 h; obtain ⟨he, hc⟩ := h; subst he; replace hk := hk.trans hc sb_; replace HGD := hid (kept_heap hc HGD.out); replace HGF := hid (kept_heap hc HGF.out); clear hc; clear r0 r1 r2 q0 q1 q2; obtain ⟨r0, r1, r2, q0, q1, q2⟩ := cell3 (HBX.out _ hk); clear d0 d1 d2 x0 x1 x2 g0 g1 g2 y0 y1 y2; obtain ⟨d0, d1, d2, x0, x1, x2⟩ := cell3 HGD.out; obtain ⟨g0, g1, g2, y0, y1, y2⟩ := cell3 HGF.out))
     go_cut [42] (fun c wx => c = .bool false ∧ Chg (fun _ => False) w3 wx)
     case first =>
      clear HWO HTX HADX HPF hk r0 r1 r2 q0 q1 q2 HC0 HBX HE
      have hk := (Chg.refl (fun _ => False) w3).drew
      clear d0 d1 d2 x0 x1 x2 g0 g1 g2 y0 y1 y2
      obtain ⟨d0, d1, d2, _, _, _⟩ := cell3 (kept_heap hk HGD.out)
      clear HGD HGF
      first | (go_region_with (go_at_call_of 55 (Value.agg #[Value.bool nw, Value.int .i8 0, Value.int .u64 cw]); refine (HZD.out _).mono ?_; intro e w4 h; obtain ⟨he, hc⟩ := h; subst he; replace hk := hk.trans hc sb_; clear hc)) | fail
      all_goals (go_wp2_with fail; go_meet; exact ⟨rfl, hk⟩)
     case rest =>
      obtain ⟨hv, hc⟩ := hcut
      subst hv
      replace hk := hk.trans hc sb_
      replace HGD := hid (kept_heap hc HGD.out)
      replace HGF := hid (kept_heap hc HGF.out)
      clear hc
      clear r0 r1 r2 q0 q1 q2; obtain ⟨r0, r1, r2, q0, q1, q2⟩ := cell3 (HBX.out _ hk)
      clear d0 d1 d2 x0 x1 x2 g0 g1 g2 y0 y1 y2
      obtain ⟨d0, d1, d2, x0, x1, x2⟩ := cell3 HGD.out; obtain ⟨g0, g1, g2, y0, y1, y2⟩ := cell3 HGF.out
      go_wp2_with (first | (go_at_call 57; (first | refine (HWO.out _ (HE.out.kept (HC0.out.trans hk sb_))).mono ?_); intro e w3 h; obtain ⟨he, hc⟩ := h; subst he; replace hk := hk.trans hc sb_; replace HGD := hid (kept_heap hc HGD.out); replace HGF := hid (kept_heap hc HGF.out); clear hc; clear r0 r1 r2 q0 q1 q2; obtain ⟨r0, r1, r2, q0, q1, q2⟩ := cell3 (HBX.out _ hk); clear d0 d1 d2 x0 x1 x2 g0 g1 g2 y0 y1 y2; obtain ⟨d0, d1, d2, x0, x1, x2⟩ := cell3 HGD.out; obtain ⟨g0, g1, g2, y0, y1, y2⟩ := cell3 HGF.out))
      go_at_call 58
      refine (HTX.out _ (HE.out.kept (HC0.out.trans hk sb_))).mono ?_
      intro e w5 h
      obtain ⟨c', t, he, ht, hl, hcc, hc⟩ := h
      subst he
      obtain ⟨g, k, u, a1, a2, HAZ⟩ := HADX.out c' t ht hcc (hl HFN.out)
      have HPP := hid (HPF.out g k u c' t HNB.out ht hcc (hl HFN.out) a1 a2)
      have HAA := hid HAZ
      obtain ⟨nb, hnb⟩ : ∃ b, (g && (k : Int) != 0) = b := ⟨_, rfl⟩
      have HNB2 := hid hnb
      rw [hnb] at HAA
      clear ht hl hcc a1 a2 HAZ hnb d0 d1 d2 x0 x1 x2 g0 g1 g2 y0 y1 y2 r0 r1 r2 q0 q1 q2
      replace hk := hk.trans hc sb_
      have hgd := kept_heap hc HGD.out
      have hgf := kept_heap hc HGF.out
      have s1 := HS1.out
      have s2 := HS2.out
      simp only [World.alloc, Array.size_push] at s1 s2
      have n12 : w1.heap.size ≠ w2.heap.size := by omega
      have n21 : w2.heap.size ≠ w1.heap.size := by omega
      have hk5 := chg3 hk (z := w2.heap.size) (by simp only [World.alloc, Array.size_push]; omega) (.bool nf) (.int .i8 (t : Int)) (.int .u64 (c' : Int))
      have HGD5 := hid (fix_near (a := .bool nf) (b := .int .i8 (t : Int)) (c := .int .u64 (c' : Int)) hgd n12)
      have HGF5 := hid (store3 hgf (.bool nf) (.int .i8 (t : Int)) (.int .u64 (c' : Int)))
      obtain ⟨d0, d1, d2, x0, x1, x2⟩ := cell3 HGD5.out
      obtain ⟨g0, g1, g2, y0, y1, y2⟩ := cell3 HGF5.out
      obtain ⟨_, _, _, o0, o1, o2⟩ := cell3 hgf
      have HN12 := hid n12
      have HSX := hid (show (w.alloc (.cells #[.bool false, .int .i8 0, .int .u64 0] 54)).heap.size ≤ w1.heap.size by simp only [World.alloc, Array.size_push]; omega)
      clear s1 s2 hgd hgf hc
      go_wp2_with fail
      go_at_call 52
      refine (HAA.out _ (HE.out.kept (HC0.out.trans hk5 sb_))).mono ?_
      intro e w6 h
      obtain ⟨he, hc⟩ := h
      subst he
      have hgd := kept_heap hc HGD5.out
      have hk6 := hk5.trans hc sb_
      clear hk hk5 d0 d1 d2 x0 x1 x2 g0 g1 g2 y0 y1 y2 o0 o1 o2
      have hk := chg3 hk6 (z := w1.heap.size) HSX.out (.bool nb) (.int .i8 (u : Int)) (.int .u64 (k : Int))
      obtain ⟨d0, d1, d2, x0, x1, x2⟩ := cell3 (store3 hgd (.bool nb) (.int .i8 (u : Int)) (.int .u64 (k : Int)))
      obtain ⟨_, _, _, o0, o1, o2⟩ := cell3 hgd
      obtain ⟨r0, r1, r2, q0, q1, q2⟩ := cell3 (HBX.out _ hk)
      go_wp2_with fail
      exact bodyPost_ret (v := .tuple #[.agg #[.bool nb, .int .i8 u, .int .u64 (k : Int)], .nilIface]) (dec_result rfl _ _ w.heap.size _ _ _ _ 54 rfl rfl (store3 (HBX.out _ hk) _ _ _)) rfl ⟨g, some (k, u), HPP.out, chg3 (HC0.out.trans hk sb_) (Nat.le_refl _) _ _ _, by show _ = Ending.returned (.tuple #[decV (g && (k : Int) != 0) k u, .nilIface]); rw [HNB2.out]; rfl⟩
    ·subst hor
     go_enter Tryz.func30, Tryz.ntmps30
     go_upto_region 8 with (first | (go_at_call_of 53 (Value.int .i64 W); refine (HN0.out _).mono ?_; intro e w1 h; obtain ⟨he, hc⟩ := h; subst he; replace hk := (hk.trans hc sb_).alloc (.cells #[.bool nw, .int .i8 0, .int .u64 cw] 54); have HGD := hid (heap_alloc_new w1 (.cells #[.bool nw, .int .i8 0, .int .u64 cw] 54)); have HS1 := hid (show (w.alloc (.cells #[.bool false, .int .i8 0, .int .u64 0] 54)).heap.size ≤ w1.heap.size from hc.size); clear hc; clear r0 r1 r2 q0 q1 q2; obtain ⟨r0, r1, r2, q0, q1, q2⟩ := cell3 (HBX.out _ hk); obtain ⟨d0, d1, d2, x0, x1, x2⟩ := cell3 HGD.out) | (go_at_call 53; refine (HNF.out _).mono ?_; intro e w2 h; obtain ⟨he, hc⟩ := h; subst he; have HS2 := hid (show (w1.alloc (.cells #[.bool nw, .int .i8 0, .int .u64 cw] 54)).heap.size ≤ w2.heap.size from hc.size); replace hk := (hk.trans hc sb_).alloc (.cells #[.bool nf, .int .i8 s, .int .u64 cf] 54); replace HGD := hid (kept_heap (hc.alloc (.cells #[.bool nf, .int .i8 s, .int .u64 cf] 54)) HGD.out); have HGF := hid (heap_alloc_new w2 (.cells #[.bool nf, .int .i8 s, .int .u64 cf] 54)); clear hc; clear r0 r1 r2 q0 q1 q2; obtain ⟨r0, r1, r2, q0, q1, q2⟩ := cell3 (HBX.out _ hk); clear d0 d1 d2 x0 x1 x2; obtain ⟨d0, d1, d2, x0, x1, x2⟩ := cell3 HGD.out; obtain ⟨g0, g1, g2, y0, y1, y2⟩ := cell3 HGF.out) | (go_at_call 55; (first | refine (HZF.out _).mono ?_); intro e w3 h; obtain ⟨he, hc⟩ := h; subst he; replace hk := hk.trans hc sb_; replace HGD := hid (kept_heap hc HGD.out); replace HGF := hid (kept_heap hc HGF.out); clear hc; clear r0 r1 r2 q0 q1 q2; obtain ⟨r0, r1, r2, q0, q1, q2⟩ := cell3 (HBX.out _ hk); clear d0 d1 d2 x0 x1 x2 g0 g1 g2 y0 y1 y2; obtain ⟨d0, d1, d2, x0, x1, x2⟩ := cell3 HGD.out; obtain ⟨g0, g1, g2, y0, y1, y2⟩ := cell3 HGF.out))
     go_cut [42] (fun c wx => c = .bool false ∧ Chg (fun _ => False) w3 wx)
     case first =>
      clear HWO HTX HADX HPF hk r0 r1 r2 q0 q1 q2 HC0 HBX HE
      have hk := (Chg.refl (fun _ => False) w3).drew
      clear d0 d1 d2 x0 x1 x2 g0 g1 g2 y0 y1 y2
      have HS8 := hid (fun w4 (h : Chg (fun _ => False) w3 w4) => And.intro (cell3 (kept_heap h HGD.out)).1 (And.intro (cell3 (kept_heap h HGD.out)).2.1 (And.intro (cell3 (kept_heap h HGD.out)).2.2.1 (And.intro (cell3 (kept_heap h HGF.out)).1 (And.intro (cell3 (kept_heap h HGF.out)).2.1 (cell3 (kept_heap h HGF.out)).2.2.1)))))
      clear HGD HGF
      first | (go_region_held3 (fun w' => w'.cell? ⟨w1.heap.size, 0, none⟩ = some (.bool nw) ∧ w'.cell? ⟨w1.heap.size, 1, none⟩ = some (.int .i8 0) ∧ w'.cell? ⟨w1.heap.size, 2, none⟩ = some (.int .u64 cw) ∧ w'.cell? ⟨w2.heap.size, 0, none⟩ = some (.bool nf) ∧ w'.cell? ⟨w2.heap.size, 1, none⟩ = some (.int .i8 s) ∧ w'.cell? ⟨w2.heap.size, 2, none⟩ = some (.int .u64 cf)) (first | with_reducible exact HS8.out _ hk) (first | (go_at_call_of 55 (Value.agg #[Value.bool nw, Value.int .i8 0, Value.int .u64 cw]); refine (HZD.out _).mono ?_; intro e w4 h; obtain ⟨he, hc⟩ := h; subst he; replace hk := hk.trans hc sb_; clear hc) | (go_at_call_of 56 (Value.agg #[Value.bool nw, Value.int .i8 0, Value.int .u64 cw]); refine (HSD.out _).mono ?_; intro e w4 h; obtain ⟨he, hc⟩ := h; subst he; replace hk := hk.trans hc sb_; clear hc) | (go_at_call_of 56 (Value.agg #[Value.bool nf, Value.int .i8 s, Value.int .u64 cf]); refine (HSF.out _).mono ?_; intro e w4 h; obtain ⟨he, hc⟩ := h; subst he; replace hk := hk.trans hc sb_; clear hc))) | fail
      all_goals (go_wp2_with fail; go_meet; exact ⟨rfl, hk⟩)
     case rest =>
      obtain ⟨hv, hc⟩ := hcut
      subst hv
      replace hk := hk.trans hc sb_
      replace HGD := hid (kept_heap hc HGD.out)
      replace HGF := hid (kept_heap hc HGF.out)
      clear hc
      clear r0 r1 r2 q0 q1 q2; obtain ⟨r0, r1, r2, q0, q1, q2⟩ := cell3 (HBX.out _ hk)
      clear d0 d1 d2 x0 x1 x2 g0 g1 g2 y0 y1 y2
      obtain ⟨d0, d1, d2, x0, x1, x2⟩ := cell3 HGD.out; obtain ⟨g0, g1, g2, y0, y1, y2⟩ := cell3 HGF.out
      go_wp2_with (first | (go_at_call 57; (first | refine (HWO.out _ (HE.out.kept (HC0.out.trans hk sb_))).mono ?_); intro e w3 h; obtain ⟨he, hc⟩ := h; subst he; replace hk := hk.trans hc sb_; replace HGD := hid (kept_heap hc HGD.out); replace HGF := hid (kept_heap hc HGF.out); clear hc; clear r0 r1 r2 q0 q1 q2; obtain ⟨r0, r1, r2, q0, q1, q2⟩ := cell3 (HBX.out _ hk); clear d0 d1 d2 x0 x1 x2 g0 g1 g2 y0 y1 y2; obtain ⟨d0, d1, d2, x0, x1, x2⟩ := cell3 HGD.out; obtain ⟨g0, g1, g2, y0, y1, y2⟩ := cell3 HGF.out))
      go_at_call 58
      refine (HTX.out _ (HE.out.kept (HC0.out.trans hk sb_))).mono ?_
      intro e w5 h
      obtain ⟨c', t, he, ht, hl, hcc, hc⟩ := h
      subst he
      obtain ⟨g, k, u, a1, a2, HAZ⟩ := HADX.out c' t ht hcc (hl HFN.out)
      have HPP := hid (HPF.out g k u c' t HNB.out ht hcc (hl HFN.out) a1 a2)
      have HAA := hid HAZ
      obtain ⟨nb, hnb⟩ : ∃ b, (g && (k : Int) != 0) = b := ⟨_, rfl⟩
      have HNB2 := hid hnb
      rw [hnb] at HAA
      clear ht hl hcc a1 a2 HAZ hnb d0 d1 d2 x0 x1 x2 g0 g1 g2 y0 y1 y2 r0 r1 r2 q0 q1 q2
      replace hk := hk.trans hc sb_
      have hgd := kept_heap hc HGD.out
      have hgf := kept_heap hc HGF.out
      have s1 := HS1.out
      have s2 := HS2.out
      simp only [World.alloc, Array.size_push] at s1 s2
      have n12 : w1.heap.size ≠ w2.heap.size := by omega
      have n21 : w2.heap.size ≠ w1.heap.size := by omega
      have hk5 := chg3 hk (z := w2.heap.size) (by simp only [World.alloc, Array.size_push]; omega) (.bool nf) (.int .i8 (t : Int)) (.int .u64 (c' : Int))
      have HGD5 := hid (fix_near (a := .bool nf) (b := .int .i8 (t : Int)) (c := .int .u64 (c' : Int)) hgd n12)
      have HGF5 := hid (store3 hgf (.bool nf) (.int .i8 (t : Int)) (.int .u64 (c' : Int)))
      obtain ⟨d0, d1, d2, x0, x1, x2⟩ := cell3 HGD5.out
      obtain ⟨g0, g1, g2, y0, y1, y2⟩ := cell3 HGF5.out
      obtain ⟨_, _, _, o0, o1, o2⟩ := cell3 hgf
      have HN12 := hid n12
      have HSX := hid (show (w.alloc (.cells #[.bool false, .int .i8 0, .int .u64 0] 54)).heap.size ≤ w1.heap.size by simp only [World.alloc, Array.size_push]; omega)
      clear s1 s2 hgd hgf hc
      go_wp2_with fail
      go_at_call 52
      refine (HAA.out _ (HE.out.kept (HC0.out.trans hk5 sb_))).mono ?_
      intro e w6 h
      obtain ⟨he, hc⟩ := h
      subst he
      have hgd := kept_heap hc HGD5.out
      have hk6 := hk5.trans hc sb_
      clear hk hk5 d0 d1 d2 x0 x1 x2 g0 g1 g2 y0 y1 y2 o0 o1 o2
      have hk := chg3 hk6 (z := w1.heap.size) HSX.out (.bool nb) (.int .i8 (u : Int)) (.int .u64 (k : Int))
      obtain ⟨d0, d1, d2, x0, x1, x2⟩ := cell3 (store3 hgd (.bool nb) (.int .i8 (u : Int)) (.int .u64 (k : Int)))
      obtain ⟨_, _, _, o0, o1, o2⟩ := cell3 hgd
      obtain ⟨r0, r1, r2, q0, q1, q2⟩ := cell3 (HBX.out _ hk)
      go_wp2_with fail
      exact bodyPost_ret (v := .tuple #[.agg #[.bool nb, .int .i8 u, .int .u64 (k : Int)], .nilIface]) (dec_result rfl _ _ w.heap.size _ _ _ _ 54 rfl rfl (store3 (HBX.out _ hk) _ _ _)) rfl ⟨g, some (k, u), HPP.out, chg3 (HC0.out.trans hk sb_) (Nat.le_refl _) _ _ _, by show _ = Ending.returned (.tuple #[decV (g && (k : Int) != 0) k u, .nilIface]); rw [HNB2.out]; rfl⟩
   ·have HPP : Hid (PFI W F s false none) := hid (HPN.out (HIN.out.2 (.inr (.inr hb))))
    rw [decide_eq_false hb] at HWO
    clear hF hsg hb HADD HIN HPF HPN HTR HW0
    generalize decide (W < 0) = nw at *
    generalize decide (F < 0) = nf at *
    generalize (F.natAbs : Int) = cf at *
    generalize (W.natAbs : Int) = cw at *
    rcases hor with hor | ⟨hor, hne⟩
    ·subst hor
     go_enter Tryz.func30, Tryz.ntmps30
     go_upto_region 8 with (first | (go_at_call_of 53 (Value.int .i64 W); refine (HN0.out _).mono ?_; intro e w1 h; obtain ⟨he, hc⟩ := h; subst he; replace hk := (hk.trans hc sb_).alloc (.cells #[.bool nw, .int .i8 0, .int .u64 cw] 54); have HGD := hid (heap_alloc_new w1 (.cells #[.bool nw, .int .i8 0, .int .u64 cw] 54)); have HS1 := hid (show (w.alloc (.cells #[.bool false, .int .i8 0, .int .u64 0] 54)).heap.size ≤ w1.heap.size from hc.size); clear hc; clear r0 r1 r2 q0 q1 q2; obtain ⟨r0, r1, r2, q0, q1, q2⟩ := cell3 (HBX.out _ hk); obtain ⟨d0, d1, d2, x0, x1, x2⟩ := cell3 HGD.out) | (go_at_call 53; refine (HNF.out _).mono ?_; intro e w2 h; obtain ⟨he, hc⟩ := h; subst he; have HS2 := hid (show (w1.alloc (.cells #[.bool nw, .int .i8 0, .int .u64 cw] 54)).heap.size ≤ w2.heap.size from hc.size); replace hk := (hk.trans hc sb_).alloc (.cells #[.bool nf, .int .i8 s, .int .u64 cf] 54); replace HGD := hid (kept_heap (hc.alloc (.cells #[.bool nf, .int .i8 s, .int .u64 cf] 54)) HGD.out); have HGF := hid (heap_alloc_new w2 (.cells #[.bool nf, .int .i8 s, .int .u64 cf] 54)); clear hc; clear r0 r1 r2 q0 q1 q2; obtain ⟨r0, r1, r2, q0, q1, q2⟩ := cell3 (HBX.out _ hk); clear d0 d1 d2 x0 x1 x2; obtain ⟨d0, d1, d2, x0, x1, x2⟩ := cell3 HGD.out; obtain ⟨g0, g1, g2, y0, y1, y2⟩ := cell3 HGF.out) | (go_at_call 55; (first | refine (HZF.out _).mono ?_); intro e w3 h; obtain ⟨he, hc⟩ := h; subst he; replace hk := hk.trans hc sb_; replace HGD := hid (kept_heap hc HGD.out); replace HGF := hid (kept_heap hc HGF.out); clear hc; clear r0 r1 r2 q0 q1 q2; obtain ⟨r0, r1, r2, q0, q1, q2⟩ := cell3 (HBX.out _ hk); clear d0 d1 d2 x0 x1 x2 g0 g1 g2 y0 y1 y2; obtain ⟨d0, d1, d2, x0, x1, x2⟩ := cell3 HGD.out; obtain ⟨g0, g1, g2, y0, y1, y2⟩ := cell3 HGF.out))
     go_cut [42] (fun c wx => c = .bool false ∧ Chg (fun _ => False) w3 wx)
     case first =>
      clear hk r0 r1 r2 q0 q1 q2 HC0 HBX HPP HE
      have hk := (Chg.refl (fun _ => False) w3).drew
      clear d0 d1 d2 x0 x1 x2 g0 g1 g2 y0 y1 y2
      obtain ⟨d0, d1, d2, _, _, _⟩ := cell3 (kept_heap hk HGD.out)
      clear HGD HGF
      first | (go_region_with (go_at_call_of 55 (Value.agg #[Value.bool nw, Value.int .i8 0, Value.int .u64 cw]); refine (HZD.out _).mono ?_; intro e w4 h; obtain ⟨he, hc⟩ := h; subst he; replace hk := hk.trans hc sb_; clear hc)) | fail
      all_goals (go_wp2_with fail; go_meet; exact ⟨rfl, hk⟩)
     case rest =>
      obtain ⟨hv, hc⟩ := hcut
      subst hv
      replace hk := hk.trans hc sb_
      replace HGD := hid (kept_heap hc HGD.out)
      replace HGF := hid (kept_heap hc HGF.out)
      clear hc
      clear r0 r1 r2 q0 q1 q2; obtain ⟨r0, r1, r2, q0, q1, q2⟩ := cell3 (HBX.out _ hk)
      clear d0 d1 d2 x0 x1 x2 g0 g1 g2 y0 y1 y2
      obtain ⟨d0, d1, d2, x0, x1, x2⟩ := cell3 HGD.out; obtain ⟨g0, g1, g2, y0, y1, y2⟩ := cell3 HGF.out
      go_wp2_with (first | (go_at_call 57; (first | refine (HWO.out _ (HE.out.kept (HC0.out.trans hk sb_))).mono ?_); intro e w3 h; obtain ⟨he, hc⟩ := h; subst he; replace hk := hk.trans hc sb_; replace HGD := hid (kept_heap hc HGD.out); replace HGF := hid (kept_heap hc HGF.out); clear hc; clear r0 r1 r2 q0 q1 q2; obtain ⟨r0, r1, r2, q0, q1, q2⟩ := cell3 (HBX.out _ hk); clear d0 d1 d2 x0 x1 x2 g0 g1 g2 y0 y1 y2; obtain ⟨d0, d1, d2, x0, x1, x2⟩ := cell3 HGD.out; obtain ⟨g0, g1, g2, y0, y1, y2⟩ := cell3 HGF.out) | (go_at_call 54; refine (errorsNew_any _ _).mono ?_; intro e w4 h; obtain ⟨⟨tv, vv, he1⟩, hc⟩ := h; subst he1; replace hk := hk.trans hc sb_; clear hc; clear r0 r1 r2 q0 q1 q2; obtain ⟨r0, r1, r2, q0, q1, q2⟩ := cell3 (HBX.out _ hk)))
      exact bodyPost_ret (v := .tuple #[.agg #[.bool false, .int .i8 0, .int .u64 0], .iface tv vv]) (dec_result rfl _ _ w.heap.size _ _ _ _ 54 rfl rfl (store3 (HBX.out _ hk) _ _ _)) rfl ⟨false, none, HPP.out, chg3 (HC0.out.trans hk sb_) (Nat.le_refl _) _ _ _, tv, vv, rfl⟩
    ·subst hor
     go_enter Tryz.func30, Tryz.ntmps30
     go_upto_region 8 with (first | (go_at_call_of 53 (Value.int .i64 W); refine (HN0.out _).mono ?_; intro e w1 h; obtain ⟨he, hc⟩ := h; subst he; replace hk := (hk.trans hc sb_).alloc (.cells #[.bool nw, .int .i8 0, .int .u64 cw] 54); have HGD := hid (heap_alloc_new w1 (.cells #[.bool nw, .int .i8 0, .int .u64 cw] 54)); have HS1 := hid (show (w.alloc (.cells #[.bool false, .int .i8 0, .int .u64 0] 54)).heap.size ≤ w1.heap.size from hc.size); clear hc; clear r0 r1 r2 q0 q1 q2; obtain ⟨r0, r1, r2, q0, q1, q2⟩ := cell3 (HBX.out _ hk); obtain ⟨d0, d1, d2, x0, x1, x2⟩ := cell3 HGD.out) | (go_at_call 53; refine (HNF.out _).mono ?_; intro e w2 h; obtain ⟨he, hc⟩ := h; subst he; have HS2 := hid (show (w1.alloc (.cells #[.bool nw, .int .i8 0, .int .u64 cw] 54)).heap.size ≤ w2.heap.size from hc.size); replace hk := (hk.trans hc sb_).alloc (.cells #[.bool nf, .int .i8 s, .int .u64 cf] 54); replace HGD := hid (kept_heap (hc.alloc (.cells #[.bool nf, .int .i8 s, .int .u64 cf] 54)) HGD.out); have HGF := hid (heap_alloc_new w2 (.cells #[.bool nf, .int .i8 s, .int .u64 cf] 54)); clear hc; clear r0 r1 r2 q0 q1 q2; obtain ⟨r0, r1, r2, q0, q1, q2⟩ := cell3 (HBX.out _ hk); clear d0 d1 d2 x0 x1 x2; obtain ⟨d0, d1, d2, x0, x1, x2⟩ := cell3 HGD.out; obtain ⟨g0, g1, g2, y0, y1, y2⟩ := cell3 HGF.out) | (go_at_call 55; (first | refine (HZF.out _).mono ?_); intro e w3 h; obtain ⟨he, hc⟩ := h; subst he; replace hk := hk.trans hc sb_; replace HGD := hid (kept_heap hc HGD.out); replace HGF := hid (kept_heap hc HGF.out); clear hc; clear r0 r1 r2 q0 q1 q2; obtain ⟨r0, r1, r2, q0, q1, q2⟩ := cell3 (HBX.out _ hk); clear d0 d1 d2 x0 x1 x2 g0 g1 g2 y0 y1 y2; obtain ⟨d0, d1, d2, x0, x1, x2⟩ := cell3 HGD.out; obtain ⟨g0, g1, g2, y0, y1, y2⟩ := cell3 HGF.out))
     go_cut [42] (fun c wx => c = .bool false ∧ Chg (fun _ => False) w3 wx)
     case first =>
      clear hk r0 r1 r2 q0 q1 q2 HC0 HBX HPP HE
      have hk := (Chg.refl (fun _ => False) w3).drew
      clear d0 d1 d2 x0 x1 x2 g0 g1 g2 y0 y1 y2
      have HS8 := hid (fun w4 (h : Chg (fun _ => False) w3 w4) => And.intro (cell3 (kept_heap h HGD.out)).1 (And.intro (cell3 (kept_heap h HGD.out)).2.1 (And.intro (cell3 (kept_heap h HGD.out)).2.2.1 (And.intro (cell3 (kept_heap h HGF.out)).1 (And.intro (cell3 (kept_heap h HGF.out)).2.1 (cell3 (kept_heap h HGF.out)).2.2.1)))))
      clear HGD HGF
      first | (go_region_held3 (fun w' => w'.cell? ⟨w1.heap.size, 0, none⟩ = some (.bool nw) ∧ w'.cell? ⟨w1.heap.size, 1, none⟩ = some (.int .i8 0) ∧ w'.cell? ⟨w1.heap.size, 2, none⟩ = some (.int .u64 cw) ∧ w'.cell? ⟨w2.heap.size, 0, none⟩ = some (.bool nf) ∧ w'.cell? ⟨w2.heap.size, 1, none⟩ = some (.int .i8 s) ∧ w'.cell? ⟨w2.heap.size, 2, none⟩ = some (.int .u64 cf)) (first | with_reducible exact HS8.out _ hk) (first | (go_at_call_of 55 (Value.agg #[Value.bool nw, Value.int .i8 0, Value.int .u64 cw]); refine (HZD.out _).mono ?_; intro e w4 h; obtain ⟨he, hc⟩ := h; subst he; replace hk := hk.trans hc sb_; clear hc) | (go_at_call_of 56 (Value.agg #[Value.bool nw, Value.int .i8 0, Value.int .u64 cw]); refine (HSD.out _).mono ?_; intro e w4 h; obtain ⟨he, hc⟩ := h; subst he; replace hk := hk.trans hc sb_; clear hc) | (go_at_call_of 56 (Value.agg #[Value.bool nf, Value.int .i8 s, Value.int .u64 cf]); refine (HSF.out _).mono ?_; intro e w4 h; obtain ⟨he, hc⟩ := h; subst he; replace hk := hk.trans hc sb_; clear hc))) | fail
      all_goals (go_wp2_with fail; go_meet; exact ⟨rfl, hk⟩)
     case rest =>
      obtain ⟨hv, hc⟩ := hcut
      subst hv
      replace hk := hk.trans hc sb_
      replace HGD := hid (kept_heap hc HGD.out)
      replace HGF := hid (kept_heap hc HGF.out)
      clear hc
      clear r0 r1 r2 q0 q1 q2; obtain ⟨r0, r1, r2, q0, q1, q2⟩ := cell3 (HBX.out _ hk)
      clear d0 d1 d2 x0 x1 x2 g0 g1 g2 y0 y1 y2
      obtain ⟨d0, d1, d2, x0, x1, x2⟩ := cell3 HGD.out; obtain ⟨g0, g1, g2, y0, y1, y2⟩ := cell3 HGF.out
      go_wp2_with (first | (go_at_call 57; (first | refine (HWO.out _ (HE.out.kept (HC0.out.trans hk sb_))).mono ?_); intro e w3 h; obtain ⟨he, hc⟩ := h; subst he; replace hk := hk.trans hc sb_; replace HGD := hid (kept_heap hc HGD.out); replace HGF := hid (kept_heap hc HGF.out); clear hc; clear r0 r1 r2 q0 q1 q2; obtain ⟨r0, r1, r2, q0, q1, q2⟩ := cell3 (HBX.out _ hk); clear d0 d1 d2 x0 x1 x2 g0 g1 g2 y0 y1 y2; obtain ⟨d0, d1, d2, x0, x1, x2⟩ := cell3 HGD.out; obtain ⟨g0, g1, g2, y0, y1, y2⟩ := cell3 HGF.out) | (go_at_call 54; refine (errorsNew_any _ _).mono ?_; intro e w4 h; obtain ⟨⟨tv, vv, he1⟩, hc⟩ := h; subst he1; replace hk := hk.trans hc sb_; clear hc; clear r0 r1 r2 q0 q1 q2; obtain ⟨r0, r1, r2, q0, q1, q2⟩ := cell3 (HBX.out _ hk)))
      exact bodyPost_ret (v := .tuple #[.agg #[.bool false, .int .i8 0, .int .u64 0], .iface tv vv]) (dec_result rfl _ _ w.heap.size _ _ _ _ 54 rfl rfl (store3 (HBX.out _ hk) _ _ _)) rfl ⟨false, none, HPP.out, chg3 (HC0.out.trans hk sb_) (Nat.le_refl _) _ _ _, tv, vv, rfl⟩
theorem NewFromInt64_any (W F s : Int) (hW0 : -9223372036854775808 ≤ W) (hW1 : W < 9223372036854775808) (hF0 : -9223372036854775808 ≤ F) (hF1 : F < 9223372036854775808) (w : World) (he : EnvD w) (hes : EnvS w) :
  Calls Tryz.prog 30 #[.int .i64 W, .int .i64 F, .int .i64 s] w (PX (PFI W F s) w) := by
 by_cases hs : s < 0 ∨ 19 < s
 ·exact (nfi_scale W F s hs hW0 hW1 hF0 hF1 w hes).mono (fun e w' h => ⟨false, none, .inl ⟨hs.elim .inl (fun h => .inr (.inl h)), rfl⟩, h.2, by obtain ⟨t, v, h⟩ := h.1; exact ⟨t, v, h⟩⟩)
 ·obtain ⟨n, rfl⟩ : ∃ n : Nat, s = (n : Int) := ⟨s.toNat, by omega⟩
  exact nfi_in W F n (by omega) hW0 hW1 hF0 hF1 w he
theorem fxFI_idle (p q : Addr) (w : World) : CallsD Tryz.prog 29 #[.pointer (some p), .pointer (some q)] .returning w fun e u' w' => e = .returned (.tuple #[]) ∧ u' = .returning ∧ w' = w := by
 refine callsD_of_wpS Tryz.func29 rfl fun c₀ cs hu => ?_
 apply wpS_seq
 apply wpS_region
 simp [wpOpsS, go_sem, recoverD, hu, Tryz.ntmps29, Exit.thenS]
 refine wpS_cond (t := false) (by simp [Act.eval, Array.replicate]) ?_
 simp only [Bool.false_eq_true, if_false]
 refine wpS_of_wp (wp_skip ?_)
 cases c₀
 simp_all [bodyPostS, results, Tryz.results29]
theorem PFI_places {W F s : Int} {g : Bool} {k t : Nat} (h : PFI W F s g (some (k, t))) : t ≤ 19 := by
 rcases h with ⟨_, h⟩ | ⟨_, c, u, _, _, _, _, h⟩
 ·cases h
 ·exact (from19_bd (by omega) h.symm).1
set_option maxHeartbeats 8000000 in
theorem fxFI_any (W F s : Int) (hW0 : -9223372036854775808 ≤ W) (hW1 : W < 9223372036854775808) (hF0 : -9223372036854775808 ≤ F) (hF1 : F < 9223372036854775808) (w : World) (he : EnvD w) (hes : EnvS w) :
  Calls Tryz.prog 11 #[.int .i64 W, .int .i64 F, .int .i64 s] w (PO (PFI W F s) w) := by
 have HSX := hid (fun w1 he hes => NewFromInt64_any W F s hW0 hW1 hF0 hF1 w1 he hes)
 have HE := hid he
 have HES := hid hes
 have HPB := hid (fun g k t h => @PFI_places W F s g k t h)
 clear hW0 hW1 hF0 hF1 he hes
 obtain ⟨HC0, HD, hB0, hB1⟩ := box2 w #[.bool false, .int .u64 0, .int .i64 0] 24 #[.int .i64 0] 3
 have HB2 := hid hB0
 have HB3 := hid hB1
 have hk := Chg.refl (fun _ => False) ((w.alloc (.cells #[.bool false, .int .u64 0, .int .i64 0] 24)).alloc (.cells #[.int .i64 0] 3))
 clear hB0 hB1 HD
 have hmf : ∀ (fn : Fn) (first cap : Array Value) (w : World), (Instr.makeFunc fn first cap).run Tryz.prog w = .ok (.func fn first cap) w := fun _ _ _ _ => rfl
 go_enter_defers Tryz.func11, Tryz.ntmps11
 go_wp2_with fail
 go_at_call 30
 refine (HSX.out _ (HE.out.kept (HC0.out.trans hk sb_)) (HES.out.kept (HC0.out.trans hk sb_))).mono ?_
 intro e w4 h
 obtain ⟨sg, o, hp, hc, ho⟩ := h
 have HPP := hid hp
 clear hp
 cases o with
 | none =>
  obtain ⟨t3, v3, he⟩ := ho
  have he2 : e = .returned (.tuple #[.agg #[.bool false, .int .i8 0, .int .u64 0], .iface t3 v3]) := he
  clear he
  subst he2
  replace hk := (hk.trans hc sb_).alloc (.cells #[.bool false, .int .i8 0, .int .u64 0] 54)
  clear hc
  obtain ⟨r0, r1, r2, q0, q1, q2⟩ := cell3 (kept_heap hk HB2.out)
  obtain ⟨i0, i1⟩ := cell1 (kept_heap hk HB3.out)
  go_wp2_with fail
  refine leaves_cons (f := 29) (args := #[.pointer (some ⟨w.heap.size, 0, none⟩), .pointer (some ⟨w.heap.size + 1, 0, none⟩)]) (by simp) (by simp [go_sem]) ?_
  refine (fxFI_idle _ _ _).mono ?_
  rintro e u' w'' ⟨rfl, rfl, rfl⟩
  exact ⟨.tuple #[.agg #[.bool false, .int .u64 0, .int .i64 0], .int .i64 1], fix_result rfl _ _ w.heap.size (w.heap.size + 1) _ _ _ _ _ _ rfl rfl (fix_far (store3 (kept_heap hk HB2.out) _ _ _) (by omega)) (int_set (fix_near (kept_heap hk HB3.out) (by omega))), ⟨sg, none, HPP.out, rfl, fix_chg (HC0.out.trans hk sb_) (by omega) (by omega)⟩⟩
 | some kt =>
  obtain ⟨k, t⟩ := kt
  have ht := HPB.out _ _ _ HPP.out
  have HFX := hid (fun w => fix_any (sg && (k : Int) != 0) (k : Int) t ht w)
  have he2 : e = .returned (.tuple #[.agg #[.bool (sg && (k : Int) != 0), .int .i8 t, .int .u64 (k : Int)], .nilIface]) := ho
  clear ho ht
  obtain ⟨nb, hnb⟩ : ∃ b, (sg && (k : Int) != 0) = b := ⟨_, rfl⟩
  have HNB := hid hnb
  obtain ⟨K, hK⟩ : ∃ v : Int, (k : Int) = v := ⟨_, rfl⟩
  have HK := hid hK
  rw [hnb, hK] at he2 HFX
  subst he2
  clear hnb hK
  replace hk := (hk.trans hc sb_).alloc (.cells #[.bool nb, .int .i8 t, .int .u64 K] 54)
  clear hc
  go_wp2_with (go_at_call 23; refine (HFX.out _).mono ?_; intro e w5 h; obtain ⟨he, hc⟩ := h; subst he; replace hk := hk.trans hc sb_; clear hc; obtain ⟨r0, r1, r2, q0, q1, q2⟩ := cell3 (kept_heap hk HB2.out); obtain ⟨i0, i1⟩ := cell1 (kept_heap hk HB3.out))
  refine leaves_cons (f := 29) (args := #[.pointer (some ⟨w.heap.size, 0, none⟩), .pointer (some ⟨w.heap.size + 1, 0, none⟩)]) (by simp) (by simp [go_sem]) ?_
  refine (fxFI_idle _ _ _).mono ?_
  rintro e u' w'' ⟨rfl, rfl, rfl⟩
  exact ⟨.tuple #[.agg #[.bool nb, .int .u64 K, .int .i64 t], .int .i64 0], fix_result rfl _ _ w.heap.size (w.heap.size + 1) _ _ _ _ _ _ rfl rfl (fix_far (store3 (kept_heap hk HB2.out) _ _ _) (by omega)) (int_set (fix_near (kept_heap hk HB3.out) (by omega))), ⟨sg, some (k, t), HPP.out, by rw [← HNB.out, ← HK.out]; rfl, fix_chg (HC0.out.trans hk sb_) (by omega) (by omega)⟩⟩
theorem WholeOf_nat {w : World} (a : Nat) (v : Int) (hv : (a : Int) = v) (ha : v < 9223372036854775808) :
  Calls Tryz.prog 12 #[.int .i64 v] w (PWN w false a) := by
 have HN := hid (fun w1 => NatFrom_any (w := w1) a (by omega))
 have hw : IntKind.u64.wrap v = v := u64_in (by omega) (by omega)
 have h0 : ¬ v < 0 := by omega
 have HZ := hid (heap_alloc_new w (.cells #[.bool false, .slice none 0 0] 32))
 have HC0 := hid ((Chg.refl (fun _ => False) w).alloc (.cells #[.bool false, .slice none 0 0] 32))
 rw [hv] at HN
 clear ha hv
 go_enter Tryz.func12, Tryz.ntmps12
 go_wp2_with (go_at_call 31; refine (HN.out _).mono ?_; intro e w1 h; obtain ⟨E1, n1, c1, he, hs, hc⟩ := h; subst he; have HS := hid hs; have hk := hc; clear hc hs; obtain ⟨k0, k1, f0, f1⟩ := cell2 (kept_heap hk HZ.out))
 refine bodyPost_ret (v := .agg #[.bool false, .slice E1 n1 c1]) (by rw [results_cell_row rfl _ _ w.heap.size _ _ _ _ rfl (store2 (kept_heap hk HZ.out) _ _) Tryz.underlying32 rfl whole_size]) rfl ⟨E1, n1, c1, rfl, sn_end2 HS.out (kept_heap hk HZ.out) _ _, chg2 (HC0.out.trans hk sb_) (Nat.le_refl _) _ _⟩
end Go.Proofs.YthdkandofddohaaGreatDoor
namespace Go.Proofs.YthdkandofddohaaGreatDoor
open Go.RowKit
set_option linter.unusedVariables false
set_option linter.unusedSimpArgs false
set_option maxRecDepth 20000
set_option exponentiation.threshold 4000
theorem WholeOf_neg {w : World} (a : Nat) (v : Int) (hv : (a : Int) = -v) (h0 : v < 0) (h1 : -9223372036854775808 ≤ v) :
  Calls Tryz.prog 12 #[.int .i64 v] w (PWN w true a) := by
 have HN := hid (fun w1 => NatFrom_any (w := w1) a (by omega))
 have hw1 : IntKind.i64.wrap (v + 1) = v + 1 := IntWalk.i64_in _ (by omega)
 have hw2 : IntKind.i64.wrap (-(v + 1)) = -(v + 1) := IntWalk.i64_in _ (by omega)
 have hw3 : IntKind.u64.wrap (-(v + 1)) = -(v + 1) := u64_in (by omega) (by omega)
 have hw4 : IntKind.u64.wrap (-(v + 1) + 1) = (a : Int) := by rw [show -(v + 1) + 1 = (a : Int) by omega]; exact u64_in (by omega) (by omega)
 have HZ := hid (heap_alloc_new w (.cells #[.bool false, .slice none 0 0] 32))
 have HC0 := hid ((Chg.refl (fun _ => False) w).alloc (.cells #[.bool false, .slice none 0 0] 32))
 clear hv h1
 go_enter Tryz.func12, Tryz.ntmps12
 go_wp2_with (go_at_call 31; refine (HN.out _).mono ?_; intro e w1 h; obtain ⟨E1, n1, c1, he, hs, hc⟩ := h; subst he; have HS := hid hs; have hk := hc; clear hc hs; obtain ⟨k0, k1, f0, f1⟩ := cell2 (kept_heap hk HZ.out))
 refine bodyPost_ret (v := .agg #[.bool true, .slice E1 n1 c1]) (by rw [results_cell_row rfl _ _ w.heap.size _ _ _ _ rfl (store2 (kept_heap hk HZ.out) _ _) Tryz.underlying32 rfl whole_size]) rfl ⟨E1, n1, c1, rfl, sn_end2 HS.out (kept_heap hk HZ.out) _ _, chg2 (HC0.out.trans hk sb_) (Nat.le_refl _) _ _⟩
theorem WholeOf_int {w : World} (v : Int) (h0 : -9223372036854775808 ≤ v) (h1 : v < 9223372036854775808) :
  Calls Tryz.prog 12 #[.int .i64 v] w (PWN w (decide (v < 0)) v.natAbs) := by
 by_cases hp : v < 0
 ·rw [decide_eq_true hp]
  exact WholeOf_neg v.natAbs v (by omega) hp h0
 ·rw [decide_eq_false hp]
  exact WholeOf_nat v.natAbs v (by omega) h1
end Go.Proofs.YthdkandofddohaaGreatDoor
namespace Go.Proofs.YthdkandofddohaaGreatDoor
open Go.RowKit
set_option linter.unusedVariables false
set_option linter.unusedSimpArgs false
set_option maxRecDepth 20000
set_option maxHeartbeats 4000000 in
theorem lawFI_bad (W F s : Int) (hW0 : -9223372036854775808 ≤ W) (hW1 : W < 9223372036854775808) (hF0 : -9223372036854775808 ≤ F) (hF1 : F < 9223372036854775808) (hb : s < 0 ∨ 19 < s ∨ (0 < W ∧ F < 0) ∨ (W < 0 ∧ 0 < F)) (w : World) (he : EnvD w) (hes : EnvS w) :
  Calls Tryz.prog 4 #[.int .i64 W, .int .i64 F, .int .i64 s] w (PV w (.bool true)) := by
 have HFI : Hid (Calls Tryz.prog 11 #[.int .i64 W, .int .i64 F, .int .i64 s] w (PV w (.tuple #[.agg #[.bool false, .int .u64 0, .int .i64 0], .int .i64 1]))) := hid ((fxFI_any W F s hW0 hW1 hF0 hF1 w he hes).mono (fun e w' h => by
  obtain ⟨sg, o, hp, he, hc⟩ := h
  rcases hp with ⟨_, ho⟩ | ⟨hn, _⟩
  ·subst ho; exact ⟨he, hc⟩
  ·exact absurd (hb.elim .inl (fun h => h.elim (fun h => .inr (.inl h)) (fun h => h.elim (fun h => .inr (.inr (.inl h))) (fun h => .inr (.inr (.inr (.inl h))))))) hn))
 have hcs : (s < 0) ∨ (¬ s < 0 ∧ 19 < s) ∨ (¬ s < 0 ∧ ¬ 19 < s ∧ 0 < W ∧ F < 0) ∨ (¬ s < 0 ∧ ¬ 19 < s ∧ ¬ 0 < W ∧ W < 0 ∧ 0 < F) := by omega
 clear hW0 hW1 hF0 hF1 he hes hb
 rcases hcs with h1 | ⟨h1, h2⟩ | ⟨h1, h2, h3, h4⟩ | ⟨h1, h2, h3, h4, h5⟩
 all_goals (
  go_enter Tryz.func4, Tryz.ntmps4
  go_wp2_with (go_at_call 11; refine HFI.out.mono ?_; intro e w1 h; obtain ⟨he, hc⟩ := h; subst he; have hk := hc.alloc (.cells #[.bool false, .int .u64 0, .int .i64 0] 24); clear hc)
  go_ret
  exact ⟨rfl, hk⟩)
set_option maxHeartbeats 8000000 in
theorem lawFI_far (W F : Int) (s : Nat) (hs : s ≤ 19) (hW0 : -9223372036854775808 ≤ W) (hW1 : W < 9223372036854775808) (hF0 : -9223372036854775808 ≤ F) (hF1 : F < 9223372036854775808) (g1 : ¬ (0 < W ∧ F < 0)) (g2 : ¬ (W < 0 ∧ 0 < F)) (hbig : 10 ^ s ≤ F.natAbs) (w : World) (he : EnvD w) (hes : EnvS w) :
  Calls Tryz.prog 4 #[.int .i64 W, .int .i64 F, .int .i64 s] w (PV w (.bool true)) := by
 have HFI : Hid (Calls Tryz.prog 11 #[.int .i64 W, .int .i64 F, .int .i64 s] w (PV w (.tuple #[.agg #[.bool false, .int .u64 0, .int .i64 0], .int .i64 1]))) := hid ((fxFI_any W F s hW0 hW1 hF0 hF1 w he hes).mono (fun e w' h => by
  obtain ⟨sg, o, hp, he, hc⟩ := h
  rcases hp with ⟨_, ho⟩ | ⟨hn, _⟩
  ·subst ho; exact ⟨he, hc⟩
  ·exact absurd (.inr (.inr (.inr (.inr (by rw [Int.toNat_natCast, ← pow_cast]; exact Int.ofNat_le.2 hbig))))) hn))
 have hcs : (0 < W ∧ ¬ F < 0 ∧ ¬ W < 0) ∨ (¬ 0 < W ∧ ¬ W < 0) ∨ (¬ 0 < W ∧ W < 0 ∧ ¬ 0 < F) := by omega
 have hs1 : ¬ (s : Int) < 0 := by omega
 have hs2 : ¬ (19 : Int) < (s : Int) := by omega
 have hF850 : F.natAbs < tn 850 := lt_tn (show F.natAbs < 10 ^ 19 by rw [show (10 : Nat) ^ 19 = 10000000000000000000 by decide]; omega) (by omega)
 have hP850 : (10 : Nat) ^ s < tn 850 := pow_tn (by omega)
 have h1850 : (1 : Nat) < tn 850 := lt_tn (j := 1) (by decide) (by omega)
 have hnf : (decide (F < 0) && F.natAbs != 0) = decide (F < 0) := by by_cases h : F < 0 <;> simp [h]; omega
 have HWF := hid (fun w1 => WholeOf_int (w := w1) F hF0 hF1)
 have HW1 := hid (fun w1 => WholeOf_nat (w := w1) 1 1 rfl (by omega))
 have HFP := hid (fun (w1 : World) (E : Option Addr) (k l : Nat) (h : SN w1 E k l F.natAbs) => DecFrac_any (decide (F < 0)) (-(s : Int)) s h (up_tn hF850 (by omega)) (by omega) hnf rfl)
 have HF1 := hid (fun (w1 : World) (E : Option Addr) (k l : Nat) (h : SN w1 E k l 1) => DecFrac_zero false h (up_tn h1850 (by omega)) rfl)
 have HCM := hid (fun (w1 : World) (E : Option Addr) (k l : Nat) (G : Option Addr) (i j : Nat) (E2 : Option Addr) (k2 l2 : Nat) (G2 : Option Addr) (i2 j2 : Nat) (q1 : SN w1 E k l F.natAbs) (q2 : SN w1 G i j (10 ^ s)) (q3 : SN w1 E2 k2 l2 1) (q4 : SN w1 G2 i2 j2 1) => FracCmp_ex false false q1 q2 q3 q4 hF850 h1850 hP850 h1850)
 have hcv : cmpW (false && F.natAbs * 1 != 0) (F.natAbs * 1) (false && 1 * 10 ^ s != 0) (1 * 10 ^ s) = cmpN F.natAbs (10 ^ s) := by rw [Nat.mul_one, Nat.one_mul]; rfl
 rw [hcv] at HCM
 have hge : (0 : Int) ≤ cmpN F.natAbs (10 ^ s) := by unfold cmpN; rw [if_neg (by omega)]; split <;> omega
 generalize cmpN F.natAbs (10 ^ s) = cv at *
 obtain ⟨nF, hnF⟩ : ∃ b, decide (F < 0) = b := ⟨_, rfl⟩
 obtain ⟨aF, haF⟩ : ∃ a, F.natAbs = a := ⟨_, rfl⟩
 obtain ⟨e0, he0⟩ : ∃ v : Int, -(s : Int) = v := ⟨_, rfl⟩
 rw [hnF, haF] at HWF HFP
 rw [haF] at HCM
 have hw0 : IntKind.i64.wrap (-(s : Int)) = e0 := (IntWalk.i64_in _ (by omega)).trans he0
 rw [he0] at HFP
 generalize 10 ^ s = T at *
 obtain ⟨S, hS⟩ : ∃ v : Int, (s : Int) = v := ⟨_, rfl⟩
 rw [hS] at HFI hs1 hs2 hw0
 rw [hS]
 clear hW0 hW1 hF0 hF1 he hes hbig g1 g2 hs hF850 hP850 h1850 hnf hcv hnF haF he0 hS
 rcases hcs with ⟨h1, h2, h3⟩ | ⟨h1, h2⟩ | ⟨h1, h2, h3⟩
 all_goals (
  go_enter Tryz.func4, Tryz.ntmps4
  go_wp2_with (first | (go_at_call 11; refine HFI.out.mono ?_; intro e w1 h; obtain ⟨he, hc⟩ := h; subst he; have HDB := hid (heap_alloc_new w1 (.cells #[.bool false, .int .u64 0, .int .i64 0] 24)); have hk := hc.alloc (.cells #[.bool false, .int .u64 0, .int .i64 0] 24); clear hc; obtain ⟨dd0, dd1, dd2, _, _, _⟩ := cell3 HDB.out) | (go_at_call_of 12 (Value.int .i64 F); refine (HWF.out _).mono ?_; intro e w2 h; obtain ⟨E1, k1_, l1_, he, hs, hc⟩ := h; subst he; have HNF := hid (hs.kept ((Chg.refl (fun _ => False) w2).alloc (.cells #[.bool nF, .slice E1 k1_ l1_, .int .i64 e0] 42))); have HPB := hid (heap_alloc_new w2 (.cells #[.bool nF, .slice E1 k1_ l1_, .int .i64 e0] 42)); replace hc := hc.alloc (.cells #[.bool nF, .slice E1 k1_ l1_, .int .i64 e0] 42); clear hs; replace hk := hk.trans hc sb_; (try replace HNF := hid (HNF.out.kept hc)); (try replace HA1 := hid (HA1.out.kept hc)); (try replace HA2 := hid (HA2.out.kept hc)); (try replace HB1 := hid (HB1.out.kept hc)); (try replace HB2 := hid (HB2.out.kept hc)); (try replace HC1 := hid (HC1.out.kept hc)); (try replace HC2 := hid (HC2.out.kept hc)); (try replace HNW := hid (HNW.out.kept hc)); (try replace HN1 := hid (HN1.out.kept hc)); (try replace HQ1 := hid (HQ1.out.kept hc)); (try replace HQ2 := hid (HQ2.out.kept hc)); (try replace HNQ := hid (HNQ.out.kept hc)); (try replace HDB := hid (kept_heap hc HDB.out)); clear hc; (try clear dd0 dd1 dd2); (try (have cc := cell3 HDB.out; obtain ⟨dd0, dd1, dd2, _, _, _⟩ := cc)); obtain ⟨pp0, pp1, pp2, _, _, _⟩ := cell3 HPB.out) | (go_at_call_of 13 (Value.agg #[Value.bool nF, Value.slice E1 k1_ l1_, Value.int .i64 e0]); refine (HFP.out _ _ _ _ HNF.out).mono ?_; intro e w3 h; obtain ⟨A1_1, A1_2, A1_3, A2_1, A2_2, A2_3, he, hq1, hq2, hc⟩ := h; subst he; replace hk := hk.trans hc sb_; (try replace HNF := hid (HNF.out.kept hc)); (try replace HA1 := hid (HA1.out.kept hc)); (try replace HA2 := hid (HA2.out.kept hc)); (try replace HB1 := hid (HB1.out.kept hc)); (try replace HB2 := hid (HB2.out.kept hc)); (try replace HC1 := hid (HC1.out.kept hc)); (try replace HC2 := hid (HC2.out.kept hc)); (try replace HNW := hid (HNW.out.kept hc)); (try replace HN1 := hid (HN1.out.kept hc)); (try replace HQ1 := hid (HQ1.out.kept hc)); (try replace HQ2 := hid (HQ2.out.kept hc)); (try replace HNQ := hid (HNQ.out.kept hc)); (try replace HDB := hid (kept_heap hc HDB.out)); (try replace HPB := hid (kept_heap hc HPB.out)); have HA1 := hid hq1; have HA2 := hid hq2; clear hq1 hq2; clear hc; (try clear dd0 dd1 dd2); (try (have cc := cell3 HDB.out; obtain ⟨dd0, dd1, dd2, _, _, _⟩ := cc)); (try clear pp0 pp1 pp2); (try (have cc := cell3 HPB.out; obtain ⟨pp0, pp1, pp2, _, _, _⟩ := cc))) | (go_at_call 14; refine (FracAbs_any _ _ _ _ _ _ _ _).mono ?_; intro e w3 h; obtain ⟨he, hc⟩ := h; subst he; replace hk := hk.trans hc sb_; (try replace HNF := hid (HNF.out.kept hc)); (try replace HA1 := hid (HA1.out.kept hc)); (try replace HA2 := hid (HA2.out.kept hc)); (try replace HB1 := hid (HB1.out.kept hc)); (try replace HB2 := hid (HB2.out.kept hc)); (try replace HC1 := hid (HC1.out.kept hc)); (try replace HC2 := hid (HC2.out.kept hc)); (try replace HNW := hid (HNW.out.kept hc)); (try replace HN1 := hid (HN1.out.kept hc)); (try replace HQ1 := hid (HQ1.out.kept hc)); (try replace HQ2 := hid (HQ2.out.kept hc)); (try replace HNQ := hid (HNQ.out.kept hc)); (try replace HDB := hid (kept_heap hc HDB.out)); (try replace HPB := hid (kept_heap hc HPB.out)); clear hc; (try clear dd0 dd1 dd2); (try (have cc := cell3 HDB.out; obtain ⟨dd0, dd1, dd2, _, _, _⟩ := cc)); (try clear pp0 pp1 pp2); (try (have cc := cell3 HPB.out; obtain ⟨pp0, pp1, pp2, _, _, _⟩ := cc))) | (go_at_call_of 12 (Value.int .i64 1); refine (HW1.out _).mono ?_; intro e w3 h; obtain ⟨F1, f1_, g1_, he, hs, hc⟩ := h; subst he; replace hk := hk.trans hc sb_; (try replace HNF := hid (HNF.out.kept hc)); (try replace HA1 := hid (HA1.out.kept hc)); (try replace HA2 := hid (HA2.out.kept hc)); (try replace HB1 := hid (HB1.out.kept hc)); (try replace HB2 := hid (HB2.out.kept hc)); (try replace HC1 := hid (HC1.out.kept hc)); (try replace HC2 := hid (HC2.out.kept hc)); (try replace HNW := hid (HNW.out.kept hc)); (try replace HN1 := hid (HN1.out.kept hc)); (try replace HQ1 := hid (HQ1.out.kept hc)); (try replace HQ2 := hid (HQ2.out.kept hc)); (try replace HNQ := hid (HNQ.out.kept hc)); (try replace HDB := hid (kept_heap hc HDB.out)); (try replace HPB := hid (kept_heap hc HPB.out)); have HN1 := hid hs; clear hs; clear hc; (try clear dd0 dd1 dd2); (try (have cc := cell3 HDB.out; obtain ⟨dd0, dd1, dd2, _, _, _⟩ := cc)); (try clear pp0 pp1 pp2); (try (have cc := cell3 HPB.out; obtain ⟨pp0, pp1, pp2, _, _, _⟩ := cc))) | (go_at_call_of 13 (Value.agg #[Value.bool false, Value.slice F1 f1_ g1_, Value.int .i64 0]); refine (HF1.out _ _ _ _ HN1.out).mono ?_; intro e w3 h; obtain ⟨B1_1, B1_2, B1_3, B2_1, B2_2, B2_3, he, hq1, hq2, hc⟩ := h; subst he; replace hk := hk.trans hc sb_; (try replace HNF := hid (HNF.out.kept hc)); (try replace HA1 := hid (HA1.out.kept hc)); (try replace HA2 := hid (HA2.out.kept hc)); (try replace HB1 := hid (HB1.out.kept hc)); (try replace HB2 := hid (HB2.out.kept hc)); (try replace HC1 := hid (HC1.out.kept hc)); (try replace HC2 := hid (HC2.out.kept hc)); (try replace HNW := hid (HNW.out.kept hc)); (try replace HN1 := hid (HN1.out.kept hc)); (try replace HQ1 := hid (HQ1.out.kept hc)); (try replace HQ2 := hid (HQ2.out.kept hc)); (try replace HNQ := hid (HNQ.out.kept hc)); (try replace HDB := hid (kept_heap hc HDB.out)); (try replace HPB := hid (kept_heap hc HPB.out)); have HB1 := hid hq1; have HB2 := hid hq2; clear hq1 hq2; clear hc; (try clear dd0 dd1 dd2); (try (have cc := cell3 HDB.out; obtain ⟨dd0, dd1, dd2, _, _, _⟩ := cc)); (try clear pp0 pp1 pp2); (try (have cc := cell3 HPB.out; obtain ⟨pp0, pp1, pp2, _, _, _⟩ := cc))) | (go_at_call 15; refine (HCM.out _ _ _ _ _ _ _ _ _ _ _ _ _ HA1.out HA2.out HB1.out HB2.out).mono ?_; intro e w3 h; obtain ⟨he, hc⟩ := h; subst he; replace hk := hk.trans hc sb_; (try replace HNF := hid (HNF.out.kept hc)); (try replace HA1 := hid (HA1.out.kept hc)); (try replace HA2 := hid (HA2.out.kept hc)); (try replace HB1 := hid (HB1.out.kept hc)); (try replace HB2 := hid (HB2.out.kept hc)); (try replace HC1 := hid (HC1.out.kept hc)); (try replace HC2 := hid (HC2.out.kept hc)); (try replace HNW := hid (HNW.out.kept hc)); (try replace HN1 := hid (HN1.out.kept hc)); (try replace HQ1 := hid (HQ1.out.kept hc)); (try replace HQ2 := hid (HQ2.out.kept hc)); (try replace HNQ := hid (HNQ.out.kept hc)); (try replace HDB := hid (kept_heap hc HDB.out)); (try replace HPB := hid (kept_heap hc HPB.out)); clear hc; (try clear dd0 dd1 dd2); (try (have cc := cell3 HDB.out; obtain ⟨dd0, dd1, dd2, _, _, _⟩ := cc)); (try clear pp0 pp1 pp2); (try (have cc := cell3 HPB.out; obtain ⟨pp0, pp1, pp2, _, _, _⟩ := cc))))
  go_ret
  exact ⟨rfl, hk⟩)
end Go.Proofs.YthdkandofddohaaGreatDoor
