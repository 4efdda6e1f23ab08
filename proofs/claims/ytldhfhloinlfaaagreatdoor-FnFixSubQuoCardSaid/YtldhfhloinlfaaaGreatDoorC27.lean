/- Part 27 of the proof. -/
import Derived.Test.YtldhfhloinlfaaaGreatDoorC23
namespace Go.Proofs.YtldhfhloinlfaaaGreatDoor
set_option linter.unusedVariables false
theorem rhe_near {N X C H : Nat} (hX : 0 < X) (hH : X ≤ H) (h1 : N * (2 * H) < C * X + X) (h2 : C * X < N * (2 * H) + X) : rhe N X = rhe C (2 * H) := by
 obtain ⟨q, hq⟩ : ∃ q, rhe C (2 * H) = q := ⟨_, rfl⟩
 obtain ⟨k1, k2, k3, k4⟩ := (rhe_iff (by omega)).1 hq
 rw [hq, rhe_iff hX]
 have e0 : 2 * H * q = H * (2 * q) := by rw [Nat.mul_comm 2 H, Nat.mul_assoc]
 rw [e0] at k1 k2 k3 k4
 have e1 : X * (H * (2 * q)) = H * (2 * (X * q)) := by rw [Nat.mul_left_comm, Nat.mul_left_comm X 2 q]
 have e2 : N * (2 * H) = H * (2 * N) := by rw [← Nat.mul_assoc, Nat.mul_comm N 2, Nat.mul_comm]
 rw [e2] at h1 h2
 generalize hP : H * (2 * q) = P at *
 have a1 : C * X ≤ (P + H) * X := Nat.mul_le_mul_right _ (by omega)
 have a2 : P * X ≤ (C + H) * X := Nat.mul_le_mul_right _ (by omega)
 rw [Nat.add_mul] at a1 a2
 have e3 : P * X = H * (2 * (X * q)) := by rw [Nat.mul_comm, e1]
 have e4 : H * X = X * H := Nat.mul_comm _ _
 refine ⟨?_, ?_, ?_, ?_⟩
 ·apply Nat.le_of_not_lt
  intro hlt
  have m1 : H * (2 * (X * q) + X + 1) ≤ H * (2 * N) := Nat.mul_le_mul_left _ (by omega)
  rw [Nat.mul_add, Nat.mul_add, Nat.mul_one] at m1
  omega
 ·apply Nat.le_of_not_lt
  intro hlt
  have m1 : H * (2 * N + X + 1) ≤ H * (2 * (X * q)) := Nat.mul_le_mul_left _ (by omega)
  rw [Nat.mul_add, Nat.mul_add, Nat.mul_one] at m1
  omega
 ·intro e
  have m1 : H * (2 * N) = H * (2 * (X * q) + X) := by rw [e]
  rw [Nat.mul_add] at m1
  have hd : P + H < C + 1 := by
   apply Nat.lt_of_mul_lt_mul_right (a := X)
   rw [Nat.add_mul, Nat.add_mul, Nat.one_mul]
   omega
  exact k3 (by omega)
 ·intro e
  have m1 : H * (2 * (X * q)) = H * (2 * N + X) := by rw [e]
  rw [Nat.mul_add] at m1
  have hd : C + H < P + 1 := by
   apply Nat.lt_of_mul_lt_mul_right (a := X)
   rw [Nat.add_mul, Nat.add_mul, Nat.one_mul]
   omega
  exact k4 (by omega)
theorem room_congr {E : Nat} {f g : Nat → Nat} : ∀ {k : Nat}, (∀ n, n ≤ k → f n = g n) → room E f k = room E g k
 | 0, h => by unfold room; rw [h 0 (Nat.le_refl _)]
 | k + 1, h => by unfold room; rw [h (k + 1) (Nat.le_refl _), room_congr (fun n hn => h n (by omega))]
end Go.Proofs.YtldhfhloinlfaaaGreatDoor
namespace Go.Proofs.YtldhfhloinlfaaaGreatDoor
set_option linter.unusedVariables false
set_option linter.unusedSimpArgs false
theorem sumS_z0 (p q : Bool) (A : Nat) : sumS p A q 0 = (p, A) := by
 unfold sumS
 split
 ·rfl
 ·rw [if_neg (by omega)]; rfl
theorem sumS_near {P Q A B X r T : Nat} (p q : Bool) (hT : 0 < T) (hA : A * T = P * X) (hB : B * T = Q * X + r) (hr : r < X) :
  (sumS p A q B).2 * T < (sumS p P q Q).2 * X + X ∧ (sumS p P q Q).2 * X < (sumS p A q B).2 * T + X ∧ ((sumS p A q B).1 = (sumS p P q Q).1 ∨ (sumS p P q Q).2 = 0) := by
 unfold sumS
 by_cases hpq : p = q
 ·rw [if_pos hpq, if_pos hpq]
  refine ⟨?_, ?_, .inl rfl⟩
  ·rw [Nat.add_mul, Nat.add_mul]; omega
  ·rw [Nat.add_mul, Nat.add_mul]; omega
 ·rw [if_neg hpq, if_neg hpq]
  by_cases hab : A < B
  ·have h1 : A * T < B * T := Nat.mul_lt_mul_of_pos_right hab hT
   have h2 : P < Q + 1 := by
    apply Nat.lt_of_mul_lt_mul_right (a := X)
    rw [Nat.add_mul, Nat.one_mul]; omega
   have h3 : P * X ≤ Q * X := Nat.mul_le_mul_right _ (by omega)
   rw [if_pos hab]
   by_cases hp : P < Q
   ·rw [if_pos hp]
    refine ⟨?_, ?_, .inl rfl⟩
    ·rw [Nat.sub_mul, Nat.sub_mul]; omega
    ·rw [Nat.sub_mul, Nat.sub_mul]; omega
   ·rw [if_neg hp]
    have e : P = Q := by omega
    subst e
    refine ⟨?_, ?_, .inr (by simp)⟩
    ·show (B - A) * T < (P - P) * X + X
     rw [Nat.sub_mul, Nat.sub_self, Nat.zero_mul]; omega
    ·show (P - P) * X < (B - A) * T + X
     rw [Nat.sub_self, Nat.zero_mul]; omega
  ·have h1 : B * T ≤ A * T := Nat.mul_le_mul_right _ (by omega)
   have h2 : ¬ P < Q := by
    intro h
    have := Nat.mul_le_mul_right X (Nat.succ_le_of_lt h)
    rw [Nat.succ_mul] at this
    have h3 : r + Q * X ≤ P * X := by omega
    omega
   have h3 : Q * X ≤ P * X := Nat.mul_le_mul_right _ (by omega)
   rw [if_neg hab, if_neg h2]
   refine ⟨?_, ?_, .inl rfl⟩
   ·rw [Nat.sub_mul, Nat.sub_mul]; omega
   ·rw [Nat.sub_mul, Nat.sub_mul]; omega
theorem near_rnd {a C M fc n : Nat} (hf : 0 < fc) (hf1 : fc < 10 ^ 19) (hM : M ≤ 19) (hn : n ≤ 19) (h1 : a * 10 ^ 41 < C * (10 ^ M * fc) + 10 ^ M * fc) (h2 : C * (10 ^ M * fc) < a * 10 ^ 41 + 10 ^ M * fc) :
  rhe (a * 10 ^ n) (10 ^ M * fc) = rnd C 41 n := by
 rw [rnd_cut (by omega)]
 have hp := pow10_pos
 have e41 : (10 : Nat) ^ (41 - n) = 2 * (5 * 10 ^ (40 - n)) := by
  rw [show 41 - n = (40 - n) + 1 by omega, Nat.pow_succ]
  omega
 rw [e41]
 by_cases hc : M ≤ n
 ·obtain ⟨j, rfl⟩ : ∃ j, n = M + j := ⟨n - M, by omega⟩
  have e1 : a * 10 ^ (M + j) = a * 10 ^ j * 10 ^ M := by rw [Nat.mul_assoc, ← Nat.pow_add, Nat.add_comm]
  rw [e1, Nat.mul_comm (10 ^ M) fc, rhe_scale hf (hp _)]
  have hH : fc ≤ 5 * 10 ^ (40 - (M + j)) := by
   have : (10 : Nat) ^ 19 ≤ 10 ^ (40 - (M + j)) := pow_le' (by omega)
   omega
  have e2 : a * 10 ^ 41 = a * 10 ^ j * (2 * (5 * 10 ^ (40 - (M + j)))) * 10 ^ M := by
   rw [← e41, Nat.mul_assoc, Nat.mul_assoc, ← Nat.pow_add, ← Nat.pow_add]; congr 2; omega
  have e3 : C * (10 ^ M * fc) = C * fc * 10 ^ M := by rw [Nat.mul_comm (10 ^ M), Nat.mul_assoc]
  rw [e2, e3, Nat.mul_comm (10 ^ M) fc] at h1 h2
  rw [← Nat.add_mul] at h1 h2
  exact rhe_near hf hH (Nat.lt_of_mul_lt_mul_right h1) (Nat.lt_of_mul_lt_mul_right h2)
 ·obtain ⟨j, hj⟩ : ∃ j, M = n + j := ⟨M - n, by omega⟩
  have e1 : 10 ^ M * fc = 10 ^ j * fc * 10 ^ n := by rw [hj, Nat.pow_add, Nat.mul_assoc, Nat.mul_comm]
  rw [e1] at h1 h2 ⊢
  rw [rhe_scale (Nat.mul_pos (hp _) hf) (hp _)]
  have hH : 10 ^ j * fc ≤ 5 * 10 ^ (40 - n) := by
   have h3 : 10 ^ j * fc ≤ 10 ^ j * 10 ^ 19 := Nat.mul_le_mul_left _ (Nat.le_of_lt hf1)
   have h4 : (10 : Nat) ^ j * 10 ^ 19 ≤ 10 ^ (40 - n) := by rw [← Nat.pow_add]; exact pow_le' (by omega)
   omega
  have e2 : a * 10 ^ 41 = a * (2 * (5 * 10 ^ (40 - n))) * 10 ^ n := by
   rw [← e41, Nat.mul_assoc, ← Nat.pow_add]; congr 2; omega
  rw [e2, ← Nat.mul_assoc C, ← Nat.add_mul] at h1 h2
  exact rhe_near (Nat.mul_pos (hp _) hf) hH (Nat.lt_of_mul_lt_mul_right h1) (Nat.lt_of_mul_lt_mul_right h2)
def aqD (d1 : Bool) (dc ds : Nat) (xn : Bool) (ec es fc fs : Nat) : Bool × Nat := sumS d1 (dc * 10 ^ (41 - ds)) xn (ec * 10 ^ (41 - es + fs) / fc)
def aqF (d1 : Bool) (dc ds : Nat) (xn : Bool) (ec es fc fs : Nat) : Bool × Nat := sumS d1 (dc * (10 ^ es * fc)) xn (ec * 10 ^ fs * 10 ^ ds)
theorem aq_law (d1 xn : Bool) {dc ec fc ds es fs : Nat} (hf : 0 < fc) (hf1 : fc < 10 ^ 19) (hds : ds ≤ 19) (hes : es ≤ 19) :
  (∀ n, n ≤ 19 → atP (aqF d1 dc ds xn ec es fc fs).2 (10 ^ ds * (10 ^ es * fc)) n = rnd (aqD d1 dc ds xn ec es fc fs).2 41 n) ∧ ((aqF d1 dc ds xn ec es fc fs).1 = (aqD d1 dc ds xn ec es fc fs).1 ∨ (aqD d1 dc ds xn ec es fc fs).2 = 0) ∧ ((aqF d1 dc ds xn ec es fc fs).2 = 0 → (aqD d1 dc ds xn ec es fc fs).2 = 0) := by
 have hp := pow10_pos
 obtain ⟨M, hM⟩ : ∃ M, mxp ds es = M := ⟨_, rfl⟩
 obtain ⟨m, hm⟩ : ∃ m, mnp ds es = m := ⟨_, rfl⟩
 have hmm := mxmn ds es
 have hl := mx_l ds es
 have hr := mx_r ds es
 have hM19 := mx_le hds hes
 rw [hM, hm] at hmm
 rw [hM] at hl hr hM19
 have eA : dc * (10 ^ es * fc) = dc * fc * 10 ^ (M - ds) * 10 ^ m := by
  rw [Nat.mul_assoc, ← Nat.pow_add, show M - ds + m = es by omega, Nat.mul_assoc, Nat.mul_comm fc]
 have eB : ec * 10 ^ fs * 10 ^ ds = ec * 10 ^ fs * 10 ^ (M - es) * 10 ^ m := by
  rw [Nat.mul_assoc (ec * 10 ^ fs) (10 ^ (M - es)), ← Nat.pow_add, show M - es + m = ds by omega]
 have eX : 10 ^ ds * (10 ^ es * fc) = 10 ^ M * fc * 10 ^ m := by
  rw [← Nat.mul_assoc, ← Nat.pow_add, ← hmm, Nat.pow_add, Nat.mul_assoc, Nat.mul_assoc, Nat.mul_comm fc]
 have hdm := Nat.div_add_mod (ec * 10 ^ (41 - es + fs)) fc
 have hml := Nat.mod_lt (ec * 10 ^ (41 - es + fs)) hf
 have n1 : dc * fc * 10 ^ (M - ds) * 10 ^ 41 = dc * 10 ^ (41 - ds) * (10 ^ M * fc) := by
  rw [Nat.mul_assoc (dc * fc), ← Nat.pow_add, show M - ds + 41 = 41 - ds + M by omega, Nat.pow_add]
  generalize 10 ^ (41 - ds) = u
  generalize 10 ^ M = v
  ac_rfl
 have n2 : ec * 10 ^ fs * 10 ^ (M - es) * 10 ^ 41 = ec * 10 ^ (41 - es + fs) / fc * (10 ^ M * fc) + ec * 10 ^ (41 - es + fs) % fc * 10 ^ M := by
  have e1 : ec * 10 ^ fs * 10 ^ (M - es) * 10 ^ 41 = ec * 10 ^ (41 - es + fs) * 10 ^ M := by
   rw [Nat.mul_assoc, Nat.mul_assoc, Nat.mul_assoc, ← Nat.pow_add, ← Nat.pow_add, ← Nat.pow_add]; congr 2; omega
  rw [e1]
  generalize ec * 10 ^ (41 - es + fs) = Y at *
  rw [Nat.mul_comm (10 ^ M) fc, ← Nat.mul_assoc, ← Nat.add_mul, Nat.mul_comm (Y / fc), hdm]
 have n3 : ec * 10 ^ (41 - es + fs) % fc * 10 ^ M < 10 ^ M * fc := by rw [Nat.mul_comm]; exact Nat.mul_lt_mul_of_pos_left hml (hp _)
 obtain ⟨k1, k2, k3⟩ := sumS_near d1 xn (show 0 < 10 ^ 41 from hp _) n1 n2 n3
 have eF : aqF d1 dc ds xn ec es fc fs = ((sumS d1 (dc * fc * 10 ^ (M - ds)) xn (ec * 10 ^ fs * 10 ^ (M - es))).1, (sumS d1 (dc * fc * 10 ^ (M - ds)) xn (ec * 10 ^ fs * 10 ^ (M - es))).2 * 10 ^ m) := by
  unfold aqF
  rw [eA, eB]
  exact sumS_scale _ _ _ _ _ (hp _)
 rw [eF, eX]
 refine ⟨fun n hn => ?_, k3, fun h => ?_⟩
 rotate_left
 ·have h0 : (sumS d1 (dc * fc * 10 ^ (M - ds)) xn (ec * 10 ^ fs * 10 ^ (M - es))).2 = 0 := by
   rcases Nat.mul_eq_zero.1 h with h | h
   ·exact h
   ·have := hp m; omega
  rw [h0, Nat.zero_mul, Nat.zero_add] at k2
  unfold aqD
  have k4 : (sumS d1 (dc * 10 ^ (41 - ds)) xn (ec * 10 ^ (41 - es + fs) / fc)).2 < 1 := by
   apply Nat.lt_of_mul_lt_mul_right (a := 10 ^ M * fc)
   rw [Nat.one_mul]; exact k2
  omega
 unfold atP aqD
 rw [Nat.mul_right_comm, rhe_scale (Nat.mul_pos (hp _) hf) (hp _)]
 exact near_rnd hf hf1 hM19 hn k1 k2
theorem aq_sign (d1 xn : Bool) (dc ds ec es fc fs : Nat) (hd : (d1 && dc != 0) = d1) (hf : 0 < fc) :
  sumS (d1 && dc * (10 ^ es * fc) != 0) (dc * (10 ^ es * fc)) ((xn && ec * 10 ^ fs != 0) && ec * 10 ^ fs * 10 ^ ds != 0) (ec * 10 ^ fs * 10 ^ ds) = aqF d1 dc ds xn ec es fc fs := by
 have hp := pow10_pos
 unfold aqF
 rw [bool_nz d1 dc _ (Nat.mul_pos (hp _) hf) hd]
 by_cases h : ec * 10 ^ fs = 0
 ·rw [h, Nat.zero_mul, sumS_z0, sumS_z0]
 ·have h2 : ec * 10 ^ fs * 10 ^ ds ≠ 0 := Nat.mul_ne_zero h (by have := hp ds; omega)
  rw [bne_iff_ne.2 h, bne_iff_ne.2 h2, Bool.and_true, Bool.and_true]
end Go.Proofs.YtldhfhloinlfaaaGreatDoor
