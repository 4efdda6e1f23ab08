/- Part 29 of the proof. -/
import Derived.Test.YtldhfhloinlfaaaGreatDoorC28
namespace Go.Proofs.YtldhfhloinlfaaaGreatDoor
set_option linter.unusedVariables false
set_option linter.unusedSimpArgs false
theorem aqf_law (dn xn : Bool) {dc ec fc ds es fs j z F Q Y T u v : Nat} (hf0 : 0 < fc) (hF : F * 10 ^ z = fc) (hQ : ec * 10 ^ j = Q * F) (hY : Y * 10 ^ u = Q * 10 ^ v) (hT : T + u + fs = es + j + z + v) (hds : ds ≤ T) :
  (∀ n, atP (aqF dn dc ds xn ec es fc fs).2 (10 ^ ds * (10 ^ es * fc)) n = rnd (sumS dn (dc * 10 ^ (T - ds)) xn Y).2 T n) ∧ (aqF dn dc ds xn ec es fc fs).1 = (sumS dn (dc * 10 ^ (T - ds)) xn Y).1 ∧ ((aqF dn dc ds xn ec es fc fs).2 = 0 → (sumS dn (dc * 10 ^ (T - ds)) xn Y).2 = 0) := by
 have hp := pow10_pos
 have hx : 0 < 10 ^ ds * (10 ^ es * fc) := Nat.mul_pos (hp _) (Nat.mul_pos (hp _) hf0)
 have eA : dc * (10 ^ es * fc) * 10 ^ T = dc * 10 ^ (T - ds) * (10 ^ ds * (10 ^ es * fc)) := by
  have e : 10 ^ T = 10 ^ (T - ds) * 10 ^ ds := by rw [← Nat.pow_add]; congr 1; omega
  rw [e]
  generalize 10 ^ (T - ds) = a
  generalize 10 ^ ds = b
  generalize 10 ^ es = c
  ac_rfl
 have eB : ec * 10 ^ fs * 10 ^ ds * 10 ^ T = Y * (10 ^ ds * (10 ^ es * fc)) := by
  apply Nat.eq_of_mul_eq_mul_right (hp u)
  have e : 10 ^ fs * 10 ^ T * 10 ^ u = 10 ^ j * (10 ^ es * 10 ^ z * 10 ^ v) := by rw [← Nat.pow_add, ← Nat.pow_add, ← Nat.pow_add, ← Nat.pow_add, ← Nat.pow_add]; congr 1; omega
  calc ec * 10 ^ fs * 10 ^ ds * 10 ^ T * 10 ^ u = ec * 10 ^ ds * (10 ^ fs * 10 ^ T * 10 ^ u) := by ac_rfl
   _ = ec * 10 ^ j * (10 ^ ds * (10 ^ es * 10 ^ z * 10 ^ v)) := by rw [e]; ac_rfl
   _ = Q * 10 ^ v * (10 ^ ds * (10 ^ es * (F * 10 ^ z))) := by rw [hQ]; ac_rfl
   _ = Y * (10 ^ ds * (10 ^ es * fc)) * 10 ^ u := by rw [← hY, hF]; ac_rfl
 have s1 := sumS_scale dn xn (dc * (10 ^ es * fc)) (ec * 10 ^ fs * 10 ^ ds) (10 ^ T) (hp _)
 rw [eA, eB, sumS_scale dn xn _ Y _ hx] at s1
 have k1 := congrArg Prod.fst s1
 have k2 := congrArg Prod.snd s1
 simp only at k1 k2
 change (sumS dn (dc * 10 ^ (T - ds)) xn Y).1 = (aqF dn dc ds xn ec es fc fs).1 at k1
 change (sumS dn (dc * 10 ^ (T - ds)) xn Y).2 * (10 ^ ds * (10 ^ es * fc)) = (aqF dn dc ds xn ec es fc fs).2 * 10 ^ T at k2
 refine ⟨fun n => ?_, k1.symm, fun h => ?_⟩
 ·unfold atP rnd
  refine rhe_cross hx (hp _) ?_
  rw [Nat.mul_right_comm, ← k2, Nat.mul_right_comm]
 ·rw [h, Nat.zero_mul] at k2
  rcases Nat.mul_eq_zero.1 k2 with h | h <;> omega
theorem good_aq_small (dn xn : Bool) {dc ec fc ds es fs j z F Q Y T u v m : Nat} (hm : m ≤ 19) (hf0 : 0 < fc) (hF : F * 10 ^ z = fc) (hQ : ec * 10 ^ j = Q * F) (hY : Y * 10 ^ u = Q * 10 ^ v) (hT : T + u + fs = es + j + z + v) (hds : ds ≤ T) :
  Good ((aqF dn dc ds xn ec es fc fs).1 && (aqF dn dc ds xn ec es fc fs).2 != 0) (aqF dn dc ds xn ec es fc fs).2 (10 ^ ds * (10 ^ es * fc)) m (sumS dn (dc * 10 ^ (T - ds)) xn Y).1 (from19 (10 ^ 19) 2 (sumS dn (dc * 10 ^ (T - ds)) xn Y).2 T m) := by
 obtain ⟨k1, k2, k3⟩ := aqf_law dn xn (dc := dc) hf0 hF hQ hY hT hds
 rw [k2]
 exact ⟨_, _, fun n _ => k1 n, nz_sign _ k3, TrimOf.same hm⟩
theorem good_aq_big (dn xn : Bool) {dc ec fc ds es fs m : Nat} (hm : m ≤ 19) (hf : 0 < fc) (hf1 : fc < 10 ^ 19) (hds : ds ≤ 19) (hes : es ≤ 19) :
  Good ((aqF dn dc ds xn ec es fc fs).1 && (aqF dn dc ds xn ec es fc fs).2 != 0) (aqF dn dc ds xn ec es fc fs).2 (10 ^ ds * (10 ^ es * fc)) m (aqD dn dc ds xn ec es fc fs).1 (from19 (10 ^ 19) 2 (aqD dn dc ds xn ec es fc fs).2 41 m) := by
 obtain ⟨k1, k2, k3⟩ := aq_law dn xn (dc := dc) (ec := ec) (fs := fs) hf hf1 hds hes
 refine ⟨_, _, k1, ?_, TrimOf.same hm⟩
 rcases k2 with h | h
 ·rw [← h]; exact nz_sign _ k3
 ·exact .inr h
theorem good_aq_zero (dn xn : Bool) {dc fc ds es fs i m : Nat} (hf : 0 < fc) (hd : dc * 10 ^ i < 10 ^ 19) (hi : ds + i ≤ 19) (hm : m ≤ ds + i) :
  Good ((aqF dn dc ds xn 0 es fc fs).1 && (aqF dn dc ds xn 0 es fc fs).2 != 0) (aqF dn dc ds xn 0 es fc fs).2 (10 ^ ds * (10 ^ es * fc)) m dn (some (dc * 10 ^ i, ds + i)) := by
 have hp := pow10_pos
 have e : aqF dn dc ds xn 0 es fc fs = (dn, dc * (10 ^ es * fc)) := by unfold aqF; rw [Nat.zero_mul, Nat.zero_mul, sumS_z0]
 rw [e]
 refine ⟨dc * 10 ^ i, ds + i, fun n _ => ?_, nz_sign _ (fun h => ?_), ?_⟩
 ·unfold atP rnd
  refine rhe_cross (Nat.mul_pos (hp _) (Nat.mul_pos (hp _) hf)) (hp _) ?_
  rw [Nat.pow_add]
  generalize 10 ^ i = a
  generalize 10 ^ ds = b
  generalize 10 ^ es = c
  generalize 10 ^ n = d
  show dc * (c * fc) * d * (b * a) = dc * a * d * (b * (c * fc))
  ac_rfl
 ·have h0 : dc = 0 := by
   rcases Nat.mul_eq_zero.1 h with h | h
   ·exact h
   ·have := Nat.mul_pos (hp es) hf; omega
  rw [h0, Nat.zero_mul]
 ·rw [from19_keep hd hm hi]
  exact .inr ⟨_, _, _, _, rfl, rfl, hm, Nat.le_refl _, by rw [Nat.sub_self, Nat.pow_zero, Nat.mul_one]⟩
end Go.Proofs.YtldhfhloinlfaaaGreatDoor
