/- Part 31 of the proof. -/
import Derived.Test.YtldhfhloinlfaaaGreatDoorC29
import Derived.Test.YtldhfhloinlfaaaGreatDoorC30
namespace Go.Proofs.YtldhfhloinlfaaaGreatDoor
open Go.RowKit
set_option linter.unusedVariables false
set_option linter.unusedSimpArgs false
set_option maxRecDepth 20000
theorem aq_bounds (d1 xn : Bool) {dc ec fc ds es fs : Nat} (hdc : dc < 10 ^ 19) (hec : ec < 10 ^ 19) (hfc : fc < 10 ^ 19) (hds : ds ≤ 19) (hes : es ≤ 19) (hfs : fs ≤ 19) (hf0 : 0 < fc) :
  (aqF d1 dc ds xn ec es fc fs).2 < 10 ^ 100 ∧ 10 ^ ds * (10 ^ es * fc) < 10 ^ 100 ∧ 0 < 10 ^ ds * (10 ^ es * fc) := by
 have p20 : ∀ {k : Nat}, k ≤ 19 → (10 : Nat) ^ k < 10 ^ 20 := fun h => Nat.pow_lt_pow_right (by omega) (by omega)
 have up2 : ∀ {k i : Nat}, i ≤ 100 → k < 10 ^ i → k < 10 ^ 100 := fun hi h => Nat.lt_of_lt_of_le h (Nat.pow_le_pow_right (by omega) hi)
 have hyb0 : (10 : Nat) ^ es * fc < 10 ^ (20 + 19) := mul100 (p20 hes) hfc
 have hpb0 : ec * 10 ^ fs < 10 ^ (19 + 20) := mul100 hec (p20 hfs)
 refine ⟨?_, up2 (by omega) (mul100 (p20 hds) hyb0), Nat.mul_pos (pow10_pos _) (Nat.mul_pos (pow10_pos _) hf0)⟩
 have a1 := sumS_le d1 (dc * (10 ^ es * fc)) xn (ec * 10 ^ fs * 10 ^ ds)
 have a2 : dc * (10 ^ es * fc) < 10 ^ 60 := Nat.lt_of_lt_of_le (mul100 hdc hyb0) (Nat.pow_le_pow_right (by omega) (by omega))
 have a3 : ec * 10 ^ fs * 10 ^ ds < 10 ^ 60 := Nat.lt_of_lt_of_le (mul100 hpb0 (p20 hds)) (Nat.pow_le_pow_right (by omega) (by omega))
 have a4 : (10 : Nat) ^ 60 + 10 ^ 60 < 10 ^ 100 := by decide
 exact Nat.lt_of_le_of_lt a1 (Nat.lt_trans (Nat.add_lt_add a2 a3) a4)
theorem aq_sub {d1 : Bool} (d2 d3 : Bool) (dc ds es fs : Nat) {ec fc : Nat} (hd : (d1 && dc != 0) = d1) (hf : 0 < fc) :
  sumS (d1 && dc * (10 ^ es * fc) != 0) (dc * (10 ^ es * fc)) ((!((d2 != d3) && ec * 10 ^ fs != 0) && ec * 10 ^ fs != 0) && ec * 10 ^ fs * 10 ^ ds != 0) (ec * 10 ^ fs * 10 ^ ds) = aqF d1 dc ds ((!d2 && ec != 0) != d3) ec es fc fs := by
 rw [← aq_sign d1 ((!d2 && ec != 0) != d3) dc ds ec es fc fs hd hf]
 by_cases h : ec = 0
 ·subst h
  rw [Nat.zero_mul, Nat.zero_mul, sumS_z0, sumS_z0]
 ·have h2 : ec * 10 ^ fs ≠ 0 := Nat.mul_ne_zero h (by have := pow10_pos fs; omega)
  rw [bne_iff_ne.2 h, bne_iff_ne.2 h2]
  cases d2 <;> cases d3 <;> rfl
end Go.Proofs.YtldhfhloinlfaaaGreatDoor
