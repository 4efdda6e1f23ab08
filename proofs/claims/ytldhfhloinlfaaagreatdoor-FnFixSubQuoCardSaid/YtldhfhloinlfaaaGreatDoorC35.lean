/- Part 35 of the proof. -/
import Derived.Test.YtldhfhloinlfaaaGreatDoorC24
import Derived.Test.YtldhfhloinlfaaaGreatDoorC32
namespace Go.Proofs.YtldhfhloinlfaaaGreatDoor
open Go.RowKit
set_option linter.unusedVariables false
set_option linter.unusedSimpArgs false
set_option maxRecDepth 20000
theorem lsh_digs {c : Nat} (h : c < 10 ^ 19) : c * 10 ^ (19 - digs c) < 10 ^ 19 := by
 have h1 : digs c ≤ 19 := digs_le.2 h
 have h2 : c < 10 ^ digs c := digs_le.1 (Nat.le_refl _)
 have h3 := Nat.mul_lt_mul_of_pos_right h2 (pow10_pos (19 - digs c))
 rwa [← Nat.pow_add, show digs c + (19 - digs c) = 19 by omega] at h3
theorem rd_facts {ec z : Nat} (hec : ec < 10 ^ 19) (hec0 : 0 < ec) (hz : ec % 10 ^ z = 0) : 0 < ec / 10 ^ z ∧ ec / 10 ^ z < 10 ^ 19 ∧ ec / 10 ^ z * 10 ^ z = ec := by
 have h1 : ec / 10 ^ z * 10 ^ z = ec := Nat.div_mul_cancel (Nat.dvd_of_mod_eq_zero hz)
 refine ⟨Nat.pos_of_ne_zero (fun h => ?_), Nat.lt_of_le_of_lt (Nat.div_le_self _ _) hec, h1⟩
 rw [h, Nat.zero_mul] at h1
 omega
end Go.Proofs.YtldhfhloinlfaaaGreatDoor
