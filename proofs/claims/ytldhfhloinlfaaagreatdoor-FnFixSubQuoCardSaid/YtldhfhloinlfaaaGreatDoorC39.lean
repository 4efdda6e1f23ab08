/- Part 39 of the proof. -/
import Derived.Test.YtldhfhloinlfaaaGreatDoorC28
import Derived.Test.YtldhfhloinlfaaaGreatDoorC32
namespace Go.Proofs.YtldhfhloinlfaaaGreatDoor
open Go.RowKit
set_option linter.unusedVariables false
set_option linter.unusedSimpArgs false
set_option maxRecDepth 20000
theorem rhe_small {a b : Nat} (h : 2 * a < b) : rhe a b = 0 := by
 rw [rhe_iff (by omega)]
 rw [Nat.mul_zero]
 exact ⟨by omega, by omega, fun h => by omega, fun h => by omega⟩
theorem PFE.some {w w' : World} {neg : Bool} {C S m k t : Nat} {e : Ending} (h : PDec w neg (Option.some ((k : Int), t)) e w') (h2 : from19 (10 ^ 19) 2 C S m = Option.some (k, t)) : PFE w neg C S m e w' :=
 ⟨h.1, .inr ⟨k, t, h2, h.2⟩⟩
theorem nff_any (neg : Bool) (Q : Nat) (s : Int) (m : Nat) (hQ : Q < 10 ^ 19) (hs1 : -19 ≤ s) (hs2 : s ≤ 60) (hm : m ≤ 19) (w : World) (he : EnvD w) :
  Calls Tryz.prog 117 #[.bool neg, .int .u64 (Q : Int), .int .i64 s, .int .i64 m] w (PFE w neg (qC Q s) (qS s) m) := by
 have hfi := fiN hQ
 have e19 : (10 : Nat) ^ 19 = 10000000000000000000 := by decide
 unfold qC qS
 by_cases h0 : 0 ≤ s
 ·obtain ⟨S, rfl⟩ : ∃ S : Nat, s = S := ⟨s.toNat, by omega⟩
  rw [Int.toNat_natCast, show (-(S : Int)).toNat = 0 by omega, Nat.pow_zero, Nat.mul_one]
  by_cases h1 : S ≤ 38
  ·exact (newFromFint_all neg (Q : Int) S m hfi h1 hm w he).mono (fun e w' h => PFE.of hQ hm h)
  ·have hd : digs Q ≤ 19 := digs_le.2 hQ
   have hz : rhe Q (10 ^ (S - 19)) = 0 := by
    have : (10 : Nat) ^ 20 ≤ 10 ^ (S - 19) := pow_le' (by omega)
    have e20 : (10 : Nat) ^ 20 = 100000000000000000000 := by decide
    exact rhe_small (by omega)
   have hfr : from19 (10 ^ 19) 2 Q S m = Option.some (0, 19) :=
    from19_one (by omega) (by unfold step19; rw [if_neg (by omega), if_pos ⟨by omega, by omega⟩, hz]) (by omega)
   exact (nff_far neg (Q : Int) S m (by omega) (by omega) hm w).mono (fun e w' h => PFE.some h hfr)
 ·obtain ⟨u, hu⟩ : ∃ u : Nat, s = -(u : Int) := ⟨(-s).toNat, by omega⟩
  subst hu
  rw [show (- -(u : Int)).toNat = u by omega, show (-(u : Int)).toNat = 0 by omega]
  refine (nff_lsh neg (Q : Int) (-(u : Int)) (m + u) m hfi hm (by omega) (by omega) (by omega) w he).mono (fun e w' h => ?_)
  unfold lshO at h
  by_cases h2 : m + u ≤ 19 ∧ (Q : Int) * 10 ^ (m + u) ≤ 9999999999999999999
  ·rw [if_pos h2] at h
   have hc : (Q : Int) * 10 ^ (m + u) = ((Q * 10 ^ (m + u) : Nat) : Int) := by rw [Int.natCast_mul, pow_cast]
   rw [hc] at h h2
   have h3 : Q * 10 ^ (m + u) ≤ 9999999999999999999 := by omega
   have h4 : Q * 10 ^ u ≤ Q * 10 ^ (m + u) := Nat.mul_le_mul_left _ (pow_le' (by omega))
   have e : Q * 10 ^ (m + u) = Q * 10 ^ u * 10 ^ m := by rw [Nat.mul_assoc, ← Nat.pow_add, Nat.add_comm m u]
   refine PFE.some h ?_
   have hf : fromFint ((Q * 10 ^ u : Nat) : Int) 0 m = Option.some (((Q * 10 ^ (m + u) : Nat) : Int), m) := by
    unfold fromFint
    by_cases hm0 : 0 < m
    ·have hc2 : ((Q * 10 ^ u : Nat) : Int) * 10 ^ (m - 0) = ((Q * 10 ^ (m + u) : Nat) : Int) := by rw [e, Nat.sub_zero, ← pow_cast, ← Int.natCast_mul]
     rw [if_pos hm0, hc2, if_pos (by omega)]
    ·obtain rfl : m = 0 := by omega
     rw [if_neg (by omega), Nat.zero_add]
   obtain ⟨k', hk, h5⟩ := fromFint_from19 (show Q * 10 ^ u < 10 ^ 19 by omega) (by omega) hm hf
   rw [h5, Int.ofNat_inj.1 hk]
  ·rw [if_neg h2] at h
   exact .none h
end Go.Proofs.YtldhfhloinlfaaaGreatDoor
