/- Part 40 of the proof. -/
import Derived.Test.YtldhfhloinlfaaaGreatDoorC29
import Derived.Test.YtldhfhloinlfaaaGreatDoorC34
import Derived.Test.YtldhfhloinlfaaaGreatDoorC36
import Derived.Test.YtldhfhloinlfaaaGreatDoorC38
import Derived.Test.YtldhfhloinlfaaaGreatDoorC39
namespace Go.Proofs.YtldhfhloinlfaaaGreatDoor
open Go.RowKit
set_option linter.unusedVariables false
theorem goodAt_as {n1 sg : Bool} {a x m : Nat} {o : Option (Nat × Nat)} (hm : m ≤ 19) : GoodAt n1 a x (m : Int) sg o ↔ Good n1 a x m sg o := by
 unfold GoodAt
 rw [if_neg (by omega), Int.toNat_natCast]
theorem qC_nat (Q T : Nat) : qC Q (T : Int) = Q := by
 unfold qC
 rw [show (-(T : Int)).toNat = 0 by omega, Nat.pow_zero, Nat.mul_one]
theorem qS_nat (T : Nat) : qS (T : Int) = T := by unfold qS; omega
def aqS (d1 : Bool) (dc ds : Nat) (xn : Bool) (ec es fc fs : Nat) : Bool := (aqF d1 dc ds xn ec es fc fs).1 && (aqF d1 dc ds xn ec es fc fs).2 != 0
theorem addQuoFint_good (dn en fn : Bool) (dc ec fc ds es fs m : Nat) (hdc : dc < 10 ^ 19) (hec : ec < 10 ^ 19) (hfc : fc < 10 ^ 19) (hf0 : 0 < fc) (hds : ds ≤ 19) (hes : es ≤ 19) (hfs : fs ≤ 19) (hm : m ≤ 19) (w : World) (he : EnvI w) :
  Calls Tryz.prog 94 #[.agg #[.bool dn, .int .i8 ds, .int .u64 (dc : Int)], .agg #[.bool en, .int .i8 es, .int .u64 (ec : Int)], .agg #[.bool fn, .int .i8 fs, .int .u64 (fc : Int)], .int .i64 m] w
   (PX (fun sg o => o = none ∨ Good (aqS dn dc ds (en != fn) ec es fc fs) (aqF dn dc ds (en != fn) ec es fc fs).2 (10 ^ ds * (10 ^ es * fc)) m sg o) w) := by
 refine addQuoFint_gen dn en fn (en != fn) dc ec fc ds es fs m hdc hec hfc hf0 hds hes hfs hm rfl _ w he (.inl rfl) ?_
 intro z Q Y D T h1 h2 hr hlt w1 he1
 obtain ⟨hF0, hF1, hF2⟩ := rd_facts hfc hf0 h1
 obtain ⟨_, _, hT1, hT2, rfl, u, v, hY, hT⟩ := hr
 have hg := good_aq_small dn (en != fn) (dc := dc) hm hf0 hF2 h2 hY hT hT1
 refine (nff_any (sumS dn (dc * 10 ^ (T - ds)) (en != fn) Y).1 (sumS dn (dc * 10 ^ (T - ds)) (en != fn) Y).2 (T : Int) m hlt (by omega) (by omega) hm w1 he1).mono (fun e w' h => ?_)
 rw [qC_nat, qS_nat] at h
 obtain ⟨hc, h | ⟨k, t, h1, h2⟩⟩ := h
 ·exact ⟨false, none, .inl rfl, hc, h⟩
 ·rw [h1] at hg
  exact ⟨_, some (k, t), .inr hg, hc, h2⟩
theorem adq_some (dn en fn : Bool) (dc ec fc ds es fs m : Nat) (hdc : dc < 10 ^ 19) (hec : ec < 10 ^ 19) (hfc : fc < 10 ^ 19) (hds : ds ≤ 19) (hes : es ≤ 19) (hfs : fs ≤ 19) (hm : m ≤ 19) (hec0 : 0 < ec) (hf0 : 0 < fc) (w : World) (he : EnvI w) :
  Calls Tryz.prog 55 #[.agg #[.bool dn, .int .i8 ds, .int .u64 (dc : Int)], .agg #[.bool en, .int .i8 es, .int .u64 (ec : Int)], .agg #[.bool fn, .int .i8 fs, .int .u64 (fc : Int)], .int .i64 m] w
   (PX (Good (aqS dn dc ds (en != fn) ec es fc fs) (aqF dn dc ds (en != fn) ec es fc fs).2 (10 ^ ds * (10 ^ es * fc)) m) w) := by
 refine adqEx_in dn en fn dc ec fc ds es fs m hm hdc hec hfc hds hes hfs hec0 hf0 _ (fun sg o => o = none ∨ Good (aqS dn dc ds (en != fn) ec es fc fs) (aqF dn dc ds (en != fn) ec es fc fs).2 (10 ^ ds * (10 ^ es * fc)) m sg o) w he ?_ ?_ ?_ ?_ ?_
 ·exact fun sg k t h => h.resolve_left (by simp)
 ·exact fun sg k t h => h.bd hm
 ·exact fun sg a t a' t' h h1 h2 h3 => h.trim h1 h2 h3
 ·exact fun w1 he1 => addQuoFint_good dn en fn dc ec fc ds es fs m hdc hec hfc hf0 hds hes hfs hm w1 he1
 ·exact fun w1 he1 => (addQuoBint_any dn en fn (en != fn) dc ec fc ds es fs m hdc hec hfc hf0 hds hes hfs hm rfl w1 he1.1).mono (fun e w' h => ⟨_, _, good_aq_big dn (en != fn) hm hf0 hfc hds hes, h⟩)
theorem AddQuoExact_in (dn en fn : Bool) (dc ec fc ds es fs : Nat) (m : Int) (hdc : dc < 10 ^ 19) (hec : ec < 10 ^ 19) (hfc : fc < 10 ^ 19) (hds : ds ≤ 19) (hes : es ≤ 19) (hfs : fs ≤ 19) (hec0 : 0 < ec) (hf0 : 0 < fc) (w : World) (he : EnvI w) :
  Calls Tryz.prog 55 #[.agg #[.bool dn, .int .i8 ds, .int .u64 (dc : Int)], .agg #[.bool en, .int .i8 es, .int .u64 (ec : Int)], .agg #[.bool fn, .int .i8 fs, .int .u64 (fc : Int)], .int .i64 m] w
   (PX (GoodAt (aqS dn dc ds (en != fn) ec es fc fs) (aqF dn dc ds (en != fn) ec es fc fs).2 (10 ^ ds * (10 ^ es * fc)) m) w) := by
 by_cases hm : m < 0 ∨ 19 < m
 ·exact adqEx_bad dn en fn dc ec fc ds es fs m (.inl hm) _ (by unfold GoodAt; rw [if_pos hm]) w
 ·obtain ⟨k, rfl⟩ : ∃ k : Nat, m = k := ⟨m.toNat, by omega⟩
  refine (adq_some dn en fn dc ec fc ds es fs k hdc hec hfc hds hes hfs (by omega) hec0 hf0 w he).mono (fun e w' h => ?_)
  obtain ⟨sg, o, h1, h2⟩ := h
  exact ⟨sg, o, (goodAt_as (by omega)).2 h1, h2⟩
end Go.Proofs.YtldhfhloinlfaaaGreatDoor
