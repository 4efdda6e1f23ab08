/- Part 5 of the rest of the proof. -/
import Derived.Test.YtldhfhloinlfaaaGreatDoorC00
import Derived.Test.YtldhfhloinlfaaaGreatDoorC23
import Derived.Test.YtldhfhloinlfaaaGreatDoorC27
import Derived.Test.YtldhfhloinlfaaaGreatDoorD00
import Derived.Test.YtldhfhloinlfaaaGreatDoorD03
namespace Go.Proofs.YtldhfhloinlfaaaGreatDoor
open Go.RowKit
set_option linter.unusedVariables false
set_option linter.unusedSimpArgs false
set_option maxRecDepth 20000
theorem gvExact_gen {w : World} {A D1 : Option Addr} {n c p1 q1 a x : Nat} (n1 sg : Bool) (C S : Nat) (m : Int) (o : Option (Nat × Nat)) (out f : Value)
  (ha : SN w A n c a) (hx : SN w D1 p1 q1 x) (ha1 : a < 10 ^ 100) (hx1 : x < 10 ^ 100) (hx0 : 0 < x) (hat : ∀ n, n ≤ 19 → atP a x n = rnd C S n) (hsg : n1 = sg ∨ C = 0)
  (ho : o = if m < 0 ∨ 19 < m then none else from19 (10 ^ 19) 2 C S m.toNat) (hv : fixOut sg o = .tuple #[out, f]) :
  Calls Tryz.prog 14 #[out, f, .agg #[.bool n1, .slice A n c, .slice D1 p1 q1], .int .i64 m] w (PV w (.bool true)) := by
 have hpl : Places a x := ⟨hx0⟩
 have none_ : ∀ {Q : Ending → World → Prop}, o = none → (∀ (N1 : Bool) (v s0 : Int), Calls Tryz.prog 14 #[.agg #[.bool N1, .int .u64 v, .int .i64 s0], .int .i64 1, .agg #[.bool n1, .slice A n c, .slice D1 p1 q1], .int .i64 m] w Q) →
   Calls Tryz.prog 14 #[out, f, .agg #[.bool n1, .slice A n c, .slice D1 p1 q1], .int .i64 m] w Q := by
  intro Q h k
  subst h
  unfold fixOut at hv
  simp only [Value.tuple.injEq, Array.mk.injEq, List.cons.injEq, and_true] at hv
  obtain ⟨rfl, rfl⟩ := hv
  exact k _ _ _
 by_cases hm : m < 0 ∨ 19 < m
 ·rw [if_pos hm] at ho
  exact none_ ho (fun N1 v s0 => gvExact_places (a := 0) (x := 0) _ N1 v s0 m hm)
 ·rw [if_neg hm] at ho
  obtain ⟨r1, r2⟩ := from19_right pow19 0 C S m.toNat (by omega)
  have hrm : room (10 ^ 19) (atP a x) 19 = room (10 ^ 19) (rnd C S) 19 := room_congr hat
  cases hroom : room (10 ^ 19) (rnd C S) 19 with
  | none =>
   have hri : roomI a x = -1 := roomI_none (hrm.trans hroom)
   exact none_ (ho.trans (r1 hroom)) (fun N1 v s0 => gvExact_small _ N1 v s0 m hm hx ha ha1 hx1 hpl (by rw [hri]; omega))
  | some R =>
   have hri : roomI a x = R := roomI_some (hrm.trans hroom)
   obtain ⟨s1, s2⟩ := r2 R hroom
   by_cases hl : R < m.toNat
   ·exact none_ (ho.trans (s1 hl)) (fun N1 v s0 => gvExact_small _ N1 v s0 m hm hx ha ha1 hx1 hpl (by rw [hri]; omega))
   ·obtain ⟨k, u, g1, g2, g3, g4, g5⟩ := s2 (by omega)
    rw [g1] at ho
    subst ho
    unfold fixOut at hv
    simp only [Value.tuple.injEq, Array.mk.injEq, List.cons.injEq, and_true] at hv
    obtain ⟨rfl, rfl⟩ := hv
    obtain ⟨hR19, hRE⟩ := room_R hroom
    have hkb : ((k : Int) != 0) = (k != 0) := by
     by_cases h : k = 0
     ·subst h; rfl
     ·rw [bne_iff_ne.2 h, bne_iff_ne.2 (by omega : (k : Int) ≠ 0)]
    rw [hkb]
    refine gvExact_ok _ m hm hx ha ha1 hx1 hpl (by rw [hri]; omega) (sg && k != 0) k u R g4 g3 (by cases sg <;> simp) (hrm.trans hroom) hR19 (by rw [hat R hR19]; exact hRE) ?_ (by omega)
    rw [hat R hR19]
    refine ⟨?_, g5⟩
    have hz : k = 0 ↔ rnd C S R = 0 := by
     have p1 := pow10_pos R
     have p2 := pow10_pos u
     constructor
     ·intro h; subst h; rw [Nat.zero_mul] at g5; rcases Nat.mul_eq_zero.1 g5.symm with h | h <;> omega
     ·intro h; rw [h, Nat.zero_mul] at g5; rcases Nat.mul_eq_zero.1 g5 with h | h <;> omega
    by_cases hk0 : k = 0
    ·have h2 := hz.1 hk0
     rw [hk0, h2]; simp
    ·have h2 : rnd C S R ≠ 0 := fun h => hk0 (hz.2 h)
     have h3 : C ≠ 0 := by
      intro h
      apply h2
      subst h
      unfold rnd
      rw [Nat.zero_mul]
      have := rhe_exact (q := 0) (pow10_pos S)
      rwa [Nat.zero_mul] at this
     obtain rfl : n1 = sg := hsg.resolve_right h3
     have h4 : k * 10 ^ R ≠ 0 := Nat.mul_ne_zero hk0 (by have := pow10_pos R; omega)
     have h5 : rnd C S R * 10 ^ u ≠ 0 := by rw [← g5]; exact h4
     rw [bne_iff_ne.2 hk0, bne_iff_ne.2 h2, bne_iff_ne.2 h4, bne_iff_ne.2 h5]
end Go.Proofs.YtldhfhloinlfaaaGreatDoor
