/- Part 28 of the proof. -/
import Derived.Test.YtldhfhloinlfaaaGreatDoorC24
import Derived.Test.YtldhfhloinlfaaaGreatDoorC27
namespace Go.Proofs.YtldhfhloinlfaaaGreatDoor
set_option linter.unusedVariables false
set_option linter.unusedSimpArgs false
theorem rhe_cross {a x b y : Nat} (hx : 0 < x) (hy : 0 < y) (h : a * y = b * x) : rhe a x = rhe b y := by
 rw [← rhe_scale hx hy (a := a), ← rhe_scale hy hx (a := b), h, Nat.mul_comm x y]
def qC (Q : Nat) (s : Int) : Nat := Q * 10 ^ (-s).toNat
def qS (s : Int) : Nat := s.toNat
end Go.Proofs.YtldhfhloinlfaaaGreatDoor
namespace Go.Proofs.YtldhfhloinlfaaaGreatDoor
open Go.RowKit
set_option linter.unusedVariables false
set_option linter.unusedSimpArgs false
set_option maxRecDepth 20000
def TrimOf (m : Nat) (o o' : Option (Nat × Nat)) : Prop := (o = none ∧ o' = none) ∨ ∃ k t k' t', o = some (k, t) ∧ o' = some (k', t') ∧ m ≤ t' ∧ t' ≤ t ∧ k = k' * 10 ^ (t - t')
def Good (n1 : Bool) (a x m : Nat) (sg : Bool) (o : Option (Nat × Nat)) : Prop :=
 ∃ C S, (∀ n, n ≤ 19 → atP a x n = rnd C S n) ∧ (n1 = sg ∨ C = 0) ∧ TrimOf m (from19 (10 ^ 19) 2 C S m) o
def GoodAt (n1 : Bool) (a x : Nat) (m : Int) (sg : Bool) (o : Option (Nat × Nat)) : Prop := if m < 0 ∨ 19 < m then o = none else Good n1 a x m.toNat sg o
theorem TrimOf.same {m C S : Nat} (hm : m ≤ 19) : TrimOf m (from19 (10 ^ 19) 2 C S m) (from19 (10 ^ 19) 2 C S m) := by
 cases h : from19 (10 ^ 19) 2 C S m with
 | none => exact .inl ⟨rfl, rfl⟩
 | some kt =>
  obtain ⟨k, t⟩ := kt
  exact .inr ⟨k, t, k, t, rfl, rfl, (from19_bd hm h).2.2, Nat.le_refl _, by rw [Nat.sub_self, Nat.pow_zero, Nat.mul_one]⟩
theorem Good.trim {n1 sg : Bool} {a x m k t k' t' : Nat} (h : Good n1 a x m sg (some (k, t))) (h1 : m ≤ t') (h2 : t' ≤ t) (h3 : k = k' * 10 ^ (t - t')) : Good n1 a x m sg (some (k', t')) := by
 obtain ⟨C, S, g1, g2, g3⟩ := h
 refine ⟨C, S, g1, g2, ?_⟩
 rcases g3 with ⟨_, g⟩ | ⟨k0, t0, k1, t1, e1, e2, e3, e4, e5⟩
 ·cases g
 ·cases e2
  refine .inr ⟨k0, t0, k', t', e1, rfl, h1, Nat.le_trans h2 e4, ?_⟩
  rw [e5, h3, Nat.mul_assoc, ← Nat.pow_add, show t - t' + (t0 - t) = t0 - t' by omega]
theorem Good.bd {n1 sg : Bool} {a x m k t : Nat} (hm : m ≤ 19) (h : Good n1 a x m sg (some (k, t))) : t ≤ 19 ∧ k < 10 ^ 19 ∧ m ≤ t := by
 obtain ⟨C, S, g1, g2, g3⟩ := h
 rcases g3 with ⟨_, g⟩ | ⟨k0, t0, k1, t1, e1, e2, e3, e4, e5⟩
 ·cases g
 ·cases e2
  obtain ⟨b1, b2, b3⟩ := from19_bd hm e1
  refine ⟨by omega, ?_, e3⟩
  have : k ≤ k * 10 ^ (t0 - t) := Nat.le_mul_of_pos_right _ (pow10_pos _)
  omega
theorem GoodAt.places {n1 sg : Bool} {a x : Nat} {m : Int} {k t : Nat} (h : GoodAt n1 a x m sg (some (k, t))) : t ≤ 19 := by
 unfold GoodAt at h
 split at h
 ·cases h
 ·exact (h.bd (by omega)).1
theorem from19_keep {c S m : Nat} (hc : c < 10 ^ 19) (h1 : m ≤ S) (h2 : S ≤ 19) : from19 (10 ^ 19) 2 c S m = some (c, S) := by
 have hd : digs c ≤ 19 := digs_le.2 hc
 exact from19_one (by omega) (by unfold step19; rw [if_neg (by omega), if_neg (by omega), if_neg (by omega)]) hc
theorem rhe_z {b : Nat} (hb : 0 < b) : rhe 0 b = 0 := by have := rhe_exact (q := 0) hb; rwa [Nat.zero_mul] at this
theorem nz_sign (nn : Bool) {a C : Nat} (h : a = 0 → C = 0) : (nn && a != 0) = nn ∨ C = 0 := by
 by_cases ha : a = 0
 ·exact .inr (h ha)
 ·exact .inl (by rw [bne_iff_ne.2 ha, Bool.and_true])
theorem trim_ok {C S R k u k' u' : Nat} (g : k * 10 ^ R = rnd C S R * 10 ^ u) (h : k = k' * 10 ^ (u - u')) (hu : u' ≤ u) : k' * 10 ^ R = rnd C S R * 10 ^ u' := by
 apply Nat.eq_of_mul_eq_mul_right (pow10_pos (u - u'))
 rw [Nat.mul_assoc, Nat.mul_assoc, ← Nat.pow_add 10 u', show u' + (u - u') = u by omega, ← g, h]
 generalize 10 ^ (u - u') = p
 generalize 10 ^ R = q
 ac_rfl
theorem sign_ok {n1 sg : Bool} {C S R k u : Nat} (g : k * 10 ^ R = rnd C S R * 10 ^ u) (hsg : n1 = sg ∨ C = 0) : ((sg && k != 0) && k * 10 ^ R != 0) = ((n1 && rnd C S R != 0) && rnd C S R * 10 ^ u != 0) := by
 have p1 := pow10_pos R
 have p2 := pow10_pos u
 have hz : k = 0 ↔ rnd C S R = 0 := by
  constructor
  ·intro h; subst h; rw [Nat.zero_mul] at g; rcases Nat.mul_eq_zero.1 g.symm with h | h <;> omega
  ·intro h; rw [h, Nat.zero_mul] at g; rcases Nat.mul_eq_zero.1 g with h | h <;> omega
 by_cases hk0 : k = 0
 ·have h2 := hz.1 hk0
  rw [hk0, h2]; simp
 ·have h2 : rnd C S R ≠ 0 := fun h => hk0 (hz.2 h)
  have h3 : C ≠ 0 := by
   intro h
   apply h2
   subst h
   unfold rnd
   rw [Nat.zero_mul]
   exact rhe_z (pow10_pos S)
  obtain rfl : n1 = sg := hsg.resolve_right h3
  have h4 : k * 10 ^ R ≠ 0 := Nat.mul_ne_zero hk0 (by omega)
  have h5 : rnd C S R * 10 ^ u ≠ 0 := by rw [← g]; exact h4
  rw [bne_iff_ne.2 hk0, bne_iff_ne.2 h2, bne_iff_ne.2 h4, bne_iff_ne.2 h5]
theorem fixOut_none {out f : Value} {sg : Bool} {o : Option (Nat × Nat)} (h : o = none) (hv : fixOut sg o = .tuple #[out, f]) : out = .agg #[.bool false, .int .u64 0, .int .i64 0] ∧ f = .int .i64 1 := by
 subst h
 unfold fixOut at hv
 simp only [Value.tuple.injEq, Array.mk.injEq, List.cons.injEq, and_true] at hv
 exact ⟨hv.1.symm, hv.2.symm⟩
theorem fixOut_some {out f : Value} {sg : Bool} {k t : Nat} (hv : fixOut sg (some (k, t)) = .tuple #[out, f]) : out = .agg #[.bool (sg && k != 0), .int .u64 (k : Int), .int .i64 (t : Int)] ∧ f = .int .i64 0 := by
 unfold fixOut at hv
 simp only [Value.tuple.injEq, Array.mk.injEq, List.cons.injEq, and_true] at hv
 rw [nat_bne] at hv
 exact ⟨hv.1.symm, hv.2.symm⟩
theorem gvExact_good {w : World} {A D1 : Option Addr} {n c p1 q1 a x : Nat} (n1 sg : Bool) (m : Int) (o : Option (Nat × Nat)) (out f : Value)
  (ha : SN w A n c a) (hx : SN w D1 p1 q1 x) (ha1 : a < 10 ^ 100) (hx1 : x < 10 ^ 100) (hx0 : 0 < x)
  (ho : if m < 0 ∨ 19 < m then o = none else Good n1 a x m.toNat sg o) (hv : fixOut sg o = .tuple #[out, f]) :
  Calls Tryz.prog 14 #[out, f, .agg #[.bool n1, .slice A n c, .slice D1 p1 q1], .int .i64 m] w (PV w (.bool true)) := by
 have hpl : Places a x := ⟨hx0⟩
 by_cases hm : m < 0 ∨ 19 < m
 ·rw [if_pos hm] at ho
  obtain ⟨rfl, rfl⟩ := fixOut_none ho hv
  exact gvExact_places (a := 0) (x := 0) _ _ _ _ m hm
 ·rw [if_neg hm] at ho
  obtain ⟨C, S, hat, hsg, htr⟩ := ho
  obtain ⟨r1, r2⟩ := from19_right pow19 0 C S m.toNat (by omega)
  have hrm : room (10 ^ 19) (atP a x) 19 = room (10 ^ 19) (rnd C S) 19 := room_congr hat
  rcases htr with ⟨h0, ho⟩ | ⟨k, u, k', u', h0, ho, t1, t2, t3⟩
  ·obtain ⟨rfl, rfl⟩ := fixOut_none ho hv
   refine gvExact_small _ _ _ _ m hm hx ha ha1 hx1 hpl ?_
   cases hroom : room (10 ^ 19) (rnd C S) 19 with
   | none => rw [roomI_none (hrm.trans hroom)]; omega
   | some R =>
    rw [roomI_some (hrm.trans hroom)]
    apply Int.lt_of_not_ge
    intro hge
    obtain ⟨k, u, g1, _⟩ := (r2 R hroom).2 (by omega)
    rw [h0] at g1
    cases g1
  ·subst ho
   obtain ⟨rfl, rfl⟩ := fixOut_some hv
   cases hroom : room (10 ^ 19) (rnd C S) 19 with
   | none => rw [r1 hroom] at h0; cases h0
   | some R =>
    obtain ⟨s1, s2⟩ := r2 R hroom
    by_cases hl : R < m.toNat
    ·rw [s1 hl] at h0; cases h0
    ·obtain ⟨k1, u1, g1, g2, g3, g4, g5⟩ := s2 (by omega)
     rw [h0] at g1
     cases g1
     obtain ⟨hR19, hRE⟩ := room_R hroom
     have g6 := trim_ok g5 t3 t2
     have hk' : k' ≤ k' * 10 ^ (u - u') := Nat.le_mul_of_pos_right _ (pow10_pos _)
     refine gvExact_ok _ m hm hx ha ha1 hx1 hpl (by rw [roomI_some (hrm.trans hroom)]; omega) (sg && k' != 0) k' u' R (by omega) (by omega) (by cases sg <;> simp) (hrm.trans hroom) hR19 (by rw [hat R hR19]; exact hRE) ?_ (by omega)
     rw [hat R hR19]
     exact ⟨sign_ok g6 hsg, g6⟩
theorem gvNear_good {w : World} {A D1 : Option Addr} {n c p1 q1 a x : Nat} (n1 sg : Bool) (o : Option (Nat × Nat)) (out f : Value)
  (ha : SN w A n c a) (hx : SN w D1 p1 q1 x) (ha1 : a < 10 ^ 100) (hx1 : x < 10 ^ 100) (hx0 : 0 < x)
  (ho : Good n1 a x 0 sg o) (hv : fixOut sg o = .tuple #[out, f]) :
  Calls Tryz.prog 34 #[out, f, .agg #[.bool n1, .slice A n c, .slice D1 p1 q1]] w (PV w (.bool true)) := by
 have hpl : Places a x := ⟨hx0⟩
 obtain ⟨C, S, hat, hsg, htr⟩ := ho
 obtain ⟨r1, r2⟩ := from19_right pow19 0 C S 0 (by omega)
 have hrm : room (10 ^ 19) (atP a x) 19 = room (10 ^ 19) (rnd C S) 19 := room_congr hat
 rcases htr with ⟨h0, ho⟩ | ⟨k, u, k', u', h0, ho, t1, t2, t3⟩
 ·obtain ⟨rfl, rfl⟩ := fixOut_none ho hv
  cases hroom : room (10 ^ 19) (rnd C S) 19 with
  | none => exact gvNear_none _ ha hx ha1 hx1 hpl _ _ _ (hrm.trans hroom)
  | some R =>
   obtain ⟨k, u, g1, _⟩ := (r2 R hroom).2 (by omega)
   rw [h0] at g1
   cases g1
 ·subst ho
  obtain ⟨rfl, rfl⟩ := fixOut_some hv
  cases hroom : room (10 ^ 19) (rnd C S) 19 with
  | none => rw [r1 hroom] at h0; cases h0
  | some R =>
   obtain ⟨k1, u1, g1, g2, g3, g4, g5⟩ := (r2 R hroom).2 (by omega)
   rw [h0] at g1
   cases g1
   obtain ⟨hR19, hRE⟩ := room_R hroom
   have g6 := trim_ok g5 t3 t2
   have hk' : k' ≤ k' * 10 ^ (u - u') := Nat.le_mul_of_pos_right _ (pow10_pos _)
   refine gvNear_some _ ha hx ha1 hx1 hpl (sg && k' != 0) k' u' R (by omega) (by omega) (by cases sg <;> simp) (hrm.trans hroom) hR19 (by rw [hat R hR19]; exact hRE) ?_
   rw [hat R hR19]
   exact ⟨sign_ok g6 hsg, g6⟩
end Go.Proofs.YtldhfhloinlfaaaGreatDoor
