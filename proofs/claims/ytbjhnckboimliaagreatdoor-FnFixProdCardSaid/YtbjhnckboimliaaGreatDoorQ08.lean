/- Part 8 of the proof. -/
import Derived.Test.YtbjhnckboimliaaGreatDoorQ07
namespace Go.Proofs.YtbjhnckboimliaaGreatDoor
open Go.RowKit Go.Proofs.YtbjhnckboimliaaGreatDoorW.PrintWords Go.Proofs.YtbjhnckboimliaaGreatDoorW.PrintLast Go.Proofs.YtbjhnckboimliaaGreatDoorW.PrintMore PFnFixSubExact
set_option linter.unusedVariables false
set_option linter.unusedSimpArgs false
set_option exponentiation.threshold 4000
theorem v9_split (xs : List Int) (n : Nat) (h : n ≤ xs.length) : v9 xs = v9 (xs.take n) + p9 n * v9 (xs.drop n) := by
 conv => lhs; rw [← List.take_append_drop n xs]
 rw [v9_app, List.length_take, Nat.min_eq_left h]
theorem wr_pred {n : Nat} (h : n ≤ 10000) (h1 : 0 < n) : wrap64 ((n : Int) - 1) = ((n - 1 : Nat) : Int) := by rw [w64 (by omega) (by omega)]; omega
theorem guess_le {R Y P t y low ylow Q : Int} (hP : 0 < P) (hR : R = low + P * t) (hl : low < P) (hY : Y = ylow + P * y) (hyl : 0 ≤ ylow) (hy : 0 < y) (hQ : Q * Y ≤ R) (hQ0 : 0 ≤ Q) : Q ≤ t / y := by
 rw [Int.le_ediv_iff_mul_le hy]
 apply Classical.byContradiction
 intro h
 have h1 : t + 1 ≤ Q * y := by omega
 have h2 := Int.mul_le_mul_of_nonneg_left h1 (Int.le_of_lt hP)
 have h3 : P * (Q * y) ≤ Q * Y := by
  rw [hY, Int.mul_add, Int.mul_left_comm]
  have := Int.mul_nonneg hQ0 hyl
  omega
 rw [Int.mul_add, Int.mul_one] at h2
 omega
theorem natGuess_law {rs ys : List Int} {R Y : Nat} (hr : IsN rs R) (hy : IsN ys Y) (hR : R < 1000000000 * Y) (hYb : Y < tn 1773) :
  ∃ g : Nat, spec_natGuess.f rs ys = some (g : Int) ∧ R / Y ≤ g ∧ g ≤ 999999999 := by
 have hY0 : 0 < Y := by omega
 have hyn : ys ≠ [] := fun e => by have := hy.nil_iff.1 e; omega
 have hn0 : 0 < ys.length := List.length_pos_iff.2 hyn
 have hnb : ys.length ≤ 197 := hy.lenk (n := 197) hYb
 have hQB : R / Y < 1000000000 := Nat.div_lt_of_lt_mul (by rw [Nat.mul_comm]; exact hR)
 have hlen : rs.length ≤ ys.length + 1 := by
  refine hr.trm.len hr.lms ?_
  have := v9_lt hy.lms
  rw [hy.val] at this
  rw [hr.val, p9_succ]; omega
 obtain ⟨hy0, hy1⟩ := hy.lms.getD (ys.length - 1)
 have hyt := hy.trm.getD (i := ys.length - 1) (by omega)
 have hrd : ∀ i : Nat, rd rs (i : Int) = rs.getD i 0 := fun i => rd_nat rs i
 have hyd : ∀ i : Nat, rd ys (i : Int) = ys.getD i 0 := fun i => rd_nat ys i
 have HWP : Hid (wrap64 ((ys.length : Int) - 1) = ((ys.length - 1 : Nat) : Int)) := wr_pred (n := ys.length) (by omega) hn0
 have hsy := v9_split ys (ys.length - 1) (by omega)
 have hdy := drop_get (xs := ys) (ys.length - 1)
 rw [show ys.drop (ys.length - 1 + 1) = [] from List.drop_eq_nil_of_le (by omega)] at hdy
 simp only [v9] at hdy
 rw [Int.mul_zero, Int.add_zero] at hdy
 rw [hy.val, hdy] at hsy
 have hyl0 := v9_nonneg (hy.lms.take (ys.length - 1))
 have hP := p9_pos (ys.length - 1)
 have hQm : ((R / Y : Nat) : Int) * (Y : Int) ≤ (R : Int) := by
  have := Nat.div_mul_le_self R Y
  exact_mod_cast this
 by_cases h1 : rs.length < ys.length
 ·refine ⟨0, ?_, ?_, by omega⟩
  ·unfold spec_natGuess.f
   rw [if_pos (by omega)]; rfl
  ·have h2 := v9_lt hr.lms
   have h3 := v9_pos hy.lms hy.trm hyn
   have h4 := p9_mono (show rs.length ≤ ys.length - 1 by omega)
   rw [hr.val] at h2
   rw [hy.val] at h3
   rw [Nat.div_eq_of_lt (by omega)]; exact Nat.le_refl _
 ·have hsr := v9_split rs (ys.length - 1) (by omega)
  have hdr := drop_get (xs := rs) (ys.length - 1)
  rw [show ys.length - 1 + 1 = ys.length by omega] at hdr
  have hrl := v9_lt (hr.lms.take (ys.length - 1))
  rw [List.length_take, Nat.min_eq_left (by omega)] at hrl
  rw [hr.val] at hsr
  obtain ⟨hr0, hr1⟩ := hr.lms.getD (ys.length - 1)
  obtain ⟨ht0, ht1⟩ := hr.lms.getD ys.length
  have hdr2 := drop_get (xs := rs) ys.length
  rw [show rs.drop (ys.length + 1) = [] from List.drop_eq_nil_of_le (by omega)] at hdr2
  simp only [v9] at hdr2
  have hgl := guess_le hP hsr hrl hsy hyl0 (by omega) hQm (Int.natCast_nonneg _)
  have f1 : ¬ (rs.length : Int) < (ys.length : Int) := by omega
  have f2 : (0 : Int) ≤ ((ys.length - 1 : Nat) : Int) := by omega
  have f3 : ((ys.length - 1 : Nat) : Int) < (rs.length : Int) := by omega
  have f4 : ((ys.length - 1 : Nat) : Int) < (ys.length : Int) := by omega
  have b1 : rs.getD (ys.length - 1) 0 < 18446744073709551616 := by omega
  have b2 : ys.getD (ys.length - 1) 0 < 18446744073709551616 := by omega
  have b3 : rs.getD ys.length 0 < 18446744073709551616 := by omega
  have fin : ∀ t : Int, 0 ≤ t → t < 18446744073709551616 → v9 (rs.drop (ys.length - 1)) = t →
    ∃ g : Nat, mn (IntKind.u64.wrap (Int.tdiv t (ys.getD (ys.length - 1) 0))) 999999999 = (g : Int) ∧ R / Y ≤ g ∧ g ≤ 999999999 := by
   intro t h0 h1 he
   rw [he] at hgl
   have hq0 : 0 ≤ t / ys.getD (ys.length - 1) 0 := Int.ediv_nonneg h0 hy0
   have hq1 : t / ys.getD (ys.length - 1) 0 ≤ t := Int.ediv_le_self _ h0
   rw [Int.tdiv_eq_ediv_of_nonneg h0, u64_in hq0 (by omega)]
   generalize t / ys.getD (ys.length - 1) 0 = z at *
   refine ⟨(if 999999999 < z then 999999999 else z).toNat, ?_, ?_, ?_⟩
   ·unfold mn; split <;> omega
   ·clear hsr hsy hQm hdr hdr2 hdy
    obtain ⟨Q, hQe⟩ : ∃ Q, R / Y = Q := ⟨_, rfl⟩
    rw [hQe] at hgl hQB ⊢
    clear hQe
    split <;> omega
   ·split <;> omega
  by_cases h2 : rs.length > ys.length
  ·have f5 : (rs.length : Int) > (ys.length : Int) := by omega
   have f6 : (0 : Int) ≤ (ys.length : Int) := by omega
   have f7 : (ys.length : Int) < (rs.length : Int) := by omega
   have b4 : 0 ≤ rs.getD ys.length 0 * 1000000000 := by omega
   have b5 : rs.getD ys.length 0 * 1000000000 < 18446744073709551616 := by omega
   have b6 : 0 ≤ rs.getD (ys.length - 1) 0 + rs.getD ys.length 0 * 1000000000 := by omega
   have b7 : rs.getD (ys.length - 1) 0 + rs.getD ys.length 0 * 1000000000 < 18446744073709551616 := by omega
   obtain ⟨g, k1, k2, k3⟩ := fin (rs.getD (ys.length - 1) 0 + rs.getD ys.length 0 * 1000000000) b6 b7 (by rw [hdr, hdr2]; omega)
   refine ⟨g, ?_, k2, k3⟩
   unfold spec_natGuess.f
   rw [HWP.out, if_neg f1, if_pos f2, if_pos f3, if_pos f5, if_pos f6, if_pos f7, if_pos f4, hrd, hrd, hyd, u64_in hy0 b2, if_neg hyt, u64_in hr0 b1, u64_in ht0 b3, u64_in b4 b5, u64_in b6 b7, k1]
  ·have f5 : ¬ (rs.length : Int) > (ys.length : Int) := by omega
   have hz := getD_past (xs := rs) (i := ys.length) (by omega)
   obtain ⟨g, k1, k2, k3⟩ := fin (rs.getD (ys.length - 1) 0) hr0 b1 (by rw [hdr, hdr2, hz]; omega)
   refine ⟨g, ?_, k2, k3⟩
   unfold spec_natGuess.f
   rw [HWP.out, if_neg f1, if_pos f2, if_pos f3, if_neg f5, if_pos f4, hrd, hyd, u64_in hy0 b2, if_neg hyt, u64_in hr0 b1, k1]
theorem natDiv_l1 {qs bs xl yl rl : List Int} {i n : Nat} {R Y : Nat} (hr : IsN rl R) (hy : IsN yl Y) (hY0 : 0 < Y) (hRb : R < tn 1800) (hYb : Y < tn 1773) (hq : qs.length = n) (hi : i < n) (hnb : n ≤ 500) :
  ∀ (e g : Nat) (pl : List Int), g = R / Y + e → g ≤ 999999999 → IsN pl (Y * g) →
   ∃ rl' K s, IsN rl' (R % Y) ∧ ∀ k, K ≤ k → spec_NatDiv.l1 (k + s) qs rl bs xl yl (i : Int) (g : Int) pl = spec_NatDiv.l0 k (qs.set i ((R / Y : Nat) : Int)) rl' bs xl yl ((i : Int) - 1) := by
 have hpow : tn 1800 = tn 1773 * 10 ^ 27 := tn_add 1773 27
 have hpb : ∀ g, g ≤ 999999999 → Y * g < tn 1800 := by
  intro g hg
  rw [hpow]
  exact Nat.lt_of_le_of_lt (Nat.mul_le_mul_left _ (Nat.le_trans hg (by decide : 999999999 ≤ 10 ^ 27))) (Nat.mul_lt_mul_of_pos_right hYb (Nat.pow_pos (by omega)))
 have f1 : (0 : Int) ≤ (i : Int) := by omega
 have f2 : (i : Int) < (qs.length : Int) := by omega
 have w1 : wrap64 ((i : Int) - 1) = (i : Int) - 1 := w64 (by omega) (by omega)
 have HW : Hid (wrap64 ((i : Int) - 1) = (i : Int) - 1) := w1
 clear w1
 intro e
 induction e with
 | zero =>
  intro g pl hg hgb hp
  have hge : g = R / Y := by omega
  have hle : Y * g ≤ R := by rw [hge, Nat.mul_comm]; exact Nat.div_mul_le_self R Y
  obtain ⟨K, rl', k1, k2⟩ := natSub_law hr hp hRb hle
  have hc := natCmp_law hp hr (hpb g hgb) hRb
  have hm : R - Y * g = R % Y := by rw [hge]; have := Nat.div_add_mod R Y; omega
  rw [hm] at k1
  have hcm : ¬ cmpN (Y * g) R > 0 := by
   unfold cmpN
   by_cases h : Y * g < R
   ·rw [if_pos h]; omega
   ·rw [if_neg h, if_pos (by omega)]; omega
  have hgm : (g : Int) % 4294967296 = ((R / Y : Nat) : Int) := by rw [← hge]; omega
  refine ⟨rl', K + 1000, 1, k1, fun k hk => ?_⟩
  conv => lhs; unfold spec_NatDiv.l1
  rw [hc k (by omega)]
  simp only [Option.bind_some]
  rw [if_neg hcm, k2 k (by omega)]
  simp only [Option.bind_some]
  rw [if_pos f1, if_pos f2, hgm, HW.out, Int.toNat_natCast]
 | succ e ih =>
  intro g pl hg hgb hp
  have hlt : R < Y * g := by
   have h1 := Nat.lt_mul_div_succ R hY0
   have h2 : (R / Y).succ ≤ g := by omega
   exact Nat.lt_of_lt_of_le h1 (Nat.mul_le_mul_left _ h2)
  have hg1 : 1 ≤ g := by generalize R / Y = Q at hg; omega
  have hle : Y ≤ Y * g := Nat.le_mul_of_pos_right _ hg1
  obtain ⟨K, pl', k1, k2⟩ := natSub_law hp hy (hpb g hgb) hle
  have hc := natCmp_law hp hr (hpb g hgb) hRb
  have hm : Y * g - Y = Y * (g - 1) := by rw [Nat.mul_sub, Nat.mul_one]
  rw [hm] at k1
  obtain ⟨rl', K2, s, a1, a2⟩ := ih (g - 1) pl' (by omega) (by omega) k1
  have hcm : cmpN (Y * g) R > 0 := by
   have a1 : ¬ Y * g < R := by omega
   have a2 : ¬ Y * g = R := by omega
   unfold cmpN; rw [if_neg a1, if_neg a2]; omega
  have hgw : IntKind.u64.wrap ((g : Int) - 1) = ((g - 1 : Nat) : Int) := by rw [u64_in (by omega) (by omega)]; omega
  have HGW : Hid (IntKind.u64.wrap ((g : Int) - 1) = ((g - 1 : Nat) : Int)) := hgw
  clear hgw
  refine ⟨rl', K + K2 + 1000, s + 1, a1, fun k hk => ?_⟩
  have e1 : k + (s + 1) = (k + s) + 1 := by omega
  have e2 : 1000 ≤ k + s := by omega
  have e3 : K ≤ k + s := by omega
  have e4 : K2 ≤ k := by omega
  rw [e1]
  conv => lhs; unfold spec_NatDiv.l1
  rw [hc (k + s) e2]
  simp only [Option.bind_some]
  rw [if_pos hcm, k2 (k + s) e3]
  simp only [Option.bind_some]
  rw [HGW.out]
  exact a2 k e4
theorem IsN.consTrim {x : Int} {xs : List Int} {a : Nat} {c : Nat} (h : IsN xs a) (h0 : 0 ≤ x) (h1 : x < 1000000000) (hc : (c : Int) = x + 1000000000 * (a : Int)) : IsN (trim9 (x :: xs)) c :=
 trim9_is (Lms.cons h0 h1 h.lms) (by rw [v9, h.val, hc])
theorem ring6 (Q P D : Int) : Q * (1000000000 * P) + D * P = (((1000000000 : Nat) : Int) * Q + D) * P := by grind
theorem ring7 (x Q Y R D M : Int) (h : Y * D + M = x + 1000000000 * R) : x + 1000000000 * (Q * Y + R) = (((1000000000 : Nat) : Int) * Q + D) * Y + M := by grind
theorem natDiv_l0 {bs xl yl : List Int} {n Y b : Nat} (hn : xl.length = n) (hx : Lms xl) (hy : IsN yl Y) (hY0 : 0 < Y) (hYb : Y < tn 1773) (hnb : n ≤ 400) (hbs : bs = [(b : Int)]) (hb0 : 0 < b) (hb1 : b < 1000000000) :
  ∀ (i : Nat) (qs rl : List Int) (R Q : Nat), i ≤ n → qs.length = n → Lms qs → (∀ t, t < i → qs.getD t 0 = 0) → IsN rl R → R < Y → v9 qs = Q * p9 i → v9 (xl.drop i) = Q * Y + R →
   ∃ K q r R' Q', IsN q Q' ∧ IsN r (R' / b) ∧ R' < Y ∧ v9 xl = (Q' : Int) * Y + R' ∧ ∀ k, K ≤ k → spec_NatDiv.l0 k qs rl bs xl yl ((i : Int) - 1) = some (q, r) := by
 have hpow : tn 1800 = tn 1773 * 10 ^ 27 := tn_add 1773 27
 have hp9 : (1000000000 : Nat) ≤ 10 ^ 27 := by decide
 intro i
 induction i with
 | zero =>
  intro qs rl R Q hi hql hl hz hr hRY hqv hxv
  have hRb : R < tn 1800 := by rw [hpow]; exact Nat.lt_of_lt_of_le (Nat.lt_trans hRY hYb) (Nat.le_mul_of_pos_right _ (Nat.pow_pos (by omega)))
  obtain ⟨K, r, k1, k2⟩ := natShort_law hr hRb hb0 hb1
  refine ⟨K + n + 2, trim9 qs, r, R, Q, trim9_is hl (by rw [hqv]; simp [p9]), k1, hRY, by simpa using hxv, fun k hk => ?_⟩
  obtain ⟨k, rfl⟩ : ∃ m, k = m + 1 := ⟨k - 1, by omega⟩
  have e1 : ¬ ((0 : Nat) : Int) - 1 ≥ 0 := by omega
  have e2 : (0 : Int) < (bs.length : Int) := by rw [hbs]; simp
  have e3 : rd bs 0 = (b : Int) := by rw [hbs]; rfl
  have e4 : K ≤ k := by omega
  have e5 : qs.length < k := by omega
  have e6 : qs.length ≤ 1000 := by omega
  conv => lhs; unfold spec_NatDiv.l0
  rw [if_neg e1, if_pos e2, e3, k2 k e4]
  simp only [Option.bind_some]
  rw [natTrim_f e5 e6]
  rfl
 | succ i ih =>
  intro qs rl R Q hi hql hl hz hr hRY hqv hxv
  obtain ⟨hx0, hx1⟩ := hx.getD i
  obtain ⟨x, hxe⟩ : ∃ x : Nat, xl.getD i 0 = (x : Int) := ⟨(xl.getD i 0).toNat, by omega⟩
  have hR0 : IsN (trim9 (xl.getD i 0 :: rl)) (x + 1000000000 * R) := hr.consTrim hx0 hx1 (by rw [hxe]; omega)
  have hRB : x + 1000000000 * R < 1000000000 * Y := by omega
  obtain ⟨g, g1, g2, g3⟩ := natGuess_law hR0 hy hRB hYb
  obtain ⟨R0, hR0e⟩ : ∃ R0, x + 1000000000 * R = R0 := ⟨_, rfl⟩
  rw [hR0e] at hR0 hRB g2
  obtain ⟨KF, gl, a1, a2⟩ := natFrom_law (a := g) (by omega)
  have hgb : g < tn 1800 := lt_tn (j := 10) (Nat.lt_of_le_of_lt g3 (by decide)) (by omega)
  have hYb' : Y < tn 1800 := by rw [hpow]; exact Nat.lt_of_lt_of_le hYb (Nat.le_mul_of_pos_right _ (Nat.pow_pos (by omega)))
  obtain ⟨KM, pl, m1, m2⟩ := natMul_law hy a1 hYb' hgb
  have hR0b : R0 < tn 1800 := by
   rw [hpow]
   refine Nat.lt_of_lt_of_le hRB ?_
   rw [Nat.mul_comm]
   exact Nat.mul_le_mul (Nat.le_of_lt hYb) hp9
  obtain ⟨e, he⟩ := Nat.exists_eq_add_of_le g2
  obtain ⟨rl', K1, s, b1, b2⟩ := natDiv_l1 (bs := bs) (xl := xl) hR0 hy hY0 hR0b hYb hql (show i < n by omega) (by omega) e g pl (by omega) g3 m1
  have hdig : R0 / Y < 1000000000 := Nat.div_lt_of_lt_mul (by rw [Nat.mul_comm]; exact hRB)
  have hd0 : 0 ≤ ((R0 / Y : Nat) : Int) := Int.natCast_nonneg _
  have hd1 : ((R0 / Y : Nat) : Int) < 1000000000 := by generalize R0 / Y = D at *; omega
  have hzi := hz i (by omega)
  have f5 : i < qs.length := by omega
  obtain ⟨K0, q, r, R', Q', c1, c2, c3, c4, c5⟩ := ih (qs.set i ((R0 / Y : Nat) : Int)) rl' (R0 % Y) (1000000000 * Q + R0 / Y) (by omega) (by simp [hql]) (hl.set _ hd0 hd1)
   (fun t ht => by rw [List.getD_eq_getElem?_getD, List.getElem?_set_ne (by omega), ← List.getD_eq_getElem?_getD]; exact hz t (by omega)) b1 (Nat.mod_lt _ hY0)
   (by
    rw [v9_set _ _ _ f5, hqv, hzi, p9_succ, Int.sub_zero, Int.natCast_add, Int.natCast_mul]
    exact ring6 _ _ _)
   (by
    rw [drop_get, hxv, hxe]
    have hd := Nat.div_add_mod R0 Y
    have hdI : (Y : Int) * ((R0 / Y : Nat) : Int) + ((R0 % Y : Nat) : Int) = (x : Int) + 1000000000 * (R : Int) := by
     rw [← Int.natCast_mul, ← Int.natCast_add, hd, ← hR0e]; omega
    rw [Int.natCast_add, Int.natCast_mul]
    exact ring7 _ _ _ _ _ _ hdI)
  refine ⟨K0 + K1 + KF + KM + s + rl.length + 10, q, r, R', Q', c1, c2, c3, c4, fun k hk => ?_⟩
  have hrl : rl.length ≤ 200 := hr.len (Nat.lt_trans hRY hYb')
  obtain ⟨k, rfl⟩ : ∃ m, k = (m + s) + 1 := ⟨k - s - 1, by omega⟩
  have e0 : ((i + 1 : Nat) : Int) - 1 = (i : Int) := by omega
  have e1 : (i : Int) ≥ 0 := by omega
  have e1' : (0 : Int) ≤ (i : Int) := by omega
  have e2 : (i : Int) < (xl.length : Int) := by omega
  have e3 : [xl.getD i 0].length + rl.length < 35184372088832 := by simp; omega
  have e4 : ([xl.getD i 0] ++ rl).length < k + s := by simp; omega
  have e5 : ([xl.getD i 0] ++ rl).length ≤ 1000 := by simp; omega
  have e6 : KF ≤ k + s := by omega
  have e7 : KM ≤ k + s := by omega
  have e8 : K1 ≤ k := by omega
  have e9 : K0 ≤ k := by omega
  conv => lhs; unfold spec_NatDiv.l0
  rw [e0, if_pos e1, if_pos e1', if_pos e2, rd_nat]
  simp only [Option.bind_some]
  rw [if_pos e3, natTrim_f e4 e5]
  simp only [Option.bind_some, List.singleton_append]
  rw [g1]
  simp only [Option.bind_some]
  have h5 := a2 (k + s) e6
  have h6 := m2 (k + s) e7
  have h7 : (spec_NatFrom.f (k + s) (g : Int)).bind (fun t331 => (spec_NatMul.f (k + s) yl t331).bind fun t334 => spec_NatDiv.l1 (k + s) qs (trim9 (xl.getD i 0 :: rl)) bs xl yl (i : Int) (g : Int) t334) = spec_NatDiv.l1 (k + s) qs (trim9 (xl.getD i 0 :: rl)) bs xl yl (i : Int) (g : Int) pl := by
   rw [h5, Option.bind_some, h6, Option.bind_some]
  have h8 := b2 k e8
  have h9 := c5 k e9
  exact (h7.trans h8).trans h9
theorem natDiv_law {xs ys : List Int} {a b : Nat} (hx : IsN xs a) (hy : IsN ys b) (ha : a < tn 1764) (hb : b < tn 1764) (hb0 : 0 < b) :
  ∃ K q r, IsN q (a / b) ∧ IsN r (a % b) ∧ ∀ k, K ≤ k → spec_NatDiv.f k xs ys = some (q, r) := by
 have hpow : tn 1800 = tn 1764 * 10 ^ 36 := tn_add 1764 36
 have hpow2 : tn 1773 = tn 1764 * 10 ^ 9 := tn_add 1764 9
 have up : ∀ {c : Nat}, c < tn 1764 → c < tn 1800 := fun h => by rw [hpow]; exact Nat.lt_of_lt_of_le h (Nat.le_mul_of_pos_right _ (Nat.pow_pos (by omega)))
 have ha' := up ha
 have hb' := up hb
 have hc := natCmp_law hx hy ha' hb'
 have hyl := hy.len hb'
 have hxl := hx.len ha'
 have hyn : ys ≠ [] := fun e => by have := hy.nil_iff.1 e; omega
 have hn0 : 0 < ys.length := List.length_pos_iff.2 hyn
 by_cases hlt : a < b
 ·refine ⟨1000, [], xs, by rw [Nat.div_eq_of_lt hlt]; exact IsN.nil, by rw [Nat.mod_eq_of_lt hlt]; exact hx, fun k hk => ?_⟩
  have h1 : cmpN a b < 0 := by unfold cmpN; rw [if_pos hlt]; omega
  have h2 : ([] : List Int).length + xs.length < 35184372088832 := by simp; omega
  unfold spec_NatDiv.f
  rw [hc k hk, Option.bind_some, if_pos h1, Option.bind_some, if_pos h2, List.nil_append]
 ·have h1 : ¬ cmpN a b < 0 := by unfold cmpN; rw [if_neg hlt]; split <;> omega
  by_cases hl1 : ys.length = 1
  ·obtain ⟨y, rfl⟩ : ∃ y, ys = [y] := List.length_eq_one_iff.1 hl1
   obtain ⟨hy0, hy1⟩ := hy.lms.head
   have hyv : y = (b : Int) := by have := hy.val; simpa [v9] using this
   subst hyv
   obtain ⟨K, q, k1, k2⟩ := natShort_law hx ha' hb0 (by omega)
   have hm : a % b < b := Nat.mod_lt _ hb0
   obtain ⟨KF, r, a1, a2⟩ := natFrom_law (a := a % b) (by omega)
   refine ⟨K + KF + 1000, q, r, k1, a1, fun k hk => ?_⟩
   have e1 : 1000 ≤ k := by omega
   have e2 : K ≤ k := by omega
   have e3 : KF ≤ k := by omega
   have hw : IntKind.u64.wrap ((a % b : Nat) : Int) = ((a % b : Nat) : Int) := u64_in (by omega) (by omega)
   unfold spec_NatDiv.f
   have e4 : rd [(b : Int)] 0 = (b : Int) := rfl
   have e5 : (([(b : Int)].length : Nat) : Int) = 1 := rfl
   have e6 : (0 : Int) < (([(b : Int)].length : Nat) : Int) := by rw [e5]; omega
   rw [hc k e1, Option.bind_some, if_neg h1, if_pos e5, if_pos e6, e4, k2 k e2, Option.bind_some]
   show ((spec_NatFrom.f k (IntKind.u64.wrap ((a % b : Nat) : Int))).bind fun t296 => some (q, t296)) = some (q, r)
   rw [hw, a2 k e3, Option.bind_some]
  ·obtain ⟨hy0, hy1⟩ := hy.lms.getD (ys.length - 1)
   have hyt := hy.trm.getD (i := ys.length - 1) (by omega)
   obtain ⟨c, hce⟩ : ∃ c : Nat, c = 1000000000 / ((ys.getD (ys.length - 1) 0).toNat + 1) := ⟨_, rfl⟩
   have hc1 : c < 1000000000 := by rw [hce]; exact Nat.div_lt_self (by omega) (by omega)
   have hc0 : 0 < c := by rw [hce]; exact Nat.div_pos (by omega) (by omega)
   have hcI : Int.tdiv 1000000000 (ys.getD (ys.length - 1) 0 + 1) = (c : Int) := by
    rw [Int.tdiv_eq_ediv_of_nonneg (by omega), hce, Int.natCast_ediv]
    congr 1
    omega
   have hcs : IsN [(c : Int)] c := ⟨Lms.cons (by omega) (by omega) Lms.nil, Trm.last (xs := []) (by omega), by simp [v9]⟩
   have hcb : c < tn 1800 := lt_tn (j := 10) (Nat.lt_trans hc1 (by decide)) (by omega)
   obtain ⟨K1, xl, a1, a2⟩ := natMul_law hx hcs ha' hcb
   obtain ⟨K2, yl, b1, b2⟩ := natMul_law hy hcs hb' hcb
   have hY0 : 0 < b * c := Nat.mul_pos hb0 hc0
   have hYb : b * c < tn 1773 := by
    rw [hpow2]
    exact Nat.lt_of_le_of_lt (Nat.mul_le_mul_left _ (Nat.le_of_lt hc1)) (Nat.mul_lt_mul_of_pos_right hb (by decide))
   have hXb : a * c < tn 1800 := by
    rw [hpow]
    exact Nat.lt_of_le_of_lt (Nat.mul_le_mul_left _ (Nat.le_trans (Nat.le_of_lt hc1) (by decide : 1000000000 ≤ 10 ^ 36))) (Nat.mul_lt_mul_of_pos_right ha (Nat.pow_pos (by omega)))
   have hxll := a1.len hXb
   obtain ⟨K0, q, r, R', Q', d1, d2, d3, d4, d5⟩ := natDiv_l0 (bs := [(c : Int)]) (xl := xl) rfl a1.lms b1 hY0 hYb (by omega) rfl hc0 hc1 xl.length (List.replicate xl.length 0) [] 0 0 (Nat.le_refl _) (by simp) (Lms.rep _)
    (fun t _ => by rw [List.getD_eq_getElem?_getD, List.getElem?_replicate]; split <;> rfl) IsN.nil hY0 (by rw [v9_rep]; simp) (by rw [List.drop_eq_nil_of_le (Nat.le_refl _)]; simp [v9])
   rw [a1.val] at d4
   have hN : a * c = Q' * (b * c) + R' := by exact_mod_cast d4
   have hRc : R' = (a - Q' * b) * c := by rw [Nat.sub_mul, hN, Nat.mul_assoc]; omega
   have hQle : Q' * b ≤ a := by
    have : Q' * b * c ≤ a * c := by rw [hN, Nat.mul_assoc]; omega
    exact Nat.le_of_mul_le_mul_right this hc0
   have hRlt : a - Q' * b < b := by
    rw [hRc] at d3
    exact Nat.lt_of_mul_lt_mul_right d3
   have hQ : Q' = a / b := by
    symm
    rw [Nat.div_eq_iff hb0]
    have := Nat.mul_comm Q' b
    constructor <;> omega
   have hRm : R' / c = a % b := by
    rw [hRc, Nat.mul_div_cancel _ hc0, hQ]
    have := Nat.div_add_mod a b
    rw [Nat.mul_comm] at this
    omega
   rw [hQ] at d1
   rw [hRm] at d2
   refine ⟨K0 + K1 + K2 + 1000, q, r, d1, d2, fun k hk => ?_⟩
   have hwp := wr_pred (n := ys.length) (by omega) hn0
   have HWP : Hid (wrap64 ((ys.length : Int) - 1) = ((ys.length - 1 : Nat) : Int)) := hwp
   clear hwp
   have e1 : 1000 ≤ k := by omega
   have e2 : K1 ≤ k := by omega
   have e3 : K2 ≤ k := by omega
   have e4 : K0 ≤ k := by omega
   have f1 : ¬ (ys.length : Int) = 1 := by omega
   have f2 : (0 : Int) ≤ ((ys.length - 1 : Nat) : Int) := by omega
   have f3 : ((ys.length - 1 : Nat) : Int) < (ys.length : Int) := by omega
   have f4 : (0 : Int) ≤ (xl.length : Int) := by omega
   have f5 : xl.length ≤ 70368744177664 := by omega
   have f6 : ¬ ys.getD (ys.length - 1) 0 + 1 = 0 := by omega
   have b1' : ys.getD (ys.length - 1) 0 < 18446744073709551616 := by omega
   have b2' : 0 ≤ ys.getD (ys.length - 1) 0 + 1 := by omega
   have b3' : ys.getD (ys.length - 1) 0 + 1 < 18446744073709551616 := by omega
   have b4' : (c : Int) % 4294967296 = (c : Int) := by omega
   have g1 : (xl.length : Int) - 1 ≤ 100000 := by omega
   have g2 : -100000 ≤ (xl.length : Int) - 1 := by omega
   have u1 := u64_in (x := (c : Int)) (by omega) (by omega)
   have t1 := a2 k e2
   have t2 := b2 k e3
   have t3 := d5 k e4
   have h7 : (spec_NatMul.f k xs [(c : Int)]).bind (fun t303 => (spec_NatMul.f k ys [(c : Int)]).bind fun t306 => (if 0 ≤ (t303.length : Int) then (if ((t303.length : Int) : Int).toNat ≤ 70368744177664 then (spec_NatDiv.l0 k (List.replicate ((t303.length : Int) : Int).toNat 0) ([] : List Int) [(c : Int)] t303 t306 (wrap64 ((t303.length : Int) - 1))) else (none)) else (none))) = some (q, r) := by
    rw [t1, Option.bind_some, t2, Option.bind_some, if_pos f4, Int.toNat_natCast, if_pos f5, w64 g2 g1]
    exact t3
   unfold spec_NatDiv.f
   rw [hc k e1, Option.bind_some, if_neg h1, if_neg f1, HWP.out, if_pos f2, if_pos f3, rd_nat, u64_in hy0 b1', u64_in b2' b3', if_neg f6, hcI, u1, b4', Option.bind_some]
   exact h7
end Go.Proofs.YtbjhnckboimliaaGreatDoor
namespace Go.Proofs.YtbjhnckboimliaaGreatDoor.PFnFixSubExact
open Go.RowKit Go.Proofs.YtbjhnckboimliaaGreatDoorW.PrintWords Go.Proofs.YtbjhnckboimliaaGreatDoorW.PrintLast Go.Proofs.YtbjhnckboimliaaGreatDoorW.PrintMore
attribute [local go_sem] max2_int min2_int max_two min_two max_three min_three max_four min_four
set_option linter.unusedVariables false
set_option linter.unusedSimpArgs false
mutual
def spec_Nat_String.l0 : Nat → List Int → List Int → List Int → Int → Int → Option (ByteArray)
 | 0, _, _, _, _, _ => none
 | k + 1, x0, x3, x9, x10, x11 => if x11 < x10 then (if 0 ≤ x11 then (if x11 < (x9.length : Int) then (spec_Nat_String.l1 k x0 x3 x11 (rd x9 x11) 0 x9 x10 x11) else (none)) else (none)) else (if (x3.length : Int) = 0 then (some (⟨#[48]⟩ : ByteArray)) else (spec_Nat_String.l2 k x3 0 (wrap64 ((x3.length : Int) - 1))))
def spec_Nat_String.l1 : Nat → List Int → List Int → Int → Int → Int → List Int → Int → Int → Option (ByteArray)
 | 0, _, _, _, _, _, _, _, _ => none
 | k + 1, x0, x3, x4, x5, x6, x9, x10, x11 => if x6 < 9 then (if x5 > 0 then (if x3.length < 140737488355328 then (spec_Nat_String.l1 k x0 (x3 ++ [(48 + (Int.tmod x5 10)) % 256]) x4 ((Int.tdiv x5 10) % 4294967296) (wrap64 (x6 + 1)) x9 x10 x11) else (none)) else (if (wrap64 (x4 + 1)) < (x0.length : Int) then (if x3.length < 140737488355328 then (spec_Nat_String.l1 k x0 (x3 ++ [(48 + (Int.tmod x5 10)) % 256]) x4 ((Int.tdiv x5 10) % 4294967296) (wrap64 (x6 + 1)) x9 x10 x11) else (none)) else (spec_Nat_String.l0 k x0 x3 x9 x10 (wrap64 (x11 + 1))))) else (spec_Nat_String.l0 k x0 x3 x9 x10 (wrap64 (x11 + 1)))
def spec_Nat_String.l2 : Nat → List Int → Int → Int → Option (ByteArray)
 | 0, _, _, _ => none
 | k + 1, x3, x7, x8 => if x7 < x8 then (if 0 ≤ x8 then (if x8 < (x3.length : Int) then (if 0 ≤ x7 then (if x7 < (x3.length : Int) then (spec_Nat_String.l2 k ((x3.set (x7 : Int).toNat (rd x3 x8)).set (x8 : Int).toNat (rd x3 x7)) (wrap64 (x7 + 1)) (wrap64 (x8 - 1))) else (none)) else (none)) else (none)) else (none)) else (some (strOfNums x3))
end
def spec_Nat_String.f (k : Nat) (l0 : List Int) : Option (ByteArray) := spec_Nat_String.l0 k l0 ([] : List Int) l0 (l0.length : Int) 0
theorem spec_Nat_String.mono_l : ∀ k, (∀ y0 y1 y2 y3 y4, LeO (spec_Nat_String.l0 k y0 y1 y2 y3 y4) (spec_Nat_String.l0 (k + 1) y0 y1 y2 y3 y4)) ∧ (∀ y0 y1 y2 y3 y4 y5 y6 y7, LeO (spec_Nat_String.l1 k y0 y1 y2 y3 y4 y5 y6 y7) (spec_Nat_String.l1 (k + 1) y0 y1 y2 y3 y4 y5 y6 y7)) ∧ (∀ y0 y1 y2, LeO (spec_Nat_String.l2 k y0 y1 y2) (spec_Nat_String.l2 (k + 1) y0 y1 y2))
 | 0 => ⟨fun _ _ _ _ _ r h => by simp [spec_Nat_String.l0] at h, fun _ _ _ _ _ _ _ _ r h => by simp [spec_Nat_String.l1] at h, fun _ _ _ r h => by simp [spec_Nat_String.l2] at h⟩
 | k + 1 => by
  obtain ⟨ih0, ih1, ih2⟩ := spec_Nat_String.mono_l k
  refine ⟨?_, ?_, ?_⟩
  ·intro y0 y1 y2 y3 y4
   unfold spec_Nat_String.l0
   repeat' first
   | (with_reducible exact ih0 _ _ _ _ _)
   | (with_reducible exact ih1 _ _ _ _ _ _ _ _)
   | (with_reducible exact ih2 _ _ _)
   | (with_reducible exact LeO.refl _)
   | (with_reducible exact LeO.none _)
   | (with_reducible refine LeO.ite ?_ ?_)
   | (with_reducible refine LeO.bind ?_ (fun _ => ?_))
   | exact ih0 _ _ _ _ _
   | exact ih1 _ _ _ _ _ _ _ _
   | exact ih2 _ _ _
   | exact LeO.none _
   | refine LeO.ite ?_ ?_
   | refine LeO.bind ?_ (fun _ => ?_)
  ·intro y0 y1 y2 y3 y4 y5 y6 y7
   unfold spec_Nat_String.l1
   repeat' first
   | (with_reducible exact ih0 _ _ _ _ _)
   | (with_reducible exact ih1 _ _ _ _ _ _ _ _)
   | (with_reducible exact ih2 _ _ _)
   | (with_reducible exact LeO.refl _)
   | (with_reducible exact LeO.none _)
   | (with_reducible refine LeO.ite ?_ ?_)
   | (with_reducible refine LeO.bind ?_ (fun _ => ?_))
   | exact ih0 _ _ _ _ _
   | exact ih1 _ _ _ _ _ _ _ _
   | exact ih2 _ _ _
   | exact LeO.none _
   | refine LeO.ite ?_ ?_
   | refine LeO.bind ?_ (fun _ => ?_)
  ·intro y0 y1 y2
   unfold spec_Nat_String.l2
   repeat' first
   | (with_reducible exact ih0 _ _ _ _ _)
   | (with_reducible exact ih1 _ _ _ _ _ _ _ _)
   | (with_reducible exact ih2 _ _ _)
   | (with_reducible exact LeO.refl _)
   | (with_reducible exact LeO.none _)
   | (with_reducible refine LeO.ite ?_ ?_)
   | (with_reducible refine LeO.bind ?_ (fun _ => ?_))
   | exact ih0 _ _ _ _ _
   | exact ih1 _ _ _ _ _ _ _ _
   | exact ih2 _ _ _
   | exact LeO.none _
   | refine LeO.ite ?_ ?_
   | refine LeO.bind ?_ (fun _ => ?_)
def spec_Nat_String.T16 : Bool × List (List Nat × List Nat) := (true, [([], []), ([], []), ([], []), ([], []), ([], []), ([], []), ([4, 5], [4, 5]), ([6], [6]), ([], []), ([], []), ([8, 9], [8, 9]), ([10], [10]), ([0, 1, 0, 1, 4, 5, 6, 7, 11], [0, 1]), ([12, 7, 0, 1, 4, 5, 6, 7, 11], [7, 12]), ([2, 3, 0, 1, 2, 3, 4, 5, 6, 7, 8, 9, 10, 11, 12, 13], [2, 3]), ([14, 11, 13, 0, 1, 2, 3, 4, 5, 6, 7, 8, 9, 10, 11, 12, 13], [11, 14])])
def spec_Nat_String.B16 : List Nat := [0, 0, 0, 0, 0, 0, 48, 112, 0, 0, 768, 1792, 4083, 8179, 16383, 32767]
theorem spec_Nat_String.tab16 : rtab .any (opsOf Tryz.f55 16) = spec_Nat_String.T16 := by kernel_rfl
theorem spec_Nat_String.bits16 : waitsOk spec_Nat_String.T16.2 spec_Nat_String.B16 = true := by kernel_rfl
set_option maxHeartbeats 8000000 in
set_option maxRecDepth 100000 in
theorem spec_Nat_String.calls (k : Nat) (A0 : Option Addr) (c0 : Nat) (l0 : List Int) (r : ByteArray) (w : World) (hr0 : Kd.C (Kd.int .u32) w A0 l0.length l0) (hc0 : l0.length ≤ c0) (h : spec_Nat_String.f k l0 = some r) :
  Calls Tryz.prog 55 #[.slice A0 l0.length c0] w fun e w' => e = .returned (.string r) ∧ Below w.heap.size w w' := by
 have HR0 := Aside0.mk hr0
 have HC0 := Aside0.mk hc0
 clear hr0 hc0
 have HB := Aside0.mk (Below.refl w.heap.size w)
 have H : (spec_Nat_String.l0 k l0 ([] : List Int) l0 (l0.length : Int) 0) = some r := h
 clear h
 have H' := Aside0.mk H
 clear H
 go_enter Tryz.func55, Tryz.ntmps55
 go_wp2
 go_loopg [3, 11] k (fun kq v3 v11 w' => ∃ (x3_1 : List Int) (x11_1 : Int), v11 = .int .i64 x11_1 ∧ Aside0 (spec_Nat_String.l0 kq l0 x3_1 l0 (l0.length : Int) x11_1 = some r) ∧ Aside0 (kq ≤ k) ∧ Aside0 (Kd.R (Kd.int .u8) 5 w' w.heap.size (fun _ => True) v3 x3_1) ∧ Aside0 (Below w.heap.size w w'))
 case atStart => exact ⟨(([] : List Int)), (0), sd_, H', ⟨Nat.le_refl _⟩, ⟨by first | exact Kd.R_nil _ _ _ _ _ | exact Kd.N_nil _ _ _ _ _ | exact Kd.V_nil _ _ _ _ _ | exact Kd.Q_nil _ _ _ _ _ | exact Kd.S_nil _ _ _ _ _⟩, ⟨bel_⟩⟩
 case round =>
  clear H'
  obtain ⟨x3_1, x11_1, rfl, HA, HK1, HO_3, HB⟩ := hrel
  cases gk with
  | zero => exact absurd HA.out (by simp [spec_Nat_String.l0])
  | succ k1 =>
   have H := HA.out
   clear HA
   simp only [spec_Nat_String.l0] at H
   by_cases c2 : x11_1 < (l0.length : Int)
   ·rw [if_pos c2] at H
    have c2b0 : decide (x11_1 < (l0.length : Int)) = true := decide_eq_true c2
    clear c2
    by_cases c3 : 0 ≤ x11_1
    ·rw [if_pos c3] at H
     have c3b0 : decide (0 ≤ x11_1) = true := decide_eq_true c3
     clear c3
     by_cases c4 : x11_1 < (l0.length : Int)
     ·rw [if_pos c4] at H
      have c4b0 : decide (x11_1 < (l0.length : Int)) = true := decide_eq_true c4
      clear c4
      have H' := Aside0.mk H
      clear H
      have p223 : 0 ≤ (x11_1 : Int) := ode_
      have q223 : x11_1 < (l0.length : Int) := ode_
      obtain ⟨ad223, e223, hx223_0⟩ := Kd.at_int HR0.out x11_1 p223 q223
      cases e223
      replace hx223_0 := (HB.out.cell (World.block_lt_of_cell? w _ hx223_0)).trans hx223_0
      replace p223 := eq_true p223
      replace q223 := eq_true q223
      go_wp2
      go_loopg [3, 5, 6] k1 (fun kq v3 v5 v6 w' => ∃ (x3_2 : List Int) (x5_2 : Int) (x6_2 : Int), v5 = .int .u32 x5_2 ∧ v6 = .int .i64 x6_2 ∧ Aside0 (spec_Nat_String.l1 kq l0 x3_2 x11_1 x5_2 x6_2 l0 (l0.length : Int) x11_1 = some r) ∧ Aside0 (kq ≤ k1) ∧ Aside0 (Kd.R (Kd.int .u8) 5 w' w.heap.size (fun _ => True) v3 x3_2) ∧ Aside0 (Below w.heap.size w w'))
      case atStart => exact ⟨(x3_1), (rd l0 x11_1), (0), sd_, sd_, H', ⟨Nat.le_refl _⟩, ⟨by (with_reducible repeat (first | apply Kd.R_alloc | apply Kd.R_drewN | apply Kd.R_drew)); exact HO_3.out⟩, ⟨bel_⟩⟩
      case round =>
       clear H'
       try clear c2
       try clear c2b0
       try clear p2
       try clear q2
       try clear hx2
       try clear c3
       try clear c3b0
       try clear c4
       try clear c4b0
       try clear hx223_0
       try clear p223
       try clear q223
       obtain ⟨x3_2, x5_2, x6_2, rfl, rfl, HA, HK2, HO_3, HB⟩ := hrel
       cases gk with
       | zero => exact absurd HA.out (by simp [spec_Nat_String.l1])
       | succ k2 =>
        have H := HA.out
        clear HA
        simp only [spec_Nat_String.l1] at H
        by_cases c5 : x6_2 < 9
        ·rw [if_pos c5] at H
         have c5b0 : decide (x6_2 < 9) = true := decide_eq_true c5
         clear c5
         by_cases c6 : x5_2 > 0
         ·rw [if_pos c6] at H
          have c6b0 : decide (0 < x5_2) = true := decide_eq_true c6
          clear c6
          by_cases c7 : x3_2.length < 140737488355328
          ·rw [if_pos c7] at H
           have LMc7 := Aside0.mk c7
           clear c7
           obtain ⟨y224, hy224⟩ : ∃ y_ : List Int, y_ = (x3_2 ++ [(48 + (Int.tmod x5_2 10)) % 256]) := ⟨_, rfl⟩
           replace H : (spec_Nat_String.l1 k2 l0 y224 x11_1 ((Int.tdiv x5_2 10) % 4294967296) (wrap64 (x6_2 + 1)) l0 (l0.length : Int) x11_1) = some r := fo_ hy224 H
           have Ny224 := Aside0.mk hy224
           clear hy224
           have H' := Aside0.mk H
           clear H
           go_wp2_with (first | ((with_reducible refine gate_builtin (b := .append) (xs := #[.tmp 31, .tmp 36]) rfl ?_); (try (refine gate_guard (by rfl) ?_; dsimp only)); at_builtin; refine Kd.R_append (Kd.int .u8) (w0 := w) w.heap.size rfl (.tmp 31) (.tmp 36) 93 5 (.int .u8 0) 1 rfl Tryz.underlying93 info5 rfl (by decide) (by omega) u3 x3_2 ((48 + (Int.tmod x5_2 10)) % 256) [.int .u8 ((48 + (Int.tmod x5_2 10)) % 256)] (fun _ => True) (fun _ => False) rfl rfl ?aP (fun _ hk => hk.elim) ?aF ?aO ?aB ?aS ?aL ?_; (case aP => exact rfl); (case aB => exact bel_); (case aF => exact (fun _ _ => trivial)); (case aO => exact (rr_ HO_3.out)); (case aS => exact (below_size bel_)); (case aL => have := LMc7.out; omega); intro v225 w8 ho hb hg hat; rw [← Ny224.out] at ho; have n0_ := Aside0.mk (hb); have n1_ := Aside0.mk (ho); clear HB; clear HO_3; have HB := n0_; have HO226 := n1_; clear n0_ n1_; clear ho hb hg hat))
           go_roundg k2
           case measure => have := HK1.out; have := HK2.out; omega
           case rel => exact ⟨(y224), ((Int.tdiv x5_2 10) % 4294967296), (wrap64 (x6_2 + 1)), sd_, sd_, H', ⟨by have := HK1.out; have := HK2.out; omega⟩, ⟨by (with_reducible repeat (first | apply Kd.R_alloc | apply Kd.R_drewN | apply Kd.R_drew)); exact HO226.out⟩, ⟨bel_⟩⟩
          ·rw [if_neg c7] at H
           exact absurd H (by simp)
         ·rw [if_neg c6] at H
          have c6b0 : decide (0 < x5_2) = false := decide_eq_false c6
          clear c6
          by_cases c9 : (wrap64 (x11_1 + 1)) < (l0.length : Int)
          ·rw [if_pos c9] at H
           have c9b0 : decide ((wrap64 (x11_1 + 1)) < (l0.length : Int)) = true := decide_eq_true c9
           clear c9
           by_cases c10 : x3_2.length < 140737488355328
           ·rw [if_pos c10] at H
            have LMc10 := Aside0.mk c10
            clear c10
            obtain ⟨y227, hy227⟩ : ∃ y_ : List Int, y_ = (x3_2 ++ [(48 + (Int.tmod x5_2 10)) % 256]) := ⟨_, rfl⟩
            replace H : (spec_Nat_String.l1 k2 l0 y227 x11_1 ((Int.tdiv x5_2 10) % 4294967296) (wrap64 (x6_2 + 1)) l0 (l0.length : Int) x11_1) = some r := fo_ hy227 H
            have Ny227 := Aside0.mk hy227
            clear hy227
            have H' := Aside0.mk H
            clear H
            go_wp2_with (first | ((with_reducible refine gate_builtin (b := .append) (xs := #[.tmp 31, .tmp 36]) rfl ?_); (try (refine gate_guard (by rfl) ?_; dsimp only)); at_builtin; refine Kd.R_append (Kd.int .u8) (w0 := w) w.heap.size rfl (.tmp 31) (.tmp 36) 93 5 (.int .u8 0) 1 rfl Tryz.underlying93 info5 rfl (by decide) (by omega) u3 x3_2 ((48 + (Int.tmod x5_2 10)) % 256) [.int .u8 ((48 + (Int.tmod x5_2 10)) % 256)] (fun _ => True) (fun _ => False) rfl rfl ?aP (fun _ hk => hk.elim) ?aF ?aO ?aB ?aS ?aL ?_; (case aP => exact rfl); (case aB => exact bel_); (case aF => exact (fun _ _ => trivial)); (case aO => exact (rr_ HO_3.out)); (case aS => exact (below_size bel_)); (case aL => have := LMc10.out; omega); intro v228 w11 ho hb hg hat; rw [← Ny227.out] at ho; have n0_ := Aside0.mk (hb); have n1_ := Aside0.mk (ho); clear HB; clear HO_3; have HB := n0_; have HO229 := n1_; clear n0_ n1_; clear ho hb hg hat))
            go_roundg k2
            case measure => have := HK1.out; have := HK2.out; omega
            case rel => exact ⟨(y227), ((Int.tdiv x5_2 10) % 4294967296), (wrap64 (x6_2 + 1)), sd_, sd_, H', ⟨by have := HK1.out; have := HK2.out; omega⟩, ⟨by (with_reducible repeat (first | apply Kd.R_alloc | apply Kd.R_drewN | apply Kd.R_drew)); exact HO229.out⟩, ⟨bel_⟩⟩
           ·rw [if_neg c10] at H
            exact absurd H (by simp)
          ·rw [if_neg c9] at H
           have c9b0 : decide ((wrap64 (x11_1 + 1)) < (l0.length : Int)) = false := decide_eq_false c9
           clear c9
           have H' := Aside0.mk H
           clear H
           go_wp2
           go_roundg k2
           case measure => have := HK1.out; have := HK2.out; omega
           case rel => exact ⟨(x3_2), (wrap64 (x11_1 + 1)), sd_, H', ⟨by have := HK1.out; have := HK2.out; omega⟩, ⟨by (with_reducible repeat (first | apply Kd.R_alloc | apply Kd.R_drewN | apply Kd.R_drew)); exact HO_3.out⟩, ⟨bel_⟩⟩
        ·rw [if_neg c5] at H
         have c5b0 : decide (x6_2 < 9) = false := decide_eq_false c5
         clear c5
         have H' := Aside0.mk H
         clear H
         go_wp2
         go_roundg k2
         case measure => have := HK1.out; have := HK2.out; omega
         case rel => exact ⟨(x3_2), (wrap64 (x11_1 + 1)), sd_, H', ⟨by have := HK1.out; have := HK2.out; omega⟩, ⟨by (with_reducible repeat (first | apply Kd.R_alloc | apply Kd.R_drewN | apply Kd.R_drew)); exact HO_3.out⟩, ⟨bel_⟩⟩
     ·rw [if_neg c4] at H
      exact absurd H (by simp)
    ·rw [if_neg c3] at H
     exact absurd H (by simp)
   ·rw [if_neg c2] at H
    have c2b0 : decide (x11_1 < (l0.length : Int)) = false := decide_eq_false c2
    clear c2
    by_cases c12 : (x3_1.length : Int) = 0
    ·rw [if_pos c12] at H
     have c12b0 : ((x3_1.length : Int) == 0) = true := beq_iff_eq.mpr c12
     have c12b1 : ((x3_1.length : Int) != 0) = false := bne_eq_false_iff_eq.mpr c12
     clear c12
     obtain rfl := Option.some.inj H
     obtain ⟨Ao13, co13, eo13⟩ := Kd.R_slice HO_3.out
     subst eo13
     go_wp2
     go_ret
     exact ⟨by first | rfl | (simp [errW_none, errW_some] <;> rfl) | (simp [*, errW_none, errW_some] <;> rfl), bel_⟩
    ·rw [if_neg c12] at H
     have c12b0 : ((x3_1.length : Int) == 0) = false := beq_eq_false_iff_ne.mpr c12
     have c12b1 : ((x3_1.length : Int) != 0) = true := bne_iff_ne.mpr c12
     have c12b2 : ¬ (x3_1 = []) := fun h_ => c12 (by rw [h_]; rfl)
     have H' := Aside0.mk H
     clear H
     obtain ⟨Ao14, co14, eo14⟩ := Kd.R_slice HO_3.out
     subst eo14
     go_wp2
     go_loopg [7, 8] k1 (fun kq v7 v8 w' => ∃ (x3_2 : List Int) (x7_2 : Int) (x8_2 : Int), v7 = .int .i64 x7_2 ∧ v8 = .int .i64 x8_2 ∧ Aside0 (spec_Nat_String.l2 kq x3_2 x7_2 x8_2 = some r) ∧ Aside0 (kq ≤ k1) ∧ Aside0 (Kd.R (Kd.int .u8) 5 w' w.heap.size (fun _ => True) (.slice Ao14 x3_1.length co14) x3_2) ∧ Aside0 (Below w.heap.size w w'))
     case atStart => exact ⟨(x3_1), (0), (wrap64 ((x3_1.length : Int) - 1)), sd_, sd_, H', ⟨Nat.le_refl _⟩, ⟨by (with_reducible repeat (first | apply Kd.R_alloc | apply Kd.R_drewN | apply Kd.R_drew)); exact HO_3.out⟩, ⟨bel_⟩⟩
     case round =>
      clear H'
      try clear c1
      try clear c2
      try clear c2b0
      try clear p2
      try clear q2
      try clear hx2
      try clear c3
      try clear c3b0
      try clear c4
      try clear c4b0
      try clear c5
      try clear c5b0
      try clear c6
      try clear c6b0
      try clear p6
      try clear c7
      try clear c9
      try clear c9b0
      try clear c10
      try clear c12
      try clear c12b0
      try clear c12b1
      try clear c12b2
      try clear hx223_0
      try clear p2
      try clear p223
      try clear q2
      try clear q223
      obtain ⟨x3_2, x7_2, x8_2, rfl, rfl, HA, HK2, HO_3, HB⟩ := hrel
      have hl3_2 := (Kd.R_reads' HO_3.out).1
      rw [hl3_2] at HO_3
      (try simp only [hl3_2])
      cases gk with
      | zero => exact absurd HA.out (by simp [spec_Nat_String.l2])
      | succ k2 =>
       have H := HA.out
       clear HA
       simp only [spec_Nat_String.l2] at H
       by_cases c15 : x7_2 < x8_2
       ·rw [if_pos c15] at H
        have c15b0 : decide (x7_2 < x8_2) = true := decide_eq_true c15
        clear c15
        by_cases c16 : 0 ≤ x8_2
        ·rw [if_pos c16] at H
         have c16b0 : decide (0 ≤ x8_2) = true := decide_eq_true c16
         clear c16
         by_cases c17 : x8_2 < (x3_2.length : Int)
         ·rw [if_pos c17] at H
          have c17b0 : decide (x8_2 < (x3_2.length : Int)) = true := decide_eq_true c17
          clear c17
          by_cases c18 : 0 ≤ x7_2
          ·rw [if_pos c18] at H
           have c18b0 : decide (0 ≤ x7_2) = true := decide_eq_true c18
           clear c18
           by_cases c19 : x7_2 < (x3_2.length : Int)
           ·rw [if_pos c19] at H
            have c19b0 : decide (x7_2 < (x3_2.length : Int)) = true := decide_eq_true c19
            clear c19
            obtain ⟨y232, hy232⟩ : ∃ y_ : List Int, y_ = (x3_2.set (x7_2 : Int).toNat (rd x3_2 x8_2)) := ⟨_, rfl⟩
            replace H : (spec_Nat_String.l2 k2 (y232.set (x8_2 : Int).toNat (rd x3_2 x7_2)) (wrap64 (x7_2 + 1)) (wrap64 (x8_2 - 1))) = some r := fo_ hy232 H
            have Ny232 := Aside0.mk hy232
            clear hy232
            obtain ⟨y233, hy233⟩ : ∃ y_ : List Int, y_ = (y232.set (x8_2 : Int).toNat (rd x3_2 x7_2)) := ⟨_, rfl⟩
            replace H : (spec_Nat_String.l2 k2 y233 (wrap64 (x7_2 + 1)) (wrap64 (x8_2 - 1))) = some r := fo_ hy233 H
            have Ny233 := Aside0.mk hy233
            clear hy233
            have H' := Aside0.mk H
            clear H
            try go_wp2
            have n0_ := Aside0.mk (Kd.R_drew HO_3.out)
            have n1_ := Aside0.mk (below_drew1 HB.out)
            clear HO_3
            clear HB
            have HO_3 := n0_
            have HB := n1_
            clear n0_ n1_
            have p230 : 0 ≤ (x8_2 : Int) := ode_
            have q230 : x8_2 < (x3_2.length : Int) := ode_
            obtain ⟨ad230, e230, hx230_0⟩ := Kd.at_int (Kd.R_reads' HO_3.out).2.2 x8_2 p230 q230
            cases e230
            replace p230 := eq_true p230
            replace q230 := eq_true q230
            have p231 : 0 ≤ (x7_2 : Int) := ode_
            have q231 : x7_2 < (x3_2.length : Int) := ode_
            obtain ⟨ad231, e231, hx231_0⟩ := Kd.at_int (Kd.R_reads' HO_3.out).2.2 x7_2 p231 q231
            obtain rfl : ad230 = ad231 := (by injection e231)
            replace p231 := eq_true p231
            replace q231 := eq_true q231
            have p20 : 0 ≤ (x7_2 : Int) := ode_
            have q20 : (x7_2 : Int) < ((x3_2.length : Int) : Int) := ode_
            obtain ⟨go20, co20, eo20, gb20, gl20, cl20, HG20⟩ := Kd.R_form HO_3.out (by omega)
            (first | cases eo20 | (injection eo20 with ea_ en_ ec_; (first | subst ea_ | (injection ea_ with ea_; subst ea_)); subst ec_; clear en_))
            have GB20 := Aside0.mk gb20
            have GG20 := Aside0.mk HG20
            clear gb20 gl20 HG20
            (first | simp only [add_plain] at hx230_0 | skip)
            (first | simp only [add_plain] at hx231_0 | skip)
            obtain ⟨hx20_0, hf20_0⟩ := Kd.R_celln 0 HO_3.out (x7_2 : Int) p20 q20
            replace p20 := eq_true p20
            replace q20 := eq_true q20
            have HP23 := Kd.R_putn HO_3.out (x7_2 : Int) (rd x3_2 x8_2)
            rw [← Ny232.out] at HP23
            have HQ23 := Aside0.mk HP23
            clear HP23
            have p21 : 0 ≤ (x8_2 : Int) := ode_
            have q21 : (x8_2 : Int) < ((x3_2.length : Int) : Int) := ode_
            obtain ⟨hx21_0, hf21_0⟩ := Kd.R_celln 0 HQ23.out (x8_2 : Int) p21 q21
            replace p21 := eq_true p21
            replace q21 := eq_true q21
            have HP24 := Kd.R_putn HQ23.out (x8_2 : Int) (rd x3_2 x7_2)
            rw [← Ny233.out] at HP24
            have HQ24 := Aside0.mk HP24
            clear HP24
            refine start_ (n := 16) (S := fun w' => w'.cell? ⟨go20, (x8_2).toNat, none⟩ = some (.int .u8 (rd x3_2 x8_2)) ∧ w'.cell? ⟨go20, (x7_2).toNat, none⟩ = some (.int .u8 (rd x3_2 x7_2))) (ds := [13, 15]) #[false, false, false, false, false, false, false, false, false, false, false, false, false, false, false, false] kr_ rfl rfl ⟨hx230_0, hx231_0⟩ (fun hHeld => ?_); refine with_tabW spec_Nat_String.tab16 spec_Nat_String.bits16 (fun HT_ HW_ => ?_)
            generalize wr.drew = w22 at HO_3 HB GG20 HQ23 HQ24 hf20_0 hf21_0 hx20_0 hx21_0 hx230_0 hx231_0 hHeld ⊢
            refine pure_ (i := 0) (N := some 54) (v := ?_) (a' := ?_) #[true, false, false, false, false, false, false, false, false, false, false, false, false, false, false, false] rfl rfl (any_of HT_.out kr_) (fun _ _ _ h => h) (Or.inl ⟨by rfl, ?_⟩) ?_ ?_
            rotate_left
            ·intro w'
             go_simp
             with_reducible rfl
            rotate_left
            ·simp only [Act.put, List.setIfInBounds_toArray, List.set_cons_zero, List.set_cons_succ, i64_w, i32_w]
             rfl
            refine pure_ (i := 1) (N := some 55) (v := ?_) (a' := ?_) #[true, true, false, false, false, false, false, false, false, false, false, false, false, false, false, false] rfl rfl (any_of HT_.out kr_) (fun _ _ _ h => h) (Or.inl ⟨by rfl, ?_⟩) ?_ ?_
            rotate_left
            ·intro w'
             go_simp
             with_reducible rfl
            rotate_left
            ·simp only [Act.put, List.setIfInBounds_toArray, List.set_cons_zero, List.set_cons_succ, i64_w, i32_w]
             rfl
            refine pure_ (i := 2) (N := some 56) (v := ?_) (a' := ?_) #[true, true, true, false, false, false, false, false, false, false, false, false, false, false, false, false] rfl rfl (any_of HT_.out kr_) (fun _ _ _ h => h) (Or.inl ⟨by rfl, ?_⟩) ?_ ?_
            rotate_left
            ·intro w'
             go_simp
             with_reducible rfl
            rotate_left
            ·simp only [Act.put, List.setIfInBounds_toArray, List.set_cons_zero, List.set_cons_succ, i64_w, i32_w]
             rfl
            refine pure_ (i := 3) (N := some 57) (v := ?_) (a' := ?_) #[true, true, true, true, false, false, false, false, false, false, false, false, false, false, false, false] rfl rfl (any_of HT_.out kr_) (fun _ _ _ h => h) (Or.inl ⟨by rfl, ?_⟩) ?_ ?_
            rotate_left
            ·intro w'
             go_simp
             with_reducible rfl
            rotate_left
            ·simp only [Act.put, List.setIfInBounds_toArray, List.set_cons_zero, List.set_cons_succ, i64_w, i32_w]
             rfl
            refine pure_ (i := 4) (N := some 58) (v := ?_) (a' := ?_) #[true, true, true, true, true, false, false, false, false, false, false, false, false, false, false, false] rfl rfl (any_of HT_.out kr_) (fun _ _ _ h => h) (Or.inl ⟨by rfl, ?_⟩) ?_ ?_
            rotate_left
            ·intro w'
             go_simp
             with_reducible rfl
            rotate_left
            ·simp only [Act.put, List.setIfInBounds_toArray, List.set_cons_zero, List.set_cons_succ, i64_w, i32_w]
             rfl
            refine pure_ (i := 5) (N := some 59) (v := ?_) (a' := ?_) #[true, true, true, true, true, true, false, false, false, false, false, false, false, false, false, false] rfl rfl (any_of HT_.out kr_) (fun _ _ _ h => h) (Or.inl ⟨by rfl, ?_⟩) ?_ ?_
            rotate_left
            ·intro w'
             go_simp
             with_reducible rfl
            rotate_left
            ·simp only [Act.put, List.setIfInBounds_toArray, List.set_cons_zero, List.set_cons_succ, i64_w, i32_w]
             rfl
            refine pure_ (i := 6) (N := some 60) (v := ?_) (a' := ?_) #[true, true, true, true, true, true, true, false, false, false, false, false, false, false, false, false] rfl rfl (any_of HT_.out kr_) (fun _ _ _ h => h) (Or.inl ⟨by rfl, ?_⟩) ?_ ?_
            rotate_left
            ·intro w'
             go_simp
             with_reducible rfl
            rotate_left
            ·simp only [Act.put, List.setIfInBounds_toArray, List.set_cons_zero, List.set_cons_succ, i64_w, i32_w]
             rfl
            refine pure_ (i := 8) (N := some 62) (v := ?_) (a' := ?_) #[true, true, true, true, true, true, true, false, true, false, false, false, false, false, false, false] rfl rfl (any_of HT_.out kr_) (fun _ _ _ h => h) (Or.inl ⟨by rfl, ?_⟩) ?_ ?_
            rotate_left
            ·intro w'
             go_simp
             with_reducible rfl
            rotate_left
            ·simp only [Act.put, List.setIfInBounds_toArray, List.set_cons_zero, List.set_cons_succ, i64_w, i32_w]
             rfl
            refine pure_ (i := 9) (N := some 63) (v := ?_) (a' := ?_) #[true, true, true, true, true, true, true, false, true, true, false, false, false, false, false, false] rfl rfl (any_of HT_.out kr_) (fun _ _ _ h => h) (Or.inl ⟨by rfl, ?_⟩) ?_ ?_
            rotate_left
            ·intro w'
             go_simp
             with_reducible rfl
            rotate_left
            ·simp only [Act.put, List.setIfInBounds_toArray, List.set_cons_zero, List.set_cons_succ, i64_w, i32_w]
             rfl
            refine pure_ (i := 10) (N := some 64) (v := ?_) (a' := ?_) #[true, true, true, true, true, true, true, false, true, true, true, false, false, false, false, false] rfl rfl (any_of HT_.out kr_) (fun _ _ _ h => h) (Or.inl ⟨by rfl, ?_⟩) ?_ ?_
            rotate_left
            ·intro w'
             go_simp
             with_reducible rfl
            rotate_left
            ·simp only [Act.put, List.setIfInBounds_toArray, List.set_cons_zero, List.set_cons_succ, i64_w, i32_w]
             rfl
            refine take_ (i := 7) (N := some 61) (v := ?_) (a' := ?_) #[true, true, true, true, true, true, true, true, true, true, true, false, false, false, false, false] rfl rfl (take_ofW HT_.out HW_.out kr_) (fun _ _ _ h => h) (Or.inl ⟨by rfl, ?_⟩) hHeld ?_ ?_
            rotate_left
            ·rintro w' ⟨s0, s1⟩
             go_simp
             with_reducible rfl
            rotate_left
            ·simp only [Act.put, List.setIfInBounds_toArray, List.set_cons_zero, List.set_cons_succ, i64_w, i32_w]
             rfl
            refine take_ (i := 11) (N := some 65) (v := ?_) (a' := ?_) #[true, true, true, true, true, true, true, true, true, true, true, true, false, false, false, false] rfl rfl (take_ofW HT_.out HW_.out kr_) (fun _ _ _ h => h) (Or.inl ⟨by rfl, ?_⟩) hHeld ?_ ?_
            rotate_left
            ·rintro w' ⟨s0, s1⟩
             go_simp
             with_reducible rfl
            rotate_left
            ·simp only [Act.put, List.setIfInBounds_toArray, List.set_cons_zero, List.set_cons_succ, i64_w, i32_w]
             rfl
            refine pure_ (i := 12) (N := some 66) (v := ?_) (a' := ?_) #[true, true, true, true, true, true, true, true, true, true, true, true, true, false, false, false] rfl rfl (any_of HT_.out kr_) (fun _ _ _ h => h) (Or.inl ⟨by rfl, ?_⟩) ?_ ?_
            rotate_left
            ·intro w'
             go_simp
             with_reducible rfl
            rotate_left
            ·simp only [Act.put, List.setIfInBounds_toArray, List.set_cons_zero, List.set_cons_succ, i64_w, i32_w]
             rfl
            refine last_ (i := 13) (N := none) #[true, true, true, true, true, true, true, true, true, true, true, true, true, true, false, false] rfl rfl (one_of HT_.out kr_) (by decide) (fun K hK => ?_)
            refine skip_ (w1 := ?_) (by rfl) rfl ?_ ?_
            rotate_left
            ·go_simp
             rfl
            refine hK.out _ _ ?_
            clear hK K
            refine pure_ (i := 14) (N := some 67) (v := ?_) (a' := ?_) #[true, true, true, true, true, true, true, true, true, true, true, true, true, true, true, false] rfl rfl (any_of HT_.out kr_) (fun _ _ _ h => h) (Or.inl ⟨by rfl, ?_⟩) ?_ ?_
            rotate_left
            ·intro w'
             go_simp
             with_reducible rfl
            rotate_left
            ·simp only [Act.put, List.setIfInBounds_toArray, List.set_cons_zero, List.set_cons_succ, i64_w, i32_w]
             rfl
            refine last_ (i := 15) (N := none) #[true, true, true, true, true, true, true, true, true, true, true, true, true, true, true, true] rfl rfl (one_of HT_.out kr_) (by decide) (fun K hK => ?_)
            refine skip_ (w1 := ?_) (by rfl) rfl ?_ ?_
            rotate_left
            ·go_simp
             rfl
            refine hK.out _ _ ?_
            clear hK K
            refine done_ (done_of HT_.out kr_) ?_
            try go_wp2
            (try simp only [← hl3_2])
            go_roundg k2
            case measure => have := HK1.out; have := HK2.out; omega
            case rel => exact ⟨(y233), (wrap64 (x7_2 + 1)), (wrap64 (x8_2 - 1)), sd_, sd_, H', ⟨by have := HK1.out; have := HK2.out; omega⟩, ⟨by (try simp only [hl3_2]); (with_reducible repeat (first | apply Kd.R_alloc | apply Kd.R_drewN | apply Kd.R_drew)); exact HQ24.out⟩, ⟨by repeat (first | (with_reducible first | exact HB.out | apply below_alloc | apply pw_below_drewN | apply below_drew1 | refine below_set ?_ GB20.out | refine below_set ?_ GB20.out) | exact HB.out)⟩⟩
           ·rw [if_neg c19] at H
            exact absurd H (by simp)
          ·rw [if_neg c18] at H
           exact absurd H (by simp)
         ·rw [if_neg c17] at H
          exact absurd H (by simp)
        ·rw [if_neg c16] at H
         exact absurd H (by simp)
       ·rw [if_neg c15] at H
        have c15b0 : decide (x7_2 < x8_2) = false := decide_eq_false c15
        clear c15
        obtain rfl := Option.some.inj H
        have hcv25 := own_string (P := Tryz.prog) Tryz.underlying93 Tryz.underlying5 Tryz.underlying9 (Kd.own_of_R HO_3.out)
        go_wp2
        go_ret
        exact ⟨by first | rfl | (simp [errW_none, errW_some] <;> rfl) | (simp [*, errW_none, errW_some] <;> rfl), bel_⟩
def spec_Nat_Digits.f (k : Nat) (l0 : List Int) : Option (Int) := if (l0.length : Int) = 0 then (some 0) else ((spec_Nat_String.f k l0).bind fun t234 => (some (t234.size : Int)))
set_option maxHeartbeats 8000000 in
set_option maxRecDepth 100000 in
theorem spec_Nat_Digits.calls (k : Nat) (A0 : Option Addr) (c0 : Nat) (l0 : List Int) (r : Int) (w : World) (hr0 : Kd.C (Kd.int .u32) w A0 l0.length l0) (hc0 : l0.length ≤ c0) (h : spec_Nat_Digits.f k l0 = some r) :
  Calls Tryz.prog 26 #[.slice A0 l0.length c0] w fun e w' => e = .returned (.int .i64 r) ∧ Below w.heap.size w w' := by
 have HR0 := Aside0.mk hr0
 have HC0 := Aside0.mk hc0
 clear hr0 hc0
 have HB := Aside0.mk (Below.refl w.heap.size w)
 have H : (if (l0.length : Int) = 0 then (some 0) else ((spec_Nat_String.f k l0).bind fun t234 => (some (t234.size : Int)))) = some r := h
 clear h
 by_cases c2 : (l0.length : Int) = 0
 ·rw [if_pos c2] at H
  have c2b0 : ((l0.length : Int) == 0) = true := beq_iff_eq.mpr c2
  have c2b1 : ((l0.length : Int) != 0) = false := bne_eq_false_iff_eq.mpr c2
  clear c2
  obtain rfl := Option.some.inj H
  go_enter Tryz.func26, Tryz.ntmps26
  go_wp2
  go_ret
  exact ⟨by first | rfl | (simp [errW_none, errW_some] <;> rfl) | (simp [*, errW_none, errW_some] <;> rfl), bel_⟩
 ·rw [if_neg c2] at H
  have c2b0 : ((l0.length : Int) == 0) = false := beq_eq_false_iff_ne.mpr c2
  have c2b1 : ((l0.length : Int) != 0) = true := bne_iff_ne.mpr c2
  have c2b2 : ¬ (l0 = []) := fun h_ => c2 (by rw [h_]; rfl)
  replace H := Option.bind_eq_some_iff.mp H
  obtain ⟨t234, A30, H⟩ := H
  replace H : (some (t234.size : Int)) = some r := H
  have A3 := Aside0.mk A30
  clear A30
  obtain rfl := Option.some.inj H
  go_enter Tryz.func26, Tryz.ntmps26
  go_wp2_with (first | ((with_reducible refine gate_callee (f := 55) rfl ?_); refine goesL_ (some 7) rfl rfl Tryz.func55 kr_ rfl #[.slice A0 l0.length c0] rfl lm_ ?_; (with_reducible refine (spec_Nat_String.calls k _ _ l0 t234 _ ?side1 ?side2 A3.out).mono ?_); (case side1 => exact cr_ HR0.out); (case side2 => exact HC0.out); rintro e w4 ⟨rfl, hb⟩; refine ⟨_, rfl, ?_⟩; have n0_ := Aside0.mk (below_step bel_ hb); clear HB; have HB := n0_; clear n0_; (try clear hb); (try clear hb2); (try clear hk); (try clear hi)))
  go_ret
  exact ⟨by first | rfl | (simp [errW_none, errW_some] <;> rfl) | (simp [*, errW_none, errW_some] <;> rfl), bel_⟩
end Go.Proofs.YtbjhnckboimliaaGreatDoor.PFnFixSubExact
namespace Go.Proofs.YtbjhnckboimliaaGreatDoor
set_option linter.unusedVariables false
set_option linter.unusedSimpArgs false
def rhe (a b : Nat) : Nat := if b < 2 * (a % b) ∨ (b = 2 * (a % b) ∧ (a / b) % 2 = 1) then a / b + 1 else a / b
theorem rhe_iff {a b q : Nat} (hb : 0 < b) :
  rhe a b = q ↔ (2 * a ≤ 2 * (b * q) + b ∧ 2 * (b * q) ≤ 2 * a + b ∧ (2 * a = 2 * (b * q) + b → q % 2 = 0) ∧ (2 * (b * q) = 2 * a + b → q % 2 = 0)) := by
 have h := Nat.div_add_mod a b
 have hr := Nat.mod_lt a hb
 unfold rhe
 generalize a / b = d at *
 generalize a % b = r at *
 subst h
 constructor
 ·intro h
  split at h
  ·next k =>
   subst h
   simp only [Nat.mul_add, Nat.mul_one]
   refine ⟨by omega, by omega, fun e => by omega, fun e => ?_⟩
   rcases k with k | ⟨k1, k2⟩ <;> omega
  ·next k =>
   subst h
   refine ⟨by omega, by omega, fun e => ?_, fun e => by omega⟩
   by_cases h2 : d % 2 = 1
   ·exact absurd (.inr ⟨by omega, h2⟩) k
   ·omega
 ·rintro ⟨h1, h2, h3, h4⟩
  by_cases e : q = d
  ·subst e
   rw [if_neg]
   rintro (k | ⟨k1, k2⟩)
   ·omega
   ·have := h3 (by omega); omega
  ·by_cases e1 : q = d + 1
   ·subst e1
    simp only [Nat.mul_add, Nat.mul_one] at *
    rw [if_pos]
    by_cases k : b < 2 * r
    ·exact .inl k
    ·have := h4 (by omega)
     exact .inr ⟨by omega, by omega⟩
   ·exfalso
    by_cases e2 : q ≤ d
    ·obtain ⟨k, rfl⟩ := Nat.exists_eq_add_of_lt (show q < d by omega)
     have hk : b ≤ b * (k + 1) := Nat.le_mul_of_pos_right _ (by omega)
     simp only [Nat.mul_add, Nat.mul_one] at *
     omega
    ·obtain ⟨k, rfl⟩ := Nat.exists_eq_add_of_lt (show d + 1 < q by omega)
     have hk : b ≤ b * (k + 1) := Nat.le_mul_of_pos_right _ (by omega)
     simp only [Nat.mul_add, Nat.mul_one] at *
     omega
theorem rhe_scale {a b k : Nat} (hb : 0 < b) (hk : 0 < k) : rhe (a * k) (b * k) = rhe a b := by
 obtain ⟨h1, h2, h3, h4⟩ := (rhe_iff (a := a) (q := rhe a b) hb).1 rfl
 generalize rhe a b = q at *
 rw [rhe_iff (Nat.mul_pos hb hk)]
 have e1 : b * k * q = b * q * k := Nat.mul_right_comm _ _ _
 have e2 : 2 * (b * k * q) + b * k = (2 * (b * q) + b) * k := by rw [e1, Nat.add_mul, Nat.mul_assoc 2 (b * q) k]
 have e3 : 2 * (a * k) + b * k = (2 * a + b) * k := by rw [Nat.add_mul, Nat.mul_assoc 2 a k]
 have e4 : 2 * (a * k) = 2 * a * k := by rw [Nat.mul_assoc]
 have e5 : 2 * (b * k * q) = 2 * (b * q) * k := by rw [e1, Nat.mul_assoc 2 (b * q) k]
 rw [e2, e3, e5, e4]
 exact ⟨Nat.mul_le_mul_right _ h1, Nat.mul_le_mul_right _ h2, fun e => h3 (Nat.eq_of_mul_eq_mul_right hk e), fun e => h4 (Nat.eq_of_mul_eq_mul_right hk e)⟩
theorem rhe_exact {q b : Nat} (hb : 0 < b) : rhe (q * b) b = q := by
 rw [rhe_iff hb, Nat.mul_comm b q]
 exact ⟨by omega, by omega, fun e => by omega, fun e => by omega⟩
theorem rhe_mono {a c b : Nat} (hb : 0 < b) (h : a ≤ c) : rhe a b ≤ rhe c b := by
 obtain ⟨h1, h2, h3, h4⟩ := (rhe_iff (a := a) (q := rhe a b) hb).1 rfl
 obtain ⟨k1, k2, k3, k4⟩ := (rhe_iff (a := c) (q := rhe c b) hb).1 rfl
 generalize rhe a b = q at *
 generalize rhe c b = r at *
 apply Nat.le_of_not_lt
 intro hlt
 obtain ⟨k, rfl⟩ := Nat.exists_eq_add_of_lt hlt
 rw [show r + k + 1 = r + (k + 1) by omega, Nat.mul_add, Nat.mul_add] at *
 have hk : b * (k + 1) = b * k + b := by rw [Nat.mul_add, Nat.mul_one]
 by_cases e : k = 0
 ·subst e
  simp only [Nat.mul_zero, Nat.zero_add, Nat.mul_one] at *
  have e1 : a = c := by omega
  subst e1
  have := h4 (by omega)
  have := k3 (by omega)
  omega
 ·have : b ≤ b * k := Nat.le_mul_of_pos_right _ (by omega)
  omega
def digs (c : Nat) : Nat := if h : c = 0 then 0 else digs (c / 10) + 1
 termination_by c
 decreasing_by omega
structure Pow19 (E F : Nat) : Prop where
 p : (10 : Nat) ^ 19 = E
 ten : E = F * 10
 even : F % 2 = 0
 lt : F < E
theorem pow19 : Pow19 (10 ^ 19) (10 ^ 18) := ⟨rfl, by decide, by decide, by decide⟩
theorem digs_zero : digs 0 = 0 := by rw [digs]; simp
theorem digs_pos {c : Nat} (h : c ≠ 0) : digs c = digs (c / 10) + 1 := by rw [digs]; simp [h]
theorem pow10_pos (n : Nat) : 0 < 10 ^ n := Nat.pow_pos (by omega)
theorem digs_le : ∀ {k c : Nat}, digs c ≤ k ↔ c < 10 ^ k
 | 0, c => by
  by_cases h : c = 0
  ·subst h; simp [digs_zero]
  ·rw [digs_pos h]; simp; omega
 | k + 1, c => by
  by_cases h : c = 0
  ·subst h; simp [digs_zero]; exact pow10_pos (k + 1)
  ·rw [digs_pos h, Nat.add_le_add_iff_right, digs_le, Nat.pow_succ]; omega
theorem digs_lt {k c : Nat} : k < digs c ↔ 10 ^ k ≤ c := by rw [← Nat.not_le, digs_le]; omega
theorem digs_eq {k c : Nat} (h1 : 10 ^ k ≤ c) (h2 : c < 10 ^ (k + 1)) : digs c = k + 1 := by
 have := digs_lt.2 h1; have := digs_le.2 h2; omega
def step19 (c s m : Nat) : Nat × Nat :=
 if s < m then (c * 10 ^ (m - s), m)
 else if digs c ≤ s ∧ 19 < s then (rhe c (10 ^ (s - 19)), 19)
 else if s < digs c ∧ 19 < digs c then (rhe c (10 ^ (digs c - 19)), 19 + s - digs c)
 else (c, s)
def from19 (E : Nat) : Nat → Nat → Nat → Nat → Option (Nat × Nat)
 | 0, _, _, _ => none
 | f + 1, c, s, m => if 19 + s < digs c + m then none else if E ≤ (step19 c s m).1 then from19 E f (step19 c s m).1 (step19 c s m).2 m else some (step19 c s m)
def rnd (c s n : Nat) : Nat := rhe (c * 10 ^ n) (10 ^ s)
def room (E : Nat) (f : Nat → Nat) : Nat → Option Nat
 | 0 => if f 0 < E then some 0 else none
 | n + 1 => if f (n + 1) < E then some (n + 1) else room E f n
theorem room_some {E : Nat} {f : Nat → Nat} {N : Nat} : ∀ {k : Nat}, N ≤ k → f N < E → (∀ n, N < n → n ≤ k → E ≤ f n) → room E f k = some N
  | 0, h, h1, _ => by obtain rfl : N = 0 := by omega
                      simp only [room, if_pos h1]
  | k + 1, h, h1, h2 => by
    unfold room
    by_cases e : N = k + 1
    · subst e; rw [if_pos h1]
    · have := h2 (k + 1) (by omega) (by omega)
      rw [if_neg (by omega)]
      exact room_some (by omega) h1 (fun n a b => h2 n a (by omega))
theorem room_none {E : Nat} {f : Nat → Nat} : ∀ {k : Nat}, (∀ n, n ≤ k → E ≤ f n) → room E f k = none
 | 0, h => by have := h 0 (by omega); unfold room; rw [if_neg (by omega)]
 | k + 1, h => by
  have := h (k + 1) (by omega)
  unfold room; rw [if_neg (by omega)]
  exact room_none (fun n a => h n (by omega))
theorem room_lt {E : Nat} {f : Nat → Nat} {R : Nat} : ∀ {k : Nat}, room E f k = some R → R ≤ k ∧ f R < E
 | 0, h => by
  unfold room at h
  by_cases e : f 0 < E
  ·rw [if_pos e] at h
   cases h
   exact ⟨Nat.le_refl _, e⟩
  ·rw [if_neg e] at h; cases h
 | k + 1, h => by
  unfold room at h
  by_cases e : f (k + 1) < E
  ·rw [if_pos e] at h
   cases h
   exact ⟨Nat.le_refl _, e⟩
  ·rw [if_neg e] at h
   have := room_lt h
   exact ⟨by omega, this.2⟩
def Right (E c s m : Nat) (o : Option (Nat × Nat)) : Prop :=
 (room E (rnd c s) 19 = none → o = none) ∧ ∀ R, room E (rnd c s) 19 = some R → (R < m → o = none) ∧
  (m ≤ R → ∃ k t, o = some (k, t) ∧ m ≤ t ∧ t ≤ 19 ∧ k < E ∧ k * 10 ^ R = rnd c s R * 10 ^ t)
theorem pow_le' {a b : Nat} (h : a ≤ b) : 10 ^ a ≤ 10 ^ b := Nat.pow_le_pow_right (by omega) h
theorem rnd_ge {E F c s n : Nat} (hE : Pow19 E F) (hn : n ≤ 19) (h : 20 + s ≤ digs c + n) : E ≤ rnd c s n := by
 have h1 := digs_lt.1 (show digs c - 1 < digs c by omega)
 have h2 : E * 10 ^ s ≤ c * 10 ^ n := by
  rw [← hE.p, ← Nat.pow_add]
  exact Nat.le_trans (pow_le' (show 19 + s ≤ digs c - 1 + n by omega)) (by rw [Nat.pow_add]; exact Nat.mul_le_mul_right _ h1)
 have := rhe_mono (pow10_pos s) h2
 rwa [rhe_exact (pow10_pos s)] at this
theorem rnd_le {E F c s n : Nat} (hE : Pow19 E F) (h : digs c + n ≤ 19 + s) : rnd c s n ≤ E := by
 have h1 := digs_le.1 (Nat.le_refl (digs c))
 have h2 : c * 10 ^ n ≤ E * 10 ^ s := by
  rw [← hE.p, ← Nat.pow_add]
  exact Nat.le_trans (Nat.mul_le_mul_right _ (Nat.le_of_lt h1)) (by rw [← Nat.pow_add]; exact pow_le' h)
 have := rhe_mono (pow10_pos s) h2
 rwa [rhe_exact (pow10_pos s)] at this
theorem rnd_exact {c s n : Nat} (h : s ≤ n) : rnd c s n = c * 10 ^ (n - s) := by
 unfold rnd
 have : c * 10 ^ n = c * 10 ^ (n - s) * 10 ^ s := by rw [Nat.mul_assoc, ← Nat.pow_add]; congr 2; omega
 rw [this, rhe_exact (pow10_pos s)]
theorem rnd_cut {c s n : Nat} (h : n ≤ s) : rnd c s n = rhe c (10 ^ (s - n)) := by
 unfold rnd
 have : 10 ^ s = 10 ^ (s - n) * 10 ^ n := by rw [← Nat.pow_add]; congr 1; omega
 rw [this, rhe_scale (pow10_pos _) (pow10_pos _)]
theorem rhe_ten {a b Q : Nat} (hb : 0 < b) (hQ : Q % 2 = 0) (h : rhe (a * 10) b = Q * 10) : rhe a b = Q := by
 obtain ⟨h1, h2, _, _⟩ := (rhe_iff hb).1 h
 rw [show b * (Q * 10) = b * Q * 10 from (Nat.mul_assoc _ _ _).symm] at h1 h2
 refine (rhe_iff hb).2 ⟨?_, ?_, fun _ => hQ, fun _ => hQ⟩ <;> generalize b * Q = z at * <;> omega
theorem rnd_prev {E F c s n : Nat} (hE : Pow19 E F) (h : rnd c s (n + 1) = E) : rnd c s n = F := by
 unfold rnd at h ⊢
 rw [Nat.pow_succ, ← Nat.mul_assoc, hE.ten] at h
 exact rhe_ten (pow10_pos s) hE.even h
theorem exact_lt {E F c s n : Nat} (hE : Pow19 E F) (h : digs c + n ≤ 19 + s) (hs : s ≤ n) : c * 10 ^ (n - s) < E := by
 have h1 := digs_le.1 (Nat.le_refl (digs c))
 exact Nat.lt_of_lt_of_le (Nat.mul_lt_mul_of_pos_right h1 (pow10_pos _)) (by rw [← hE.p, ← Nat.pow_add]; exact pow_le' (by omega))
theorem room_val {E F c s : Nat} (hE : Pow19 E F) (hp : digs c ≤ 19 + s) {N : Nat} (hN : N = min 19 (19 + s - digs c)) :
  (rnd c s N < E → room E (rnd c s) 19 = some N) ∧ (¬ rnd c s N < E → rnd c s N = E ∧ ((N = 0 ∧ room E (rnd c s) 19 = none) ∨ ∃ n, N = n + 1 ∧ room E (rnd c s) 19 = some n ∧ rnd c s n = F)) := by
 have habove : ∀ n, N < n → n ≤ 19 → E ≤ rnd c s n := fun n h1 h2 => rnd_ge hE h2 (by omega)
 refine ⟨fun h => room_some (by omega) h habove, fun h => ?_⟩
 have hle : rnd c s N ≤ E := rnd_le hE (by omega)
 have he : rnd c s N = E := by omega
 refine ⟨he, ?_⟩
 cases N with
 | zero => exact .inl ⟨rfl, room_none (fun n hn => by by_cases e : n = 0; subst e; omega; exact habove n (by omega) hn)⟩
 | succ n =>
  have h18 := rnd_prev hE (by rw [he])
  refine .inr ⟨n, rfl, room_some (by omega) (by rw [h18]; exact hE.lt) (fun i h1 h2 => ?_), h18⟩
  by_cases e : i = n + 1
  ·subst e; omega
  ·exact habove i (by omega) h2
theorem digs19 {E F : Nat} (hE : Pow19 E F) : digs E = 20 := digs_eq (by rw [hE.p]; exact Nat.le_refl _) (by rw [Nat.pow_succ, hE.p]; have := hE.lt; omega)
theorem rhe19 {E F : Nat} (hE : Pow19 E F) : rhe E (10 ^ 1) = F := by
 rw [hE.ten, Nat.pow_one]
 exact rhe_exact (by omega)
theorem from19_top {E F : Nat} (hE : Pow19 E F) {t m f : Nat} (ht : t ≤ 19) (hm : m ≤ t) : from19 E (f + 1) E t m = if t = m then none else some (F, t - 1) := by
 unfold from19
 rw [digs19 hE]
 by_cases e : t = m
 ·rw [if_pos (by omega), if_pos e]
 ·rw [if_neg (by omega), if_neg e]
  have : step19 (E) t m = (F, t - 1) := by
   unfold step19
   rw [digs19 hE, if_neg (by omega), if_neg (by omega), if_pos (by omega), show 20 - 19 = 1 from rfl, rhe19 hE]
   congr 1; omega
  rw [this, if_neg (by show ¬ E ≤ F; have := hE.lt; omega)]
theorem from19_exact {E F : Nat} (hE : Pow19 E F) {f c s m k t N : Nat} (h1 : ¬ 19 + s < digs c + m) (hst : step19 c s m = (k, t)) (hk : k < E) (hmt : m ≤ t) (hs : s ≤ t) (ht : t ≤ 19) (hkv : k = c * 10 ^ (t - s)) (hsN : s ≤ N)
  (hmN : m ≤ N) (hr : room E (rnd c s) 19 = some N) : Right E c s m (from19 E (f + 1) c s m) := by
 have hf : from19 E (f + 1) c s m = some (k, t) := by
  unfold from19; rw [if_neg h1, hst, if_neg (by show ¬ E ≤ k; omega)]
 rw [hf]
 refine ⟨fun h => (by rw [hr] at h; cases h), fun R h => ?_⟩
 rw [hr] at h
 cases h
 refine ⟨fun h => by omega, fun _ => ⟨k, t, rfl, hmt, ht, hk, ?_⟩⟩
 rw [rnd_exact hsN, hkv, Nat.mul_assoc, Nat.mul_assoc, ← Nat.pow_add, ← Nat.pow_add]
 congr 2; omega
theorem from19_cut {E F : Nat} (hE : Pow19 E F) {f c s m N : Nat} (hp : digs c ≤ 19 + s) (h1 : ¬ 19 + s < digs c + m) (hN : N = min 19 (19 + s - digs c)) (hmN : m ≤ N) (hst : step19 c s m = (rnd c s N, N)) : Right E c s m (from19 E (f + 2) c s m) := by
 obtain ⟨r1, r2⟩ := room_val hE (c := c) (s := s) hp hN
 by_cases hlt : rnd c s N < E
 ·have hf : from19 E (f + 2) c s m = some (rnd c s N, N) := by
   unfold from19; rw [if_neg h1, hst, if_neg (by show ¬ E ≤ rnd c s N; omega)]
  rw [hf]
  have hr := r1 hlt
  refine ⟨fun h => (by rw [hr] at h; cases h), fun R h => ?_⟩
  rw [hr] at h
  cases h
  exact ⟨fun h => by omega, fun _ => ⟨_, _, rfl, hmN, by omega, hlt, rfl⟩⟩
 ·obtain ⟨he, hr⟩ := r2 hlt
  have hf : from19 E (f + 2) c s m = if N = m then none else some (F, N - 1) := by
   have h2 := from19_top hE (t := N) (m := m) (f := f) (by omega) hmN
   rw [← h2]
   conv => lhs; unfold from19
   rw [if_neg h1, hst, if_pos (by show E ≤ rnd c s N; omega)]
   show from19 E (f + 1) (rnd c s N) N m = _
   rw [he]
  rw [hf]
  rcases hr with ⟨h0, hr⟩ | ⟨n, h0, hr, h18⟩
  ·rw [if_pos (show N = m by omega)]
   exact ⟨fun _ => rfl, fun R h => by rw [hr] at h; cases h⟩
  ·refine ⟨fun h => (by rw [hr] at h; cases h), fun R h => ?_⟩
   rw [hr] at h
   cases h
   by_cases e : N = m
   ·rw [if_pos e]; exact ⟨fun _ => rfl, fun h => by omega⟩
   ·rw [if_neg e]
    refine ⟨fun h => by omega, fun _ => ⟨F, N - 1, rfl, by omega, by omega, hE.lt, ?_⟩⟩
    rw [h18, show N - 1 = n by omega]
theorem from19_right {E F : Nat} (hE : Pow19 E F) (f c s m : Nat) (hm : m ≤ 19) : Right E c s m (from19 E (f + 2) c s m) := by
 by_cases h1 : 19 + s < digs c + m
 ·have hf : from19 E (f + 2) c s m = none := by unfold from19; rw [if_pos h1]
  rw [hf]
  have hge : ∀ n, m ≤ n → n ≤ 19 → E ≤ rnd c s n := fun n a b => rnd_ge hE b (by omega)
  refine ⟨fun _ => rfl, fun R h => ⟨fun _ => rfl, fun hle => ?_⟩⟩
  have h2 := room_lt h
  have := hge R hle h2.1
  omega
 ·obtain ⟨N, hN⟩ : ∃ N, N = min 19 (19 + s - digs c) := ⟨_, rfl⟩
  have hmN : m ≤ N := by omega
  have hN19 : N ≤ 19 := by omega
  have exact_ : ∀ k t, step19 c s m = (k, t) → k < E → m ≤ t → s ≤ t → t ≤ 19 → k = c * 10 ^ (t - s) → s ≤ N → Right E c s m (from19 E (f + 2) c s m) := by
   intro k t hst hk hmt hs' ht19 hkv hsN
   have hx := exact_lt hE (c := c) (s := s) (n := N) (by omega) hsN
   exact from19_exact hE h1 hst hk hmt hs' ht19 hkv hsN hmN ((room_val hE (c := c) (s := s) (by omega) hN).1 (by rw [rnd_exact hsN]; exact hx))
  by_cases a : s < m
  ·exact exact_ (c * 10 ^ (m - s)) m (by unfold step19; rw [if_pos a]) (exact_lt hE (by omega) (by omega)) (by omega) (by omega) hm rfl (by omega)
  ·by_cases b : digs c ≤ s ∧ 19 < s
   ·refine from19_cut hE (by omega) h1 hN hmN ?_
    have : N = 19 := by omega
    subst this
    unfold step19; rw [if_neg a, if_pos b, rnd_cut (by omega)]
   ·by_cases d : s < digs c ∧ 19 < digs c
    ·refine from19_cut hE (by omega) h1 hN hmN ?_
     have e1 : N = 19 + s - digs c := by omega
     unfold step19; rw [if_neg a, if_neg b, if_pos d, rnd_cut (by omega)]
     rw [show s - N = digs c - 19 by omega, e1]
    ·refine exact_ c s (by unfold step19; rw [if_neg a, if_neg b, if_neg d]) ?_ (by omega) (by omega) (by omega) (by simp) (by omega)
     have := digs_le.1 (Nat.le_refl (digs c))
     rw [← hE.p]; exact Nat.lt_of_lt_of_le this (pow_le' (by omega))
end Go.Proofs.YtbjhnckboimliaaGreatDoor
