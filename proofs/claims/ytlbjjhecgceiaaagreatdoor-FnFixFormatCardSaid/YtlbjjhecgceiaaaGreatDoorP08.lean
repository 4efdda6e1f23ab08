/- Part 8 of the proof. -/
import Derived.Lib.Bytes
import Derived.Test.YtlbjjhecgceiaaaGreatDoorP07
namespace Go.Proofs.YtlbjjhecgceiaaaGreatDoor
open Go.RowKit Go.Proofs.YtlbjjhecgceiaaaGreatDoorW.PrintWords Go.Proofs.YtlbjjhecgceiaaaGreatDoorW.PrintLast Go.Proofs.YtlbjjhecgceiaaaGreatDoorW.PrintMore PFnFixSubExact
set_option linter.unusedVariables false
set_option linter.unusedSimpArgs false
set_option exponentiation.threshold 4000
theorem v9_split (xs : List Int) (n : Nat) (h : n ≤ xs.length) : v9 xs = v9 (xs.take n) + p9 n * v9 (xs.drop n) := by
 conv => lhs; rw [← List.take_append_drop n xs]
 rw [v9_app, List.length_take, Nat.min_eq_left h]
theorem wr_pred {n : Nat} (h : n ≤ 10000) (h1 : 0 < n) : wrap64 ((n : Int) - 1) = ((n - 1 : Nat) : Int) := by rw [w64 (by omega) (by omega)]; omega
theorem guess_le {R Y P t y low ylow Q : Int} (hP : 0 < P) (hR : R = low + P * t) (hl : low < P) (hY : Y = ylow + P * y) (hyl : 0 ≤ ylow) (hy : 0 < y) (hQ : Q * Y ≤ R) (hQ0 : 0 ≤ Q) : Q ≤ t / y := by
 rw [Int.le_ediv_iff_mul_le hy]
 apply Classical.byContradiction
 intro h
 have h1 : t + 1 ≤ Q * y := by omega
 have h2 := Int.mul_le_mul_of_nonneg_left h1 (Int.le_of_lt hP)
 have h3 : P * (Q * y) ≤ Q * Y := by
  rw [hY, Int.mul_add, Int.mul_left_comm]
  have := Int.mul_nonneg hQ0 hyl
  omega
 rw [Int.mul_add, Int.mul_one] at h2
 omega
theorem natGuess_law {rs ys : List Int} {R Y : Nat} (hr : IsN rs R) (hy : IsN ys Y) (hR : R < 1000000000 * Y) (hYb : Y < tn 1773) :
  ∃ g : Nat, spec_natGuess.f rs ys = some (g : Int) ∧ R / Y ≤ g ∧ g ≤ 999999999 := by
 have hY0 : 0 < Y := by omega
 have hyn : ys ≠ [] := fun e => by have := hy.nil_iff.1 e; omega
 have hn0 : 0 < ys.length := List.length_pos_iff.2 hyn
 have hnb : ys.length ≤ 197 := hy.lenk (n := 197) hYb
 have hQB : R / Y < 1000000000 := Nat.div_lt_of_lt_mul (by rw [Nat.mul_comm]; exact hR)
 have hlen : rs.length ≤ ys.length + 1 := by
  refine hr.trm.len hr.lms ?_
  have := v9_lt hy.lms
  rw [hy.val] at this
  rw [hr.val, p9_succ]; omega
 obtain ⟨hy0, hy1⟩ := hy.lms.getD (ys.length - 1)
 have hyt := hy.trm.getD (i := ys.length - 1) (by omega)
 have hrd : ∀ i : Nat, rd rs (i : Int) = rs.getD i 0 := fun i => rd_nat rs i
 have hyd : ∀ i : Nat, rd ys (i : Int) = ys.getD i 0 := fun i => rd_nat ys i
 have HWP : Hid (wrap64 ((ys.length : Int) - 1) = ((ys.length - 1 : Nat) : Int)) := wr_pred (n := ys.length) (by omega) hn0
 have hsy := v9_split ys (ys.length - 1) (by omega)
 have hdy := drop_get (xs := ys) (ys.length - 1)
 rw [show ys.drop (ys.length - 1 + 1) = [] from List.drop_eq_nil_of_le (by omega)] at hdy
 simp only [v9] at hdy
 rw [Int.mul_zero, Int.add_zero] at hdy
 rw [hy.val, hdy] at hsy
 have hyl0 := v9_nonneg (hy.lms.take (ys.length - 1))
 have hP := p9_pos (ys.length - 1)
 have hQm : ((R / Y : Nat) : Int) * (Y : Int) ≤ (R : Int) := by
  have := Nat.div_mul_le_self R Y
  exact_mod_cast this
 by_cases h1 : rs.length < ys.length
 ·refine ⟨0, ?_, ?_, by omega⟩
  ·unfold spec_natGuess.f
   rw [if_pos (by omega)]; rfl
  ·have h2 := v9_lt hr.lms
   have h3 := v9_pos hy.lms hy.trm hyn
   have h4 := p9_mono (show rs.length ≤ ys.length - 1 by omega)
   rw [hr.val] at h2
   rw [hy.val] at h3
   rw [Nat.div_eq_of_lt (by omega)]; exact Nat.le_refl _
 ·have hsr := v9_split rs (ys.length - 1) (by omega)
  have hdr := drop_get (xs := rs) (ys.length - 1)
  rw [show ys.length - 1 + 1 = ys.length by omega] at hdr
  have hrl := v9_lt (hr.lms.take (ys.length - 1))
  rw [List.length_take, Nat.min_eq_left (by omega)] at hrl
  rw [hr.val] at hsr
  obtain ⟨hr0, hr1⟩ := hr.lms.getD (ys.length - 1)
  obtain ⟨ht0, ht1⟩ := hr.lms.getD ys.length
  have hdr2 := drop_get (xs := rs) ys.length
  rw [show rs.drop (ys.length + 1) = [] from List.drop_eq_nil_of_le (by omega)] at hdr2
  simp only [v9] at hdr2
  have hgl := guess_le hP hsr hrl hsy hyl0 (by omega) hQm (Int.natCast_nonneg _)
  have f1 : ¬ (rs.length : Int) < (ys.length : Int) := by omega
  have f2 : (0 : Int) ≤ ((ys.length - 1 : Nat) : Int) := by omega
  have f3 : ((ys.length - 1 : Nat) : Int) < (rs.length : Int) := by omega
  have f4 : ((ys.length - 1 : Nat) : Int) < (ys.length : Int) := by omega
  have b1 : rs.getD (ys.length - 1) 0 < 18446744073709551616 := by omega
  have b2 : ys.getD (ys.length - 1) 0 < 18446744073709551616 := by omega
  have b3 : rs.getD ys.length 0 < 18446744073709551616 := by omega
  have fin : ∀ t : Int, 0 ≤ t → t < 18446744073709551616 → v9 (rs.drop (ys.length - 1)) = t →
    ∃ g : Nat, mn (IntKind.u64.wrap (Int.tdiv t (ys.getD (ys.length - 1) 0))) 999999999 = (g : Int) ∧ R / Y ≤ g ∧ g ≤ 999999999 := by
   intro t h0 h1 he
   rw [he] at hgl
   have hq0 : 0 ≤ t / ys.getD (ys.length - 1) 0 := Int.ediv_nonneg h0 hy0
   have hq1 : t / ys.getD (ys.length - 1) 0 ≤ t := Int.ediv_le_self _ h0
   rw [Int.tdiv_eq_ediv_of_nonneg h0, u64_in hq0 (by omega)]
   generalize t / ys.getD (ys.length - 1) 0 = z at *
   refine ⟨(if 999999999 < z then 999999999 else z).toNat, ?_, ?_, ?_⟩
   ·unfold mn; split <;> omega
   ·clear hsr hsy hQm hdr hdr2 hdy
    obtain ⟨Q, hQe⟩ : ∃ Q, R / Y = Q := ⟨_, rfl⟩
    rw [hQe] at hgl hQB ⊢
    clear hQe
    split <;> omega
   ·split <;> omega
  by_cases h2 : rs.length > ys.length
  ·have f5 : (rs.length : Int) > (ys.length : Int) := by omega
   have f6 : (0 : Int) ≤ (ys.length : Int) := by omega
   have f7 : (ys.length : Int) < (rs.length : Int) := by omega
   have b4 : 0 ≤ rs.getD ys.length 0 * 1000000000 := by omega
   have b5 : rs.getD ys.length 0 * 1000000000 < 18446744073709551616 := by omega
   have b6 : 0 ≤ rs.getD (ys.length - 1) 0 + rs.getD ys.length 0 * 1000000000 := by omega
   have b7 : rs.getD (ys.length - 1) 0 + rs.getD ys.length 0 * 1000000000 < 18446744073709551616 := by omega
   obtain ⟨g, k1, k2, k3⟩ := fin (rs.getD (ys.length - 1) 0 + rs.getD ys.length 0 * 1000000000) b6 b7 (by rw [hdr, hdr2]; omega)
   refine ⟨g, ?_, k2, k3⟩
   unfold spec_natGuess.f
   rw [HWP.out, if_neg f1, if_pos f2, if_pos f3, if_pos f5, if_pos f6, if_pos f7, if_pos f4, hrd, hrd, hyd, u64_in hy0 b2, if_neg hyt, u64_in hr0 b1, u64_in ht0 b3, u64_in b4 b5, u64_in b6 b7, k1]
  ·have f5 : ¬ (rs.length : Int) > (ys.length : Int) := by omega
   have hz := getD_past (xs := rs) (i := ys.length) (by omega)
   obtain ⟨g, k1, k2, k3⟩ := fin (rs.getD (ys.length - 1) 0) hr0 b1 (by rw [hdr, hdr2, hz]; omega)
   refine ⟨g, ?_, k2, k3⟩
   unfold spec_natGuess.f
   rw [HWP.out, if_neg f1, if_pos f2, if_pos f3, if_neg f5, if_pos f4, hrd, hyd, u64_in hy0 b2, if_neg hyt, u64_in hr0 b1, k1]
theorem natDiv_l1 {qs bs xl yl rl : List Int} {i n : Nat} {R Y : Nat} (hr : IsN rl R) (hy : IsN yl Y) (hY0 : 0 < Y) (hRb : R < tn 1800) (hYb : Y < tn 1773) (hq : qs.length = n) (hi : i < n) (hnb : n ≤ 500) :
  ∀ (e g : Nat) (pl : List Int), g = R / Y + e → g ≤ 999999999 → IsN pl (Y * g) →
   ∃ rl' K s, IsN rl' (R % Y) ∧ ∀ k, K ≤ k → spec_NatDiv.l1 (k + s) qs rl bs xl yl (i : Int) (g : Int) pl = spec_NatDiv.l0 k (qs.set i ((R / Y : Nat) : Int)) rl' bs xl yl ((i : Int) - 1) := by
 have hpow : tn 1800 = tn 1773 * 10 ^ 27 := tn_add 1773 27
 have hpb : ∀ g, g ≤ 999999999 → Y * g < tn 1800 := by
  intro g hg
  rw [hpow]
  exact Nat.lt_of_le_of_lt (Nat.mul_le_mul_left _ (Nat.le_trans hg (by decide : 999999999 ≤ 10 ^ 27))) (Nat.mul_lt_mul_of_pos_right hYb (Nat.pow_pos (by omega)))
 have f1 : (0 : Int) ≤ (i : Int) := by omega
 have f2 : (i : Int) < (qs.length : Int) := by omega
 have w1 : wrap64 ((i : Int) - 1) = (i : Int) - 1 := w64 (by omega) (by omega)
 have HW : Hid (wrap64 ((i : Int) - 1) = (i : Int) - 1) := w1
 clear w1
 intro e
 induction e with
 | zero =>
  intro g pl hg hgb hp
  have hge : g = R / Y := by omega
  have hle : Y * g ≤ R := by rw [hge, Nat.mul_comm]; exact Nat.div_mul_le_self R Y
  obtain ⟨K, rl', k1, k2⟩ := natSub_law hr hp hRb hle
  have hc := natCmp_law hp hr (hpb g hgb) hRb
  have hm : R - Y * g = R % Y := by rw [hge]; have := Nat.div_add_mod R Y; omega
  rw [hm] at k1
  have hcm : ¬ cmpN (Y * g) R > 0 := by
   unfold cmpN
   by_cases h : Y * g < R
   ·rw [if_pos h]; omega
   ·rw [if_neg h, if_pos (by omega)]; omega
  have hgm : (g : Int) % 4294967296 = ((R / Y : Nat) : Int) := by rw [← hge]; omega
  refine ⟨rl', K + 1000, 1, k1, fun k hk => ?_⟩
  conv => lhs; unfold spec_NatDiv.l1
  rw [hc k (by omega)]
  simp only [Option.bind_some]
  rw [if_neg hcm, k2 k (by omega)]
  simp only [Option.bind_some]
  rw [if_pos f1, if_pos f2, hgm, HW.out, Int.toNat_natCast]
 | succ e ih =>
  intro g pl hg hgb hp
  have hlt : R < Y * g := by
   have h1 := Nat.lt_mul_div_succ R hY0
   have h2 : (R / Y).succ ≤ g := by omega
   exact Nat.lt_of_lt_of_le h1 (Nat.mul_le_mul_left _ h2)
  have hg1 : 1 ≤ g := by generalize R / Y = Q at hg; omega
  have hle : Y ≤ Y * g := Nat.le_mul_of_pos_right _ hg1
  obtain ⟨K, pl', k1, k2⟩ := natSub_law hp hy (hpb g hgb) hle
  have hc := natCmp_law hp hr (hpb g hgb) hRb
  have hm : Y * g - Y = Y * (g - 1) := by rw [Nat.mul_sub, Nat.mul_one]
  rw [hm] at k1
  obtain ⟨rl', K2, s, a1, a2⟩ := ih (g - 1) pl' (by omega) (by omega) k1
  have hcm : cmpN (Y * g) R > 0 := by
   have a1 : ¬ Y * g < R := by omega
   have a2 : ¬ Y * g = R := by omega
   unfold cmpN; rw [if_neg a1, if_neg a2]; omega
  have hgw : IntKind.u64.wrap ((g : Int) - 1) = ((g - 1 : Nat) : Int) := by rw [u64_in (by omega) (by omega)]; omega
  have HGW : Hid (IntKind.u64.wrap ((g : Int) - 1) = ((g - 1 : Nat) : Int)) := hgw
  clear hgw
  refine ⟨rl', K + K2 + 1000, s + 1, a1, fun k hk => ?_⟩
  have e1 : k + (s + 1) = (k + s) + 1 := by omega
  have e2 : 1000 ≤ k + s := by omega
  have e3 : K ≤ k + s := by omega
  have e4 : K2 ≤ k := by omega
  rw [e1]
  conv => lhs; unfold spec_NatDiv.l1
  rw [hc (k + s) e2]
  simp only [Option.bind_some]
  rw [if_pos hcm, k2 (k + s) e3]
  simp only [Option.bind_some]
  rw [HGW.out]
  exact a2 k e4
theorem IsN.consTrim {x : Int} {xs : List Int} {a : Nat} {c : Nat} (h : IsN xs a) (h0 : 0 ≤ x) (h1 : x < 1000000000) (hc : (c : Int) = x + 1000000000 * (a : Int)) : IsN (trim9 (x :: xs)) c :=
 trim9_is (Lms.cons h0 h1 h.lms) (by rw [v9, h.val, hc])
theorem ring6 (Q P D : Int) : Q * (1000000000 * P) + D * P = (((1000000000 : Nat) : Int) * Q + D) * P := by grind
theorem ring7 (x Q Y R D M : Int) (h : Y * D + M = x + 1000000000 * R) : x + 1000000000 * (Q * Y + R) = (((1000000000 : Nat) : Int) * Q + D) * Y + M := by grind
theorem natDiv_l0 {bs xl yl : List Int} {n Y b : Nat} (hn : xl.length = n) (hx : Lms xl) (hy : IsN yl Y) (hY0 : 0 < Y) (hYb : Y < tn 1773) (hnb : n ≤ 400) (hbs : bs = [(b : Int)]) (hb0 : 0 < b) (hb1 : b < 1000000000) :
  ∀ (i : Nat) (qs rl : List Int) (R Q : Nat), i ≤ n → qs.length = n → Lms qs → (∀ t, t < i → qs.getD t 0 = 0) → IsN rl R → R < Y → v9 qs = Q * p9 i → v9 (xl.drop i) = Q * Y + R →
   ∃ K q r R' Q', IsN q Q' ∧ IsN r (R' / b) ∧ R' < Y ∧ v9 xl = (Q' : Int) * Y + R' ∧ ∀ k, K ≤ k → spec_NatDiv.l0 k qs rl bs xl yl ((i : Int) - 1) = some (q, r) := by
 have hpow : tn 1800 = tn 1773 * 10 ^ 27 := tn_add 1773 27
 have hp9 : (1000000000 : Nat) ≤ 10 ^ 27 := by decide
 intro i
 induction i with
 | zero =>
  intro qs rl R Q hi hql hl hz hr hRY hqv hxv
  have hRb : R < tn 1800 := by rw [hpow]; exact Nat.lt_of_lt_of_le (Nat.lt_trans hRY hYb) (Nat.le_mul_of_pos_right _ (Nat.pow_pos (by omega)))
  obtain ⟨K, r, k1, k2⟩ := natShort_law hr hRb hb0 hb1
  refine ⟨K + n + 2, trim9 qs, r, R, Q, trim9_is hl (by rw [hqv]; simp [p9]), k1, hRY, by simpa using hxv, fun k hk => ?_⟩
  obtain ⟨k, rfl⟩ : ∃ m, k = m + 1 := ⟨k - 1, by omega⟩
  have e1 : ¬ ((0 : Nat) : Int) - 1 ≥ 0 := by omega
  have e2 : (0 : Int) < (bs.length : Int) := by rw [hbs]; simp
  have e3 : rd bs 0 = (b : Int) := by rw [hbs]; rfl
  have e4 : K ≤ k := by omega
  have e5 : qs.length < k := by omega
  have e6 : qs.length ≤ 1000 := by omega
  conv => lhs; unfold spec_NatDiv.l0
  rw [if_neg e1, if_pos e2, e3, k2 k e4]
  simp only [Option.bind_some]
  rw [natTrim_f e5 e6]
  rfl
 | succ i ih =>
  intro qs rl R Q hi hql hl hz hr hRY hqv hxv
  obtain ⟨hx0, hx1⟩ := hx.getD i
  obtain ⟨x, hxe⟩ : ∃ x : Nat, xl.getD i 0 = (x : Int) := ⟨(xl.getD i 0).toNat, by omega⟩
  have hR0 : IsN (trim9 (xl.getD i 0 :: rl)) (x + 1000000000 * R) := hr.consTrim hx0 hx1 (by rw [hxe]; omega)
  have hRB : x + 1000000000 * R < 1000000000 * Y := by omega
  obtain ⟨g, g1, g2, g3⟩ := natGuess_law hR0 hy hRB hYb
  obtain ⟨R0, hR0e⟩ : ∃ R0, x + 1000000000 * R = R0 := ⟨_, rfl⟩
  rw [hR0e] at hR0 hRB g2
  obtain ⟨KF, gl, a1, a2⟩ := natFrom_law (a := g) (by omega)
  have hgb : g < tn 1800 := lt_tn (j := 10) (Nat.lt_of_le_of_lt g3 (by decide)) (by omega)
  have hYb' : Y < tn 1800 := by rw [hpow]; exact Nat.lt_of_lt_of_le hYb (Nat.le_mul_of_pos_right _ (Nat.pow_pos (by omega)))
  obtain ⟨KM, pl, m1, m2⟩ := natMul_law hy a1 hYb' hgb
  have hR0b : R0 < tn 1800 := by
   rw [hpow]
   refine Nat.lt_of_lt_of_le hRB ?_
   rw [Nat.mul_comm]
   exact Nat.mul_le_mul (Nat.le_of_lt hYb) hp9
  obtain ⟨e, he⟩ := Nat.exists_eq_add_of_le g2
  obtain ⟨rl', K1, s, b1, b2⟩ := natDiv_l1 (bs := bs) (xl := xl) hR0 hy hY0 hR0b hYb hql (show i < n by omega) (by omega) e g pl (by omega) g3 m1
  have hdig : R0 / Y < 1000000000 := Nat.div_lt_of_lt_mul (by rw [Nat.mul_comm]; exact hRB)
  have hd0 : 0 ≤ ((R0 / Y : Nat) : Int) := Int.natCast_nonneg _
  have hd1 : ((R0 / Y : Nat) : Int) < 1000000000 := by generalize R0 / Y = D at *; omega
  have hzi := hz i (by omega)
  have f5 : i < qs.length := by omega
  obtain ⟨K0, q, r, R', Q', c1, c2, c3, c4, c5⟩ := ih (qs.set i ((R0 / Y : Nat) : Int)) rl' (R0 % Y) (1000000000 * Q + R0 / Y) (by omega) (by simp [hql]) (hl.set _ hd0 hd1)
   (fun t ht => by rw [List.getD_eq_getElem?_getD, List.getElem?_set_ne (by omega), ← List.getD_eq_getElem?_getD]; exact hz t (by omega)) b1 (Nat.mod_lt _ hY0)
   (by
    rw [v9_set _ _ _ f5, hqv, hzi, p9_succ, Int.sub_zero, Int.natCast_add, Int.natCast_mul]
    exact ring6 _ _ _)
   (by
    rw [drop_get, hxv, hxe]
    have hd := Nat.div_add_mod R0 Y
    have hdI : (Y : Int) * ((R0 / Y : Nat) : Int) + ((R0 % Y : Nat) : Int) = (x : Int) + 1000000000 * (R : Int) := by
     rw [← Int.natCast_mul, ← Int.natCast_add, hd, ← hR0e]; omega
    rw [Int.natCast_add, Int.natCast_mul]
    exact ring7 _ _ _ _ _ _ hdI)
  refine ⟨K0 + K1 + KF + KM + s + rl.length + 10, q, r, R', Q', c1, c2, c3, c4, fun k hk => ?_⟩
  have hrl : rl.length ≤ 200 := hr.len (Nat.lt_trans hRY hYb')
  obtain ⟨k, rfl⟩ : ∃ m, k = (m + s) + 1 := ⟨k - s - 1, by omega⟩
  have e0 : ((i + 1 : Nat) : Int) - 1 = (i : Int) := by omega
  have e1 : (i : Int) ≥ 0 := by omega
  have e1' : (0 : Int) ≤ (i : Int) := by omega
  have e2 : (i : Int) < (xl.length : Int) := by omega
  have e3 : [xl.getD i 0].length + rl.length < 35184372088832 := by simp; omega
  have e4 : ([xl.getD i 0] ++ rl).length < k + s := by simp; omega
  have e5 : ([xl.getD i 0] ++ rl).length ≤ 1000 := by simp; omega
  have e6 : KF ≤ k + s := by omega
  have e7 : KM ≤ k + s := by omega
  have e8 : K1 ≤ k := by omega
  have e9 : K0 ≤ k := by omega
  conv => lhs; unfold spec_NatDiv.l0
  rw [e0, if_pos e1, if_pos e1', if_pos e2, rd_nat]
  simp only [Option.bind_some]
  rw [if_pos e3, natTrim_f e4 e5]
  simp only [Option.bind_some, List.singleton_append]
  rw [g1]
  simp only [Option.bind_some]
  have h5 := a2 (k + s) e6
  have h6 := m2 (k + s) e7
  have h7 : (spec_NatFrom.f (k + s) (g : Int)).bind (fun t331 => (spec_NatMul.f (k + s) yl t331).bind fun t334 => spec_NatDiv.l1 (k + s) qs (trim9 (xl.getD i 0 :: rl)) bs xl yl (i : Int) (g : Int) t334) = spec_NatDiv.l1 (k + s) qs (trim9 (xl.getD i 0 :: rl)) bs xl yl (i : Int) (g : Int) pl := by
   rw [h5, Option.bind_some, h6, Option.bind_some]
  have h8 := b2 k e8
  have h9 := c5 k e9
  exact (h7.trans h8).trans h9
theorem natDiv_law {xs ys : List Int} {a b : Nat} (hx : IsN xs a) (hy : IsN ys b) (ha : a < tn 1764) (hb : b < tn 1764) (hb0 : 0 < b) :
  ∃ K q r, IsN q (a / b) ∧ IsN r (a % b) ∧ ∀ k, K ≤ k → spec_NatDiv.f k xs ys = some (q, r) := by
 have hpow : tn 1800 = tn 1764 * 10 ^ 36 := tn_add 1764 36
 have hpow2 : tn 1773 = tn 1764 * 10 ^ 9 := tn_add 1764 9
 have up : ∀ {c : Nat}, c < tn 1764 → c < tn 1800 := fun h => by rw [hpow]; exact Nat.lt_of_lt_of_le h (Nat.le_mul_of_pos_right _ (Nat.pow_pos (by omega)))
 have ha' := up ha
 have hb' := up hb
 have hc := natCmp_law hx hy ha' hb'
 have hyl := hy.len hb'
 have hxl := hx.len ha'
 have hyn : ys ≠ [] := fun e => by have := hy.nil_iff.1 e; omega
 have hn0 : 0 < ys.length := List.length_pos_iff.2 hyn
 by_cases hlt : a < b
 ·refine ⟨1000, [], xs, by rw [Nat.div_eq_of_lt hlt]; exact IsN.nil, by rw [Nat.mod_eq_of_lt hlt]; exact hx, fun k hk => ?_⟩
  have h1 : cmpN a b < 0 := by unfold cmpN; rw [if_pos hlt]; omega
  have h2 : ([] : List Int).length + xs.length < 35184372088832 := by simp; omega
  unfold spec_NatDiv.f
  rw [hc k hk, Option.bind_some, if_pos h1, Option.bind_some, if_pos h2, List.nil_append]
 ·have h1 : ¬ cmpN a b < 0 := by unfold cmpN; rw [if_neg hlt]; split <;> omega
  by_cases hl1 : ys.length = 1
  ·obtain ⟨y, rfl⟩ : ∃ y, ys = [y] := List.length_eq_one_iff.1 hl1
   obtain ⟨hy0, hy1⟩ := hy.lms.head
   have hyv : y = (b : Int) := by have := hy.val; simpa [v9] using this
   subst hyv
   obtain ⟨K, q, k1, k2⟩ := natShort_law hx ha' hb0 (by omega)
   have hm : a % b < b := Nat.mod_lt _ hb0
   obtain ⟨KF, r, a1, a2⟩ := natFrom_law (a := a % b) (by omega)
   refine ⟨K + KF + 1000, q, r, k1, a1, fun k hk => ?_⟩
   have e1 : 1000 ≤ k := by omega
   have e2 : K ≤ k := by omega
   have e3 : KF ≤ k := by omega
   have hw : IntKind.u64.wrap ((a % b : Nat) : Int) = ((a % b : Nat) : Int) := u64_in (by omega) (by omega)
   unfold spec_NatDiv.f
   have e4 : rd [(b : Int)] 0 = (b : Int) := rfl
   have e5 : (([(b : Int)].length : Nat) : Int) = 1 := rfl
   have e6 : (0 : Int) < (([(b : Int)].length : Nat) : Int) := by rw [e5]; omega
   rw [hc k e1, Option.bind_some, if_neg h1, if_pos e5, if_pos e6, e4, k2 k e2, Option.bind_some]
   show ((spec_NatFrom.f k (IntKind.u64.wrap ((a % b : Nat) : Int))).bind fun t296 => some (q, t296)) = some (q, r)
   rw [hw, a2 k e3, Option.bind_some]
  ·obtain ⟨hy0, hy1⟩ := hy.lms.getD (ys.length - 1)
   have hyt := hy.trm.getD (i := ys.length - 1) (by omega)
   obtain ⟨c, hce⟩ : ∃ c : Nat, c = 1000000000 / ((ys.getD (ys.length - 1) 0).toNat + 1) := ⟨_, rfl⟩
   have hc1 : c < 1000000000 := by rw [hce]; exact Nat.div_lt_self (by omega) (by omega)
   have hc0 : 0 < c := by rw [hce]; exact Nat.div_pos (by omega) (by omega)
   have hcI : Int.tdiv 1000000000 (ys.getD (ys.length - 1) 0 + 1) = (c : Int) := by
    rw [Int.tdiv_eq_ediv_of_nonneg (by omega), hce, Int.natCast_ediv]
    congr 1
    omega
   have hcs : IsN [(c : Int)] c := ⟨Lms.cons (by omega) (by omega) Lms.nil, Trm.last (xs := []) (by omega), by simp [v9]⟩
   have hcb : c < tn 1800 := lt_tn (j := 10) (Nat.lt_trans hc1 (by decide)) (by omega)
   obtain ⟨K1, xl, a1, a2⟩ := natMul_law hx hcs ha' hcb
   obtain ⟨K2, yl, b1, b2⟩ := natMul_law hy hcs hb' hcb
   have hY0 : 0 < b * c := Nat.mul_pos hb0 hc0
   have hYb : b * c < tn 1773 := by
    rw [hpow2]
    exact Nat.lt_of_le_of_lt (Nat.mul_le_mul_left _ (Nat.le_of_lt hc1)) (Nat.mul_lt_mul_of_pos_right hb (by decide))
   have hXb : a * c < tn 1800 := by
    rw [hpow]
    exact Nat.lt_of_le_of_lt (Nat.mul_le_mul_left _ (Nat.le_trans (Nat.le_of_lt hc1) (by decide : 1000000000 ≤ 10 ^ 36))) (Nat.mul_lt_mul_of_pos_right ha (Nat.pow_pos (by omega)))
   have hxll := a1.len hXb
   obtain ⟨K0, q, r, R', Q', d1, d2, d3, d4, d5⟩ := natDiv_l0 (bs := [(c : Int)]) (xl := xl) rfl a1.lms b1 hY0 hYb (by omega) rfl hc0 hc1 xl.length (List.replicate xl.length 0) [] 0 0 (Nat.le_refl _) (by simp) (Lms.rep _)
    (fun t _ => by rw [List.getD_eq_getElem?_getD, List.getElem?_replicate]; split <;> rfl) IsN.nil hY0 (by rw [v9_rep]; simp) (by rw [List.drop_eq_nil_of_le (Nat.le_refl _)]; simp [v9])
   rw [a1.val] at d4
   have hN : a * c = Q' * (b * c) + R' := by exact_mod_cast d4
   have hRc : R' = (a - Q' * b) * c := by rw [Nat.sub_mul, hN, Nat.mul_assoc]; omega
   have hQle : Q' * b ≤ a := by
    have : Q' * b * c ≤ a * c := by rw [hN, Nat.mul_assoc]; omega
    exact Nat.le_of_mul_le_mul_right this hc0
   have hRlt : a - Q' * b < b := by
    rw [hRc] at d3
    exact Nat.lt_of_mul_lt_mul_right d3
   have hQ : Q' = a / b := by
    symm
    rw [Nat.div_eq_iff hb0]
    have := Nat.mul_comm Q' b
    constructor <;> omega
   have hRm : R' / c = a % b := by
    rw [hRc, Nat.mul_div_cancel _ hc0, hQ]
    have := Nat.div_add_mod a b
    rw [Nat.mul_comm] at this
    omega
   rw [hQ] at d1
   rw [hRm] at d2
   refine ⟨K0 + K1 + K2 + 1000, q, r, d1, d2, fun k hk => ?_⟩
   have hwp := wr_pred (n := ys.length) (by omega) hn0
   have HWP : Hid (wrap64 ((ys.length : Int) - 1) = ((ys.length - 1 : Nat) : Int)) := hwp
   clear hwp
   have e1 : 1000 ≤ k := by omega
   have e2 : K1 ≤ k := by omega
   have e3 : K2 ≤ k := by omega
   have e4 : K0 ≤ k := by omega
   have f1 : ¬ (ys.length : Int) = 1 := by omega
   have f2 : (0 : Int) ≤ ((ys.length - 1 : Nat) : Int) := by omega
   have f3 : ((ys.length - 1 : Nat) : Int) < (ys.length : Int) := by omega
   have f4 : (0 : Int) ≤ (xl.length : Int) := by omega
   have f5 : xl.length ≤ 70368744177664 := by omega
   have f6 : ¬ ys.getD (ys.length - 1) 0 + 1 = 0 := by omega
   have b1' : ys.getD (ys.length - 1) 0 < 18446744073709551616 := by omega
   have b2' : 0 ≤ ys.getD (ys.length - 1) 0 + 1 := by omega
   have b3' : ys.getD (ys.length - 1) 0 + 1 < 18446744073709551616 := by omega
   have b4' : (c : Int) % 4294967296 = (c : Int) := by omega
   have g1 : (xl.length : Int) - 1 ≤ 100000 := by omega
   have g2 : -100000 ≤ (xl.length : Int) - 1 := by omega
   have u1 := u64_in (x := (c : Int)) (by omega) (by omega)
   have t1 := a2 k e2
   have t2 := b2 k e3
   have t3 := d5 k e4
   have h7 : (spec_NatMul.f k xs [(c : Int)]).bind (fun t303 => (spec_NatMul.f k ys [(c : Int)]).bind fun t306 => (if 0 ≤ (t303.length : Int) then (if ((t303.length : Int) : Int).toNat ≤ 70368744177664 then (spec_NatDiv.l0 k (List.replicate ((t303.length : Int) : Int).toNat 0) ([] : List Int) [(c : Int)] t303 t306 (wrap64 ((t303.length : Int) - 1))) else (none)) else (none))) = some (q, r) := by
    rw [t1, Option.bind_some, t2, Option.bind_some, if_pos f4, Int.toNat_natCast, if_pos f5, w64 g2 g1]
    exact t3
   unfold spec_NatDiv.f
   rw [hc k e1, Option.bind_some, if_neg h1, if_neg f1, HWP.out, if_pos f2, if_pos f3, rd_nat, u64_in hy0 b1', u64_in b2' b3', if_neg f6, hcI, u1, b4', Option.bind_some]
   exact h7
end Go.Proofs.YtlbjjhecgceiaaaGreatDoor
namespace Go.Proofs.YtlbjjhecgceiaaaGreatDoor.PFnFixSubExact
open Go.RowKit Go.Proofs.YtlbjjhecgceiaaaGreatDoorW.PrintWords Go.Proofs.YtlbjjhecgceiaaaGreatDoorW.PrintLast Go.Proofs.YtlbjjhecgceiaaaGreatDoorW.PrintMore
attribute [local go_sem] max2_int min2_int max_two min_two max_three min_three max_four min_four
set_option linter.unusedVariables false
set_option linter.unusedSimpArgs false
mutual
def spec_Nat_String.l0 : Nat → List Int → List Int → List Int → Int → Int → Option (ByteArray)
 | 0, _, _, _, _, _ => none
 | k + 1, x0, x3, x9, x10, x11 => if x11 < x10 then (if 0 ≤ x11 then (if x11 < (x9.length : Int) then (spec_Nat_String.l1 k x0 x3 x11 (rd x9 x11) 0 x9 x10 x11) else (none)) else (none)) else (if (x3.length : Int) = 0 then (some (⟨#[48]⟩ : ByteArray)) else (spec_Nat_String.l2 k x3 0 (wrap64 ((x3.length : Int) - 1))))
def spec_Nat_String.l1 : Nat → List Int → List Int → Int → Int → Int → List Int → Int → Int → Option (ByteArray)
 | 0, _, _, _, _, _, _, _, _ => none
 | k + 1, x0, x3, x4, x5, x6, x9, x10, x11 => if x6 < 9 then (if x5 > 0 then (if x3.length < 140737488355328 then (spec_Nat_String.l1 k x0 (x3 ++ [(48 + (Int.tmod x5 10)) % 256]) x4 ((Int.tdiv x5 10) % 4294967296) (wrap64 (x6 + 1)) x9 x10 x11) else (none)) else (if (wrap64 (x4 + 1)) < (x0.length : Int) then (if x3.length < 140737488355328 then (spec_Nat_String.l1 k x0 (x3 ++ [(48 + (Int.tmod x5 10)) % 256]) x4 ((Int.tdiv x5 10) % 4294967296) (wrap64 (x6 + 1)) x9 x10 x11) else (none)) else (spec_Nat_String.l0 k x0 x3 x9 x10 (wrap64 (x11 + 1))))) else (spec_Nat_String.l0 k x0 x3 x9 x10 (wrap64 (x11 + 1)))
def spec_Nat_String.l2 : Nat → List Int → Int → Int → Option (ByteArray)
 | 0, _, _, _ => none
 | k + 1, x3, x7, x8 => if x7 < x8 then (if 0 ≤ x8 then (if x8 < (x3.length : Int) then (if 0 ≤ x7 then (if x7 < (x3.length : Int) then (spec_Nat_String.l2 k ((x3.set (x7 : Int).toNat (rd x3 x8)).set (x8 : Int).toNat (rd x3 x7)) (wrap64 (x7 + 1)) (wrap64 (x8 - 1))) else (none)) else (none)) else (none)) else (none)) else (some (strOfNums x3))
end
def spec_Nat_String.f (k : Nat) (l0 : List Int) : Option (ByteArray) := spec_Nat_String.l0 k l0 ([] : List Int) l0 (l0.length : Int) 0
theorem spec_Nat_String.mono_l : ∀ k, (∀ y0 y1 y2 y3 y4, LeO (spec_Nat_String.l0 k y0 y1 y2 y3 y4) (spec_Nat_String.l0 (k + 1) y0 y1 y2 y3 y4)) ∧ (∀ y0 y1 y2 y3 y4 y5 y6 y7, LeO (spec_Nat_String.l1 k y0 y1 y2 y3 y4 y5 y6 y7) (spec_Nat_String.l1 (k + 1) y0 y1 y2 y3 y4 y5 y6 y7)) ∧ (∀ y0 y1 y2, LeO (spec_Nat_String.l2 k y0 y1 y2) (spec_Nat_String.l2 (k + 1) y0 y1 y2))
 | 0 => ⟨fun _ _ _ _ _ r h => by simp [spec_Nat_String.l0] at h, fun _ _ _ _ _ _ _ _ r h => by simp [spec_Nat_String.l1] at h, fun _ _ _ r h => by simp [spec_Nat_String.l2] at h⟩
 | k + 1 => by
  obtain ⟨ih0, ih1, ih2⟩ := spec_Nat_String.mono_l k
  refine ⟨?_, ?_, ?_⟩
  ·intro y0 y1 y2 y3 y4
   unfold spec_Nat_String.l0
   repeat' first
   | (with_reducible exact ih0 _ _ _ _ _)
   | (with_reducible exact ih1 _ _ _ _ _ _ _ _)
   | (with_reducible exact ih2 _ _ _)
   | (with_reducible exact LeO.refl _)
   | (with_reducible exact LeO.none _)
   | (with_reducible refine LeO.ite ?_ ?_)
   | (with_reducible refine LeO.bind ?_ (fun _ => ?_))
   | exact ih0 _ _ _ _ _
   | exact ih1 _ _ _ _ _ _ _ _
   | exact ih2 _ _ _
   | exact LeO.none _
   | refine LeO.ite ?_ ?_
   | refine LeO.bind ?_ (fun _ => ?_)
  ·intro y0 y1 y2 y3 y4 y5 y6 y7
   unfold spec_Nat_String.l1
   repeat' first
   | (with_reducible exact ih0 _ _ _ _ _)
   | (with_reducible exact ih1 _ _ _ _ _ _ _ _)
   | (with_reducible exact ih2 _ _ _)
   | (with_reducible exact LeO.refl _)
   | (with_reducible exact LeO.none _)
   | (with_reducible refine LeO.ite ?_ ?_)
   | (with_reducible refine LeO.bind ?_ (fun _ => ?_))
   | exact ih0 _ _ _ _ _
   | exact ih1 _ _ _ _ _ _ _ _
   | exact ih2 _ _ _
   | exact LeO.none _
   | refine LeO.ite ?_ ?_
   | refine LeO.bind ?_ (fun _ => ?_)
  ·intro y0 y1 y2
   unfold spec_Nat_String.l2
   repeat' first
   | (with_reducible exact ih0 _ _ _ _ _)
   | (with_reducible exact ih1 _ _ _ _ _ _ _ _)
   | (with_reducible exact ih2 _ _ _)
   | (with_reducible exact LeO.refl _)
   | (with_reducible exact LeO.none _)
   | (with_reducible refine LeO.ite ?_ ?_)
   | (with_reducible refine LeO.bind ?_ (fun _ => ?_))
   | exact ih0 _ _ _ _ _
   | exact ih1 _ _ _ _ _ _ _ _
   | exact ih2 _ _ _
   | exact LeO.none _
   | refine LeO.ite ?_ ?_
   | refine LeO.bind ?_ (fun _ => ?_)
def spec_Nat_String.T16 : Bool × List (List Nat × List Nat) := (true, [([], []), ([], []), ([], []), ([], []), ([], []), ([], []), ([4, 5], [4, 5]), ([6], [6]), ([], []), ([], []), ([8, 9], [8, 9]), ([10], [10]), ([0, 1, 0, 1, 4, 5, 6, 7, 11], [0, 1]), ([12, 7, 0, 1, 4, 5, 6, 7, 11], [7, 12]), ([2, 3, 0, 1, 2, 3, 4, 5, 6, 7, 8, 9, 10, 11, 12, 13], [2, 3]), ([14, 11, 13, 0, 1, 2, 3, 4, 5, 6, 7, 8, 9, 10, 11, 12, 13], [11, 14])])
def spec_Nat_String.B16 : List Nat := [0, 0, 0, 0, 0, 0, 48, 112, 0, 0, 768, 1792, 4083, 8179, 16383, 32767]
theorem spec_Nat_String.tab16 : rtab .any (opsOf Tryz.f50 16) = spec_Nat_String.T16 := by kernel_rfl
theorem spec_Nat_String.bits16 : waitsOk spec_Nat_String.T16.2 spec_Nat_String.B16 = true := by kernel_rfl
set_option maxHeartbeats 8000000 in
set_option maxRecDepth 100000 in
theorem spec_Nat_String.calls (k : Nat) (A0 : Option Addr) (c0 : Nat) (l0 : List Int) (r : ByteArray) (w : World) (hr0 : Kd.C (Kd.int .u32) w A0 l0.length l0) (hc0 : l0.length ≤ c0) (h : spec_Nat_String.f k l0 = some r) :
  Calls Tryz.prog 50 #[.slice A0 l0.length c0] w fun e w' => e = .returned (.string r) ∧ Below w.heap.size w w' := by
 have HR0 := Aside0.mk hr0
 have HC0 := Aside0.mk hc0
 clear hr0 hc0
 have HB := Aside0.mk (Below.refl w.heap.size w)
 have H : (spec_Nat_String.l0 k l0 ([] : List Int) l0 (l0.length : Int) 0) = some r := h
 clear h
 have H' := Aside0.mk H
 clear H
 go_enter Tryz.func50, Tryz.ntmps50
 go_wp2
 go_loopg [3, 11] k (fun kq v3 v11 w' => ∃ (x3_1 : List Int) (x11_1 : Int), v11 = .int .i64 x11_1 ∧ Aside0 (spec_Nat_String.l0 kq l0 x3_1 l0 (l0.length : Int) x11_1 = some r) ∧ Aside0 (kq ≤ k) ∧ Aside0 (Kd.R (Kd.int .u8) 5 w' w.heap.size (fun _ => True) v3 x3_1) ∧ Aside0 (Below w.heap.size w w'))
 case atStart => exact ⟨(([] : List Int)), (0), sd_, H', ⟨Nat.le_refl _⟩, ⟨by first | exact Kd.R_nil _ _ _ _ _ | exact Kd.N_nil _ _ _ _ _ | exact Kd.V_nil _ _ _ _ _ | exact Kd.Q_nil _ _ _ _ _ | exact Kd.S_nil _ _ _ _ _⟩, ⟨bel_⟩⟩
 case round =>
  clear H'
  obtain ⟨x3_1, x11_1, rfl, HA, HK1, HO_3, HB⟩ := hrel
  cases gk with
  | zero => exact absurd HA.out (by simp [spec_Nat_String.l0])
  | succ k1 =>
   have H := HA.out
   clear HA
   simp only [spec_Nat_String.l0] at H
   by_cases c2 : x11_1 < (l0.length : Int)
   ·rw [if_pos c2] at H
    have c2b0 : decide (x11_1 < (l0.length : Int)) = true := decide_eq_true c2
    clear c2
    by_cases c3 : 0 ≤ x11_1
    ·rw [if_pos c3] at H
     have c3b0 : decide (0 ≤ x11_1) = true := decide_eq_true c3
     clear c3
     by_cases c4 : x11_1 < (l0.length : Int)
     ·rw [if_pos c4] at H
      have c4b0 : decide (x11_1 < (l0.length : Int)) = true := decide_eq_true c4
      clear c4
      have H' := Aside0.mk H
      clear H
      have p397 : 0 ≤ (x11_1 : Int) := ode_
      have q397 : x11_1 < (l0.length : Int) := ode_
      obtain ⟨ad397, e397, hx397_0⟩ := Kd.at_int HR0.out x11_1 p397 q397
      cases e397
      replace hx397_0 := (HB.out.cell (World.block_lt_of_cell? w _ hx397_0)).trans hx397_0
      replace p397 := eq_true p397
      replace q397 := eq_true q397
      go_wp2
      go_loopg [3, 5, 6] k1 (fun kq v3 v5 v6 w' => ∃ (x3_2 : List Int) (x5_2 : Int) (x6_2 : Int), v5 = .int .u32 x5_2 ∧ v6 = .int .i64 x6_2 ∧ Aside0 (spec_Nat_String.l1 kq l0 x3_2 x11_1 x5_2 x6_2 l0 (l0.length : Int) x11_1 = some r) ∧ Aside0 (kq ≤ k1) ∧ Aside0 (Kd.R (Kd.int .u8) 5 w' w.heap.size (fun _ => True) v3 x3_2) ∧ Aside0 (Below w.heap.size w w'))
      case atStart => exact ⟨(x3_1), (rd l0 x11_1), (0), sd_, sd_, H', ⟨Nat.le_refl _⟩, ⟨by (with_reducible repeat (first | apply Kd.R_alloc | apply Kd.R_drewN | apply Kd.R_drew)); exact HO_3.out⟩, ⟨bel_⟩⟩
      case round =>
       clear H'
       try clear c2
       try clear c2b0
       try clear p2
       try clear c3
       try clear c3b0
       try clear p3
       try clear q3
       try clear hx3
       try clear c4
       try clear c4b0
       try clear hx397_0
       try clear p397
       try clear q397
       obtain ⟨x3_2, x5_2, x6_2, rfl, rfl, HA, HK2, HO_3, HB⟩ := hrel
       cases gk with
       | zero => exact absurd HA.out (by simp [spec_Nat_String.l1])
       | succ k2 =>
        have H := HA.out
        clear HA
        simp only [spec_Nat_String.l1] at H
        by_cases c5 : x6_2 < 9
        ·rw [if_pos c5] at H
         have c5b0 : decide (x6_2 < 9) = true := decide_eq_true c5
         clear c5
         by_cases c6 : x5_2 > 0
         ·rw [if_pos c6] at H
          have c6b0 : decide (0 < x5_2) = true := decide_eq_true c6
          clear c6
          by_cases c7 : x3_2.length < 140737488355328
          ·rw [if_pos c7] at H
           have LMc7 := Aside0.mk c7
           clear c7
           obtain ⟨y398, hy398⟩ : ∃ y_ : List Int, y_ = (x3_2 ++ [(48 + (Int.tmod x5_2 10)) % 256]) := ⟨_, rfl⟩
           replace H : (spec_Nat_String.l1 k2 l0 y398 x11_1 ((Int.tdiv x5_2 10) % 4294967296) (wrap64 (x6_2 + 1)) l0 (l0.length : Int) x11_1) = some r := fo_ hy398 H
           have Ny398 := Aside0.mk hy398
           clear hy398
           have H' := Aside0.mk H
           clear H
           go_wp2_with (first | ((with_reducible refine gate_builtin (b := .append) (xs := #[.tmp 31, .tmp 36]) rfl ?_); (try (refine gate_guard (by rfl) ?_; dsimp only)); at_builtin; refine Kd.R_append (Kd.int .u8) (w0 := w) w.heap.size rfl (.tmp 31) (.tmp 36) 117 5 (.int .u8 0) 1 rfl Tryz.underlying117 info5 rfl (by decide) (by omega) u3 x3_2 ((48 + (Int.tmod x5_2 10)) % 256) [.int .u8 ((48 + (Int.tmod x5_2 10)) % 256)] (fun _ => True) (fun _ => False) rfl rfl ?aP (fun _ hk => hk.elim) ?aF ?aO ?aB ?aS ?aL ?_; (case aP => exact rfl); (case aB => exact bel_); (case aF => exact (fun _ _ => trivial)); (case aO => exact (rr_ HO_3.out)); (case aS => exact (below_size bel_)); (case aL => have := LMc7.out; omega); intro v399 w8 ho hb hg hat; rw [← Ny398.out] at ho; have n0_ := Aside0.mk (hb); have n1_ := Aside0.mk (ho); clear HB; clear HO_3; have HB := n0_; have HO400 := n1_; clear n0_ n1_; clear ho hb hg hat))
           go_roundg k2
           case measure => have := HK1.out; have := HK2.out; omega
           case rel => exact ⟨(y398), ((Int.tdiv x5_2 10) % 4294967296), (wrap64 (x6_2 + 1)), sd_, sd_, H', ⟨by have := HK1.out; have := HK2.out; omega⟩, ⟨by (with_reducible repeat (first | apply Kd.R_alloc | apply Kd.R_drewN | apply Kd.R_drew)); exact HO400.out⟩, ⟨bel_⟩⟩
          ·rw [if_neg c7] at H
           exact absurd H (by simp)
         ·rw [if_neg c6] at H
          have c6b0 : decide (0 < x5_2) = false := decide_eq_false c6
          clear c6
          by_cases c9 : (wrap64 (x11_1 + 1)) < (l0.length : Int)
          ·rw [if_pos c9] at H
           have c9b0 : decide ((wrap64 (x11_1 + 1)) < (l0.length : Int)) = true := decide_eq_true c9
           clear c9
           by_cases c10 : x3_2.length < 140737488355328
           ·rw [if_pos c10] at H
            have LMc10 := Aside0.mk c10
            clear c10
            obtain ⟨y401, hy401⟩ : ∃ y_ : List Int, y_ = (x3_2 ++ [(48 + (Int.tmod x5_2 10)) % 256]) := ⟨_, rfl⟩
            replace H : (spec_Nat_String.l1 k2 l0 y401 x11_1 ((Int.tdiv x5_2 10) % 4294967296) (wrap64 (x6_2 + 1)) l0 (l0.length : Int) x11_1) = some r := fo_ hy401 H
            have Ny401 := Aside0.mk hy401
            clear hy401
            have H' := Aside0.mk H
            clear H
            go_wp2_with (first | ((with_reducible refine gate_builtin (b := .append) (xs := #[.tmp 31, .tmp 36]) rfl ?_); (try (refine gate_guard (by rfl) ?_; dsimp only)); at_builtin; refine Kd.R_append (Kd.int .u8) (w0 := w) w.heap.size rfl (.tmp 31) (.tmp 36) 117 5 (.int .u8 0) 1 rfl Tryz.underlying117 info5 rfl (by decide) (by omega) u3 x3_2 ((48 + (Int.tmod x5_2 10)) % 256) [.int .u8 ((48 + (Int.tmod x5_2 10)) % 256)] (fun _ => True) (fun _ => False) rfl rfl ?aP (fun _ hk => hk.elim) ?aF ?aO ?aB ?aS ?aL ?_; (case aP => exact rfl); (case aB => exact bel_); (case aF => exact (fun _ _ => trivial)); (case aO => exact (rr_ HO_3.out)); (case aS => exact (below_size bel_)); (case aL => have := LMc10.out; omega); intro v402 w11 ho hb hg hat; rw [← Ny401.out] at ho; have n0_ := Aside0.mk (hb); have n1_ := Aside0.mk (ho); clear HB; clear HO_3; have HB := n0_; have HO403 := n1_; clear n0_ n1_; clear ho hb hg hat))
            go_roundg k2
            case measure => have := HK1.out; have := HK2.out; omega
            case rel => exact ⟨(y401), ((Int.tdiv x5_2 10) % 4294967296), (wrap64 (x6_2 + 1)), sd_, sd_, H', ⟨by have := HK1.out; have := HK2.out; omega⟩, ⟨by (with_reducible repeat (first | apply Kd.R_alloc | apply Kd.R_drewN | apply Kd.R_drew)); exact HO403.out⟩, ⟨bel_⟩⟩
           ·rw [if_neg c10] at H
            exact absurd H (by simp)
          ·rw [if_neg c9] at H
           have c9b0 : decide ((wrap64 (x11_1 + 1)) < (l0.length : Int)) = false := decide_eq_false c9
           clear c9
           have H' := Aside0.mk H
           clear H
           go_wp2
           go_roundg k2
           case measure => have := HK1.out; have := HK2.out; omega
           case rel => exact ⟨(x3_2), (wrap64 (x11_1 + 1)), sd_, H', ⟨by have := HK1.out; have := HK2.out; omega⟩, ⟨by (with_reducible repeat (first | apply Kd.R_alloc | apply Kd.R_drewN | apply Kd.R_drew)); exact HO_3.out⟩, ⟨bel_⟩⟩
        ·rw [if_neg c5] at H
         have c5b0 : decide (x6_2 < 9) = false := decide_eq_false c5
         clear c5
         have H' := Aside0.mk H
         clear H
         go_wp2
         go_roundg k2
         case measure => have := HK1.out; have := HK2.out; omega
         case rel => exact ⟨(x3_2), (wrap64 (x11_1 + 1)), sd_, H', ⟨by have := HK1.out; have := HK2.out; omega⟩, ⟨by (with_reducible repeat (first | apply Kd.R_alloc | apply Kd.R_drewN | apply Kd.R_drew)); exact HO_3.out⟩, ⟨bel_⟩⟩
     ·rw [if_neg c4] at H
      exact absurd H (by simp)
    ·rw [if_neg c3] at H
     exact absurd H (by simp)
   ·rw [if_neg c2] at H
    have c2b0 : decide (x11_1 < (l0.length : Int)) = false := decide_eq_false c2
    clear c2
    by_cases c12 : (x3_1.length : Int) = 0
    ·rw [if_pos c12] at H
     have c12b0 : ((x3_1.length : Int) == 0) = true := beq_iff_eq.mpr c12
     have c12b1 : ((x3_1.length : Int) != 0) = false := bne_eq_false_iff_eq.mpr c12
     clear c12
     obtain rfl := Option.some.inj H
     obtain ⟨Ao13, co13, eo13⟩ := Kd.R_slice HO_3.out
     subst eo13
     go_wp2
     go_ret
     exact ⟨by first | rfl | (simp [errW_none, errW_some] <;> rfl) | (simp [*, errW_none, errW_some] <;> rfl), bel_⟩
    ·rw [if_neg c12] at H
     have c12b0 : ((x3_1.length : Int) == 0) = false := beq_eq_false_iff_ne.mpr c12
     have c12b1 : ((x3_1.length : Int) != 0) = true := bne_iff_ne.mpr c12
     have c12b2 : ¬ (x3_1 = []) := fun h_ => c12 (by rw [h_]; rfl)
     have H' := Aside0.mk H
     clear H
     obtain ⟨Ao14, co14, eo14⟩ := Kd.R_slice HO_3.out
     subst eo14
     go_wp2
     go_loopg [7, 8] k1 (fun kq v7 v8 w' => ∃ (x3_2 : List Int) (x7_2 : Int) (x8_2 : Int), v7 = .int .i64 x7_2 ∧ v8 = .int .i64 x8_2 ∧ Aside0 (spec_Nat_String.l2 kq x3_2 x7_2 x8_2 = some r) ∧ Aside0 (kq ≤ k1) ∧ Aside0 (Kd.R (Kd.int .u8) 5 w' w.heap.size (fun _ => True) (.slice Ao14 x3_1.length co14) x3_2) ∧ Aside0 (Below w.heap.size w w'))
     case atStart => exact ⟨(x3_1), (0), (wrap64 ((x3_1.length : Int) - 1)), sd_, sd_, H', ⟨Nat.le_refl _⟩, ⟨by (with_reducible repeat (first | apply Kd.R_alloc | apply Kd.R_drewN | apply Kd.R_drew)); exact HO_3.out⟩, ⟨bel_⟩⟩
     case round =>
      clear H'
      try clear c1
      try clear c2
      try clear c2b0
      try clear p2
      try clear c3
      try clear c3b0
      try clear p3
      try clear q3
      try clear hx3
      try clear c4
      try clear c4b0
      try clear c5
      try clear c5b0
      try clear c6
      try clear c6b0
      try clear p6
      try clear c7
      try clear c9
      try clear c9b0
      try clear c10
      try clear c12
      try clear c12b0
      try clear c12b1
      try clear c12b2
      try clear hx397_0
      try clear p2
      try clear p3
      try clear p397
      try clear q3
      try clear q397
      obtain ⟨x3_2, x7_2, x8_2, rfl, rfl, HA, HK2, HO_3, HB⟩ := hrel
      have hl3_2 := (Kd.R_reads' HO_3.out).1
      rw [hl3_2] at HO_3
      (try simp only [hl3_2])
      cases gk with
      | zero => exact absurd HA.out (by simp [spec_Nat_String.l2])
      | succ k2 =>
       have H := HA.out
       clear HA
       simp only [spec_Nat_String.l2] at H
       by_cases c15 : x7_2 < x8_2
       ·rw [if_pos c15] at H
        have c15b0 : decide (x7_2 < x8_2) = true := decide_eq_true c15
        clear c15
        by_cases c16 : 0 ≤ x8_2
        ·rw [if_pos c16] at H
         have c16b0 : decide (0 ≤ x8_2) = true := decide_eq_true c16
         clear c16
         by_cases c17 : x8_2 < (x3_2.length : Int)
         ·rw [if_pos c17] at H
          have c17b0 : decide (x8_2 < (x3_2.length : Int)) = true := decide_eq_true c17
          clear c17
          by_cases c18 : 0 ≤ x7_2
          ·rw [if_pos c18] at H
           have c18b0 : decide (0 ≤ x7_2) = true := decide_eq_true c18
           clear c18
           by_cases c19 : x7_2 < (x3_2.length : Int)
           ·rw [if_pos c19] at H
            have c19b0 : decide (x7_2 < (x3_2.length : Int)) = true := decide_eq_true c19
            clear c19
            obtain ⟨y406, hy406⟩ : ∃ y_ : List Int, y_ = (x3_2.set (x7_2 : Int).toNat (rd x3_2 x8_2)) := ⟨_, rfl⟩
            replace H : (spec_Nat_String.l2 k2 (y406.set (x8_2 : Int).toNat (rd x3_2 x7_2)) (wrap64 (x7_2 + 1)) (wrap64 (x8_2 - 1))) = some r := fo_ hy406 H
            have Ny406 := Aside0.mk hy406
            clear hy406
            obtain ⟨y407, hy407⟩ : ∃ y_ : List Int, y_ = (y406.set (x8_2 : Int).toNat (rd x3_2 x7_2)) := ⟨_, rfl⟩
            replace H : (spec_Nat_String.l2 k2 y407 (wrap64 (x7_2 + 1)) (wrap64 (x8_2 - 1))) = some r := fo_ hy407 H
            have Ny407 := Aside0.mk hy407
            clear hy407
            have H' := Aside0.mk H
            clear H
            try go_wp2
            have n0_ := Aside0.mk (Kd.R_drew HO_3.out)
            have n1_ := Aside0.mk (below_drew1 HB.out)
            clear HO_3
            clear HB
            have HO_3 := n0_
            have HB := n1_
            clear n0_ n1_
            have p404 : 0 ≤ (x8_2 : Int) := ode_
            have q404 : x8_2 < (x3_2.length : Int) := ode_
            obtain ⟨ad404, e404, hx404_0⟩ := Kd.at_int (Kd.R_reads' HO_3.out).2.2 x8_2 p404 q404
            cases e404
            replace p404 := eq_true p404
            replace q404 := eq_true q404
            have p405 : 0 ≤ (x7_2 : Int) := ode_
            have q405 : x7_2 < (x3_2.length : Int) := ode_
            obtain ⟨ad405, e405, hx405_0⟩ := Kd.at_int (Kd.R_reads' HO_3.out).2.2 x7_2 p405 q405
            obtain rfl : ad404 = ad405 := (by injection e405)
            replace p405 := eq_true p405
            replace q405 := eq_true q405
            have p20 : 0 ≤ (x7_2 : Int) := ode_
            have q20 : (x7_2 : Int) < ((x3_2.length : Int) : Int) := ode_
            obtain ⟨go20, co20, eo20, gb20, gl20, cl20, HG20⟩ := Kd.R_form HO_3.out (by omega)
            (first | cases eo20 | (injection eo20 with ea_ en_ ec_; (first | subst ea_ | (injection ea_ with ea_; subst ea_)); subst ec_; clear en_))
            have GB20 := Aside0.mk gb20
            have GG20 := Aside0.mk HG20
            clear gb20 gl20 HG20
            (first | simp only [add_plain] at hx404_0 | skip)
            (first | simp only [add_plain] at hx405_0 | skip)
            obtain ⟨hx20_0, hf20_0⟩ := Kd.R_celln 0 HO_3.out (x7_2 : Int) p20 q20
            replace p20 := eq_true p20
            replace q20 := eq_true q20
            have HP23 := Kd.R_putn HO_3.out (x7_2 : Int) (rd x3_2 x8_2)
            rw [← Ny406.out] at HP23
            have HQ23 := Aside0.mk HP23
            clear HP23
            have p21 : 0 ≤ (x8_2 : Int) := ode_
            have q21 : (x8_2 : Int) < ((x3_2.length : Int) : Int) := ode_
            obtain ⟨hx21_0, hf21_0⟩ := Kd.R_celln 0 HQ23.out (x8_2 : Int) p21 q21
            replace p21 := eq_true p21
            replace q21 := eq_true q21
            have HP24 := Kd.R_putn HQ23.out (x8_2 : Int) (rd x3_2 x7_2)
            rw [← Ny407.out] at HP24
            have HQ24 := Aside0.mk HP24
            clear HP24
            refine start_ (n := 16) (S := fun w' => w'.cell? ⟨go20, (x8_2).toNat, none⟩ = some (.int .u8 (rd x3_2 x8_2)) ∧ w'.cell? ⟨go20, (x7_2).toNat, none⟩ = some (.int .u8 (rd x3_2 x7_2))) (ds := [13, 15]) #[false, false, false, false, false, false, false, false, false, false, false, false, false, false, false, false] kr_ rfl rfl ⟨hx404_0, hx405_0⟩ (fun hHeld => ?_); refine with_tabW spec_Nat_String.tab16 spec_Nat_String.bits16 (fun HT_ HW_ => ?_)
            generalize wr.drew = w22 at HO_3 HB GG20 HQ23 HQ24 hf20_0 hf21_0 hx20_0 hx21_0 hx404_0 hx405_0 hHeld ⊢
            refine pure_ (i := 0) (N := some 54) (v := ?_) (a' := ?_) #[true, false, false, false, false, false, false, false, false, false, false, false, false, false, false, false] rfl rfl (any_of HT_.out kr_) (fun _ _ _ h => h) (Or.inl ⟨by rfl, ?_⟩) ?_ ?_
            rotate_left
            ·intro w'
             go_simp
             with_reducible rfl
            rotate_left
            ·simp only [Act.put, List.setIfInBounds_toArray, List.set_cons_zero, List.set_cons_succ, i64_w, i32_w]
             rfl
            refine pure_ (i := 1) (N := some 55) (v := ?_) (a' := ?_) #[true, true, false, false, false, false, false, false, false, false, false, false, false, false, false, false] rfl rfl (any_of HT_.out kr_) (fun _ _ _ h => h) (Or.inl ⟨by rfl, ?_⟩) ?_ ?_
            rotate_left
            ·intro w'
             go_simp
             with_reducible rfl
            rotate_left
            ·simp only [Act.put, List.setIfInBounds_toArray, List.set_cons_zero, List.set_cons_succ, i64_w, i32_w]
             rfl
            refine pure_ (i := 2) (N := some 56) (v := ?_) (a' := ?_) #[true, true, true, false, false, false, false, false, false, false, false, false, false, false, false, false] rfl rfl (any_of HT_.out kr_) (fun _ _ _ h => h) (Or.inl ⟨by rfl, ?_⟩) ?_ ?_
            rotate_left
            ·intro w'
             go_simp
             with_reducible rfl
            rotate_left
            ·simp only [Act.put, List.setIfInBounds_toArray, List.set_cons_zero, List.set_cons_succ, i64_w, i32_w]
             rfl
            refine pure_ (i := 3) (N := some 57) (v := ?_) (a' := ?_) #[true, true, true, true, false, false, false, false, false, false, false, false, false, false, false, false] rfl rfl (any_of HT_.out kr_) (fun _ _ _ h => h) (Or.inl ⟨by rfl, ?_⟩) ?_ ?_
            rotate_left
            ·intro w'
             go_simp
             with_reducible rfl
            rotate_left
            ·simp only [Act.put, List.setIfInBounds_toArray, List.set_cons_zero, List.set_cons_succ, i64_w, i32_w]
             rfl
            refine pure_ (i := 4) (N := some 58) (v := ?_) (a' := ?_) #[true, true, true, true, true, false, false, false, false, false, false, false, false, false, false, false] rfl rfl (any_of HT_.out kr_) (fun _ _ _ h => h) (Or.inl ⟨by rfl, ?_⟩) ?_ ?_
            rotate_left
            ·intro w'
             go_simp
             with_reducible rfl
            rotate_left
            ·simp only [Act.put, List.setIfInBounds_toArray, List.set_cons_zero, List.set_cons_succ, i64_w, i32_w]
             rfl
            refine pure_ (i := 5) (N := some 59) (v := ?_) (a' := ?_) #[true, true, true, true, true, true, false, false, false, false, false, false, false, false, false, false] rfl rfl (any_of HT_.out kr_) (fun _ _ _ h => h) (Or.inl ⟨by rfl, ?_⟩) ?_ ?_
            rotate_left
            ·intro w'
             go_simp
             with_reducible rfl
            rotate_left
            ·simp only [Act.put, List.setIfInBounds_toArray, List.set_cons_zero, List.set_cons_succ, i64_w, i32_w]
             rfl
            refine pure_ (i := 6) (N := some 60) (v := ?_) (a' := ?_) #[true, true, true, true, true, true, true, false, false, false, false, false, false, false, false, false] rfl rfl (any_of HT_.out kr_) (fun _ _ _ h => h) (Or.inl ⟨by rfl, ?_⟩) ?_ ?_
            rotate_left
            ·intro w'
             go_simp
             with_reducible rfl
            rotate_left
            ·simp only [Act.put, List.setIfInBounds_toArray, List.set_cons_zero, List.set_cons_succ, i64_w, i32_w]
             rfl
            refine pure_ (i := 8) (N := some 62) (v := ?_) (a' := ?_) #[true, true, true, true, true, true, true, false, true, false, false, false, false, false, false, false] rfl rfl (any_of HT_.out kr_) (fun _ _ _ h => h) (Or.inl ⟨by rfl, ?_⟩) ?_ ?_
            rotate_left
            ·intro w'
             go_simp
             with_reducible rfl
            rotate_left
            ·simp only [Act.put, List.setIfInBounds_toArray, List.set_cons_zero, List.set_cons_succ, i64_w, i32_w]
             rfl
            refine pure_ (i := 9) (N := some 63) (v := ?_) (a' := ?_) #[true, true, true, true, true, true, true, false, true, true, false, false, false, false, false, false] rfl rfl (any_of HT_.out kr_) (fun _ _ _ h => h) (Or.inl ⟨by rfl, ?_⟩) ?_ ?_
            rotate_left
            ·intro w'
             go_simp
             with_reducible rfl
            rotate_left
            ·simp only [Act.put, List.setIfInBounds_toArray, List.set_cons_zero, List.set_cons_succ, i64_w, i32_w]
             rfl
            refine pure_ (i := 10) (N := some 64) (v := ?_) (a' := ?_) #[true, true, true, true, true, true, true, false, true, true, true, false, false, false, false, false] rfl rfl (any_of HT_.out kr_) (fun _ _ _ h => h) (Or.inl ⟨by rfl, ?_⟩) ?_ ?_
            rotate_left
            ·intro w'
             go_simp
             with_reducible rfl
            rotate_left
            ·simp only [Act.put, List.setIfInBounds_toArray, List.set_cons_zero, List.set_cons_succ, i64_w, i32_w]
             rfl
            refine take_ (i := 7) (N := some 61) (v := ?_) (a' := ?_) #[true, true, true, true, true, true, true, true, true, true, true, false, false, false, false, false] rfl rfl (take_ofW HT_.out HW_.out kr_) (fun _ _ _ h => h) (Or.inl ⟨by rfl, ?_⟩) hHeld ?_ ?_
            rotate_left
            ·rintro w' ⟨s0, s1⟩
             go_simp
             with_reducible rfl
            rotate_left
            ·simp only [Act.put, List.setIfInBounds_toArray, List.set_cons_zero, List.set_cons_succ, i64_w, i32_w]
             rfl
            refine take_ (i := 11) (N := some 65) (v := ?_) (a' := ?_) #[true, true, true, true, true, true, true, true, true, true, true, true, false, false, false, false] rfl rfl (take_ofW HT_.out HW_.out kr_) (fun _ _ _ h => h) (Or.inl ⟨by rfl, ?_⟩) hHeld ?_ ?_
            rotate_left
            ·rintro w' ⟨s0, s1⟩
             go_simp
             with_reducible rfl
            rotate_left
            ·simp only [Act.put, List.setIfInBounds_toArray, List.set_cons_zero, List.set_cons_succ, i64_w, i32_w]
             rfl
            refine pure_ (i := 12) (N := some 66) (v := ?_) (a' := ?_) #[true, true, true, true, true, true, true, true, true, true, true, true, true, false, false, false] rfl rfl (any_of HT_.out kr_) (fun _ _ _ h => h) (Or.inl ⟨by rfl, ?_⟩) ?_ ?_
            rotate_left
            ·intro w'
             go_simp
             with_reducible rfl
            rotate_left
            ·simp only [Act.put, List.setIfInBounds_toArray, List.set_cons_zero, List.set_cons_succ, i64_w, i32_w]
             rfl
            refine last_ (i := 13) (N := none) #[true, true, true, true, true, true, true, true, true, true, true, true, true, true, false, false] rfl rfl (one_of HT_.out kr_) (by decide) (fun K hK => ?_)
            refine skip_ (w1 := ?_) (by rfl) rfl ?_ ?_
            rotate_left
            ·go_simp
             rfl
            refine hK.out _ _ ?_
            clear hK K
            refine pure_ (i := 14) (N := some 67) (v := ?_) (a' := ?_) #[true, true, true, true, true, true, true, true, true, true, true, true, true, true, true, false] rfl rfl (any_of HT_.out kr_) (fun _ _ _ h => h) (Or.inl ⟨by rfl, ?_⟩) ?_ ?_
            rotate_left
            ·intro w'
             go_simp
             with_reducible rfl
            rotate_left
            ·simp only [Act.put, List.setIfInBounds_toArray, List.set_cons_zero, List.set_cons_succ, i64_w, i32_w]
             rfl
            refine last_ (i := 15) (N := none) #[true, true, true, true, true, true, true, true, true, true, true, true, true, true, true, true] rfl rfl (one_of HT_.out kr_) (by decide) (fun K hK => ?_)
            refine skip_ (w1 := ?_) (by rfl) rfl ?_ ?_
            rotate_left
            ·go_simp
             rfl
            refine hK.out _ _ ?_
            clear hK K
            refine done_ (done_of HT_.out kr_) ?_
            try go_wp2
            (try simp only [← hl3_2])
            go_roundg k2
            case measure => have := HK1.out; have := HK2.out; omega
            case rel => exact ⟨(y407), (wrap64 (x7_2 + 1)), (wrap64 (x8_2 - 1)), sd_, sd_, H', ⟨by have := HK1.out; have := HK2.out; omega⟩, ⟨by (try simp only [hl3_2]); (with_reducible repeat (first | apply Kd.R_alloc | apply Kd.R_drewN | apply Kd.R_drew)); exact HQ24.out⟩, ⟨by repeat (first | (with_reducible first | exact HB.out | apply below_alloc | apply pw_below_drewN | apply below_drew1 | refine below_set ?_ GB20.out | refine below_set ?_ GB20.out) | exact HB.out)⟩⟩
           ·rw [if_neg c19] at H
            exact absurd H (by simp)
          ·rw [if_neg c18] at H
           exact absurd H (by simp)
         ·rw [if_neg c17] at H
          exact absurd H (by simp)
        ·rw [if_neg c16] at H
         exact absurd H (by simp)
       ·rw [if_neg c15] at H
        have c15b0 : decide (x7_2 < x8_2) = false := decide_eq_false c15
        clear c15
        obtain rfl := Option.some.inj H
        have hcv25 := own_string (P := Tryz.prog) Tryz.underlying117 Tryz.underlying5 Tryz.underlying9 (Kd.own_of_R HO_3.out)
        go_wp2
        go_ret
        exact ⟨by first | rfl | (simp [errW_none, errW_some] <;> rfl) | (simp [*, errW_none, errW_some] <;> rfl), bel_⟩
def spec_Nat_Digits.f (k : Nat) (l0 : List Int) : Option (Int) := if (l0.length : Int) = 0 then (some 0) else ((spec_Nat_String.f k l0).bind fun t408 => (some (t408.size : Int)))
set_option maxHeartbeats 8000000 in
set_option maxRecDepth 100000 in
theorem spec_Nat_Digits.calls (k : Nat) (A0 : Option Addr) (c0 : Nat) (l0 : List Int) (r : Int) (w : World) (hr0 : Kd.C (Kd.int .u32) w A0 l0.length l0) (hc0 : l0.length ≤ c0) (h : spec_Nat_Digits.f k l0 = some r) :
  Calls Tryz.prog 37 #[.slice A0 l0.length c0] w fun e w' => e = .returned (.int .i64 r) ∧ Below w.heap.size w w' := by
 have HR0 := Aside0.mk hr0
 have HC0 := Aside0.mk hc0
 clear hr0 hc0
 have HB := Aside0.mk (Below.refl w.heap.size w)
 have H : (if (l0.length : Int) = 0 then (some 0) else ((spec_Nat_String.f k l0).bind fun t408 => (some (t408.size : Int)))) = some r := h
 clear h
 by_cases c2 : (l0.length : Int) = 0
 ·rw [if_pos c2] at H
  have c2b0 : ((l0.length : Int) == 0) = true := beq_iff_eq.mpr c2
  have c2b1 : ((l0.length : Int) != 0) = false := bne_eq_false_iff_eq.mpr c2
  clear c2
  obtain rfl := Option.some.inj H
  go_enter Tryz.func37, Tryz.ntmps37
  go_wp2
  go_ret
  exact ⟨by first | rfl | (simp [errW_none, errW_some] <;> rfl) | (simp [*, errW_none, errW_some] <;> rfl), bel_⟩
 ·rw [if_neg c2] at H
  have c2b0 : ((l0.length : Int) == 0) = false := beq_eq_false_iff_ne.mpr c2
  have c2b1 : ((l0.length : Int) != 0) = true := bne_iff_ne.mpr c2
  have c2b2 : ¬ (l0 = []) := fun h_ => c2 (by rw [h_]; rfl)
  replace H := Option.bind_eq_some_iff.mp H
  obtain ⟨t408, A30, H⟩ := H
  replace H : (some (t408.size : Int)) = some r := H
  have A3 := Aside0.mk A30
  clear A30
  obtain rfl := Option.some.inj H
  go_enter Tryz.func37, Tryz.ntmps37
  go_wp2_with (first | ((with_reducible refine gate_callee (f := 50) rfl ?_); refine goesL_ (some 7) rfl rfl Tryz.func50 kr_ rfl #[.slice A0 l0.length c0] rfl lm_ ?_; (with_reducible refine (spec_Nat_String.calls k _ _ l0 t408 _ ?side1 ?side2 A3.out).mono ?_); (case side1 => exact cr_ HR0.out); (case side2 => exact HC0.out); rintro e w4 ⟨rfl, hb⟩; refine ⟨_, rfl, ?_⟩; have n0_ := Aside0.mk (below_step bel_ hb); clear HB; have HB := n0_; clear n0_; (try clear hb); (try clear hb2); (try clear hk); (try clear hi)))
  go_ret
  exact ⟨by first | rfl | (simp [errW_none, errW_some] <;> rfl) | (simp [*, errW_none, errW_some] <;> rfl), bel_⟩
end Go.Proofs.YtlbjjhecgceiaaaGreatDoor.PFnFixSubExact
namespace Go.Proofs.YtlbjjhecgceiaaaGreatDoor
set_option linter.unusedVariables false
set_option linter.unusedSimpArgs false
def db (c : Nat) : List Int := if h : c = 0 then [] else (48 + (c % 10 : Nat) : Int) :: db (c / 10)
 termination_by c
 decreasing_by omega
theorem db_zero : db 0 = [] := by rw [db]; simp
theorem db_pos {c : Nat} (h : c ≠ 0) : db c = (48 + (c % 10 : Nat) : Int) :: db (c / 10) := by rw [db]; simp [h]
def dk : Nat → Nat → List Int
 | 0, _ => []
 | k + 1, c => (48 + (c % 10 : Nat) : Int) :: dk k (c / 10)
theorem dk_snoc : ∀ (k c : Nat), dk (k + 1) c = dk k c ++ [(48 + (c / 10 ^ k % 10 : Nat) : Int)]
 | 0, c => by show [_] = [] ++ [_]; rw [Nat.pow_zero, Nat.div_one]; rfl
 | k + 1, c => by
  show (48 + (c % 10 : Nat) : Int) :: dk (k + 1) (c / 10) = _
  rw [dk_snoc k (c / 10), Nat.div_div_eq_div_mul, Nat.mul_comm 10, ← Nat.pow_succ]
  rfl
theorem db_split : ∀ (k c : Nat), c / 10 ^ k ≠ 0 → db c = dk k c ++ db (c / 10 ^ k)
 | 0, c, h => by rw [Nat.pow_zero, Nat.div_one]; rfl
 | k + 1, c, h => by
  have h0 : c ≠ 0 := fun e => h (by rw [e, Nat.zero_div])
  have e : c / 10 ^ (k + 1) = c / 10 / 10 ^ k := by rw [Nat.div_div_eq_div_mul, Nat.mul_comm 10, ← Nat.pow_succ]
  rw [db_pos h0, db_split k (c / 10) (by rw [← e]; exact h), e]
  rfl
theorem dk_mod : ∀ (k c : Nat), dk k (c % 10 ^ k) = dk k c
 | 0, c => rfl
 | k + 1, c => by
  show (48 + ((c % 10 ^ (k + 1)) % 10 : Nat) : Int) :: dk k (c % 10 ^ (k + 1) / 10) = (48 + (c % 10 : Nat) : Int) :: dk k (c / 10)
  have e1 : c % 10 ^ (k + 1) % 10 = c % 10 := by rw [Nat.pow_succ, Nat.mod_mul_left_mod]
  have e2 : c % 10 ^ (k + 1) / 10 = c / 10 % 10 ^ k := by rw [Nat.pow_succ, Nat.mul_comm, Nat.mod_mul_right_div_self]
  rw [e1, e2, dk_mod k]
theorem dk_len : ∀ (k c : Nat), (dk k c).length = k
 | 0, _ => rfl
 | k + 1, c => by show (dk k (c / 10)).length + 1 = k + 1; rw [dk_len k]
theorem db_nine {c : Nat} (h : c / 1000000000 ≠ 0) : db c = dk 9 (c % 1000000000) ++ db (c / 1000000000) := by
 have e : (1000000000 : Nat) = 10 ^ 9 := by decide
 rw [e] at h ⊢
 rw [dk_mod, ← db_split 9 c h]
theorem db_bytes : ∀ (c : Nat), ∀ x ∈ db c, 48 ≤ x ∧ x ≤ 57
  | c => by
    by_cases h : c = 0
    · subst h; rw [db_zero]; intro x hx; cases hx
    · rw [db_pos h]
      intro x hx
      rcases List.mem_cons.1 hx with rfl | hx
      · omega
      · exact db_bytes (c / 10) x hx
 termination_by c => c
 decreasing_by omega
theorem db_length : ∀ (c n : Nat), (db c).length ≤ n ↔ c < 10 ^ n
  | c, n => by
    by_cases h : c = 0
    · subst h
      rw [db_zero]
      exact ⟨fun _ => Nat.pow_pos (by omega), fun _ => Nat.zero_le _⟩
    · rw [db_pos h, List.length_cons]
      cases n with
      | zero => rw [Nat.pow_zero]; constructor <;> intro h' <;> omega
      | succ n =>
        have := db_length (c / 10) n
        rw [Nat.pow_succ]
        constructor
        · intro h'
          have := this.1 (by omega)
          omega
        · intro h'
          have := this.2 (by omega)
          omega
 termination_by c => c
 decreasing_by omega
def dtx (c : Nat) : List Int := if c = 0 then [48] else (db c).reverse
end Go.Proofs.YtlbjjhecgceiaaaGreatDoor
namespace Go.Proofs.YtlbjjhecgceiaaaGreatDoor
open Go Go.Lib
set_option linter.unusedVariables false
set_option linter.unusedSimpArgs false
theorem son_app (xs ys : List Int) : strOfNums (xs ++ ys) = strOfNums xs ++ strOfNums ys := by
 unfold strOfNums
 apply ByteArray.ext
 simp
theorem son_cut (xs : List Int) (a b : Nat) : (strOfNums xs).extract a b = strOfNums ((xs.take b).drop a) := by
 unfold strOfNums
 apply ByteArray.ext
 simp [List.map_drop, List.map_take, ByteArray.data_extract, List.extract_eq_take_drop, List.drop_take]
def Bys (xs : List Int) : Prop := ∀ x ∈ xs, 0 ≤ x ∧ x < 256
theorem son_get {xs : List Int} {i : Nat} (h : i < xs.length) : (strOfNums xs)[i]? = some (UInt8.ofNat (xs.getD i 0).toNat) := by
 have hs : i < (strOfNums xs).size := by rw [strOfNums_size]; exact h
 rw [getElem?_pos (strOfNums xs) i hs]
 simp [strOfNums, ByteArray.getElem_eq_getElem_data, List.getD, List.getElem?_eq_getElem h]
theorem son_byte {x : Int} (h0 : 0 ≤ x) (h1 : x < 256) : ((UInt8.ofNat x.toNat).toNat : Int) = x := by
 rw [UInt8.toNat_ofNat']
 have : x.toNat % 2 ^ 8 = x.toNat := Nat.mod_eq_of_lt (by omega)
 rw [this]; omega
theorem dtx_bytes (c : Nat) : ∀ x ∈ dtx c, 48 ≤ x ∧ x ≤ 57 := by
 intro x hx
 unfold dtx at hx
 split at hx
 ·simp at hx; omega
 ·exact db_bytes c x (by simpa using hx)
end Go.Proofs.YtlbjjhecgceiaaaGreatDoor
