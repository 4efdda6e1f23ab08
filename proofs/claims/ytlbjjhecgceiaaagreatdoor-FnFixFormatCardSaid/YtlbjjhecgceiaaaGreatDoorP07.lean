/- Part 7 of the proof. -/
import Derived.Test.YtlbjjhecgceiaaaGreatDoorP06
namespace Go.Proofs.YtlbjjhecgceiaaaGreatDoor
open Go.RowKit Go.Proofs.YtlbjjhecgceiaaaGreatDoorW.PrintWords Go.Proofs.YtlbjjhecgceiaaaGreatDoorW.PrintLast Go.Proofs.YtlbjjhecgceiaaaGreatDoorW.PrintMore PFnFixSubExact
set_option linter.unusedVariables false
set_option linter.unusedSimpArgs false
theorem getD_past {xs : List Int} {i : Nat} (h : xs.length ≤ i) : xs.getD i 0 = 0 := by rw [List.getD_eq_getElem?_getD, List.getElem?_eq_none h]; rfl
theorem drop_get {xs : List Int} (i : Nat) : v9 (xs.drop i) = xs.getD i 0 + 1000000000 * v9 (xs.drop (i + 1)) := by
 by_cases h : i < xs.length
 ·exact v9_drop h
 ·rw [List.drop_eq_nil_of_le (by omega), List.drop_eq_nil_of_le (by omega), getD_past (by omega)]; rfl
theorem natAdd_round {xs ys out : List Int} {c : Int} {i : Nat} (k : Nat) (hx : Lms xs) (hy : Lms ys) (hc0 : 0 ≤ c) (hc1 : c ≤ 1) (hi : i ≤ 1000) (ho : out.length = i)
  (h : i < xs.length ∨ i < ys.length ∨ 0 < c) :
  spec_NatAdd.l0 (k + 1 + 1) xs ys out c (i : Int) = spec_NatAdd.l0 k xs ys (out ++ [(c + xs.getD i 0 + ys.getD i 0) % 1000000000]) ((c + xs.getD i 0 + ys.getD i 0) / 1000000000) ((i + 1 : Nat) : Int) := by
 obtain ⟨hx0, hx1⟩ := hx.getD i
 obtain ⟨hy0, hy1⟩ := hy.getD i
 have g0 : i ≤ 10000 := by omega
 have f0 : out.length < 35184372088832 := by omega
 have f1 : (0 : Int) ≤ (i : Int) := by omega
 have m1 : ((c + xs.getD i 0 + ys.getD i 0) % 4294967296) = c + xs.getD i 0 + ys.getD i 0 := by omega
 by_cases hxl : i < xs.length
 ·have f2 : (i : Int) < (xs.length : Int) := by omega
  by_cases hyl : i < ys.length
  ·have f3 : (i : Int) < (ys.length : Int) := by omega
   have e : spec_NatAdd.l0 (k + 1 + 1) xs ys out c (i : Int) = spec_NatAdd.j1 (k + 1) xs ys out c (i : Int) true := by
    conv => lhs; unfold spec_NatAdd.l0
    rw [if_pos f2]
   rw [e]
   conv => lhs; unfold spec_NatAdd.j1
   rw [if_pos rfl, if_pos f2, if_pos f1, if_pos f3, if_pos f0, wr_succ g0, rd_nat, rd_nat, m1]
  ·have f3 : ¬ (i : Int) < (ys.length : Int) := by omega
   have hz := getD_past (xs := ys) (i := i) (by omega)
   have e : spec_NatAdd.l0 (k + 1 + 1) xs ys out c (i : Int) = spec_NatAdd.j1 (k + 1) xs ys out c (i : Int) true := by
    conv => lhs; unfold spec_NatAdd.l0
    rw [if_pos f2]
   rw [hz, Int.add_zero] at m1 ⊢
   rw [e]
   conv => lhs; unfold spec_NatAdd.j1
   rw [if_pos rfl, if_pos f2, if_pos f1, if_neg f3, if_pos f0, wr_succ g0, rd_nat, m1]
 ·have f2 : ¬ (i : Int) < (xs.length : Int) := by omega
  have hzx := getD_past (xs := xs) (i := i) (by omega)
  by_cases hyl : i < ys.length
  ·have f3 : (i : Int) < (ys.length : Int) := by omega
   have e : spec_NatAdd.l0 (k + 1 + 1) xs ys out c (i : Int) = spec_NatAdd.j1 (k + 1) xs ys out c (i : Int) true := by
    conv => lhs; unfold spec_NatAdd.l0
    rw [if_neg f2, if_pos f3]
   rw [hzx, Int.add_zero] at m1 ⊢
   rw [e]
   conv => lhs; unfold spec_NatAdd.j1
   rw [if_pos rfl, if_neg f2, if_pos f3, if_pos f1, if_pos f0, wr_succ g0, rd_nat, m1]
  ·have f3 : ¬ (i : Int) < (ys.length : Int) := by omega
   have hzy := getD_past (xs := ys) (i := i) (by omega)
   have hcp : c > 0 := by omega
   have e : spec_NatAdd.l0 (k + 1 + 1) xs ys out c (i : Int) = spec_NatAdd.j1 (k + 1) xs ys out c (i : Int) true := by
    conv => lhs; unfold spec_NatAdd.l0
    rw [if_neg f2, if_neg f3, decide_eq_true hcp]
   rw [hzx, hzy, Int.add_zero, Int.add_zero, e]
   have t1 : Int.tmod c 1000000000 = c % 1000000000 := Int.tmod_eq_emod_of_nonneg hc0
   have t2 : Int.tdiv c 1000000000 % 4294967296 = c / 1000000000 := by rw [Int.tdiv_eq_ediv_of_nonneg hc0]; omega
   conv => lhs; unfold spec_NatAdd.j1
   rw [if_pos rfl, if_neg f2, if_neg f3, if_pos f0, wr_succ g0, t1, t2]
theorem natAdd_end {xs ys out : List Int} {c : Int} {i : Nat} (k : Nat) (hc : c = 0) (h1 : ¬ i < xs.length) (h2 : ¬ i < ys.length) : spec_NatAdd.l0 (k + 1 + 1) xs ys out c (i : Int) = some out := by
 subst hc
 have f2 : ¬ (i : Int) < (xs.length : Int) := by omega
 have f3 : ¬ (i : Int) < (ys.length : Int) := by omega
 conv => lhs; unfold spec_NatAdd.l0
 rw [if_neg f2, if_neg f3, decide_eq_false (by omega)]
 conv => lhs; unfold spec_NatAdd.j1
 rw [if_neg (by simp)]
theorem ring4 (o P s q r u v : Int) (h : s = 1000000000 * q + r) : o + P * r + 1000000000 * P * (q + u + v) = o + P * (s + 1000000000 * u + 1000000000 * v) := by
 subst h; grind
theorem Trm.getD {xs : List Int} (h : Trm xs) {i : Nat} (hi : i + 1 = xs.length) : xs.getD i 0 ≠ 0 := by
 have hne : xs ≠ [] := by intro e; subst e; simp at hi
 obtain ⟨ys, y, rfl⟩ : ∃ ys y, xs = ys ++ [y] := ⟨_, _, (List.dropLast_concat_getLast hne).symm⟩
 have hl : ys.length = i := by simp at hi; omega
 have := h y ys rfl
 subst hl
 simpa using this
theorem natAdd_l0 {xs ys : List Int} {M : Nat} (hx : Lms xs) (hy : Lms ys) (htx : Trm xs) (hty : Trm ys) (hM1 : xs.length ≤ M) (hM2 : ys.length ≤ M) (hMb : M ≤ 500) :
  ∀ (d i : Nat) (out : List Int) (c : Int), d + i = M + 1 → out.length = i → Lms out → 0 ≤ c → c ≤ 1 → (d = 0 → c = 0) →
   (¬ i < xs.length → ¬ i < ys.length → c = 0 → Trm out) →
   ∃ r, Lms r ∧ Trm r ∧ v9 r = v9 out + p9 i * (c + v9 (xs.drop i) + v9 (ys.drop i)) ∧ ∀ k, 2 * d + 2 ≤ k → spec_NatAdd.l0 k xs ys out c (i : Int) = some r := by
 have fin : ∀ (d i : Nat) (out : List Int) (c : Int), Lms out → (¬ i < xs.length → ¬ i < ys.length → c = 0 → Trm out) → ¬ i < xs.length → ¬ i < ys.length → c = 0 →
   ∃ r, Lms r ∧ Trm r ∧ v9 r = v9 out + p9 i * (c + v9 (xs.drop i) + v9 (ys.drop i)) ∧ ∀ k, 2 * d + 2 ≤ k → spec_NatAdd.l0 k xs ys out c (i : Int) = some r := by
  intro d i out c hl ht h1 h2 hc
  refine ⟨out, hl, ht h1 h2 hc, ?_, fun k hk => ?_⟩
  ·rw [List.drop_eq_nil_of_le (by omega), List.drop_eq_nil_of_le (by omega), hc]; simp [v9]
  ·obtain ⟨k, rfl⟩ : ∃ m, k = m + 1 + 1 := ⟨k - 2, by omega⟩
   exact natAdd_end k hc h1 h2
 intro d
 induction d with
 | zero =>
  intro i out c hd ho hl hc0 hc1 hz ht
  exact fin 0 i out c hl ht (by omega) (by omega) (hz rfl)
 | succ d ih =>
  intro i out c hd ho hl hc0 hc1 hz ht
  by_cases hs : i < xs.length ∨ i < ys.length ∨ 0 < c
  ·have hb : i ≤ 1000 := by omega
   have hr := fun k => natAdd_round k hx hy hc0 hc1 hb ho hs
   obtain ⟨hx0, hx1⟩ := hx.getD i
   obtain ⟨hy0, hy1⟩ := hy.getD i
   have hdx := drop_get (xs := xs) i
   have hdy := drop_get (xs := ys) i
   have hpx := fun h => getD_past (xs := xs) (i := i) h
   have hpy := fun h => getD_past (xs := ys) (i := i) h
   have htx' := fun h => htx.getD (i := i) h
   have hty' := fun h => hty.getD (i := i) h
   generalize xs.getD i 0 = x at *
   generalize ys.getD i 0 = y at *
   obtain ⟨s, hse⟩ : ∃ s, c + x + y = s := ⟨_, rfl⟩
   rw [hse] at hr
   have hs0 : 0 ≤ s := by omega
   have hs1 : s < 2000000000 := by omega
   have hzero : ¬ i < xs.length → ¬ i < ys.length → s ≤ 1 := fun a b => by have := hpx (by omega); have := hpy (by omega); omega
   have hpos : ¬ i + 1 < xs.length → ¬ i + 1 < ys.length → 0 < s := by
    intro a b
    rcases hs with h | h | h
    ·have := htx' (by omega); omega
    ·have := hty' (by omega); omega
    ·omega
   clear hpx hpy htx' hty'
   have hq0 : 0 ≤ s / 1000000000 := by omega
   have hq1 : s / 1000000000 ≤ 1 := by omega
   have hr0 : 0 ≤ s % 1000000000 := by omega
   have hr1 : s % 1000000000 < 1000000000 := by omega
   obtain ⟨r, k1, k2, k3, k4⟩ := ih (i + 1) (out ++ [s % 1000000000]) (s / 1000000000) (by omega) (by simp [ho]) (hl.app (Lms.cons hr0 hr1 Lms.nil)) hq0 hq1
    (fun h => by have := hzero (by omega) (by omega); omega) (fun a b h => Trm.last (by have := hpos a b; omega))
   refine ⟨r, k1, k2, ?_, fun k hk => ?_⟩
   ·rw [k3, v9_snoc, ho, p9_succ, hdx, hdy]
    have hdm := (Int.mul_ediv_add_emod s 1000000000).symm
    rw [ring4 _ _ _ _ _ _ _ hdm]
    subst hse
    generalize v9 (xs.drop (i + 1)) = u
    generalize v9 (ys.drop (i + 1)) = v
    congr 2
    omega
   ·obtain ⟨k, rfl⟩ : ∃ m, k = m + 1 + 1 := ⟨k - 2, by omega⟩
    have hk2 : 2 * d + 2 ≤ k := by omega
    rw [hr k]
    exact k4 k hk2
  ·exact fin (d + 1) i out c hl ht (by omega) (by omega) (by omega)
theorem natAdd_law {xs ys : List Int} {a b : Nat} (hx : IsN xs a) (hy : IsN ys b) (ha : a < tn 1800) (hb : b < tn 1800) :
  ∃ K r, IsN r (a + b) ∧ ∀ k, K ≤ k → spec_NatAdd.f k xs ys = some r := by
 have h1 := hx.len ha
 have h2 := hy.len hb
 obtain ⟨r, k1, k2, k3, k4⟩ := natAdd_l0 (M := 200) hx.lms hy.lms hx.trm hy.trm h1 h2 (by omega) 201 0 [] 0 rfl rfl Lms.nil (by omega) (by omega) (by omega) (fun _ _ _ => Trm.nil)
 refine ⟨404, r, ⟨k1, k2, ?_⟩, fun k hk => k4 k (by omega)⟩
 rw [k3, List.drop_zero, List.drop_zero, hx.val, hy.val]; simp [v9, p9]
theorem natSub_round {xs ys out : List Int} {c : Int} {i n : Nat} (k : Nat) (hn : xs.length = n) (hx : Lms xs) (hy : Lms ys) (hc0 : 0 ≤ c) (hc1 : c ≤ 1) (hi : i < n) (hb : n ≤ 1000) (ho : out.length = i) :
  spec_NatSub.l0 (k + 1) ys out c xs (n : Int) (i : Int) =
   if xs.getD i 0 < c + ys.getD i 0 then spec_NatSub.l0 k ys (out ++ [xs.getD i 0 + 1000000000 - (c + ys.getD i 0)]) 1 xs (n : Int) ((i + 1 : Nat) : Int)
   else spec_NatSub.l0 k ys (out ++ [xs.getD i 0 - (c + ys.getD i 0)]) 0 xs (n : Int) ((i + 1 : Nat) : Int) := by
 obtain ⟨hx0, hx1⟩ := hx.getD i
 obtain ⟨hy0, hy1⟩ := hy.getD i
 have g0 : i ≤ 10000 := by omega
 have f0 : out.length < 35184372088832 := by omega
 have f1 : (0 : Int) ≤ (i : Int) := by omega
 have f2 : (i : Int) < (n : Int) := by omega
 have f2' : (i : Int) < (xs.length : Int) := by omega
 have m0 : (c + ys.getD i 0) % 4294967296 = c + ys.getD i 0 := by omega
 by_cases hyl : i < ys.length
 ·have f3 : (i : Int) < (ys.length : Int) := by omega
  by_cases hlt : xs.getD i 0 < c + ys.getD i 0
  ·have m1 : (xs.getD i 0 + 1000000000 - (c + ys.getD i 0)) % 4294967296 = xs.getD i 0 + 1000000000 - (c + ys.getD i 0) := by omega
   conv => lhs; unfold spec_NatSub.l0
   rw [if_pos f2, if_pos f1, if_pos f2', if_pos f3, rd_nat, rd_nat, m0, if_pos hlt, if_pos f0, wr_succ g0, m1, if_pos hlt]
  ·have m1 : (xs.getD i 0 - (c + ys.getD i 0)) % 4294967296 = xs.getD i 0 - (c + ys.getD i 0) := by omega
   conv => lhs; unfold spec_NatSub.l0
   rw [if_pos f2, if_pos f1, if_pos f2', if_pos f3, rd_nat, rd_nat, m0, if_neg hlt, if_pos f0, wr_succ g0, m1, if_neg hlt]
 ·have f3 : ¬ (i : Int) < (ys.length : Int) := by omega
  have hz := getD_past (xs := ys) (i := i) (by omega)
  rw [hz, Int.add_zero]
  by_cases hlt : xs.getD i 0 < c
  ·have m1 : (xs.getD i 0 + 1000000000 - c) % 4294967296 = xs.getD i 0 + 1000000000 - c := by omega
   conv => lhs; unfold spec_NatSub.l0
   rw [if_pos f2, if_pos f1, if_pos f2', if_neg f3, rd_nat, if_pos hlt, if_pos f0, wr_succ g0, m1, if_pos hlt]
  ·have m1 : (xs.getD i 0 - c) % 4294967296 = xs.getD i 0 - c := by omega
   conv => lhs; unfold spec_NatSub.l0
   rw [if_pos f2, if_pos f1, if_pos f2', if_neg f3, rd_nat, if_neg hlt, if_pos f0, wr_succ g0, m1, if_neg hlt]
theorem ring5 (o P c x y b r u v : Int) (h : x + 1000000000 * b = c + y + r) : o + P * r + 1000000000 * P * (u - v - b) = o + P * (x + 1000000000 * u - (y + 1000000000 * v) - c) := by
 have : r = x + 1000000000 * b - c - y := by omega
 subst this; grind
theorem natSub_l0 {xs ys : List Int} {n : Nat} (hn : xs.length = n) (hx : Lms xs) (hy : Lms ys) (hb : n ≤ 500) (hyn : ys.length ≤ n) :
  ∀ (d i : Nat) (out : List Int) (c : Int), d + i = n → out.length = i → Lms out → 0 ≤ c → c ≤ 1 →
   ∃ (r : List Int) (b : Int), Lms r ∧ r.length = n ∧ 0 ≤ b ∧ b ≤ 1 ∧ v9 r = v9 out + p9 i * (v9 (xs.drop i) - v9 (ys.drop i) - c) + p9 n * b ∧ ∀ k, d + n + 2 ≤ k → spec_NatSub.l0 k ys out c xs (n : Int) (i : Int) = some (trim9 r) := by
 intro d
 induction d with
 | zero =>
  intro i out c hd ho hl hc0 hc1
  obtain rfl : i = n := by omega
  refine ⟨out, c, hl, ho, hc0, hc1, ?_, fun k hk => ?_⟩
  ·rw [List.drop_eq_nil_of_le (by omega), List.drop_eq_nil_of_le (by omega)]
   simp only [v9]
   generalize p9 i = P
   grind
  ·obtain ⟨k, rfl⟩ : ∃ m, k = m + 1 := ⟨k - 1, by omega⟩
   conv => lhs; unfold spec_NatSub.l0
   rw [if_neg (by omega), natTrim_f (by omega) (by omega)]; rfl
 | succ d ih =>
  intro i out c hd ho hl hc0 hc1
  have hr := fun k => natSub_round k hn hx hy hc0 hc1 (show i < n by omega) (by omega) ho
  obtain ⟨hx0, hx1⟩ := hx.getD i
  obtain ⟨hy0, hy1⟩ := hy.getD i
  have hdx := drop_get (xs := xs) i
  have hdy := drop_get (xs := ys) i
  generalize xs.getD i 0 = x at *
  generalize ys.getD i 0 = y at *
  by_cases hlt : x < c + y
  ·obtain ⟨r, b, k1, k2, k3, k4, k5, k6⟩ := ih (i + 1) (out ++ [x + 1000000000 - (c + y)]) 1 (by omega) (by simp [ho]) (hl.app (Lms.cons (by omega) (by omega) Lms.nil)) (by omega) (by omega)
   refine ⟨r, b, k1, k2, k3, k4, ?_, fun k hk => ?_⟩
   ·rw [k5, v9_snoc, ho, p9_succ, hdx, hdy, ring5 _ _ c x y 1 _ _ _ (by omega)]
   ·obtain ⟨k, rfl⟩ : ∃ m, k = m + 1 := ⟨k - 1, by omega⟩
    rw [hr k, if_pos hlt]
    exact k6 k (by omega)
  ·obtain ⟨r, b, k1, k2, k3, k4, k5, k6⟩ := ih (i + 1) (out ++ [x - (c + y)]) 0 (by omega) (by simp [ho]) (hl.app (Lms.cons (by omega) (by omega) Lms.nil)) (by omega) (by omega)
   refine ⟨r, b, k1, k2, k3, k4, ?_, fun k hk => ?_⟩
   ·rw [k5, v9_snoc, ho, p9_succ, hdx, hdy, ring5 _ _ c x y 0 _ _ _ (by omega)]
   ·obtain ⟨k, rfl⟩ : ∃ m, k = m + 1 := ⟨k - 1, by omega⟩
    rw [hr k, if_neg hlt]
    exact k6 k (by omega)
theorem IsN.le_len {xs ys : List Int} {a b : Nat} (hx : IsN xs a) (hy : IsN ys b) (h : b ≤ a) : ys.length ≤ xs.length := by
 refine hy.trm.len hy.lms ?_
 have := v9_lt hx.lms
 rw [hx.val] at this
 rw [hy.val]; omega
theorem natSub_law {xs ys : List Int} {a b : Nat} (hx : IsN xs a) (hy : IsN ys b) (ha : a < tn 1800) (h : b ≤ a) :
  ∃ K r, IsN r (a - b) ∧ ∀ k, K ≤ k → spec_NatSub.f k xs ys = some r := by
 have h1 := hx.len ha
 have h2 := hx.le_len hy h
 obtain ⟨r, c, k1, k2, k3, k4, k5, k6⟩ := natSub_l0 (xs := xs) (ys := ys) rfl hx.lms hy.lms (by omega) h2 xs.length 0 [] 0 rfl rfl Lms.nil (by omega) (by omega)
 rw [List.drop_zero, List.drop_zero, hx.val, hy.val] at k5
 have hlt := v9_lt k1
 rw [k2] at hlt
 have hc : c = 0 := by
  apply Classical.byContradiction
  intro hne
  obtain rfl : c = 1 := by omega
  simp [v9, p9] at k5
  have := p9_pos xs.length
  unfold p9 at this hlt
  omega
 subst hc
 refine ⟨xs.length + xs.length + 2, trim9 r, trim9_is k1 ?_, fun k hk => k6 k hk⟩
 simp [v9, p9] at k5
 omega
theorem natShort_l0 {xs : List Int} {b : Int} {n : Nat} (hn : xs.length = n) (hx : Lms xs) (hb0 : 0 < b) (hb1 : b < 1000000000) (hnb : n ≤ 500) :
  ∀ (i : Nat) (out : List Int) (r : Int), i ≤ n → out.length = n → Lms out → (∀ t, t < i → out.getD t 0 = 0) → 0 ≤ r → r < b →
   ∃ (q : List Int) (r' : Int), Lms q ∧ q.length = n ∧ 0 ≤ r' ∧ r' < b ∧ (v9 q - v9 out) * b + r' = r * p9 i + v9 (xs.take i) ∧
    ∀ k, i + n + 2 ≤ k → spec_natShort.l0 k xs b out r ((i : Int) - 1) = some (trim9 q, r') := by
 intro i
 induction i with
 | zero =>
  intro out r hi hol hl hz hr0 hr1
  refine ⟨out, r, hl, hol, hr0, hr1, by simp [v9, p9], fun k hk => ?_⟩
  obtain ⟨k, rfl⟩ : ∃ m, k = m + 1 := ⟨k - 1, by omega⟩
  have e : r % 4294967296 = r := by omega
  conv => lhs; unfold spec_natShort.l0
  rw [if_neg (by omega), natTrim_f (by omega) (by omega)]
  show some (trim9 out, r % 4294967296) = _
  rw [e]
 | succ i ih =>
  intro out r hi hol hl hz hr0 hr1
  obtain ⟨hx0, hx1⟩ := hx.getD i
  have hrB0 : 0 ≤ r * 1000000000 := by omega
  have hbne : b ≠ 0 := by omega
  obtain ⟨t, ht⟩ : ∃ t, r * 1000000000 + xs.getD i 0 = t := ⟨_, rfl⟩
  have ht0 : 0 ≤ t := by omega
  have ht1 : t < b * 1000000000 := by omega
  have ht2 : t < 1000000000000000000 := by omega
  have hq0 : 0 ≤ t / b := Int.ediv_nonneg ht0 (by omega)
  have hq1 : t / b < 1000000000 := Int.ediv_lt_of_lt_mul hb0 (by rw [Int.mul_comm]; exact ht1)
  have hm0 : 0 ≤ t % b := Int.emod_nonneg _ hbne
  have hm1 : t % b < b := Int.emod_lt_of_pos _ hb0
  have hdm := (Int.mul_ediv_add_emod t b).symm
  have hoz := hz i (by omega)
  have f5 : i < out.length := by omega
  obtain ⟨q, r', k1, k2, k3, k4, k5, k6⟩ := ih (out.set i (t / b)) (t % b) (by omega) (by simp [hol]) (hl.set _ hq0 hq1)
   (fun s hs => by rw [List.getD_eq_getElem?_getD, List.getElem?_set_ne (by omega), ← List.getD_eq_getElem?_getD]; exact hz s (by omega)) hm0 hm1
  refine ⟨q, r', k1, k2, k3, k4, ?_, fun k hk => ?_⟩
  ·rw [v9_set _ _ _ f5, hoz] at k5
   rw [v9_take_succ _ _ (by omega), p9_succ]
   generalize p9 i = P at *
   generalize xs.getD i 0 = x at *
   generalize v9 (xs.take i) = X at *
   generalize t / b = Q at *
   generalize t % b = R at *
   grind
  ·obtain ⟨k, rfl⟩ : ∃ m, k = m + 1 := ⟨k - 1, by omega⟩
   have e0 : ((i + 1 : Nat) : Int) - 1 = (i : Int) := by omega
   have f1 : (i : Int) ≥ 0 := by omega
   have f1' : (0 : Int) ≤ (i : Int) := by omega
   have f2 : (i : Int) < (xs.length : Int) := by omega
   have f3 : (i : Int) < (out.length : Int) := by omega
   have f4 : i + n + 2 ≤ k := by omega
   have g1 : (i : Int) - 1 ≤ 100000 := by omega
   have g2 : -100000 ≤ (i : Int) - 1 := by omega
   have d1 : Int.tdiv t b = t / b := Int.tdiv_eq_ediv_of_nonneg ht0
   have d2 : Int.tmod t b = t % b := Int.tmod_eq_emod_of_nonneg ht0
   have d3 : t / b % 4294967296 = t / b := Int.emod_eq_of_lt hq0 (by omega)
   have hk := k6 k f4
   have c1 : r * 1000000000 < 18446744073709551616 := by omega
   have c2 : xs.getD i 0 < 18446744073709551616 := by omega
   have c3 : t < 18446744073709551616 := by omega
   have c4 : b < 18446744073709551616 := by omega
   have c5 : t / b < 18446744073709551616 := by omega
   have c6 : 0 ≤ b := by omega
   conv => lhs; unfold spec_natShort.l0
   rw [e0, if_pos f1, if_pos f1', if_pos f2, u64_in c6 c4, if_neg hbne, if_pos f3, rd_nat, u64_in hrB0 c1, u64_in hx0 c2, ht, u64_in ht0 c3, d1, u64_in hq0 c5, d2, d3, Int.toNat_natCast, w64 g2 g1]
   exact hk
theorem natShort_law {xs : List Int} {a b : Nat} (hx : IsN xs a) (ha : a < tn 1800) (hb0 : 0 < b) (hb1 : b < 1000000000) :
  ∃ K q, IsN q (a / b) ∧ ∀ k, K ≤ k → spec_natShort.f k xs (b : Int) = some (q, ((a % b : Nat) : Int)) := by
 have h1 := hx.len ha
 obtain ⟨q, r, k1, k2, k3, k4, k5, k6⟩ := natShort_l0 (xs := xs) (b := (b : Int)) rfl hx.lms (by omega) (by omega) (by omega) xs.length (List.replicate xs.length 0) 0 (Nat.le_refl _) (by simp) (Lms.rep _)
  (fun t _ => by rw [List.getD_eq_getElem?_getD, List.getElem?_replicate]; split <;> rfl) (by omega) (by omega)
 rw [v9_rep, List.take_of_length_le (Nat.le_refl _), hx.val, Int.sub_zero, Int.zero_mul, Int.zero_add] at k5
 have hq := v9_nonneg k1
 have e1 : v9 q = ((a / b : Nat) : Int) := by
  rw [Int.natCast_ediv, ← k5, Int.add_comm, Int.add_mul_ediv_right _ _ (by omega), Int.ediv_eq_zero_of_lt k3 k4, Int.zero_add]
 have e2 : r = ((a % b : Nat) : Int) := by
  rw [Int.natCast_emod, ← k5, Int.add_comm, Int.add_mul_emod_self_right, Int.emod_eq_of_lt k3 k4]
 subst e2
 refine ⟨xs.length + xs.length + 2, trim9 q, trim9_is k1 e1, fun k hk => ?_⟩
 unfold spec_natShort.f
 have g1 : (xs.length : Int) - 1 ≤ 100000 := by omega
 have g2 : -100000 ≤ (xs.length : Int) - 1 := by omega
 have f1 : (0 : Int) ≤ (xs.length : Int) := by omega
 have f2 : xs.length ≤ 70368744177664 := by omega
 rw [if_pos f1, Int.toNat_natCast, if_pos f2, w64 g2 g1]
 exact k6 k hk
end Go.Proofs.YtlbjjhecgceiaaaGreatDoor
namespace Go.Proofs.YtlbjjhecgceiaaaGreatDoor.PFnFixSubExact
open Go.RowKit Go.Proofs.YtlbjjhecgceiaaaGreatDoorW.PrintWords Go.Proofs.YtlbjjhecgceiaaaGreatDoorW.PrintLast Go.Proofs.YtlbjjhecgceiaaaGreatDoorW.PrintMore
attribute [local go_sem] max2_int min2_int max_two min_two max_three min_three max_four min_four
set_option linter.unusedVariables false
set_option linter.unusedSimpArgs false
mutual
def spec_NatDiv.l0 : Nat → List Int → List Int → List Int → List Int → List Int → Int → Option (List Int × List Int)
 | 0, _, _, _, _, _, _ => none
 | k + 1, x4, x5, x8, x9, x10, x11 => if x11 ≥ 0 then (if 0 ≤ x11 then (if x11 < (x9.length : Int) then ((some (([rd x9 x11] : List Int) : List Int)).bind fun y321 => (if y321.length + x5.length < 35184372088832 then ((spec_natTrim.f k (y321 ++ x5)).bind fun t327 => ((spec_natGuess.f t327 x10).bind fun t330 => ((spec_NatFrom.f k t330).bind fun t331 => ((spec_NatMul.f k x10 t331).bind fun t334 => (spec_NatDiv.l1 k x4 t327 x8 x9 x10 x11 t330 t334))))) else (none))) else (none)) else (none)) else (if 0 < (x8.length : Int) then ((spec_natShort.f k x5 (rd x8 0)).bind fun bt313 => ((spec_natTrim.f k x4).bind fun t317 => (some (t317, bt313.1)))) else (none))
def spec_NatDiv.l1 : Nat → List Int → List Int → List Int → List Int → List Int → Int → Int → List Int → Option (List Int × List Int)
 | 0, _, _, _, _, _, _, _, _ => none
 | k + 1, x4, x5, x8, x9, x10, x11, x12, x13 => (spec_NatCmp.f k x13 x5).bind fun t337 => (if t337 > 0 then ((spec_NatSub.f k x13 x10).bind fun t338 => (spec_NatDiv.l1 k x4 x5 x8 x9 x10 x11 (IntKind.u64.wrap (x12 - 1)) t338)) else ((spec_NatSub.f k x5 x13).bind fun t341 => (if 0 ≤ x11 then (if x11 < (x4.length : Int) then (spec_NatDiv.l0 k (x4.set (x11 : Int).toNat ((x12) % 4294967296)) t341 x8 x9 x10 (wrap64 (x11 - 1))) else (none)) else (none))))
end
def spec_NatDiv.f (k : Nat) (l0 : List Int) (l1 : List Int) : Option (List Int × List Int) := (spec_NatCmp.f k l0 l1).bind fun t284 => (if t284 < 0 then ((some (([] : List Int) : List Int)).bind fun y285 => (if y285.length + l0.length < 35184372088832 then (some (([] : List Int), (y285 ++ l0))) else (none))) else (if (l1.length : Int) = 1 then (if 0 < (l1.length : Int) then ((spec_natShort.f k l0 (rd l1 0)).bind fun bt292 => ((spec_NatFrom.f k (IntKind.u64.wrap (bt292.2))).bind fun t296 => (some (bt292.1, t296)))) else (none)) else (if 0 ≤ (wrap64 ((l1.length : Int) - 1)) then (if (wrap64 ((l1.length : Int) - 1)) < (l1.length : Int) then (if (IntKind.u64.wrap ((IntKind.u64.wrap (rd l1 (wrap64 ((l1.length : Int) - 1)))) + 1)) = 0 then (none) else ((some (([(IntKind.u64.wrap (Int.tdiv 1000000000 (IntKind.u64.wrap ((IntKind.u64.wrap (rd l1 (wrap64 ((l1.length : Int) - 1)))) + 1)))) % 4294967296] : List Int) : List Int)).bind fun y300 => ((spec_NatMul.f k l0 y300).bind fun t303 => ((spec_NatMul.f k l1 y300).bind fun t306 => (if 0 ≤ (t303.length : Int) then (if ((t303.length : Int) : Int).toNat ≤ 70368744177664 then (spec_NatDiv.l0 k (List.replicate ((t303.length : Int) : Int).toNat 0) ([] : List Int) y300 t303 t306 (wrap64 ((t303.length : Int) - 1))) else (none)) else (none)))))) else (none)) else (none))))
set_option maxHeartbeats 8000000 in
set_option maxRecDepth 100000 in
theorem spec_NatDiv.calls (k : Nat) (A0 : Option Addr) (c0 : Nat) (l0 : List Int) (A1 : Option Addr) (c1 : Nat) (l1 : List Int) (r1 : List Int) (r2 : List Int) (w : World) (hr0 : Kd.C (Kd.int .u32) w A0 l0.length l0) (hc0 : l0.length ≤ c0) (hr1 : Kd.C (Kd.int .u32) w A1 l1.length l1) (hc1 : l1.length ≤ c1) (h : spec_NatDiv.f k l0 l1 = some (r1, r2)) :
  Calls Tryz.prog 43 #[.slice A0 l0.length c0, .slice A1 l1.length c1] w fun e w' => ∃ v0_ v1_ : Value, e = .returned (.tuple #[v0_, v1_]) ∧ Kd.V (Kd.int .u32) 80 w' w.heap.size (fun k_ => (w.heap.size ≤ k_)) v0_ r1 ∧ Kd.V (Kd.int .u32) 80 w' w.heap.size (fun k_ => (w.heap.size ≤ k_)) v1_ r2 ∧ Below w.heap.size w w' := by
 have HR0 := Aside0.mk hr0
 have HC0 := Aside0.mk hc0
 clear hr0 hc0
 have HR1 := Aside0.mk hr1
 have HC1 := Aside0.mk hc1
 clear hr1 hc1
 have HB := Aside0.mk (Below.refl w.heap.size w)
 have H : ((spec_NatCmp.f k l0 l1).bind fun t284 => (if t284 < 0 then ((some (([] : List Int) : List Int)).bind fun y285 => (if y285.length + l0.length < 35184372088832 then (some (([] : List Int), (y285 ++ l0))) else (none))) else (if (l1.length : Int) = 1 then (if 0 < (l1.length : Int) then ((spec_natShort.f k l0 (rd l1 0)).bind fun bt292 => ((spec_NatFrom.f k (IntKind.u64.wrap (bt292.2))).bind fun t296 => (some (bt292.1, t296)))) else (none)) else (if 0 ≤ (wrap64 ((l1.length : Int) - 1)) then (if (wrap64 ((l1.length : Int) - 1)) < (l1.length : Int) then (if (IntKind.u64.wrap ((IntKind.u64.wrap (rd l1 (wrap64 ((l1.length : Int) - 1)))) + 1)) = 0 then (none) else ((some (([(IntKind.u64.wrap (Int.tdiv 1000000000 (IntKind.u64.wrap ((IntKind.u64.wrap (rd l1 (wrap64 ((l1.length : Int) - 1)))) + 1)))) % 4294967296] : List Int) : List Int)).bind fun y300 => ((spec_NatMul.f k l0 y300).bind fun t303 => ((spec_NatMul.f k l1 y300).bind fun t306 => (if 0 ≤ (t303.length : Int) then (if ((t303.length : Int) : Int).toNat ≤ 70368744177664 then (spec_NatDiv.l0 k (List.replicate ((t303.length : Int) : Int).toNat 0) ([] : List Int) y300 t303 t306 (wrap64 ((t303.length : Int) - 1))) else (none)) else (none)))))) else (none)) else (none))))) = some (r1, r2) := h
 clear h
 replace H := Option.bind_eq_some_iff.mp H
 obtain ⟨t284, A30, H⟩ := H
 replace H : (if t284 < 0 then ((some (([] : List Int) : List Int)).bind fun y285 => (if y285.length + l0.length < 35184372088832 then (some (([] : List Int), (y285 ++ l0))) else (none))) else (if (l1.length : Int) = 1 then (if 0 < (l1.length : Int) then ((spec_natShort.f k l0 (rd l1 0)).bind fun bt292 => ((spec_NatFrom.f k (IntKind.u64.wrap (bt292.2))).bind fun t296 => (some (bt292.1, t296)))) else (none)) else (if 0 ≤ (wrap64 ((l1.length : Int) - 1)) then (if (wrap64 ((l1.length : Int) - 1)) < (l1.length : Int) then (if (IntKind.u64.wrap ((IntKind.u64.wrap (rd l1 (wrap64 ((l1.length : Int) - 1)))) + 1)) = 0 then (none) else ((some (([(IntKind.u64.wrap (Int.tdiv 1000000000 (IntKind.u64.wrap ((IntKind.u64.wrap (rd l1 (wrap64 ((l1.length : Int) - 1)))) + 1)))) % 4294967296] : List Int) : List Int)).bind fun y300 => ((spec_NatMul.f k l0 y300).bind fun t303 => ((spec_NatMul.f k l1 y300).bind fun t306 => (if 0 ≤ (t303.length : Int) then (if ((t303.length : Int) : Int).toNat ≤ 70368744177664 then (spec_NatDiv.l0 k (List.replicate ((t303.length : Int) : Int).toNat 0) ([] : List Int) y300 t303 t306 (wrap64 ((t303.length : Int) - 1))) else (none)) else (none)))))) else (none)) else (none)))) = some (r1, r2) := H
 have A3 := Aside0.mk A30
 clear A30
 by_cases c4 : t284 < 0
 ·rw [if_pos c4] at H
  have c4b0 : decide (t284 < 0) = true := decide_eq_true c4
  clear c4
  obtain ⟨y285, hy285⟩ : ∃ y_ : List Int, y_ = (([] : List Int)) := ⟨_, rfl⟩
  replace H : (if y285.length + l0.length < 35184372088832 then (some (([] : List Int), (y285 ++ l0))) else (none)) = some (r1, r2) := fo_ hy285 H
  have Ny285 := Aside0.mk hy285
  clear hy285
  by_cases c5 : y285.length + l0.length < 35184372088832
  ·rw [if_pos c5] at H
   have LMc5 := Aside0.mk c5
   clear c5
   obtain ⟨y288, hy288⟩ : ∃ y_ : List Int, y_ = (y285 ++ l0) := ⟨_, rfl⟩
   replace H : (some (([] : List Int), y288)) = some (r1, r2) := fo_ hy288 H
   have Ny288 := Aside0.mk hy288
   clear hy288
   simp only [Option.some.injEq, Prod.mk.injEq] at H
   obtain ⟨rfl, rfl⟩ := H
   go_enter Tryz.func43, Tryz.ntmps43
   go_wp2_with (first | ((with_reducible refine gate_callee (f := 45) rfl ?_); refine goesL_ (some 16) rfl rfl Tryz.func45 kr_ rfl #[.slice A0 l0.length c0, .slice A1 l1.length c1] rfl lm_ ?_; (with_reducible refine (spec_NatCmp.calls k _ _ l0 _ _ l1 t284 _ ?side1 ?side2 ?side3 ?side4 A3.out).mono ?_); (case side1 => exact cr_ HR0.out); (case side2 => exact HC0.out); (case side3 => exact cr_ HR1.out); (case side4 => exact HC1.out); rintro e w' ⟨rfl, ⟨nd, rfl⟩⟩; refine ⟨_, rfl, ?_⟩) | ((with_reducible refine gate_dst (N := 18) rfl ?_); refine Kd.R_lit (Kd.int .u32) _ 80 ?hg (N := 18) ?hd (xs := ([] : List Int)) (inner := []) (ok := fun _ => True) (okp := fun _ => True) ?hr ?hp (fun _ hk => hk) trivial (Below.refl _ _) (Nat.le_refl _) (by simp) ?_; (case hd => rfl); (case hg => rfl); (case hr => first | (go_simp; done) | (go_simp; rfl)); (case hp => exact (Reps.none _ _)); intro v286 w6 ho7 hb hg_ hnew_; clear hg_ hnew_; (first | rw [← Ny285.out] at ho7 | (simp only [Int.reduceToNat] at ho7; rw [← Ny285.out] at ho7)); have n0_ := Aside0.mk (Kd.R_lower (Kd.R_newM (M := fun k_ => (w.heap.size ≤ k_)) ho7 (below_size bel_) (fun k_ h_ => h_)) (below_size bel_)); have n1_ := Aside0.mk (below_step bel_ hb); clear HB; have HO287 := n0_; have HB := n1_; clear n0_ n1_; clear hb ho7) | ((with_reducible refine gate_builtin (b := .append) (xs := #[.tmp 18, .tmp 19]) rfl ?_); at_builtin; refine Kd.R_append_rows (Kd.int .u32) (w0 := w) w.heap.size rfl (.tmp 18) (.tmp 19) 30 80 (.int .u32 0) 4 rfl Tryz.underlying30 info80 rfl (by decide) (by omega) v286 y285 l0 _ _ _ (fun k_ => (w.heap.size ≤ k_)) (fun _ => False) rfl rfl ?aO ?aR (fun _ _ h => h) (fun _ h => h.elim) ?aF ?aB ?aS ?aL ?_; (case aR => exact cr_ (Kd.C_below HR0.out HB.out)); (case aB => exact bel_); (case aF => exact (fun k_ hk => (Nat.le_trans (below_size bel_) hk))); (case aO => exact (by (with_reducible repeat (first | apply Kd.R_alloc | apply Kd.R_drewN | apply Kd.R_drew)); exact Kd.R_mono HO287.out (fun _ hk => hk.1))); (case aS => exact (below_size bel_)); (case aL => have := LMc5.out; omega); intro v289 w8 ho hb hg hat; rw [← Ny288.out] at ho; have n0_ := Aside0.mk (hb); have n1_ := Aside0.mk (ho); clear HB; clear HO287; have HB := n0_; have HO290 := n1_; clear n0_ n1_; clear ho hb hg hat))
   go_ret2
   exact ⟨_, _, by first | rfl | (simp [errW_none, errW_some] <;> rfl) | (simp [*, errW_none, errW_some] <;> rfl), Kd.R_V (by first | exact Kd.R_nil _ _ _ 0 _ | exact Kd.R_nil _ _ _ _ _ | exact Kd.N_nil _ _ _ _ _ | exact Kd.V_nil _ _ _ _ _ | exact Kd.Q_nil _ _ _ _ _ | exact Kd.S_nil _ _ _ _ _), Kd.R_V (rr_ HO290.out), bel_⟩
  ·rw [if_neg c5] at H
   exact absurd H (by simp)
 ·rw [if_neg c4] at H
  have c4b0 : decide (t284 < 0) = false := decide_eq_false c4
  clear c4
  by_cases c9 : (l1.length : Int) = 1
  ·rw [if_pos c9] at H
   have c9b0 : ((l1.length : Int) == 1) = true := beq_iff_eq.mpr c9
   have c9b1 : ((l1.length : Int) != 1) = false := bne_eq_false_iff_eq.mpr c9
   clear c9
   by_cases c10 : 0 < (l1.length : Int)
   ·rw [if_pos c10] at H
    have c10b0 : decide (0 < (l1.length : Int)) = true := decide_eq_true c10
    have c10b1 : decide (0 < l1.length) = true := decide_eq_true (by omega)
    clear c10
    replace H := Option.bind_eq_some_iff.mp H
    obtain ⟨⟨t292, t295⟩, A110, H⟩ := H
    replace H : ((spec_NatFrom.f k (IntKind.u64.wrap (t295))).bind fun t296 => (some (t292, t296))) = some (r1, r2) := H
    have A11 := Aside0.mk A110
    clear A110
    replace H := Option.bind_eq_some_iff.mp H
    obtain ⟨t296, A120, H⟩ := H
    replace H : (some (t292, t296)) = some (r1, r2) := H
    have A12 := Aside0.mk A120
    clear A120
    simp only [Option.some.injEq, Prod.mk.injEq] at H
    obtain ⟨rfl, rfl⟩ := H
    go_enter Tryz.func43, Tryz.ntmps43
    go_wp2_with (first | ((with_reducible refine gate_callee (f := 45) rfl ?_); refine goesL_ (some 16) rfl rfl Tryz.func45 kr_ rfl #[.slice A0 l0.length c0, .slice A1 l1.length c1] rfl lm_ ?_; (with_reducible refine (spec_NatCmp.calls k _ _ l0 _ _ l1 t284 _ ?side1 ?side2 ?side3 ?side4 A3.out).mono ?_); (case side1 => exact cr_ HR0.out); (case side2 => exact HC0.out); (case side3 => exact cr_ HR1.out); (case side4 => exact HC1.out); rintro e w' ⟨rfl, ⟨nd, rfl⟩⟩; refine ⟨_, rfl, ?_⟩; have p291 : 0 ≤ (0 : Int) := (by omega); have q291 : 0 < (l1.length : Int) := ode_; obtain ⟨ad291, e291, hx291_0⟩ := Kd.at_int HR1.out 0 p291 q291; cases e291; have qi291 : (0 < l1.length) = True := eq_true (by omega); (try rw [show ((0 : Int)).toNat = 0 from rfl] at hx291_0); (try rw [Addr.add_zero'] at hx291_0); replace p291 := eq_true p291; replace q291 := eq_true q291) | ((with_reducible refine gate_callee (f := 38) rfl ?_); refine goesL_ (some 29) rfl rfl Tryz.func38 kr_ rfl #[.slice A0 l0.length c0, .int .u32 (rd l1 0)] rfl lm_ ?_; (with_reducible refine (spec_natShort.calls k _ _ l0 (rd l1 0) t292 t295 _ ?side1 ?side2 A11.out).mono ?_); (case side1 => exact cr_ HR0.out); (case side2 => exact HC0.out); rintro e w13 ⟨v293, rfl, ho0, hb⟩; refine ⟨_, rfl, ?_⟩; have n0_ := Aside0.mk (Kd.V_lower (Kd.V_mono (ok' := fun k_ => (w.heap.size ≤ k_)) ho0 (fun k_ hk_ => (Nat.le_trans (below_size bel_) hk_))) (below_size bel_)); have n1_ := Aside0.mk (below_step bel_ hb); clear HB; have HO294 := n0_; have HB := n1_; clear n0_ n1_; (try clear hb); (try clear hb2); (try clear hk); (try clear hi); (try clear ho0)) | ((with_reducible refine gate_callee (f := 52) rfl ?_); refine goesL_ (some 35) rfl rfl Tryz.func52 kr_ rfl #[.int .u64 (IntKind.u64.wrap (t295))] rfl lm_ ?_; (with_reducible refine (spec_NatFrom.calls k (IntKind.u64.wrap (t295)) t296 _ A12.out).mono ?_); rintro e w14 ⟨v297, rfl, ho0, hb⟩; refine ⟨_, rfl, ?_⟩; have n0_ := Aside0.mk (Kd.V_elder' (vr_ HO294.out) (Kd.R_base ho0) hb); have n1_ := Aside0.mk (Kd.R_lower (Kd.R_newM (M := fun k_ => (w.heap.size ≤ k_)) ho0 (below_size bel_) (fun k_ h_ => h_)) (below_size bel_)); have n2_ := Aside0.mk (below_step bel_ hb); clear HO294; clear HB; have HO294 := n0_; have HO298 := n1_; have HB := n2_; clear n0_ n1_ n2_; (try clear hb); (try clear hb2); (try clear hk); (try clear hi); (try clear ho0)))
    go_ret2
    exact ⟨_, _, by first | rfl | (simp [errW_none, errW_some] <;> rfl) | (simp [*, errW_none, errW_some] <;> rfl), by (with_reducible repeat (first | apply Kd.V_alloc | apply Kd.V_drewN | apply Kd.V_drew)); exact Kd.V_mono HO294.out (fun _ hk => hk.1), Kd.R_V (by (with_reducible repeat (first | apply Kd.R_alloc | apply Kd.R_drewN | apply Kd.R_drew)); exact Kd.R_mono HO298.out (fun _ hk => hk.1)), bel_⟩
   ·rw [if_neg c10] at H
    exact absurd H (by simp)
  ·rw [if_neg c9] at H
   have c9b0 : ((l1.length : Int) == 1) = false := beq_eq_false_iff_ne.mpr c9
   have c9b1 : ((l1.length : Int) != 1) = true := bne_iff_ne.mpr c9
   obtain ⟨ji15, hji15⟩ : ∃ j_ : Int, (wrap64 ((l1.length : Int) - 1)) = j_ := ⟨_, rfl⟩
   replace H : (if 0 ≤ (ji15) then (if (ji15) < (l1.length : Int) then (if (IntKind.u64.wrap ((IntKind.u64.wrap (rd l1 (ji15))) + 1)) = 0 then (none) else ((some (([(IntKind.u64.wrap (Int.tdiv 1000000000 (IntKind.u64.wrap ((IntKind.u64.wrap (rd l1 (ji15))) + 1)))) % 4294967296] : List Int) : List Int)).bind fun y300 => ((spec_NatMul.f k l0 y300).bind fun t303 => ((spec_NatMul.f k l1 y300).bind fun t306 => (if 0 ≤ (t303.length : Int) then (if ((t303.length : Int) : Int).toNat ≤ 70368744177664 then (spec_NatDiv.l0 k (List.replicate ((t303.length : Int) : Int).toNat 0) ([] : List Int) y300 t303 t306 (wrap64 ((t303.length : Int) - 1))) else (none)) else (none)))))) else (none)) else (none)) = some (r1, r2) := by first | (rw [hji15] at H; exact H) | (simp only [hji15] at H ⊢; exact H)
   (try rw [hji15] at A3)
   have hji15w : (IntKind.i64.wrap ((l1.length : Int) - 1)) = ji15 := (i64_w _).trans hji15
   by_cases c16 : 0 ≤ (ji15)
   ·rw [if_pos c16] at H
    have c16b0 : decide (0 ≤ (ji15)) = true := decide_eq_true c16
    clear c16
    by_cases c17 : (ji15) < (l1.length : Int)
    ·rw [if_pos c17] at H
     have c17b0 : decide ((ji15) < (l1.length : Int)) = true := decide_eq_true c17
     clear c17
     by_cases c18 : (IntKind.u64.wrap ((IntKind.u64.wrap (rd l1 (ji15))) + 1)) = 0
     ·rw [if_pos c18] at H
      exact absurd H (by simp)
     ·rw [if_neg c18] at H
      have c18b0 : ((IntKind.u64.wrap ((IntKind.u64.wrap (rd l1 (ji15))) + 1)) == 0) = false := beq_eq_false_iff_ne.mpr c18
      have c18b1 : ((IntKind.u64.wrap ((IntKind.u64.wrap (rd l1 (ji15))) + 1)) != 0) = true := bne_iff_ne.mpr c18
      obtain ⟨y300, hy300⟩ : ∃ y_ : List Int, y_ = (([(IntKind.u64.wrap (Int.tdiv 1000000000 (IntKind.u64.wrap ((IntKind.u64.wrap (rd l1 (ji15))) + 1)))) % 4294967296] : List Int)) := ⟨_, rfl⟩
      replace H : ((spec_NatMul.f k l0 y300).bind fun t303 => ((spec_NatMul.f k l1 y300).bind fun t306 => (if 0 ≤ (t303.length : Int) then (if ((t303.length : Int) : Int).toNat ≤ 70368744177664 then (spec_NatDiv.l0 k (List.replicate ((t303.length : Int) : Int).toNat 0) ([] : List Int) y300 t303 t306 (wrap64 ((t303.length : Int) - 1))) else (none)) else (none)))) = some (r1, r2) := fo_ hy300 H
      have Ny300 := Aside0.mk hy300
      clear hy300
      replace H := Option.bind_eq_some_iff.mp H
      obtain ⟨t303, A190, H⟩ := H
      replace H : ((spec_NatMul.f k l1 y300).bind fun t306 => (if 0 ≤ (t303.length : Int) then (if ((t303.length : Int) : Int).toNat ≤ 70368744177664 then (spec_NatDiv.l0 k (List.replicate ((t303.length : Int) : Int).toNat 0) ([] : List Int) y300 t303 t306 (wrap64 ((t303.length : Int) - 1))) else (none)) else (none))) = some (r1, r2) := H
      have A19 := Aside0.mk A190
      clear A190
      replace H := Option.bind_eq_some_iff.mp H
      obtain ⟨t306, A200, H⟩ := H
      replace H : (if 0 ≤ (t303.length : Int) then (if ((t303.length : Int) : Int).toNat ≤ 70368744177664 then (spec_NatDiv.l0 k (List.replicate ((t303.length : Int) : Int).toNat 0) ([] : List Int) y300 t303 t306 (wrap64 ((t303.length : Int) - 1))) else (none)) else (none)) = some (r1, r2) := H
      have A20 := Aside0.mk A200
      clear A200
      by_cases c21 : 0 ≤ (t303.length : Int)
      ·rw [if_pos c21] at H
       have c21b0 := eq_true c21
       have c21b1 : decide (0 ≤ (t303.length : Int)) = true := decide_eq_true c21
       clear c21
       by_cases c22 : ((t303.length : Int) : Int).toNat ≤ 70368744177664
       ·rw [if_pos c22] at H
        have c22b0 := eq_true c22
        have c22b1 : decide (((t303.length : Int) : Int).toNat ≤ 70368744177664) = true := decide_eq_true c22
        clear c22
        obtain ⟨y309, hy309⟩ : ∃ y_ : List Int, y_ = (List.replicate ((t303.length : Int) : Int).toNat 0) := ⟨_, rfl⟩
        replace H : (spec_NatDiv.l0 k y309 ([] : List Int) y300 t303 t306 (wrap64 ((t303.length : Int) - 1))) = some (r1, r2) := fo_ hy309 H
        have Ny309 := Aside0.mk hy309
        clear hy309
        have H' := Aside0.mk H
        clear H
        go_enter Tryz.func43, Tryz.ntmps43
        go_wp2_with (first | ((with_reducible refine gate_callee (f := 45) rfl ?_); refine goesL_ (some 16) rfl rfl Tryz.func45 kr_ rfl #[.slice A0 l0.length c0, .slice A1 l1.length c1] rfl lm_ ?_; (with_reducible refine (spec_NatCmp.calls k _ _ l0 _ _ l1 t284 _ ?side1 ?side2 ?side3 ?side4 A3.out).mono ?_); (case side1 => exact cr_ HR0.out); (case side2 => exact HC0.out); (case side3 => exact cr_ HR1.out); (case side4 => exact HC1.out); rintro e w' ⟨rfl, ⟨nd, rfl⟩⟩; refine ⟨_, rfl, ?_⟩; have p299 : 0 ≤ ((ji15) : Int) := ode_; have q299 : (ji15) < (l1.length : Int) := ode_; obtain ⟨ad299, e299, hx299_0⟩ := Kd.at_int HR1.out (ji15) p299 q299; cases e299; replace p299 := eq_true p299; replace q299 := eq_true q299) | ((with_reducible refine gate_dst (N := 46) rfl ?_); refine Kd.R_lit (Kd.int .u32) _ 80 ?hg (N := 46) ?hd (xs := ([(IntKind.u64.wrap (Int.tdiv 1000000000 (IntKind.u64.wrap ((IntKind.u64.wrap (rd l1 (ji15))) + 1)))) % 4294967296] : List Int)) (inner := [.int .u32 ((IntKind.u64.wrap (Int.tdiv 1000000000 (IntKind.u64.wrap ((IntKind.u64.wrap (rd l1 (ji15))) + 1)))) % 4294967296)]) (ok := fun _ => True) (okp := fun _ => True) ?hr ?hp (fun _ hk => hk) trivial (Below.refl _ _) (Nat.le_refl _) (by simp) ?_; (case hd => rfl); (case hg => rfl); (case hr => first | (go_simp; done) | (go_simp; rfl)); (case hp => exact (Reps.one (show Kd.M (Kd.int .u32) _ _ _ ((IntKind.u64.wrap (Int.tdiv 1000000000 (IntKind.u64.wrap ((IntKind.u64.wrap (rd l1 (ji15))) + 1)))) % 4294967296) [.int .u32 ((IntKind.u64.wrap (Int.tdiv 1000000000 (IntKind.u64.wrap ((IntKind.u64.wrap (rd l1 (ji15))) + 1)))) % 4294967296)] from rfl) (Reps.none _ _))); intro v301 w23 ho24 hb hg_ hnew_; clear hg_ hnew_; (first | rw [← Ny300.out] at ho24 | (simp only [Int.reduceToNat] at ho24; rw [← Ny300.out] at ho24)); have n0_ := Aside0.mk (Kd.R_lower (Kd.R_newM (M := fun k_ => (w.heap.size ≤ k_)) ho24 (below_size bel_) (fun k_ h_ => h_)) (below_size bel_)); have n1_ := Aside0.mk (below_step bel_ hb); clear HB; have HO302 := n0_; have HB := n1_; clear n0_ n1_; clear hb ho24; obtain ⟨Ao25, co25, eo25⟩ := Kd.R_slice HO302.out; subst eo25) | ((with_reducible refine gate_callee (f := 40) rfl ?_); refine goesL_ (some 49) rfl rfl Tryz.func40 kr_ rfl #[.slice A0 l0.length c0, .slice Ao25 y300.length co25] rfl lm_ ?_; (with_reducible refine (spec_NatMul.calls k _ _ l0 _ _ y300 t303 _ ?side1 ?side2 ?side3 ?side4 A19.out).mono ?_); (case side1 => exact cr_ (Kd.C_below HR0.out HB.out)); (case side2 => exact HC0.out); (case side3 => exact cr_ (Kd.R_reads' HO302.out).2.2); (case side4 => exact (Kd.R_reads' HO302.out).2.1); rintro e w26 ⟨v304, rfl, ho0, hb⟩; refine ⟨_, rfl, ?_⟩; have n0_ := Aside0.mk (Kd.R_below (rr_ HO302.out) hb); have n1_ := Aside0.mk (Kd.V_lower (Kd.V_mono (ok' := fun k_ => (w.heap.size ≤ k_) ∧ some k_ ≠ (.slice Ao25 y300.length co25 : Value).ownBlock) ho0 (fun k_ hk_ => ⟨(Nat.le_trans (below_size bel_) hk_), (Kd.fresh' (Kd.R_lt (rr_ HO302.out)) k_ hk_)⟩)) (below_size bel_)); have n2_ := Aside0.mk (below_step bel_ hb); clear HO302; clear HB; have HO302 := n0_; have HO305 := n1_; have HB := n2_; clear n0_ n1_ n2_; (try clear hb); (try clear hb2); (try clear hk); (try clear hi); (try clear ho0)) | ((with_reducible refine gate_callee (f := 40) rfl ?_); refine goesL_ (some 52) rfl rfl Tryz.func40 kr_ rfl #[.slice (some ad299) l1.length c1, .slice Ao25 y300.length co25] rfl lm_ ?_; (with_reducible refine (spec_NatMul.calls k _ _ l1 _ _ y300 t306 _ ?side1 ?side2 ?side3 ?side4 A20.out).mono ?_); (case side1 => exact cr_ (Kd.C_below HR1.out HB.out)); (case side2 => exact HC1.out); (case side3 => exact cr_ (Kd.R_reads' HO302.out).2.2); (case side4 => exact (Kd.R_reads' HO302.out).2.1); rintro e w27 ⟨v307, rfl, ho0, hb⟩; refine ⟨_, rfl, ?_⟩; have n0_ := Aside0.mk (Kd.R_below (rr_ HO302.out) hb); have n1_ := Aside0.mk (Kd.V_below (vr_ HO305.out) hb); have n2_ := Aside0.mk (Kd.V_lower (Kd.V_mono (ok' := fun k_ => (w.heap.size ≤ k_) ∧ some k_ ≠ (.slice Ao25 y300.length co25 : Value).ownBlock) ho0 (fun k_ hk_ => ⟨(Nat.le_trans (below_size bel_) hk_), (Kd.fresh' (Kd.R_lt (rr_ HO302.out)) k_ hk_)⟩)) (below_size bel_)); have n3_ := Aside0.mk (below_step bel_ hb); clear HO302; clear HO305; clear HB; have HO302 := n0_; have HO305 := n1_; have HO308 := n2_; have HB := n3_; clear n0_ n1_ n2_ n3_; (try clear hb); (try clear hb2); (try clear hk); (try clear hi); (try clear ho0); obtain ⟨Ao28, co28, eo28⟩ := Kd.V_slice HO305.out; subst eo28) | ((with_reducible refine gate_dst (N := 55) rfl ?_); refine Kd.R_make (Kd.int .u32) _ 80 rfl (N := 55) rfl 30 _ _ rfl (t303.length : Int) rfl rfl Tryz.underlying30 (.int .u32 0) 4 info80 rfl (by decide) (by omega) 0 (ok := fun _ => True) (okp := fun _ => True) rfl (fun _ hk => hk) trivial ode_ (Nat.le_trans (Nat.mul_le_mul_right _ (ode_ : (t303.length : Int).toNat ≤ 70368744177664)) (by omega)) (Below.refl _ _) (Nat.le_refl _) ?_; intro v310 w29 ho30 hb hg_ hnew_; clear hg_ hnew_; (first | rw [← Ny309.out] at ho30 | (simp only [Int.reduceToNat] at ho30; rw [← Ny309.out] at ho30)); have n0_ := Aside0.mk (Kd.R_elder' (rr_ HO302.out) (Kd.R_base ho30) hb); have n1_ := Aside0.mk (Kd.V_elder' (vr_ HO305.out) (Kd.R_base ho30) hb); have n2_ := Aside0.mk (Kd.V_elder' (vr_ HO308.out) (Kd.R_base ho30) hb); have n3_ := Aside0.mk (Kd.R_lower (Kd.R_new' (Kd.R_newM (M := fun k_ => (w.heap.size ≤ k_)) ho30 (below_size bel_) (fun k_ h_ => h_)) (Kd.R_lt (rr_ HO302.out))) (below_size bel_)); have n4_ := Aside0.mk (below_step bel_ hb); clear HO302; clear HO305; clear HO308; clear HB; have HO302 := n0_; have HO305 := n1_; have HO308 := n2_; have HO311 := n3_; have HB := n4_; clear n0_ n1_ n2_ n3_ n4_; clear hb ho30))
        go_loopg [5, 11] k (fun kq v5 v11 w' => ∃ (x4_1 : List Int) (x5_1 : List Int) (x11_1 : Int), v11 = .int .i64 x11_1 ∧ Aside0 (spec_NatDiv.l0 kq x4_1 x5_1 y300 t303 t306 x11_1 = some (r1, r2)) ∧ Aside0 (kq ≤ k) ∧ Aside0 (Kd.R (Kd.int .u32) 80 w' w.heap.size (fun k_ => (w.heap.size ≤ k_) ∧ some k_ ≠ ((.slice Ao25 y300.length co25) : Value).ownBlock) v310 x4_1) ∧ Aside0 (Kd.V (Kd.int .u32) 80 w' w.heap.size (fun k_ => (w.heap.size ≤ k_) ∧ some k_ ≠ (v310 : Value).ownBlock ∧ some k_ ≠ ((.slice Ao25 y300.length co25) : Value).ownBlock) v5 x5_1) ∧ Aside0 (Kd.R (Kd.int .u32) 80 w' w.heap.size (fun k_ => (w.heap.size ≤ k_) ∧ some k_ ≠ (v310 : Value).ownBlock) (.slice Ao25 y300.length co25) y300) ∧ Aside0 (Kd.V (Kd.int .u32) 80 w' w.heap.size (fun k_ => (w.heap.size ≤ k_) ∧ some k_ ≠ (v310 : Value).ownBlock ∧ some k_ ≠ ((.slice Ao25 y300.length co25) : Value).ownBlock) (.slice Ao28 t303.length co28) t303) ∧ Aside0 (Kd.V (Kd.int .u32) 80 w' w.heap.size (fun k_ => (w.heap.size ≤ k_) ∧ some k_ ≠ (v310 : Value).ownBlock ∧ some k_ ≠ ((.slice Ao25 y300.length co25) : Value).ownBlock) v307 t306) ∧ Aside0 (Below w.heap.size w w'))
        case atStart => exact ⟨(y309), (([] : List Int)), (wrap64 ((t303.length : Int) - 1)), sd_, H', ⟨Nat.le_refl _⟩, ⟨by (with_reducible repeat (first | apply Kd.R_alloc | apply Kd.R_drewN | apply Kd.R_drew)); exact Kd.R_mono HO311.out (fun _ hk => ⟨hk.1.1, hk.2⟩)⟩, ⟨Kd.R_V (by first | exact Kd.R_nil _ _ _ 0 _ | exact Kd.R_nil _ _ _ _ _ | exact Kd.N_nil _ _ _ _ _ | exact Kd.V_nil _ _ _ _ _ | exact Kd.Q_nil _ _ _ _ _ | exact Kd.S_nil _ _ _ _ _)⟩, ⟨by (with_reducible repeat (first | apply Kd.R_alloc | apply Kd.R_drewN | apply Kd.R_drew)); exact Kd.R_mono HO302.out (fun _ hk => ⟨hk.1.1, hk.2⟩)⟩, ⟨by (with_reducible repeat (first | apply Kd.V_alloc | apply Kd.V_drewN | apply Kd.V_drew)); exact Kd.V_mono HO305.out (fun _ hk => ⟨hk.1.1, ⟨hk.2, hk.1.2⟩⟩)⟩, ⟨by (with_reducible repeat (first | apply Kd.V_alloc | apply Kd.V_drewN | apply Kd.V_drew)); exact Kd.V_mono HO308.out (fun _ hk => ⟨hk.1.1, ⟨hk.2, hk.1.2⟩⟩)⟩, ⟨bel_⟩⟩
        case round =>
         clear H'
         try clear c1
         try clear c2
         try clear p2
         try clear q2
         try clear hx2
         try clear qi2
         try clear c3
         try clear c4
         try clear c4b0
         try clear c5
         try clear p6
         try clear c9
         try clear c9b0
         try clear c9b1
         try clear c10
         try clear c10b0
         try clear c10b1
         try clear c16
         try clear c16b0
         try clear c17
         try clear c17b0
         try clear c18
         try clear c18b0
         try clear c18b1
         try clear c21
         try clear c21b0
         try clear c21b1
         try clear c22
         try clear c22b0
         try clear c22b1
         try clear p29
         try clear q29
         try clear hx29
         try clear qi29
         try clear hx291_0
         try clear hx299_0
         try clear p291
         try clear p299
         try clear q291
         try clear q299
         obtain ⟨x4_1, x5_1, x11_1, rfl, HA, HK1, HO_4, HO_5, HO_8, HO_9, HO_10, HB⟩ := hrel
         cases gk with
         | zero => exact absurd HA.out (by simp [spec_NatDiv.l0])
         | succ k1 =>
          have H := HA.out
          clear HA
          simp only [spec_NatDiv.l0] at H
          by_cases c31 : x11_1 ≥ 0
          ·rw [if_pos c31] at H
           have c31b0 : decide (0 ≤ x11_1) = true := decide_eq_true c31
           clear c31
           by_cases c32 : 0 ≤ x11_1
           ·rw [if_pos c32] at H
            have c32b0 : decide (0 ≤ x11_1) = true := decide_eq_true c32
            clear c32
            by_cases c33 : x11_1 < (t303.length : Int)
            ·rw [if_pos c33] at H
             have c33b0 : decide (x11_1 < (t303.length : Int)) = true := decide_eq_true c33
             clear c33
             obtain ⟨y321, hy321⟩ : ∃ y_ : List Int, y_ = (([rd t303 x11_1] : List Int)) := ⟨_, rfl⟩
             replace H : (if y321.length + x5_1.length < 35184372088832 then ((spec_natTrim.f k1 (y321 ++ x5_1)).bind fun t327 => ((spec_natGuess.f t327 t306).bind fun t330 => ((spec_NatFrom.f k1 t330).bind fun t331 => ((spec_NatMul.f k1 t306 t331).bind fun t334 => (spec_NatDiv.l1 k1 x4_1 t327 y300 t303 t306 x11_1 t330 t334))))) else (none)) = some (r1, r2) := fo_ hy321 H
             have Ny321 := Aside0.mk hy321
             clear hy321
             by_cases c34 : y321.length + x5_1.length < 35184372088832
             ·rw [if_pos c34] at H
              have LMc34 := Aside0.mk c34
              clear c34
              obtain ⟨y324, hy324⟩ : ∃ y_ : List Int, y_ = (y321 ++ x5_1) := ⟨_, rfl⟩
              replace H : ((spec_natTrim.f k1 y324).bind fun t327 => ((spec_natGuess.f t327 t306).bind fun t330 => ((spec_NatFrom.f k1 t330).bind fun t331 => ((spec_NatMul.f k1 t306 t331).bind fun t334 => (spec_NatDiv.l1 k1 x4_1 t327 y300 t303 t306 x11_1 t330 t334))))) = some (r1, r2) := fo_ hy324 H
              have Ny324 := Aside0.mk hy324
              clear hy324
              replace H := Option.bind_eq_some_iff.mp H
              obtain ⟨t327, A350, H⟩ := H
              replace H : ((spec_natGuess.f t327 t306).bind fun t330 => ((spec_NatFrom.f k1 t330).bind fun t331 => ((spec_NatMul.f k1 t306 t331).bind fun t334 => (spec_NatDiv.l1 k1 x4_1 t327 y300 t303 t306 x11_1 t330 t334)))) = some (r1, r2) := H
              have A35 := Aside0.mk A350
              clear A350
              replace H := Option.bind_eq_some_iff.mp H
              obtain ⟨t330, A360, H⟩ := H
              replace H : ((spec_NatFrom.f k1 t330).bind fun t331 => ((spec_NatMul.f k1 t306 t331).bind fun t334 => (spec_NatDiv.l1 k1 x4_1 t327 y300 t303 t306 x11_1 t330 t334))) = some (r1, r2) := H
              have A36 := Aside0.mk A360
              clear A360
              replace H := Option.bind_eq_some_iff.mp H
              obtain ⟨t331, A370, H⟩ := H
              replace H : ((spec_NatMul.f k1 t306 t331).bind fun t334 => (spec_NatDiv.l1 k1 x4_1 t327 y300 t303 t306 x11_1 t330 t334)) = some (r1, r2) := H
              have A37 := Aside0.mk A370
              clear A370
              replace H := Option.bind_eq_some_iff.mp H
              obtain ⟨t334, A380, H⟩ := H
              replace H : (spec_NatDiv.l1 k1 x4_1 t327 y300 t303 t306 x11_1 t330 t334) = some (r1, r2) := H
              have A38 := Aside0.mk A380
              clear A380
              have H' := Aside0.mk H
              clear H
              have p320 : 0 ≤ (x11_1 : Int) := ode_
              have q320 : x11_1 < (t303.length : Int) := ode_
              obtain ⟨ad320, e320, hx320_0⟩ := Kd.at_int (Kd.V_reads' HO_9.out).2.2 x11_1 p320 q320
              cases e320
              replace p320 := eq_true p320
              replace q320 := eq_true q320
              go_wp2_with (first | ((with_reducible refine gate_dst (N := 67) rfl ?_); refine Kd.R_lit (Kd.int .u32) _ 80 ?hg (N := 67) ?hd (xs := ([rd t303 x11_1] : List Int)) (inner := [.int .u32 (rd t303 x11_1)]) (ok := fun _ => True) (okp := fun _ => True) ?hr ?hp (fun _ hk => hk) trivial (Below.refl _ _) (Nat.le_refl _) (by simp) ?_; (case hd => rfl); (case hg => rfl); (case hr => first | (go_simp; done) | (go_simp; rfl)); (case hp => exact (Reps.one (show Kd.M (Kd.int .u32) _ _ _ (rd t303 x11_1) [.int .u32 (rd t303 x11_1)] from rfl) (Reps.none _ _))); intro v322 w39 ho40 hb hg_ hnew_; clear hg_ hnew_; (first | rw [← Ny321.out] at ho40 | (simp only [Int.reduceToNat] at ho40; rw [← Ny321.out] at ho40)); have n0_ := Aside0.mk (Kd.R_elder' (rr_ HO_4.out) (Kd.R_base ho40) hb); have n1_ := Aside0.mk (Kd.V_elder' (vr_ HO_5.out) (Kd.R_base ho40) hb); have n2_ := Aside0.mk (Kd.R_elder' (rr_ HO_8.out) (Kd.R_base ho40) hb); have n3_ := Aside0.mk (Kd.V_elder' (vr_ HO_9.out) (Kd.R_base ho40) hb); have n4_ := Aside0.mk (Kd.V_elder' (vr_ HO_10.out) (Kd.R_base ho40) hb); have n5_ := Aside0.mk (Kd.R_lower (Kd.R_new' (Kd.R_new' (Kd.R_newM (M := fun k_ => (w.heap.size ≤ k_)) ho40 (below_size bel_) (fun k_ h_ => h_)) (Kd.R_lt (rr_ HO_4.out))) (Kd.R_lt (rr_ HO_8.out))) (below_size bel_)); have n6_ := Aside0.mk (below_step bel_ hb); clear HO_4; clear HO_5; clear HO_8; clear HO_9; clear HO_10; clear HB; have HO_4 := n0_; have HO_5 := n1_; have HO_8 := n2_; have HO_9 := n3_; have HO_10 := n4_; have HO323 := n5_; have HB := n6_; clear n0_ n1_ n2_ n3_ n4_ n5_ n6_; clear hb ho40; obtain ⟨Ao42, co42, eo42⟩ := Kd.V_slice HO_5.out; subst eo42) | ((with_reducible refine gate_builtin (b := .append) (xs := #[.tmp 67, .tmp 68]) rfl ?_); at_builtin; refine Kd.R_append_rows (Kd.int .u32) (w0 := w) w.heap.size rfl (.tmp 67) (.tmp 68) 30 80 (.int .u32 0) 4 rfl Tryz.underlying30 info80 rfl (by decide) (by omega) v322 y321 x5_1 _ _ _ (fun k_ => (w.heap.size ≤ k_) ∧ some k_ ≠ (v310 : Value).ownBlock ∧ some k_ ≠ (.slice Ao25 y300.length co25 : Value).ownBlock) (fun _ => False) rfl rfl ?aO ?aR (fun _ _ h => h) (fun _ h => h.elim) ?aF ?aB ?aS ?aL ?_; (case aR => exact cr_ (Kd.V_reads' HO_5.out).2.2); (case aB => exact bel_); (case aF => exact (fun k_ hk => ⟨(Nat.le_trans (below_size bel_) hk), Kd.fresh' (Kd.R_lt (rr_ HO_4.out)) k_ hk, Kd.fresh' (Kd.R_lt (rr_ HO_8.out)) k_ hk⟩)); (case aO => exact (by (with_reducible repeat (first | apply Kd.R_alloc | apply Kd.R_drewN | apply Kd.R_drew)); exact Kd.R_mono HO323.out (fun _ hk => ⟨hk.1.1.1, ⟨hk.1.2, hk.2⟩⟩))); (case aS => exact (below_size bel_)); (case aL => have := LMc34.out; omega); intro v325 w41 ho hb hg hat; rw [← Ny324.out] at ho; have n0_ := Aside0.mk (Kd.R_after (ok := (fun k_ => (w.heap.size ≤ k_) ∧ some k_ ≠ (.slice Ao25 y300.length co25 : Value).ownBlock)) (rr_ HO_4.out) hg hat); have n1_ := Aside0.mk (Kd.V_afterv (ok := (fun k_ => (w.heap.size ≤ k_) ∧ some k_ ≠ (v310 : Value).ownBlock ∧ some k_ ≠ (.slice Ao25 y300.length co25 : Value).ownBlock)) (vr_ HO_5.out) hg hat); have n2_ := Aside0.mk (Kd.R_after (ok := (fun k_ => (w.heap.size ≤ k_) ∧ some k_ ≠ (v310 : Value).ownBlock)) (rr_ HO_8.out) hg hat); have n3_ := Aside0.mk (Kd.V_afterv (ok := (fun k_ => (w.heap.size ≤ k_) ∧ some k_ ≠ (v310 : Value).ownBlock ∧ some k_ ≠ (.slice Ao25 y300.length co25 : Value).ownBlock)) (vr_ HO_9.out) hg hat); have n4_ := Aside0.mk (Kd.V_afterv (ok := (fun k_ => (w.heap.size ≤ k_) ∧ some k_ ≠ (v310 : Value).ownBlock ∧ some k_ ≠ (.slice Ao25 y300.length co25 : Value).ownBlock)) (vr_ HO_10.out) hg hat); have n5_ := Aside0.mk (hb); have n6_ := Aside0.mk (ho); clear HO_4; clear HO_5; clear HO_8; clear HO_9; clear HO_10; clear HB; clear HO323; have HO_4 := n0_; have HO_5 := n1_; have HO_8 := n2_; have HO_9 := n3_; have HO_10 := n4_; have HB := n5_; have HO326 := n6_; clear n0_ n1_ n2_ n3_ n4_ n5_ n6_; clear ho hb hg hat; obtain ⟨Ao43, co43, eo43⟩ := Kd.R_slice HO326.out; subst eo43) | ((with_reducible refine gate_callee (f := 69) rfl ?_); refine goesL_ (some 70) rfl rfl Tryz.func69 kr_ rfl #[.slice Ao43 y324.length co43] rfl lm_ ?_; (with_reducible refine (spec_natTrim.calls k1 (fun k_ => some k_ = (.slice Ao43 y324.length co43 : Value).ownBlock) _ _ y324 t327 _ ?side1 A35.out).mono ?_); (case side1 => exact Kd.R_V (Kd.R_tight rfl (HO326.out))); rintro e w44 ⟨v328, rfl, ho0, hb⟩; refine ⟨_, rfl, ?_⟩; have n0_ := Aside0.mk (Kd.R_below (rr_ HO_4.out) hb); have n1_ := Aside0.mk (Kd.V_below (vr_ HO_5.out) hb); have n2_ := Aside0.mk (Kd.R_below (rr_ HO_8.out) hb); have n3_ := Aside0.mk (Kd.V_below (vr_ HO_9.out) hb); have n4_ := Aside0.mk (Kd.V_below (vr_ HO_10.out) hb); have n5_ := Aside0.mk (Kd.R_below (rr_ HO326.out) hb); have n6_ := Aside0.mk (Kd.V_lower (Kd.V_mono (ok' := fun k_ => (w.heap.size ≤ k_) ∧ some k_ ≠ (v310 : Value).ownBlock ∧ some k_ ≠ (.slice Ao25 y300.length co25 : Value).ownBlock) ho0 (fun k_ hk_ => ⟨Or.elim hk_ (fun hs_ => ((HO326.out).1 k_ hs_.symm).1) (fun hn_ => (Nat.le_trans (below_size bel_) hn_)), Or.elim hk_ (fun hs_ => ((HO326.out).1 k_ hs_.symm).2.1) (fun hn_ => (Kd.fresh' (Kd.R_lt (rr_ HO_4.out)) k_ hn_)), Or.elim hk_ (fun hs_ => ((HO326.out).1 k_ hs_.symm).2.2) (fun hn_ => (Kd.fresh' (Kd.R_lt (rr_ HO_8.out)) k_ hn_))⟩)) (below_size bel_)); have n7_ := Aside0.mk (below_step bel_ hb); clear HO_4; clear HO_5; clear HO_8; clear HO_9; clear HO_10; clear HO326; clear HB; have HO_4 := n0_; have HO_5 := n1_; have HO_8 := n2_; have HO_9 := n3_; have HO_10 := n4_; have HO326 := n5_; have HO329 := n6_; have HB := n7_; clear n0_ n1_ n2_ n3_ n4_ n5_ n6_ n7_; (try clear hb); (try clear hb2); (try clear hk); (try clear hi); (try clear ho0); obtain ⟨Ao45, co45, eo45⟩ := Kd.V_slice HO329.out; subst eo45; obtain ⟨Ao46, co46, eo46⟩ := Kd.V_slice HO_10.out; subst eo46) | ((with_reducible refine gate_callee (f := 70) rfl ?_); refine goesL_ (some 73) rfl rfl Tryz.func70 kr_ rfl #[.slice Ao45 t327.length co45, .slice Ao46 t306.length co46] rfl lm_ ?_; (with_reducible refine (spec_natGuess.calls _ _ t327 _ _ t306 t330 _ ?side1 ?side2 ?side3 ?side4 A36.out).mono ?_); (case side1 => exact cr_ (Kd.V_reads' HO329.out).2.2); (case side2 => exact (Kd.V_reads' HO329.out).2.1); (case side3 => exact cr_ (Kd.V_reads' HO_10.out).2.2); (case side4 => exact (Kd.V_reads' HO_10.out).2.1); rintro e w47 ⟨rfl, hb⟩; refine ⟨_, rfl, ?_⟩; have n0_ := Aside0.mk (Kd.R_below (rr_ HO_4.out) hb); have n1_ := Aside0.mk (Kd.V_below (vr_ HO_5.out) hb); have n2_ := Aside0.mk (Kd.R_below (rr_ HO_8.out) hb); have n3_ := Aside0.mk (Kd.V_below (vr_ HO_9.out) hb); have n4_ := Aside0.mk (Kd.V_below (vr_ HO_10.out) hb); have n5_ := Aside0.mk (Kd.R_below (rr_ HO326.out) hb); have n6_ := Aside0.mk (Kd.V_below (vr_ HO329.out) hb); have n7_ := Aside0.mk (below_step bel_ hb); clear HO_4; clear HO_5; clear HO_8; clear HO_9; clear HO_10; clear HO326; clear HO329; clear HB; have HO_4 := n0_; have HO_5 := n1_; have HO_8 := n2_; have HO_9 := n3_; have HO_10 := n4_; have HO326 := n5_; have HO329 := n6_; have HB := n7_; clear n0_ n1_ n2_ n3_ n4_ n5_ n6_ n7_; (try clear hb); (try clear hb2); (try clear hk); (try clear hi)) | ((with_reducible refine gate_callee (f := 52) rfl ?_); refine goesL_ (some 76) rfl rfl Tryz.func52 kr_ rfl #[.int .u64 t330] rfl lm_ ?_; (with_reducible refine (spec_NatFrom.calls k1 t330 t331 _ A37.out).mono ?_); rintro e w48 ⟨v332, rfl, ho0, hb⟩; refine ⟨_, rfl, ?_⟩; have n0_ := Aside0.mk (Kd.R_elder' (rr_ HO_4.out) (Kd.R_base ho0) hb); have n1_ := Aside0.mk (Kd.V_elder' (vr_ HO_5.out) (Kd.R_base ho0) hb); have n2_ := Aside0.mk (Kd.R_elder' (rr_ HO_8.out) (Kd.R_base ho0) hb); have n3_ := Aside0.mk (Kd.V_elder' (vr_ HO_9.out) (Kd.R_base ho0) hb); have n4_ := Aside0.mk (Kd.V_elder' (vr_ HO_10.out) (Kd.R_base ho0) hb); have n5_ := Aside0.mk (Kd.R_elder' (rr_ HO326.out) (Kd.R_base ho0) hb); have n6_ := Aside0.mk (Kd.V_elder' (vr_ HO329.out) (Kd.R_base ho0) hb); have n7_ := Aside0.mk (Kd.R_lower (Kd.R_new' (Kd.R_new' (Kd.R_new' (Kd.R_newM (M := fun k_ => (w.heap.size ≤ k_)) ho0 (below_size bel_) (fun k_ h_ => h_)) (Kd.R_lt (rr_ HO_4.out))) (Kd.R_lt (rr_ HO_8.out))) (Kd.R_lt (rr_ HO326.out))) (below_size bel_)); have n8_ := Aside0.mk (below_step bel_ hb); clear HO_4; clear HO_5; clear HO_8; clear HO_9; clear HO_10; clear HO326; clear HO329; clear HB; have HO_4 := n0_; have HO_5 := n1_; have HO_8 := n2_; have HO_9 := n3_; have HO_10 := n4_; have HO326 := n5_; have HO329 := n6_; have HO333 := n7_; have HB := n8_; clear n0_ n1_ n2_ n3_ n4_ n5_ n6_ n7_ n8_; (try clear hb); (try clear hb2); (try clear hk); (try clear hi); (try clear ho0); obtain ⟨Ao49, co49, eo49⟩ := Kd.R_slice HO333.out; subst eo49) | ((with_reducible refine gate_callee (f := 40) rfl ?_); refine goesL_ (some 77) rfl rfl Tryz.func40 kr_ rfl #[.slice Ao46 t306.length co46, .slice Ao49 t331.length co49] rfl lm_ ?_; (with_reducible refine (spec_NatMul.calls k1 _ _ t306 _ _ t331 t334 _ ?side1 ?side2 ?side3 ?side4 A38.out).mono ?_); (case side1 => exact cr_ (Kd.V_reads' HO_10.out).2.2); (case side2 => exact (Kd.V_reads' HO_10.out).2.1); (case side3 => exact cr_ (Kd.R_reads' HO333.out).2.2); (case side4 => exact (Kd.R_reads' HO333.out).2.1); rintro e w50 ⟨v335, rfl, ho0, hb⟩; refine ⟨_, rfl, ?_⟩; have n0_ := Aside0.mk (Kd.R_below (rr_ HO_4.out) hb); have n1_ := Aside0.mk (Kd.V_below (vr_ HO_5.out) hb); have n2_ := Aside0.mk (Kd.R_below (rr_ HO_8.out) hb); have n3_ := Aside0.mk (Kd.V_below (vr_ HO_9.out) hb); have n4_ := Aside0.mk (Kd.V_below (vr_ HO_10.out) hb); have n5_ := Aside0.mk (Kd.R_below (rr_ HO326.out) hb); have n6_ := Aside0.mk (Kd.V_below (vr_ HO329.out) hb); have n7_ := Aside0.mk (Kd.R_below (rr_ HO333.out) hb); have n8_ := Aside0.mk (Kd.V_lower (Kd.V_mono (ok' := fun k_ => (w.heap.size ≤ k_) ∧ some k_ ≠ (v310 : Value).ownBlock ∧ some k_ ≠ (.slice Ao25 y300.length co25 : Value).ownBlock ∧ some k_ ≠ (.slice Ao43 y324.length co43 : Value).ownBlock ∧ some k_ ≠ (.slice Ao49 t331.length co49 : Value).ownBlock) ho0 (fun k_ hk_ => ⟨(Nat.le_trans (below_size bel_) hk_), (Kd.fresh' (Kd.R_lt (rr_ HO_4.out)) k_ hk_), (Kd.fresh' (Kd.R_lt (rr_ HO_8.out)) k_ hk_), (Kd.fresh' (Kd.R_lt (rr_ HO326.out)) k_ hk_), (Kd.fresh' (Kd.R_lt (rr_ HO333.out)) k_ hk_)⟩)) (below_size bel_)); have n9_ := Aside0.mk (below_step bel_ hb); clear HO_4; clear HO_5; clear HO_8; clear HO_9; clear HO_10; clear HO326; clear HO329; clear HO333; clear HB; have HO_4 := n0_; have HO_5 := n1_; have HO_8 := n2_; have HO_9 := n3_; have HO_10 := n4_; have HO326 := n5_; have HO329 := n6_; have HO333 := n7_; have HO336 := n8_; have HB := n9_; clear n0_ n1_ n2_ n3_ n4_ n5_ n6_ n7_ n8_ n9_; (try clear hb); (try clear hb2); (try clear hk); (try clear hi); (try clear ho0)))
              go_loopg [12, 13] k1 (fun kq v12 v13 w' => ∃ (x12_2 : Int) (x13_2 : List Int), v12 = .int .u64 x12_2 ∧ Aside0 (spec_NatDiv.l1 kq x4_1 t327 y300 t303 t306 x11_1 x12_2 x13_2 = some (r1, r2)) ∧ Aside0 (kq ≤ k1) ∧ Aside0 (Kd.R (Kd.int .u32) 80 w' w.heap.size (fun k_ => (w.heap.size ≤ k_) ∧ some k_ ≠ ((.slice Ao25 y300.length co25) : Value).ownBlock) v310 x4_1) ∧ Aside0 (Kd.V (Kd.int .u32) 80 w' w.heap.size (fun k_ => (w.heap.size ≤ k_) ∧ some k_ ≠ (v310 : Value).ownBlock ∧ some k_ ≠ ((.slice Ao25 y300.length co25) : Value).ownBlock) (.slice Ao45 t327.length co45) t327) ∧ Aside0 (Kd.R (Kd.int .u32) 80 w' w.heap.size (fun k_ => (w.heap.size ≤ k_) ∧ some k_ ≠ (v310 : Value).ownBlock) (.slice Ao25 y300.length co25) y300) ∧ Aside0 (Kd.V (Kd.int .u32) 80 w' w.heap.size (fun k_ => (w.heap.size ≤ k_) ∧ some k_ ≠ (v310 : Value).ownBlock ∧ some k_ ≠ ((.slice Ao25 y300.length co25) : Value).ownBlock) (.slice (some ad320) t303.length co28) t303) ∧ Aside0 (Kd.V (Kd.int .u32) 80 w' w.heap.size (fun k_ => (w.heap.size ≤ k_) ∧ some k_ ≠ (v310 : Value).ownBlock ∧ some k_ ≠ ((.slice Ao25 y300.length co25) : Value).ownBlock) (.slice Ao46 t306.length co46) t306) ∧ Aside0 (Kd.V (Kd.int .u32) 80 w' w.heap.size (fun k_ => (w.heap.size ≤ k_) ∧ some k_ ≠ (v310 : Value).ownBlock ∧ some k_ ≠ ((.slice Ao25 y300.length co25) : Value).ownBlock) v13 x13_2) ∧ Aside0 (Below w.heap.size w w'))
              case atStart => exact ⟨(t330), (t334), sd_, H', ⟨Nat.le_refl _⟩, ⟨by (with_reducible repeat (first | apply Kd.R_alloc | apply Kd.R_drewN | apply Kd.R_drew)); exact Kd.R_mono HO_4.out (fun _ hk => ⟨hk.1.1.1, hk.1.1.2⟩)⟩, ⟨by (with_reducible repeat (first | apply Kd.V_alloc | apply Kd.V_drewN | apply Kd.V_drew)); exact Kd.V_mono HO329.out (fun _ hk => ⟨hk.1.1, ⟨hk.1.2.1, hk.1.2.2⟩⟩)⟩, ⟨by (with_reducible repeat (first | apply Kd.R_alloc | apply Kd.R_drewN | apply Kd.R_drew)); exact Kd.R_mono HO_8.out (fun _ hk => ⟨hk.1.1.1, hk.1.1.2⟩)⟩, ⟨by (with_reducible repeat (first | apply Kd.V_alloc | apply Kd.V_drewN | apply Kd.V_drew)); exact Kd.V_mono HO_9.out (fun _ hk => ⟨hk.1.1.1, ⟨hk.1.1.2.1, hk.1.1.2.2⟩⟩)⟩, ⟨by (with_reducible repeat (first | apply Kd.V_alloc | apply Kd.V_drewN | apply Kd.V_drew)); exact Kd.V_mono HO_10.out (fun _ hk => ⟨hk.1.1.1, ⟨hk.1.1.2.1, hk.1.1.2.2⟩⟩)⟩, ⟨by (with_reducible repeat (first | apply Kd.V_alloc | apply Kd.V_drewN | apply Kd.V_drew)); exact Kd.V_mono HO336.out (fun _ hk => ⟨hk.1, ⟨hk.2.1, hk.2.2.1⟩⟩)⟩, ⟨bel_⟩⟩
              case round =>
               clear H'
               try clear c1
               try clear c2
               try clear p2
               try clear q2
               try clear hx2
               try clear qi2
               try clear c3
               try clear p3
               try clear q3
               try clear hx3
               try clear c4
               try clear c4b0
               try clear c5
               try clear c6
               try clear p6
               try clear c7
               try clear c9
               try clear c9b0
               try clear c9b1
               try clear c10
               try clear c10b0
               try clear c10b1
               try clear c16
               try clear c16b0
               try clear c17
               try clear c17b0
               try clear c18
               try clear c18b0
               try clear c18b1
               try clear c21
               try clear c21b0
               try clear c21b1
               try clear c22
               try clear c22b0
               try clear c22b1
               try clear p29
               try clear q29
               try clear hx29
               try clear qi29
               try clear c31
               try clear c31b0
               try clear c32
               try clear c32b0
               try clear p32
               try clear q32
               try clear hx32
               try clear c33
               try clear c33b0
               try clear c34
               try clear c38
               try clear c40
               try clear c43
               try clear c45
               try clear hx291_0
               try clear hx299_0
               try clear hx320_0
               try clear p2
               try clear p29
               try clear p291
               try clear p299
               try clear p320
               try clear p6
               try clear q2
               try clear q29
               try clear q291
               try clear q299
               try clear q320
               obtain ⟨x12_2, x13_2, rfl, HA, HK2, HO_4, HO_5, HO_8, HO_9, HO_10, HO_13, HB⟩ := hrel
               cases gk with
               | zero => exact absurd HA.out (by simp [spec_NatDiv.l1])
               | succ k2 =>
                have H := HA.out
                clear HA
                simp only [spec_NatDiv.l1] at H
                replace H := Option.bind_eq_some_iff.mp H
                obtain ⟨t337, A510, H⟩ := H
                replace H : (if t337 > 0 then ((spec_NatSub.f k2 x13_2 t306).bind fun t338 => (spec_NatDiv.l1 k2 x4_1 t327 y300 t303 t306 x11_1 (IntKind.u64.wrap (x12_2 - 1)) t338)) else ((spec_NatSub.f k2 t327 x13_2).bind fun t341 => (if 0 ≤ x11_1 then (if x11_1 < (x4_1.length : Int) then (spec_NatDiv.l0 k2 (x4_1.set (x11_1 : Int).toNat ((x12_2) % 4294967296)) t341 y300 t303 t306 (wrap64 (x11_1 - 1))) else (none)) else (none)))) = some (r1, r2) := H
                have A51 := Aside0.mk A510
                clear A510
                by_cases c52 : t337 > 0
                ·rw [if_pos c52] at H
                 have c52b0 : decide (0 < t337) = true := decide_eq_true c52
                 clear c52
                 replace H := Option.bind_eq_some_iff.mp H
                 obtain ⟨t338, A530, H⟩ := H
                 replace H : (spec_NatDiv.l1 k2 x4_1 t327 y300 t303 t306 x11_1 (IntKind.u64.wrap (x12_2 - 1)) t338) = some (r1, r2) := H
                 have A53 := Aside0.mk A530
                 clear A530
                 have H' := Aside0.mk H
                 clear H
                 obtain ⟨Ao54, co54, eo54⟩ := Kd.V_slice HO_13.out
                 subst eo54
                 go_wp2_with (first | ((with_reducible refine gate_callee (f := 45) rfl ?_); refine goesL_ (some 80) rfl rfl Tryz.func45 kr_ rfl #[.slice Ao54 x13_2.length co54, .slice Ao45 t327.length co45] rfl lm_ ?_; (with_reducible refine (spec_NatCmp.calls k2 _ _ x13_2 _ _ t327 t337 _ ?side1 ?side2 ?side3 ?side4 A51.out).mono ?_); (case side1 => exact cr_ (Kd.V_reads' HO_13.out).2.2); (case side2 => exact (Kd.V_reads' HO_13.out).2.1); (case side3 => exact cr_ (Kd.V_reads' HO_5.out).2.2); (case side4 => exact (Kd.V_reads' HO_5.out).2.1); rintro e w' ⟨rfl, ⟨nd, rfl⟩⟩; refine ⟨_, rfl, ?_⟩) | ((with_reducible refine gate_callee (f := 71) rfl ?_); refine goesL_ (some 86) rfl rfl Tryz.func71 kr_ rfl #[.slice Ao54 x13_2.length co54, .slice Ao46 t306.length co46] rfl lm_ ?_; (with_reducible refine (spec_NatSub.calls k2 _ _ x13_2 _ _ t306 t338 _ ?side1 ?side2 ?side3 ?side4 A53.out).mono ?_); (case side1 => exact cr_ (Kd.V_reads' HO_13.out).2.2); (case side2 => exact (Kd.V_reads' HO_13.out).2.1); (case side3 => exact cr_ (Kd.V_reads' HO_10.out).2.2); (case side4 => exact (Kd.V_reads' HO_10.out).2.1); rintro e w55 ⟨v339, rfl, ho0, hb⟩; refine ⟨_, rfl, ?_⟩; have n0_ := Aside0.mk (Kd.R_below (rr_ HO_4.out) hb); have n1_ := Aside0.mk (Kd.V_below (vr_ HO_5.out) hb); have n2_ := Aside0.mk (Kd.R_below (rr_ HO_8.out) hb); have n3_ := Aside0.mk (Kd.V_below (vr_ HO_9.out) hb); have n4_ := Aside0.mk (Kd.V_below (vr_ HO_10.out) hb); have n5_ := Aside0.mk (Kd.V_below (vr_ HO_13.out) hb); have n6_ := Aside0.mk (Kd.V_lower (Kd.V_mono (ok' := fun k_ => (w.heap.size ≤ k_) ∧ some k_ ≠ (v310 : Value).ownBlock ∧ some k_ ≠ (.slice Ao25 y300.length co25 : Value).ownBlock) ho0 (fun k_ hk_ => ⟨(Nat.le_trans (below_size bel_) hk_), (Kd.fresh' (Kd.R_lt (rr_ HO_4.out)) k_ hk_), (Kd.fresh' (Kd.R_lt (rr_ HO_8.out)) k_ hk_)⟩)) (below_size bel_)); have n7_ := Aside0.mk (below_step bel_ hb); clear HO_4; clear HO_5; clear HO_8; clear HO_9; clear HO_10; clear HO_13; clear HB; have HO_4 := n0_; have HO_5 := n1_; have HO_8 := n2_; have HO_9 := n3_; have HO_10 := n4_; have HO_13 := n5_; have HO340 := n6_; have HB := n7_; clear n0_ n1_ n2_ n3_ n4_ n5_ n6_ n7_; (try clear hb); (try clear hb2); (try clear hk); (try clear hi); (try clear ho0)))
                 go_roundg k2
                 case measure => have := HK1.out; have := HK2.out; omega
                 case rel => exact ⟨(IntKind.u64.wrap (x12_2 - 1)), (t338), sd_, H', ⟨by have := HK1.out; have := HK2.out; omega⟩, ⟨by (with_reducible repeat (first | apply Kd.R_alloc | apply Kd.R_drewN | apply Kd.R_drew)); exact HO_4.out⟩, ⟨by (with_reducible repeat (first | apply Kd.V_alloc | apply Kd.V_drewN | apply Kd.V_drew)); exact HO_5.out⟩, ⟨by (with_reducible repeat (first | apply Kd.R_alloc | apply Kd.R_drewN | apply Kd.R_drew)); exact HO_8.out⟩, ⟨by (with_reducible repeat (first | apply Kd.V_alloc | apply Kd.V_drewN | apply Kd.V_drew)); exact HO_9.out⟩, ⟨by (with_reducible repeat (first | apply Kd.V_alloc | apply Kd.V_drewN | apply Kd.V_drew)); exact HO_10.out⟩, ⟨by (with_reducible repeat (first | apply Kd.V_alloc | apply Kd.V_drewN | apply Kd.V_drew)); exact HO340.out⟩, ⟨bel_⟩⟩
                ·rw [if_neg c52] at H
                 have c52b0 : decide (0 < t337) = false := decide_eq_false c52
                 clear c52
                 replace H := Option.bind_eq_some_iff.mp H
                 obtain ⟨t341, A560, H⟩ := H
                 replace H : (if 0 ≤ x11_1 then (if x11_1 < (x4_1.length : Int) then (spec_NatDiv.l0 k2 (x4_1.set (x11_1 : Int).toNat ((x12_2) % 4294967296)) t341 y300 t303 t306 (wrap64 (x11_1 - 1))) else (none)) else (none)) = some (r1, r2) := H
                 have A56 := Aside0.mk A560
                 clear A560
                 by_cases c57 : 0 ≤ x11_1
                 ·rw [if_pos c57] at H
                  have c57b0 : decide (0 ≤ x11_1) = true := decide_eq_true c57
                  clear c57
                  by_cases c58 : x11_1 < (x4_1.length : Int)
                  ·rw [if_pos c58] at H
                   have c58b0 : decide (x11_1 < (x4_1.length : Int)) = true := decide_eq_true c58
                   clear c58
                   obtain ⟨y344, hy344⟩ : ∃ y_ : List Int, y_ = (x4_1.set (x11_1 : Int).toNat ((x12_2) % 4294967296)) := ⟨_, rfl⟩
                   replace H : (spec_NatDiv.l0 k2 y344 t341 y300 t303 t306 (wrap64 (x11_1 - 1))) = some (r1, r2) := fo_ hy344 H
                   have Ny344 := Aside0.mk hy344
                   clear hy344
                   have H' := Aside0.mk H
                   clear H
                   obtain ⟨Ao60, co60, eo60⟩ := Kd.V_slice HO_13.out
                   subst eo60
                   go_wp2_with (first | ((with_reducible refine gate_callee (f := 45) rfl ?_); refine goesL_ (some 80) rfl rfl Tryz.func45 kr_ rfl #[.slice Ao60 x13_2.length co60, .slice Ao45 t327.length co45] rfl lm_ ?_; (with_reducible refine (spec_NatCmp.calls k2 _ _ x13_2 _ _ t327 t337 _ ?side1 ?side2 ?side3 ?side4 A51.out).mono ?_); (case side1 => exact cr_ (Kd.V_reads' HO_13.out).2.2); (case side2 => exact (Kd.V_reads' HO_13.out).2.1); (case side3 => exact cr_ (Kd.V_reads' HO_5.out).2.2); (case side4 => exact (Kd.V_reads' HO_5.out).2.1); rintro e w' ⟨rfl, ⟨nd, rfl⟩⟩; refine ⟨_, rfl, ?_⟩; (try (rw [drewN_self wr]; generalize hq_ : World.drewN wr _ = wr; have n0_ : Aside0 (Kd.V (Kd.int .u32) 80 wr w.heap.size (fun k_ => (w.heap.size ≤ k_) ∧ some k_ ≠ (v310 : Value).ownBlock ∧ some k_ ≠ (.slice Ao25 y300.length co25 : Value).ownBlock) (.slice Ao46 t306.length co46) t306) := ⟨by rw [← hq_]; exact (vr_ HO_10.out)⟩; have n1_ : Aside0 (Kd.V (Kd.int .u32) 80 wr w.heap.size (fun k_ => (w.heap.size ≤ k_) ∧ some k_ ≠ (v310 : Value).ownBlock ∧ some k_ ≠ (.slice Ao25 y300.length co25 : Value).ownBlock) (.slice Ao60 x13_2.length co60) x13_2) := ⟨by rw [← hq_]; exact (vr_ HO_13.out)⟩; have n2_ : Aside0 (Kd.R (Kd.int .u32) 80 wr w.heap.size (fun k_ => (w.heap.size ≤ k_) ∧ some k_ ≠ (.slice Ao25 y300.length co25 : Value).ownBlock) v310 x4_1) := ⟨by rw [← hq_]; exact (rr_ HO_4.out)⟩; have n3_ : Aside0 (Kd.V (Kd.int .u32) 80 wr w.heap.size (fun k_ => (w.heap.size ≤ k_) ∧ some k_ ≠ (v310 : Value).ownBlock ∧ some k_ ≠ (.slice Ao25 y300.length co25 : Value).ownBlock) (.slice Ao45 t327.length co45) t327) := ⟨by rw [← hq_]; exact (vr_ HO_5.out)⟩; have n4_ : Aside0 (Kd.R (Kd.int .u32) 80 wr w.heap.size (fun k_ => (w.heap.size ≤ k_) ∧ some k_ ≠ (v310 : Value).ownBlock) (.slice Ao25 y300.length co25) y300) := ⟨by rw [← hq_]; exact (rr_ HO_8.out)⟩; have n5_ : Aside0 (Kd.V (Kd.int .u32) 80 wr w.heap.size (fun k_ => (w.heap.size ≤ k_) ∧ some k_ ≠ (v310 : Value).ownBlock ∧ some k_ ≠ (.slice Ao25 y300.length co25 : Value).ownBlock) (.slice (some ad320) t303.length co28) t303) := ⟨by rw [← hq_]; exact (vr_ HO_9.out)⟩; have n6_ : Aside0 (Below w.heap.size w wr) := ⟨by rw [← hq_]; exact bel_⟩; clear HO_10 HO_13 HO_4 HO_5 HO_8 HO_9 HB hq_; have HO_10 := n0_; have HO_13 := n1_; have HO_4 := n2_; have HO_5 := n3_; have HO_8 := n4_; have HO_9 := n5_; have HB := n6_; clear n0_ n1_ n2_ n3_ n4_ n5_ n6_))) | ((with_reducible refine gate_callee (f := 71) rfl ?_); refine goesL_ (some 91) rfl rfl Tryz.func71 kr_ rfl #[.slice Ao45 t327.length co45, .slice Ao60 x13_2.length co60] rfl lm_ ?_; (with_reducible refine (spec_NatSub.calls k2 _ _ t327 _ _ x13_2 t341 _ ?side1 ?side2 ?side3 ?side4 A56.out).mono ?_); (case side1 => exact cr_ (Kd.V_reads' HO_5.out).2.2); (case side2 => exact (Kd.V_reads' HO_5.out).2.1); (case side3 => exact cr_ (Kd.V_reads' HO_13.out).2.2); (case side4 => exact (Kd.V_reads' HO_13.out).2.1); rintro e w61 ⟨v342, rfl, ho0, hb⟩; refine ⟨_, rfl, ?_⟩; have n0_ := Aside0.mk (Kd.R_below (rr_ HO_4.out) hb); have n1_ := Aside0.mk (Kd.V_below (vr_ HO_5.out) hb); have n2_ := Aside0.mk (Kd.R_below (rr_ HO_8.out) hb); have n3_ := Aside0.mk (Kd.V_below (vr_ HO_9.out) hb); have n4_ := Aside0.mk (Kd.V_below (vr_ HO_10.out) hb); have n5_ := Aside0.mk (Kd.V_below (vr_ HO_13.out) hb); have n6_ := Aside0.mk (Kd.V_lower (Kd.V_mono (ok' := fun k_ => (w.heap.size ≤ k_) ∧ some k_ ≠ (v310 : Value).ownBlock ∧ some k_ ≠ (.slice Ao25 y300.length co25 : Value).ownBlock) ho0 (fun k_ hk_ => ⟨(Nat.le_trans (below_size bel_) hk_), (Kd.fresh' (Kd.R_lt (rr_ HO_4.out)) k_ hk_), (Kd.fresh' (Kd.R_lt (rr_ HO_8.out)) k_ hk_)⟩)) (below_size bel_)); have n7_ := Aside0.mk (below_step bel_ hb); clear HO_4; clear HO_5; clear HO_8; clear HO_9; clear HO_10; clear HO_13; clear HB; have HO_4 := n0_; have HO_5 := n1_; have HO_8 := n2_; have HO_9 := n3_; have HO_10 := n4_; have HO_13 := n5_; have HO343 := n6_; have HB := n7_; clear n0_ n1_ n2_ n3_ n4_ n5_ n6_ n7_; (try clear hb); (try clear hb2); (try clear hk); (try clear hi); (try clear ho0); have p59 : 0 ≤ (x11_1 : Int) := ode_; have q59 : (x11_1 : Int) < ((x4_1.length : Int) : Int) := ode_; obtain ⟨go59, co59, eo59, gb59, gl59, cl59, HG59⟩ := Kd.R_form HO_4.out (by omega); (first | cases eo59 | (injection eo59 with ea_ en_ ec_; (first | subst ea_ | (injection ea_ with ea_; subst ea_)); subst ec_; clear en_)); have GB59 := Aside0.mk gb59; have GG59 := Aside0.mk HG59; clear gb59 gl59 HG59; obtain ⟨hx59_0, hf59_0⟩ := Kd.R_celln 0 HO_4.out (x11_1 : Int) p59 q59; replace p59 := eq_true p59; replace q59 := eq_true q59; obtain ⟨hy62_, hz62_⟩ := Kd.R_celln 0 HO_4.out (x11_1 : Int) ode_ ode_; have HP62 := Kd.R_putg HO_4.out (x11_1 : Int) ((x12_2) % 4294967296)) | ((with_reducible refine gate_store (t := 80) (p := 94) rfl ?_); refine store_event (t := 80) (p := 94) (v := ?vo_w63) (w1 := (w61.setCell ⟨go59, (x11_1 : Int).toNat, none⟩ (.int .u32 ((x12_2) % 4294967296)))) ?hg ?ho ?hn ?hr ?_; (case ho => rfl); (case hg => rfl); (case hn => rfl); (case hr => first | (go_simp; done) | (go_simp; rfl)); intro w63 hw; have hg : w61.grownBy w63 (some go59) := (by rw [hw]; exact HP62.2); have hp_ : Kd.R (Kd.int .u32) 80 w63 w.heap.size (fun k_ => (w.heap.size ≤ k_) ∧ some k_ ≠ (.slice Ao25 y300.length co25 : Value).ownBlock) (.slice (some ⟨go59, 0, none⟩) x4_1.length co59) y344 := (by rw [hw, Ny344.out]; exact HP62.1); clear HP62; have n0_ := Aside0.mk (hp_); have n1_ := Aside0.mk (Kd.V_afterv (v := (.slice (some ⟨go59, 0, none⟩) x4_1.length co59)) (v1 := (.slice (some ⟨go59, 0, none⟩) x4_1.length co59)) (ok := (fun k_ => (w.heap.size ≤ k_) ∧ some k_ ≠ (.slice Ao25 y300.length co25 : Value).ownBlock)) (by (with_reducible repeat (first | apply Kd.V_alloc | apply Kd.V_drewN | apply Kd.V_drew)); exact Kd.V_mono HO_5.out (fun _ hk => ⟨⟨hk.1, hk.2.2⟩, hk.2.1⟩)) hg (.inl rfl)); have n2_ := Aside0.mk (Kd.R_after (v := (.slice (some ⟨go59, 0, none⟩) x4_1.length co59)) (v1 := (.slice (some ⟨go59, 0, none⟩) x4_1.length co59)) (ok := (fun k_ => (w.heap.size ≤ k_))) (rr_ HO_8.out) hg (.inl rfl)); have n3_ := Aside0.mk (Kd.V_afterv (v := (.slice (some ⟨go59, 0, none⟩) x4_1.length co59)) (v1 := (.slice (some ⟨go59, 0, none⟩) x4_1.length co59)) (ok := (fun k_ => (w.heap.size ≤ k_) ∧ some k_ ≠ (.slice Ao25 y300.length co25 : Value).ownBlock)) (by (with_reducible repeat (first | apply Kd.V_alloc | apply Kd.V_drewN | apply Kd.V_drew)); exact Kd.V_mono HO_9.out (fun _ hk => ⟨⟨hk.1, hk.2.2⟩, hk.2.1⟩)) hg (.inl rfl)); have n4_ := Aside0.mk (Kd.V_afterv (v := (.slice (some ⟨go59, 0, none⟩) x4_1.length co59)) (v1 := (.slice (some ⟨go59, 0, none⟩) x4_1.length co59)) (ok := (fun k_ => (w.heap.size ≤ k_) ∧ some k_ ≠ (.slice Ao25 y300.length co25 : Value).ownBlock)) (by (with_reducible repeat (first | apply Kd.V_alloc | apply Kd.V_drewN | apply Kd.V_drew)); exact Kd.V_mono HO_10.out (fun _ hk => ⟨⟨hk.1, hk.2.2⟩, hk.2.1⟩)) hg (.inl rfl)); have n5_ := Aside0.mk (Kd.V_afterv (v := (.slice (some ⟨go59, 0, none⟩) x4_1.length co59)) (v1 := (.slice (some ⟨go59, 0, none⟩) x4_1.length co59)) (ok := (fun k_ => (w.heap.size ≤ k_) ∧ some k_ ≠ (.slice Ao25 y300.length co25 : Value).ownBlock)) (by (with_reducible repeat (first | apply Kd.V_alloc | apply Kd.V_drewN | apply Kd.V_drew)); exact Kd.V_mono HO_13.out (fun _ hk => ⟨⟨hk.1, hk.2.2⟩, hk.2.1⟩)) hg (.inl rfl)); have n6_ := Aside0.mk (Kd.V_afterv (v := (.slice (some ⟨go59, 0, none⟩) x4_1.length co59)) (v1 := (.slice (some ⟨go59, 0, none⟩) x4_1.length co59)) (ok := (fun k_ => (w.heap.size ≤ k_) ∧ some k_ ≠ (.slice Ao25 y300.length co25 : Value).ownBlock)) (by (with_reducible repeat (first | apply Kd.V_alloc | apply Kd.V_drewN | apply Kd.V_drew)); exact Kd.V_mono HO343.out (fun _ hk => ⟨⟨hk.1, hk.2.2⟩, hk.2.1⟩)) hg (.inl rfl)); have n7_ := Aside0.mk ((by rw [hw]; exact below_set (HB.out) GB59.out : Below w.heap.size w w63)); clear HO_4; clear HO_5; clear HO_8; clear HO_9; clear HO_10; clear HO_13; clear HO343; clear HB; have HO_4 := n0_; have HO_5 := n1_; have HO_8 := n2_; have HO_9 := n3_; have HO_10 := n4_; have HO_13 := n5_; have HO343 := n6_; have HB := n7_; clear n0_ n1_ n2_ n3_ n4_ n5_ n6_ n7_; clear hg hw hp_))
                   go_roundg k2
                   case measure => have := HK1.out; have := HK2.out; omega
                   case rel => exact ⟨(y344), (t341), (wrap64 (x11_1 - 1)), sd_, H', ⟨by have := HK1.out; have := HK2.out; omega⟩, ⟨by (with_reducible repeat (first | apply Kd.R_alloc | apply Kd.R_drewN | apply Kd.R_drew)); exact HO_4.out⟩, ⟨by (with_reducible repeat (first | apply Kd.V_alloc | apply Kd.V_drewN | apply Kd.V_drew)); exact Kd.V_mono HO343.out (fun _ hk => ⟨hk.1.1, ⟨hk.2, hk.1.2⟩⟩)⟩, ⟨by (with_reducible repeat (first | apply Kd.R_alloc | apply Kd.R_drewN | apply Kd.R_drew)); exact HO_8.out⟩, ⟨by (with_reducible repeat (first | apply Kd.V_alloc | apply Kd.V_drewN | apply Kd.V_drew)); exact Kd.V_mono HO_9.out (fun _ hk => ⟨hk.1.1, ⟨hk.2, hk.1.2⟩⟩)⟩, ⟨by (with_reducible repeat (first | apply Kd.V_alloc | apply Kd.V_drewN | apply Kd.V_drew)); exact Kd.V_mono HO_10.out (fun _ hk => ⟨hk.1.1, ⟨hk.2, hk.1.2⟩⟩)⟩, ⟨bel_⟩⟩
                  ·rw [if_neg c58] at H
                   exact absurd H (by simp)
                 ·rw [if_neg c57] at H
                  exact absurd H (by simp)
             ·rw [if_neg c34] at H
              exact absurd H (by simp)
            ·rw [if_neg c33] at H
             exact absurd H (by simp)
           ·rw [if_neg c32] at H
            exact absurd H (by simp)
          ·rw [if_neg c31] at H
           have c31b0 : decide (0 ≤ x11_1) = false := decide_eq_false c31
           clear c31
           by_cases c64 : 0 < (y300.length : Int)
           ·rw [if_pos c64] at H
            have c64b0 : decide (0 < (y300.length : Int)) = true := decide_eq_true c64
            have c64b1 : decide (0 < y300.length) = true := decide_eq_true (by omega)
            clear c64
            replace H := Option.bind_eq_some_iff.mp H
            obtain ⟨⟨t313, t316⟩, A650, H⟩ := H
            replace H : ((spec_natTrim.f k1 x4_1).bind fun t317 => (some (t317, t313))) = some (r1, r2) := H
            have A65 := Aside0.mk A650
            clear A650
            replace H := Option.bind_eq_some_iff.mp H
            obtain ⟨t317, A660, H⟩ := H
            replace H : (some (t317, t313)) = some (r1, r2) := H
            have A66 := Aside0.mk A660
            clear A660
            simp only [Option.some.injEq, Prod.mk.injEq] at H
            obtain ⟨rfl, rfl⟩ := H
            have p312 : 0 ≤ (0 : Int) := (by omega)
            have q312 : 0 < (y300.length : Int) := ode_
            obtain ⟨ad312, e312, hx312_0⟩ := Kd.at_int (Kd.R_reads' HO_8.out).2.2 0 p312 q312
            cases e312
            have qi312 : (0 < y300.length) = True := eq_true (by omega)
            (try rw [show ((0 : Int)).toNat = 0 from rfl] at hx312_0)
            (try rw [Addr.add_zero'] at hx312_0)
            replace p312 := eq_true p312
            replace q312 := eq_true q312
            obtain ⟨Ao67, co67, eo67⟩ := Kd.V_slice HO_5.out
            subst eo67
            go_wp2_with (first | ((with_reducible refine gate_callee (f := 38) rfl ?_); refine goesL_ (some 100) rfl rfl Tryz.func38 kr_ rfl #[.slice Ao67 x5_1.length co67, .int .u32 (rd y300 0)] rfl lm_ ?_; (with_reducible refine (spec_natShort.calls k1 _ _ x5_1 (rd y300 0) t313 t316 _ ?side1 ?side2 A65.out).mono ?_); (case side1 => exact cr_ (Kd.V_reads' HO_5.out).2.2); (case side2 => exact (Kd.V_reads' HO_5.out).2.1); rintro e w68 ⟨v314, rfl, ho0, hb⟩; refine ⟨_, rfl, ?_⟩; have n0_ := Aside0.mk (Kd.R_below (rr_ HO_4.out) hb); have n1_ := Aside0.mk (Kd.V_below (vr_ HO_5.out) hb); have n2_ := Aside0.mk (Kd.R_below (rr_ HO_8.out) hb); have n3_ := Aside0.mk (Kd.V_below (vr_ HO_9.out) hb); have n4_ := Aside0.mk (Kd.V_below (vr_ HO_10.out) hb); have n5_ := Aside0.mk (Kd.V_lower (Kd.V_mono (ok' := fun k_ => (w.heap.size ≤ k_) ∧ some k_ ≠ (v310 : Value).ownBlock ∧ some k_ ≠ (.slice (some ad312) y300.length co25 : Value).ownBlock) ho0 (fun k_ hk_ => ⟨(Nat.le_trans (below_size bel_) hk_), (Kd.fresh' (Kd.R_lt (rr_ HO_4.out)) k_ hk_), (Kd.fresh' (Kd.R_lt (rr_ HO_8.out)) k_ hk_)⟩)) (below_size bel_)); have n6_ := Aside0.mk (below_step bel_ hb); clear HO_4; clear HO_5; clear HO_8; clear HO_9; clear HO_10; clear HB; have HO_4 := n0_; have HO_5 := n1_; have HO_8 := n2_; have HO_9 := n3_; have HO_10 := n4_; have HO315 := n5_; have HB := n6_; clear n0_ n1_ n2_ n3_ n4_ n5_ n6_; (try clear hb); (try clear hb2); (try clear hk); (try clear hi); (try clear ho0); obtain ⟨Ao69, co69, eo69⟩ := Kd.R_slice HO_4.out; subst eo69) | ((with_reducible refine gate_callee (f := 69) rfl ?_); refine goesL_ (some 104) rfl rfl Tryz.func69 kr_ rfl #[.slice Ao69 x4_1.length co69] rfl lm_ ?_; (with_reducible refine (spec_natTrim.calls k1 (fun k_ => some k_ = (.slice Ao69 x4_1.length co69 : Value).ownBlock) _ _ x4_1 t317 _ ?side1 A66.out).mono ?_); (case side1 => exact Kd.R_V (Kd.R_tight rfl (HO_4.out))); rintro e w70 ⟨v318, rfl, ho0, hb⟩; refine ⟨_, rfl, ?_⟩; have n0_ := Aside0.mk (Kd.R_below (rr_ HO_4.out) hb); have n1_ := Aside0.mk (Kd.V_below (vr_ HO_5.out) hb); have n2_ := Aside0.mk (Kd.R_below (rr_ HO_8.out) hb); have n3_ := Aside0.mk (Kd.V_below (vr_ HO_9.out) hb); have n4_ := Aside0.mk (Kd.V_below (vr_ HO_10.out) hb); have n5_ := Aside0.mk (Kd.V_below (vr_ HO315.out) hb); have n6_ := Aside0.mk (Kd.V_lower (Kd.V_mono (ok' := fun k_ => (w.heap.size ≤ k_) ∧ some k_ ≠ (.slice (some ad312) y300.length co25 : Value).ownBlock) ho0 (fun k_ hk_ => ⟨Or.elim hk_ (fun hs_ => ((HO_4.out).1 k_ hs_.symm).1) (fun hn_ => (Nat.le_trans (below_size bel_) hn_)), Or.elim hk_ (fun hs_ => ((HO_4.out).1 k_ hs_.symm).2) (fun hn_ => (Kd.fresh' (Kd.R_lt (rr_ HO_8.out)) k_ hn_))⟩)) (below_size bel_)); have n7_ := Aside0.mk (below_step bel_ hb); clear HO_4; clear HO_5; clear HO_8; clear HO_9; clear HO_10; clear HO315; clear HB; have HO_4 := n0_; have HO_5 := n1_; have HO_8 := n2_; have HO_9 := n3_; have HO_10 := n4_; have HO315 := n5_; have HO319 := n6_; have HB := n7_; clear n0_ n1_ n2_ n3_ n4_ n5_ n6_ n7_; (try clear hb); (try clear hb2); (try clear hk); (try clear hi); (try clear ho0)))
            go_ret2
            exact ⟨_, _, by first | rfl | (simp [errW_none, errW_some] <;> rfl) | (simp only [← hji15]; first | rfl | (simp [errW_none, errW_some] <;> rfl)) | (simp [*, errW_none, errW_some] <;> rfl), by (with_reducible repeat (first | apply Kd.V_alloc | apply Kd.V_drewN | apply Kd.V_drew)); exact Kd.V_mono HO319.out (fun _ hk => hk.1), by (with_reducible repeat (first | apply Kd.V_alloc | apply Kd.V_drewN | apply Kd.V_drew)); exact Kd.V_mono HO315.out (fun _ hk => hk.1), bel_⟩
           ·rw [if_neg c64] at H
            exact absurd H (by simp)
       ·rw [if_neg c22] at H
        exact absurd H (by simp)
      ·rw [if_neg c21] at H
       exact absurd H (by simp)
    ·rw [if_neg c17] at H
     exact absurd H (by simp)
   ·rw [if_neg c16] at H
    exact absurd H (by simp)
end Go.Proofs.YtlbjjhecgceiaaaGreatDoor.PFnFixSubExact
