/- Part 16 of the proof. -/
import Derived.Test.YtlbjjhecgceiaaaGreatDoorP08
import Derived.Test.YtlbjjhecgceiaaaGreatDoorP15
namespace Go.Proofs.YtlbjjhecgceiaaaGreatDoor
open Go.RowKit Go.Proofs.YtlbjjhecgceiaaaGreatDoorW.PrintWords Go.Proofs.YtlbjjhecgceiaaaGreatDoorW.PrintLast Go.Proofs.YtlbjjhecgceiaaaGreatDoorW.PrintMore PFnFixSubExact
set_option linter.unusedVariables false
set_option linter.unusedSimpArgs false
theorem str_size (xs : List Int) : (strOfNums xs).size = xs.length := by simp [strOfNums, ByteArray.size]
theorem digs_div {x : Nat} (h : x ≠ 0) : digs x = digs (x / 10) + 1 := digs_pos h
theorem tdiv10 {x : Nat} (h : x < 1000000000) : Int.tdiv (x : Int) 10 % 4294967296 = ((x / 10 : Nat) : Int) := by rw [Int.tdiv_eq_ediv_of_nonneg (by omega)]; omega
theorem wr_pred' {n : Nat} (h : n ≤ 10000) (h1 : 0 < n) : wrap64 ((n : Int) - 1) = ((n - 1 : Nat) : Int) := by rw [w64 (by omega) (by omega)]; omega
theorem more_l2 {k m : Nat} (h : k ≤ m) {xs : List Int} {i j : Int} {r : ByteArray} (e : spec_Nat_String.l2 k xs i j = some r) : spec_Nat_String.l2 m xs i j = some r := by
 obtain ⟨d, rfl⟩ := Nat.exists_eq_add_of_le h
 clear h
 induction d with
 | zero => exact e
 | succ d ih => exact (spec_Nat_String.mono_l (k + d)).2.2 _ _ _ r ih
theorem str_l1_mid {xs : List Int} {n i : Nat} (hn : xs.length = n) (hi : i + 1 < n) (hnb : n ≤ 300) :
  ∀ (d c : Nat) (x : Nat) (out : List Int), c + d = 9 → x < 1000000000 → out.length + d ≤ 10000 →
   ∃ out', out'.length = out.length + d ∧ ∀ k, spec_Nat_String.l1 (k + d + 1) xs out (i : Int) (x : Int) (c : Int) xs (n : Int) (i : Int) = spec_Nat_String.l0 k xs out' xs (n : Int) ((i + 1 : Nat) : Int) := by
 intro d
 induction d with
 | zero =>
  intro c x out hc hx hl
  refine ⟨out, rfl, fun k => ?_⟩
  have f1 : ¬ (c : Int) < 9 := by omega
  have g1 : i ≤ 10000 := by omega
  conv => lhs; unfold spec_Nat_String.l1
  rw [if_neg f1, wr_succ g1]
 | succ d ih =>
  intro c x out hc hx hl
  obtain ⟨out', a1, a2⟩ := ih (c + 1) (x / 10) (out ++ [(48 + Int.tmod (x : Int) 10) % 256]) (by omega) (by omega) (by simp; omega)
  refine ⟨out', by rw [a1]; simp; omega, fun k => ?_⟩
  have f1 : (c : Int) < 9 := by omega
  have f2 : ((i + 1 : Nat) : Int) < (xs.length : Int) := by omega
  have f3 : out.length < 140737488355328 := by omega
  have g1 : c ≤ 10000 := by omega
  have g2 : i ≤ 10000 := by omega
  have e : k + (d + 1) + 1 = (k + d + 1) + 1 := by omega
  rw [e]
  conv => lhs; unfold spec_Nat_String.l1
  rw [if_pos f1]
  by_cases hx0 : (x : Int) > 0
  ·rw [if_pos hx0, if_pos f3, tdiv10 hx, wr_succ g1]
   exact a2 k
  ·rw [if_neg hx0, wr_succ g2, if_pos f2, if_pos f3, tdiv10 hx, wr_succ g1]
   exact a2 k
theorem str_l1_last {xs : List Int} {n i : Nat} (hn : xs.length = n) (hi : i + 1 = n) (hnb : n ≤ 300) :
  ∀ (d c : Nat) (x : Nat) (out : List Int), c + d = 9 → x < 10 ^ d → x < 1000000000 → out.length + d ≤ 10000 →
   ∃ out', out'.length = out.length + digs x ∧ ∀ k, spec_Nat_String.l1 (k + digs x + 1) xs out (i : Int) (x : Int) (c : Int) xs (n : Int) (i : Int) = spec_Nat_String.l0 k xs out' xs (n : Int) ((i + 1 : Nat) : Int) := by
 intro d
 induction d with
 | zero =>
  intro c x out hc hx hxb hl
  have hx0 : x = 0 := by simpa using hx
  subst hx0
  refine ⟨out, by rw [digs_zero]; rfl, fun k => ?_⟩
  have f1 : ¬ (c : Int) < 9 := by omega
  have g1 : i ≤ 10000 := by omega
  rw [digs_zero]
  conv => lhs; unfold spec_Nat_String.l1
  rw [if_neg f1, wr_succ g1]
 | succ d ih =>
  intro c x out hc hx hxb hl
  have f1 : (c : Int) < 9 := by omega
  have f2 : ¬ ((i + 1 : Nat) : Int) < (xs.length : Int) := by omega
  have f3 : out.length < 140737488355328 := by omega
  have g1 : c ≤ 10000 := by omega
  have g2 : i ≤ 10000 := by omega
  by_cases hx0 : x = 0
  ·subst hx0
   refine ⟨out, by rw [digs_zero]; rfl, fun k => ?_⟩
   have f4 : ¬ ((0 : Nat) : Int) > 0 := by omega
   rw [digs_zero]
   conv => lhs; unfold spec_Nat_String.l1
   rw [if_pos f1, if_neg f4, wr_succ g2, if_neg f2]
  ·have f4 : (x : Int) > 0 := by omega
   obtain ⟨out', a1, a2⟩ := ih (c + 1) (x / 10) (out ++ [(48 + Int.tmod (x : Int) 10) % 256]) (by omega) (by rw [Nat.pow_succ] at hx; omega) (by omega) (by simp; omega)
   have hdg := digs_div hx0
   refine ⟨out', by rw [a1, hdg]; simp; omega, fun k => ?_⟩
   have e : k + digs x + 1 = (k + digs (x / 10) + 1) + 1 := by omega
   rw [e]
   conv => lhs; unfold spec_Nat_String.l1
   rw [if_pos f1, if_pos f4, if_pos f3, tdiv10 hxb, wr_succ g1]
   exact a2 k
theorem str_l2 : ∀ (d : Nat) (xs : List Int) (i j : Nat), j < i + d → i ≤ j + 1 → j < xs.length → xs.length ≤ 3000 → ∀ k, d < k → ∃ r : ByteArray, spec_Nat_String.l2 k xs (i : Int) (j : Int) = some r ∧ r.size = xs.length := by
 intro d
 induction d with
 | zero =>
  intro xs i j h1 h2 h3 hb k hk
  obtain ⟨k, rfl⟩ : ∃ m, k = m + 1 := ⟨k - 1, by omega⟩
  have f1 : ¬ (i : Int) < (j : Int) := by omega
  exact ⟨strOfNums xs, by unfold spec_Nat_String.l2; rw [if_neg f1], str_size xs⟩
 | succ d ih =>
  intro xs i j h1 h2 h3 hb k hk
  obtain ⟨k, rfl⟩ : ∃ m, k = m + 1 := ⟨k - 1, by omega⟩
  by_cases hij : i < j
  ·obtain ⟨r, a1, a2⟩ := ih ((xs.set i (rd xs (j : Int))).set j (rd xs (i : Int))) (i + 1) (j - 1) (by omega) (by omega) (by simp; omega) (by simp; omega) k (by omega)
   have f1 : (i : Int) < (j : Int) := by omega
   have f2 : (0 : Int) ≤ (j : Int) := by omega
   have f3 : (j : Int) < (xs.length : Int) := by omega
   have f4 : (0 : Int) ≤ (i : Int) := by omega
   have f5 : (i : Int) < (xs.length : Int) := by omega
   have g1 : i ≤ 10000 := by omega
   have g2 : j ≤ 10000 := by omega
   have g3 : 0 < j := by omega
   refine ⟨r, ?_, by rw [a2]; simp⟩
   conv => lhs; unfold spec_Nat_String.l2
   rw [if_pos f1, if_pos f2, if_pos f3, if_pos f4, if_pos f5, wr_succ g1, wr_pred' g2 g3, Int.toNat_natCast, Int.toNat_natCast]
   exact a1
  ·have f1 : ¬ (i : Int) < (j : Int) := by omega
   exact ⟨strOfNums xs, by unfold spec_Nat_String.l2; rw [if_neg f1], str_size xs⟩
theorem str_l0 {xs : List Int} {n : Nat} (hn : xs.length = n) (hx : Lms xs) (hnb : n ≤ 200) :
  ∀ (d i : Nat) (out : List Int), i + d = n → out.length + 9 * d ≤ 3000 → (0 < d ∨ 0 < out.length) → 0 < digs (xs.getD (n - 1) 0).toNat →
   ∃ (K : Nat) (r : ByteArray), r.size = out.length + (if d = 0 then 0 else 9 * (d - 1) + digs (xs.getD (n - 1) 0).toNat) ∧ ∀ k, K ≤ k → spec_Nat_String.l0 k xs out xs (n : Int) (i : Int) = some r := by
 intro d
 induction d with
 | zero =>
  intro i out hi hl ho hlast
  obtain rfl : i = n := by omega
  have ho' : 0 < out.length := by omega
  obtain ⟨r, a1, a2⟩ := str_l2 out.length out 0 (out.length - 1) (by omega) (by omega) (by omega) (by omega) (out.length + 1) (by omega)
  refine ⟨out.length + 2, r, by rw [a2]; rfl, fun k hk => ?_⟩
  obtain ⟨k, rfl⟩ : ∃ m, k = m + 1 := ⟨k - 1, by omega⟩
  have f1 : ¬ (i : Int) < (i : Int) := by omega
  have f2 : ¬ (out.length : Int) = 0 := by omega
  have g1 : out.length ≤ 10000 := by omega
  obtain ⟨r', b1, b2⟩ := str_l2 out.length out 0 (out.length - 1) (by omega) (by omega) (by omega) (by omega) k (by omega)
  have e : r' = r := by
   have h1 := more_l2 (k := out.length + 1) (m := k) (by omega) a1
   rw [b1] at h1
   exact (Option.some.inj h1)
  conv => lhs; unfold spec_Nat_String.l0
  rw [if_neg f1, if_neg f2, wr_pred' g1 ho', ← e]
  exact b1
 | succ d ih =>
  intro i out hi hl ho hlast
  obtain ⟨hx0, hx1⟩ := hx.getD i
  obtain ⟨x, hxe⟩ : ∃ x : Nat, xs.getD i 0 = (x : Int) := ⟨(xs.getD i 0).toNat, by omega⟩
  have f1 : (i : Int) < (n : Int) := by omega
  have f2 : (0 : Int) ≤ (i : Int) := by omega
  have f3 : (i : Int) < (xs.length : Int) := by omega
  by_cases hlst : i + 1 = n
  ·obtain rfl : d = 0 := by omega
   have hxl : xs.getD (n - 1) 0 = (x : Int) := by rw [← hxe]; congr 1; omega
   have hdx : 0 < digs x := by rw [hxl] at hlast; exact hlast
   obtain ⟨out', a1, a2⟩ := str_l1_last hn hlst (by omega) 9 0 x out rfl (by omega) (by omega) (by omega)
   have hd9 : digs x ≤ 9 := digs_le.2 (by omega)
   obtain ⟨K, r, b1, b2⟩ := ih (i + 1) out' (by omega) (by omega) (.inr (by omega)) hlast
   refine ⟨K + digs x + 2, r, by rw [b1, a1, hxl]; simp, fun k hk => ?_⟩
   obtain ⟨k, rfl⟩ : ∃ m, k = (m + digs x + 1) + 1 := ⟨k - digs x - 2, by omega⟩
   have f4 : K ≤ k := by omega
   conv => lhs; unfold spec_Nat_String.l0
   rw [if_pos f1, if_pos f2, if_pos f3, rd_nat, hxe]
   exact (a2 k).trans (b2 k f4)
  ·obtain ⟨out', a1, a2⟩ := str_l1_mid hn (show i + 1 < n by omega) (by omega) 9 0 x out rfl (by omega) (by omega)
   obtain ⟨K, r, b1, b2⟩ := ih (i + 1) out' (by omega) (by omega) (.inr (by omega)) hlast
   refine ⟨K + 11, r, by rw [b1, a1, if_neg (by omega), if_neg (by omega)]; omega, fun k hk => ?_⟩
   obtain ⟨k, rfl⟩ : ∃ m, k = (m + 9 + 1) + 1 := ⟨k - 11, by omega⟩
   have f4 : K ≤ k := by omega
   conv => lhs; unfold spec_Nat_String.l0
   rw [if_pos f1, if_pos f2, if_pos f3, rd_nat, hxe]
   exact (a2 k).trans (b2 k f4)
theorem digits_law {xs : List Int} {a : Nat} (hx : IsN xs a) (ha : a < tn 1800) : ∃ K, ∀ k, K ≤ k → spec_Nat_Digits.f k xs = some ((digs a : Nat) : Int) := by
 have hl := hx.len ha
 by_cases h0 : a = 0
 ·subst h0
  have := hx.zero
  subst this
  refine ⟨0, fun k _ => ?_⟩
  unfold spec_Nat_Digits.f
  rw [if_pos (by simp), digs_zero]; rfl
 ·have hne : xs ≠ [] := fun e => h0 (hx.nil_iff.1 e)
  have hn0 : 0 < xs.length := List.length_pos_iff.2 hne
  obtain ⟨hy0, hy1⟩ := hx.lms.getD (xs.length - 1)
  have hyt := hx.trm.getD (i := xs.length - 1) (by omega)
  obtain ⟨y, hye⟩ : ∃ y : Nat, xs.getD (xs.length - 1) 0 = (y : Int) := ⟨(xs.getD (xs.length - 1) 0).toNat, by omega⟩
  have hyp : y ≠ 0 := by omega
  have hdy : digs y = digs (y / 10) + 1 := digs_pos hyp
  obtain ⟨K, r, a1, a2⟩ := str_l0 rfl hx.lms hl xs.length 0 [] (by omega) (by simp; omega) (.inl hn0) (by rw [hye, Int.toNat_natCast]; omega)
  rw [if_neg (by omega), hye, Int.toNat_natCast] at a1
  have hda : digs a = 9 * (xs.length - 1) + digs y := by
   have hsp := v9_take_succ xs (xs.length - 1) (by omega)
   rw [show xs.length - 1 + 1 = xs.length by omega, List.take_of_length_le (Nat.le_refl _), hx.val, hye] at hsp
   have h1 := v9_lt (hx.lms.take (xs.length - 1))
   have h2 := v9_nonneg (hx.lms.take (xs.length - 1))
   rw [List.length_take, Nat.min_eq_left (by omega)] at h1
   rw [p9_ten] at h1 hsp
   generalize v9 (xs.take (xs.length - 1)) = z at *
   obtain ⟨zn, rfl⟩ : ∃ zn : Nat, z = (zn : Int) := ⟨z.toNat, by omega⟩
   generalize hm : 9 * (xs.length - 1) = m at *
   have hsn : a = zn + 10 ^ m * y := by exact_mod_cast hsp
   have hzn : zn < 10 ^ m := by exact_mod_cast h1
   have hy2 := digs_le.1 (Nat.le_refl (digs y))
   have hy3 : 10 ^ (digs y - 1) ≤ y := digs_lt.1 (by omega)
   have e1 : digs a ≤ m + digs y := by
    rw [digs_le, hsn, Nat.pow_add]
    have := Nat.mul_le_mul_left (10 ^ m) (show y + 1 ≤ 10 ^ digs y by omega)
    rw [Nat.mul_add, Nat.mul_one] at this
    omega
   have e2 : m + (digs y - 1) < digs a := by
    rw [digs_lt, hsn, Nat.pow_add]
    have := Nat.mul_le_mul_left (10 ^ m) hy3
    omega
   omega
  refine ⟨K, fun k hk => ?_⟩
  have f1 : ¬ (xs.length : Int) = 0 := by omega
  unfold spec_Nat_Digits.f spec_Nat_String.f
  have e := a2 k hk
  rw [if_neg f1]
  have e' : spec_Nat_String.l0 k xs [] xs (xs.length : Int) 0 = some r := e
  rw [e', Option.bind_some, a1, hda]
  simp
theorem dig_byte {x : Nat} (h : x < 1000000000) : (48 + Int.tmod (x : Int) 10) % 256 = (48 + (x % 10 : Nat) : Int) := by rw [Int.tmod_eq_emod_of_nonneg (by omega)]; omega
theorem txt_l1_mid {xs : List Int} {n i : Nat} (hn : xs.length = n) (hi : i + 1 < n) (hnb : n ≤ 300) :
  ∀ (d c : Nat) (x : Nat) (out : List Int), c + d = 9 → x < 1000000000 → out.length + d ≤ 10000 →
   ∀ k, spec_Nat_String.l1 (k + d + 1) xs out (i : Int) (x : Int) (c : Int) xs (n : Int) (i : Int) = spec_Nat_String.l0 k xs (out ++ dk d x) xs (n : Int) ((i + 1 : Nat) : Int) := by
 intro d
 induction d with
 | zero =>
  intro c x out hc hx hl k
  have f1 : ¬ (c : Int) < 9 := by omega
  have g1 : i ≤ 10000 := by omega
  show _ = spec_Nat_String.l0 k xs (out ++ []) xs (n : Int) ((i + 1 : Nat) : Int)
  rw [List.append_nil]
  conv => lhs; unfold spec_Nat_String.l1
  rw [if_neg f1, wr_succ g1]
 | succ d ih =>
  intro c x out hc hx hl k
  have a2 := ih (c + 1) (x / 10) (out ++ [(48 + Int.tmod (x : Int) 10) % 256]) (by omega) (by omega) (by simp; omega) k
  have f1 : (c : Int) < 9 := by omega
  have f2 : ((i + 1 : Nat) : Int) < (xs.length : Int) := by omega
  have f3 : out.length < 140737488355328 := by omega
  have g1 : c ≤ 10000 := by omega
  have g2 : i ≤ 10000 := by omega
  have e2 : out ++ dk (d + 1) x = out ++ [(48 + Int.tmod (x : Int) 10) % 256] ++ dk d (x / 10) := by rw [dig_byte hx, List.append_assoc]; rfl
  rw [show k + (d + 1) + 1 = (k + d + 1) + 1 by omega, e2]
  conv => lhs; unfold spec_Nat_String.l1
  rw [if_pos f1]
  by_cases hx0 : (x : Int) > 0
  ·rw [if_pos hx0, if_pos f3, tdiv10 hx, wr_succ g1]
   exact a2
  ·rw [if_neg hx0, wr_succ g2, if_pos f2, if_pos f3, tdiv10 hx, wr_succ g1]
   exact a2
theorem txt_l1_last {xs : List Int} {n i : Nat} (hn : xs.length = n) (hi : i + 1 = n) (hnb : n ≤ 300) :
  ∀ (d c : Nat) (x : Nat) (out : List Int), c + d = 9 → x < 10 ^ d → x < 1000000000 → out.length + d ≤ 10000 →
   ∃ K, ∀ k, spec_Nat_String.l1 (k + K) xs out (i : Int) (x : Int) (c : Int) xs (n : Int) (i : Int) = spec_Nat_String.l0 k xs (out ++ db x) xs (n : Int) ((i + 1 : Nat) : Int) := by
 intro d
 induction d with
 | zero =>
  intro c x out hc hx hxb hl
  have hx0 : x = 0 := by simpa using hx
  subst hx0
  refine ⟨1, fun k => ?_⟩
  have f1 : ¬ (c : Int) < 9 := by omega
  have g1 : i ≤ 10000 := by omega
  rw [db_zero, List.append_nil]
  conv => lhs; unfold spec_Nat_String.l1
  rw [if_neg f1, wr_succ g1]
 | succ d ih =>
  intro c x out hc hx hxb hl
  have f1 : (c : Int) < 9 := by omega
  have f2 : ¬ ((i + 1 : Nat) : Int) < (xs.length : Int) := by omega
  have f3 : out.length < 140737488355328 := by omega
  have g1 : c ≤ 10000 := by omega
  have g2 : i ≤ 10000 := by omega
  by_cases hx0 : x = 0
  ·subst hx0
   refine ⟨1, fun k => ?_⟩
   have f4 : ¬ ((0 : Nat) : Int) > 0 := by omega
   rw [db_zero, List.append_nil]
   conv => lhs; unfold spec_Nat_String.l1
   rw [if_pos f1, if_neg f4, wr_succ g2, if_neg f2]
  ·have f4 : (x : Int) > 0 := by omega
   obtain ⟨K, a2⟩ := ih (c + 1) (x / 10) (out ++ [(48 + Int.tmod (x : Int) 10) % 256]) (by omega) (by rw [Nat.pow_succ] at hx; omega) (by omega) (by simp; omega)
   refine ⟨K + 1, fun k => ?_⟩
   have e2 : out ++ db x = out ++ [(48 + Int.tmod (x : Int) 10) % 256] ++ db (x / 10) := by rw [dig_byte hxb, db_pos hx0, List.append_assoc]; rfl
   rw [show k + (K + 1) = (k + K) + 1 by omega, e2]
   conv => lhs; unfold spec_Nat_String.l1
   rw [if_pos f1, if_pos f4, if_pos f3, tdiv10 hxb, wr_succ g1]
   exact a2 k
theorem rd_app {A B : List Int} {x : Int} : rd (A ++ x :: B) (A.length : Int) = x := by rw [rd_nat]; simp [List.getD]
theorem set_app {A B : List Int} {x y : Int} : (A ++ x :: B).set A.length y = A ++ y :: B := by simp
theorem txt_l2 : ∀ (d : Nat) (A M B : List Int), M.length ≤ d → A.length + M.length + B.length ≤ 5000 → ∀ k, d < k →
  spec_Nat_String.l2 k (A ++ (M ++ B)) (A.length : Int) ((A.length + M.length : Nat) - 1 : Int) = some (strOfNums (A ++ (M.reverse ++ B))) := by
 intro d
 induction d using Nat.strongRecOn with
 | ind d ih =>
  intro A M B hM hb k hk
  obtain ⟨k, rfl⟩ : ∃ m, k = m + 1 := ⟨k - 1, by omega⟩
  match M, hM, hb with
  | [], hM, hb =>
   have f1 : ¬ (A.length : Int) < ((A.length + ([] : List Int).length : Nat) - 1 : Int) := by simp; omega
   unfold spec_Nat_String.l2
   rw [if_neg f1]
   rfl
  | [a], hM, hb =>
   have f1 : ¬ (A.length : Int) < ((A.length + [a].length : Nat) - 1 : Int) := by simp
   unfold spec_Nat_String.l2
   rw [if_neg f1]
   rfl
  | a :: c :: R, hM, hb =>
   obtain ⟨M', b, hMb⟩ : ∃ M' b, c :: R = M' ++ [b] := ⟨(c :: R).dropLast, (c :: R).getLast (by simp), (List.dropLast_concat_getLast (by simp)).symm⟩
   rw [hMb] at hM hb ⊢
   simp only [List.length_cons, List.length_append, List.length_nil] at hM hb
   have e0 : A ++ (a :: (M' ++ [b]) ++ B) = A ++ a :: (M' ++ b :: B) := by simp
   have e1 : ((A.length + (a :: (M' ++ [b])).length : Nat) - 1 : Int) = ((A ++ a :: M').length : Int) := by simp; omega
   have e2 : A ++ a :: (M' ++ b :: B) = (A ++ a :: M') ++ b :: B := by simp
   have f1 : (A.length : Int) < ((A ++ a :: M').length : Int) := by simp; omega
   have f2 : (0 : Int) ≤ ((A ++ a :: M').length : Int) := by omega
   have f3 : ((A ++ a :: M').length : Int) < ((A ++ a :: (M' ++ b :: B)).length : Int) := by simp; omega
   have f4 : (0 : Int) ≤ (A.length : Int) := by omega
   have f5 : (A.length : Int) < ((A ++ a :: (M' ++ b :: B)).length : Int) := by simp; omega
   have g1 : A.length ≤ 10000 := by omega
   have g2 : (A ++ a :: M').length ≤ 10000 := by simp; omega
   have g3 : 0 < (A ++ a :: M').length := by simp; omega
   have r1 : rd (A ++ a :: (M' ++ b :: B)) (A.length : Int) = a := rd_app
   have r2 : rd (A ++ a :: (M' ++ b :: B)) ((A ++ a :: M').length : Int) = b := by rw [e2]; exact rd_app
   have s1 : ((A ++ a :: (M' ++ b :: B)).set A.length b).set (A ++ a :: M').length a = (A ++ [b]) ++ (M' ++ (a :: B)) := by
    rw [set_app]
    have : A ++ b :: (M' ++ b :: B) = (A ++ b :: M') ++ b :: B := by simp
    rw [this, show (A ++ a :: M').length = (A ++ b :: M').length by simp, set_app]
    simp
   have hh := ih (d - 2) (by omega) (A ++ [b]) M' (a :: B) (by omega) (by simp; omega) k (by omega)
   have e3 : (((A ++ [b]).length + M'.length : Nat) - 1 : Int) = (((A ++ a :: M').length - 1 : Nat) : Int) := by simp; omega
   have e4 : ((A ++ [b]).length : Int) = ((A.length + 1 : Nat) : Int) := by simp
   rw [e3, e4] at hh
   rw [e0, e1]
   conv => lhs; unfold spec_Nat_String.l2
   rw [if_pos f1, if_pos f2, if_pos f3, if_pos f4, if_pos f5, wr_succ g1, wr_pred' g2 g3, r1, r2, Int.toNat_natCast, Int.toNat_natCast, s1, hh]
   simp
def lb : List Int → List Int
 | [] => []
 | [x] => db x.toNat
 | x :: y :: r => dk 9 x.toNat ++ lb (y :: r)
theorem lb_val : ∀ (xs : List Int), Lms xs → Trm xs → lb xs = db (v9 xs).toNat
 | [], _, _ => by show [] = db (0 : Int).toNat; rw [show (0 : Int).toNat = 0 from rfl, db_zero]
 | [x], h, _ => by
  have e : v9 [x] = x := by show x + 1000000000 * 0 = x; omega
  rw [e]; rfl
 | x :: y :: r, h, ht => by
  have hx := h.head
  have ht2 : Trm (y :: r) := fun z zs e => ht z (x :: zs) (by rw [e]; rfl)
  have hn := v9_nonneg h.tail
  have hp : v9 (y :: r) ≠ 0 := fun e => by have := ht2.zero h.tail e; cases this
  have e : (v9 (x :: y :: r)).toNat = x.toNat + 1000000000 * (v9 (y :: r)).toNat := by
   show (x + 1000000000 * v9 (y :: r)).toNat = _
   omega
  show dk 9 x.toNat ++ lb (y :: r) = _
  have hq : (v9 (x :: y :: r)).toNat / 1000000000 = (v9 (y :: r)).toNat := by omega
  have hm : (v9 (x :: y :: r)).toNat % 1000000000 = x.toNat := by omega
  have h9 := db_nine (c := (v9 (x :: y :: r)).toNat) (by rw [hq]; omega)
  rw [hq, hm] at h9
  rw [lb_val (y :: r) h.tail ht2, h9]
theorem lb_drop {xs : List Int} {i : Nat} (hi : i + 1 < xs.length) : lb (xs.drop i) = dk 9 (xs.getD i 0).toNat ++ lb (xs.drop (i + 1)) := by
 have e1 : xs.drop i = xs.getD i 0 :: xs.drop (i + 1) := by rw [List.drop_eq_getElem_cons (by omega)]; simp [List.getD, List.getElem?_eq_getElem (show i < xs.length by omega)]
 rw [e1]
 have : xs.drop (i + 1) ≠ [] := by intro e; have := List.drop_eq_nil_iff.1 e; omega
 cases hd : xs.drop (i + 1) with
 | nil => exact absurd hd this
 | cons y r => rfl
theorem lb_last {xs : List Int} {i : Nat} (hi : i + 1 = xs.length) : lb (xs.drop i) = db (xs.getD i 0).toNat := by
 have e1 : xs.drop i = xs.getD i 0 :: xs.drop (i + 1) := by rw [List.drop_eq_getElem_cons (by omega)]; simp [List.getD, List.getElem?_eq_getElem (show i < xs.length by omega)]
 rw [e1, List.drop_of_length_le (by omega)]
 rfl
theorem txt_l0 {xs : List Int} {n : Nat} (hn : xs.length = n) (hx : Lms xs) (hnb : n ≤ 200) :
  ∀ (d i : Nat) (out : List Int), i + d = n → out.length + 9 * d ≤ 3000 → (out ++ lb (xs.drop i) ≠ []) →
   ∃ K, ∀ k, K ≤ k → spec_Nat_String.l0 k xs out xs (n : Int) (i : Int) = some (strOfNums (out ++ lb (xs.drop i)).reverse) := by
 intro d
 induction d with
 | zero =>
  intro i out hi hl ho
  obtain rfl : i = n := by omega
  have e : lb (xs.drop i) = [] := by rw [List.drop_of_length_le (by omega)]; rfl
  rw [e, List.append_nil] at ho ⊢
  have ho' : 0 < out.length := List.length_pos_iff.2 ho
  refine ⟨out.length + 3, fun k hk => ?_⟩
  obtain ⟨k, rfl⟩ : ∃ m, k = m + 1 := ⟨k - 1, by omega⟩
  have f1 : ¬ (i : Int) < (i : Int) := by omega
  have f2 : ¬ (out.length : Int) = 0 := by omega
  have g1 : out.length ≤ 10000 := by omega
  have h2 := txt_l2 out.length [] out [] (Nat.le_refl _) (by simp; omega) k (by omega)
  simp only [List.nil_append, List.append_nil, List.length_nil, Nat.zero_add] at h2
  have e2 : ((out.length : Nat) - 1 : Int) = ((out.length - 1 : Nat) : Int) := by omega
  rw [e2] at h2
  conv => lhs; unfold spec_Nat_String.l0
  rw [if_neg f1, if_neg f2, wr_pred' g1 ho']
  exact h2
 | succ d ih =>
  intro i out hi hl ho
  obtain ⟨hx0, hx1⟩ := hx.getD i
  obtain ⟨x, hxe⟩ : ∃ x : Nat, xs.getD i 0 = (x : Int) := ⟨(xs.getD i 0).toNat, by omega⟩
  have f1 : (i : Int) < (n : Int) := by omega
  have f2 : (0 : Int) ≤ (i : Int) := by omega
  have f3 : (i : Int) < (xs.length : Int) := by omega
  by_cases hlst : i + 1 = n
  ·obtain rfl : d = 0 := by omega
   obtain ⟨K1, a2⟩ := txt_l1_last hn hlst (by omega) 9 0 x out rfl (by omega) (by omega) (by omega)
   have hlb := lb_last (xs := xs) (i := i) (by omega)
   rw [hxe, Int.toNat_natCast] at hlb
   rw [hlb] at ho ⊢
   have hd1 : lb (xs.drop (i + 1)) = [] := by rw [List.drop_of_length_le (by omega)]; rfl
   have hdl : (db x).length ≤ 9 := (db_length _ _).2 (by omega)
   obtain ⟨K, b2⟩ := ih (i + 1) (out ++ db x) (by omega) (by simp; omega) (by rw [hd1, List.append_nil]; exact ho)
   rw [hd1, List.append_nil] at b2
   refine ⟨K + K1 + 1, fun k hk => ?_⟩
   obtain ⟨k, rfl⟩ : ∃ m, k = (m + K1) + 1 := ⟨k - K1 - 1, by omega⟩
   have f4 : K ≤ k := by omega
   conv => lhs; unfold spec_Nat_String.l0
   rw [if_pos f1, if_pos f2, if_pos f3, rd_nat, hxe]
   exact (a2 k).trans (b2 k f4)
  ·have a2 := txt_l1_mid hn (show i + 1 < n by omega) (by omega) 9 0 x out rfl (by omega) (by omega)
   have hlb := lb_drop (xs := xs) (i := i) (by omega)
   rw [hxe, Int.toNat_natCast] at hlb
   have e3 : out ++ lb (xs.drop i) = (out ++ dk 9 x) ++ lb (xs.drop (i + 1)) := by rw [hlb, List.append_assoc]
   rw [e3] at ho ⊢
   obtain ⟨K, b2⟩ := ih (i + 1) (out ++ dk 9 x) (by omega) (by rw [List.length_append, dk_len]; omega) ho
   refine ⟨K + 11, fun k hk => ?_⟩
   obtain ⟨k, rfl⟩ : ∃ m, k = (m + 9 + 1) + 1 := ⟨k - 11, by omega⟩
   have f4 : K ≤ k := by omega
   conv => lhs; unfold spec_Nat_String.l0
   rw [if_pos f1, if_pos f2, if_pos f3, rd_nat, hxe]
   exact (a2 k).trans (b2 k f4)
theorem string_law {xs : List Int} {a : Nat} (hx : IsN xs a) (ha : a < tn 1800) : ∃ K, ∀ k, K ≤ k → spec_Nat_String.f k xs = some (strOfNums (dtx a)) := by
 have hl := hx.len ha
 by_cases h0 : a = 0
 ·subst h0
  have := hx.zero
  subst this
  refine ⟨1, fun k hk => ?_⟩
  obtain ⟨k, rfl⟩ : ∃ m, k = m + 1 := ⟨k - 1, by omega⟩
  unfold spec_Nat_String.f
  conv => lhs; unfold spec_Nat_String.l0
  rw [if_neg (by simp), if_pos (by simp)]
  rfl
 ·have hne : xs ≠ [] := fun e => h0 (hx.nil_iff.1 e)
  have hv : (v9 xs).toNat = a := by rw [hx.val]; rfl
  have hlb : lb xs = db a := by rw [lb_val xs hx.lms hx.trm, hv]
  have hnn : ([] ++ lb (xs.drop 0)) ≠ [] := by rw [List.nil_append, List.drop_zero, hlb, db_pos h0]; simp
  obtain ⟨K, h⟩ := txt_l0 rfl hx.lms hl xs.length 0 [] (by omega) (by simp; omega) hnn
  rw [List.nil_append, List.drop_zero, hlb] at h
  refine ⟨K, fun k hk => ?_⟩
  unfold spec_Nat_String.f dtx
  rw [if_neg h0]
  exact h k hk
end Go.Proofs.YtlbjjhecgceiaaaGreatDoor
