/- Part 14 of the proof. -/
import Derived.Deep.CutRange
import Derived.Test.YthdkandofddohaaGreatDoorP13
namespace Go.Proofs.YthdkandofddohaaGreatDoor
open Go.RowKit
set_option linter.unusedVariables false
set_option linter.unusedSimpArgs false
set_option maxRecDepth 20000
structure Dig (a b c v1 v2 P Vl Dl V D : Int) : Prop where
 hP : 0 < P
 eV : V = (v1 * 18446744073709551616 + v2) * P + Vl
 eD : D = (a * 18446744073709551616 * 18446744073709551616 + b * 18446744073709551616 + c) * P + Dl
 hVl : 0 ≤ Vl
 hVl' : Vl < P
 hDl : 0 ≤ Dl
 hDl' : Dl < P
 wa : Wd a
 wb : Wd b
 wc : Wd c
 wv1 : Wd v1
 wv2 : Wd v2
 norm : 9223372036854775808 ≤ v1
 lt : D < V * 18446744073709551616
theorem Dig.vpos {a b c v1 v2 P Vl Dl V D : Int} (h : Dig a b c v1 v2 P Vl Dl V D) : 18446744073709551616 * P ≤ V ∧ 0 < V := by
 obtain ⟨hP, eV, eD, hVl, hVl', hDl, hDl', wa, wb, wc, wv1, wv2, norm, lt⟩ := h
 have : 18446744073709551616 * P ≤ (v1 * 18446744073709551616 + v2) * P := Int.mul_le_mul_of_nonneg_right (by have := wv2.1; omega) (by omega)
 exact ⟨by omega, by omega⟩
theorem Dig.dpos {a b c v1 v2 P Vl Dl V D : Int} (h : Dig a b c v1 v2 P Vl Dl V D) : 0 ≤ D := by
 obtain ⟨hP, eV, eD, hVl, hVl', hDl, hDl', wa, wb, wc, wv1, wv2, norm, lt⟩ := h
 have : 0 ≤ (a * 18446744073709551616 * 18446744073709551616 + b * 18446744073709551616 + c) * P := Int.mul_nonneg (by have := wa.1; have := wb.1; have := wc.1; omega) (by omega)
 omega
theorem Dig.q_bd {a b c v1 v2 P Vl Dl V D : Int} (h : Dig a b c v1 v2 P Vl Dl V D) : 0 ≤ D / V ∧ D / V < 18446744073709551616 := by
 have hv := h.vpos
 exact ⟨Int.ediv_nonneg h.dpos (by omega), Int.ediv_lt_of_lt_mul (by omega) (by rw [Int.mul_comm]; exact h.lt)⟩
theorem Dig.a_le {a b c v1 v2 P Vl Dl V D : Int} (h : Dig a b c v1 v2 P Vl Dl V D) : a ≤ v1 := by
 obtain ⟨hP, eV, eD, hVl, hVl', hDl, hDl', wa, wb, wc, wv1, wv2, norm, lt⟩ := h
 by_cases k : a ≤ v1
 ·exact k
 ·exfalso
  have h1 : (v1 + 1) * 18446744073709551616 * 18446744073709551616 * P ≤ (a * 18446744073709551616 * 18446744073709551616 + b * 18446744073709551616 + c) * P :=
   Int.mul_le_mul_of_nonneg_right (by have := wb.1; have := wc.1; omega) (by omega)
  have h2 : (v1 * 18446744073709551616 + v2) * P ≤ (v1 * 18446744073709551616 + 18446744073709551615) * P := Int.mul_le_mul_of_nonneg_right (by have := wv2.2; omega) (by omega)
  have e1 : (v1 + 1) * 18446744073709551616 * 18446744073709551616 * P = (v1 * P) * (18446744073709551616 * 18446744073709551616) + P * (18446744073709551616 * 18446744073709551616) := by
   rw [Int.add_mul, Int.add_mul, Int.add_mul, Int.mul_right_comm (v1 * 18446744073709551616), Int.mul_right_comm v1]; omega
  have e2 : (v1 * 18446744073709551616 + 18446744073709551615) * P = (v1 * P) * 18446744073709551616 + 18446744073709551615 * P := by
   rw [Int.add_mul, Int.mul_right_comm]
  generalize v1 * P = vp at *
  generalize (v1 * 18446744073709551616 + v2) * P = x at *
  generalize (a * 18446744073709551616 * 18446744073709551616 + b * 18446744073709551616 + c) * P = y at *
  omega
theorem Dig.start {a b c v1 v2 P Vl Dl V D : Int} (h : Dig a b c v1 v2 P Vl Dl V D) : D / V ≤ (a * 18446744073709551616 + b) / v1 := by
 have hv := h.vpos
 obtain ⟨hP, eV, eD, hVl, hVl', hDl, hDl', wa, wb, wc, wv1, wv2, norm, lt⟩ := h
 have hlt : D / V < (a * 18446744073709551616 + b) / v1 + 1 := by
  apply Int.ediv_lt_of_lt_mul (by omega)
  have e := Int.mul_ediv_add_emod (a * 18446744073709551616 + b) v1
  have m1 := Int.emod_lt_of_pos (a * 18446744073709551616 + b) (show 0 < v1 by omega)
  have q0 : 0 ≤ (a * 18446744073709551616 + b) / v1 := Int.ediv_nonneg (by have := wa.1; have := wb.1; omega) (by omega)
  generalize (a * 18446744073709551616 + b) / v1 = q at *
  generalize (a * 18446744073709551616 + b) % v1 = r at *
  rw [eV, eD]
  have h1 : (a * 18446744073709551616 + b + 1) * 18446744073709551616 * P ≤ ((q + 1) * v1 * 18446744073709551616) * P := by
   apply Int.mul_le_mul_of_nonneg_right _ (by omega)
   have ex : (q + 1) * v1 = q * v1 + v1 := by rw [Int.add_mul, Int.one_mul]
   rw [Int.mul_comm v1 q] at e
   rw [ex]
   omega
  have h2 : (a * 18446744073709551616 * 18446744073709551616 + b * 18446744073709551616 + c) * P ≤ (a * 18446744073709551616 * 18446744073709551616 + b * 18446744073709551616 + 18446744073709551615) * P :=
   Int.mul_le_mul_of_nonneg_right (by have := wc.2; omega) (by omega)
  have e1 : (a * 18446744073709551616 + b + 1) * 18446744073709551616 * P = (a * 18446744073709551616 * 18446744073709551616 + b * 18446744073709551616 + 18446744073709551615) * P + P := by
   rw [show (a * 18446744073709551616 + b + 1) * 18446744073709551616 = (a * 18446744073709551616 * 18446744073709551616 + b * 18446744073709551616 + 18446744073709551615) + 1 by omega, Int.add_mul, Int.one_mul]
  have e2 : (q + 1) * ((v1 * 18446744073709551616 + v2) * P + Vl) = ((q + 1) * v1 * 18446744073709551616) * P + ((q + 1) * (v2 * P) + (q + 1) * Vl) := by
   rw [Int.add_mul (v1 * 18446744073709551616), Int.mul_add (q + 1), Int.mul_add (q + 1), Int.mul_assoc, Int.mul_assoc (q + 1) v1, Int.mul_assoc (q + 1) (v1 * 18446744073709551616), Int.add_assoc]
   rw [Int.mul_assoc v1]
  have h3 : 0 ≤ (q + 1) * (v2 * P) := Int.mul_nonneg (by omega) (Int.mul_nonneg wv2.1 (by omega))
  have h4 : 0 ≤ (q + 1) * Vl := Int.mul_nonneg (by omega) hVl
  rw [e2]
  omega
 omega
theorem Dig.le {a b c v1 v2 P Vl Dl V D q : Int} (h : Dig a b c v1 v2 P Vl Dl V D) (h0 : 0 ≤ q) (h1 : q < 18446744073709551616)
  (hq : q * (v1 * 18446744073709551616 + v2) ≤ a * 18446744073709551616 * 18446744073709551616 + b * 18446744073709551616 + c) : q ≤ D / V + 1 := by
 have hv := h.vpos
 obtain ⟨hP, eV, eD, hVl, hVl', hDl, hDl', wa, wb, wc, wv1, wv2, norm, lt⟩ := h
 have : q - 1 ≤ D / V := by
  rw [Int.le_ediv_iff_mul_le (by omega), Int.sub_mul, Int.one_mul]
  have k1 := Int.mul_le_mul_of_nonneg_right hq (show 0 ≤ P by omega)
  have k2 : q * Vl ≤ 18446744073709551616 * P := by
   have := Int.mul_le_mul_of_nonneg_left (show Vl ≤ P by omega) h0
   have := Int.mul_le_mul_of_nonneg_right (show q ≤ 18446744073709551616 by omega) (show 0 ≤ P by omega)
   omega
  have e : q * V = q * (v1 * 18446744073709551616 + v2) * P + q * Vl := by rw [eV, Int.mul_add, Int.mul_assoc]
  omega
 omega
theorem Dig.gt {a b c v1 v2 P Vl Dl V D q : Int} (h : Dig a b c v1 v2 P Vl Dl V D) (h0 : 0 ≤ q)
  (hq : a * 18446744073709551616 * 18446744073709551616 + b * 18446744073709551616 + c < q * (v1 * 18446744073709551616 + v2)) : D / V < q := by
 have hv := h.vpos
 obtain ⟨hP, eV, eD, hVl, hVl', hDl, hDl', wa, wb, wc, wv1, wv2, norm, lt⟩ := h
 apply Int.ediv_lt_of_lt_mul (by omega)
 have k1 := Int.mul_le_mul_of_nonneg_right (show a * 18446744073709551616 * 18446744073709551616 + b * 18446744073709551616 + c + 1 ≤ q * (v1 * 18446744073709551616 + v2) by omega) (show 0 ≤ P by omega)
 rw [Int.add_mul, Int.one_mul] at k1
 have k2 : 0 ≤ q * Vl := Int.mul_nonneg h0 hVl
 have e : q * V = q * (v1 * 18446744073709551616 + v2) * P + q * Vl := by rw [eV, Int.mul_add, Int.mul_assoc]
 omega
theorem Dig.test {a b c v1 v2 P Vl Dl V D q r : Int} (h : Dig a b c v1 v2 P Vl Dl V D) (e : q * v1 + r = a * 18446744073709551616 + b) :
  (q * v2 ≤ r * 18446744073709551616 + c ↔ q * (v1 * 18446744073709551616 + v2) ≤ a * 18446744073709551616 * 18446744073709551616 + b * 18446744073709551616 + c) := by
 have e2 : q * (v1 * 18446744073709551616 + v2) = q * v1 * 18446744073709551616 + q * v2 := by rw [Int.mul_add, ← Int.mul_assoc]
 rw [e2]
 generalize q * v1 = x at *
 generalize q * v2 = y at *
 omega
theorem Dig.good {a b c v1 v2 P Vl Dl V D q r : Int} (h : Dig a b c v1 v2 P Vl Dl V D) (e : q * v1 + r = a * 18446744073709551616 + b) (hq : Wd q) (ht : q * v2 ≤ r * 18446744073709551616 + c) : q ≤ D / V + 1 :=
 h.le hq.1 hq.2 ((h.test e).1 ht)
theorem Dig.bad {a b c v1 v2 P Vl Dl V D q r : Int} (h : Dig a b c v1 v2 P Vl Dl V D) (e : q * v1 + r = a * 18446744073709551616 + b) (hq : Wd q) (ht : r * 18446744073709551616 + c < q * v2) : D / V < q := by
 apply h.gt hq.1
 have := h.test e
 omega
theorem Dig.brk {a b c v1 v2 P Vl Dl V D q r : Int} (h : Dig a b c v1 v2 P Vl Dl V D) (e : q * v1 + r = a * 18446744073709551616 + b) (hq : Wd q) (hr : 18446744073709551616 ≤ r) : q ≤ D / V + 1 := by
 apply h.good e hq
 have h1 := Int.mul_le_mul (show q ≤ 18446744073709551615 by have := hq.2; omega) (show v2 ≤ 18446744073709551615 by have := h.wv2.2; omega) h.wv2.1 (by omega)
 have := h.wc.1
 omega
theorem Dig.max {a b c v1 v2 P Vl Dl V D : Int} (h : Dig a b c v1 v2 P Vl Dl V D) (e : a = v1) : 18446744073709551615 ≤ D / V + 1 := by
 have hv := h.vpos
 obtain ⟨hP, eV, eD, hVl, hVl', hDl, hDl', wa, wb, wc, wv1, wv2, norm, lt⟩ := h
 subst e
 have : 18446744073709551614 ≤ D / V := by
  rw [Int.le_ediv_iff_mul_le (by omega)]
  have k1 : (a * 18446744073709551616 + v2) * P ≤ (a * 18446744073709551616 + 18446744073709551615) * P := Int.mul_le_mul_of_nonneg_right (by have := wv2.2; omega) (by omega)
  have k2 : (a * 18446744073709551616 * 18446744073709551616) * P ≤ (a * 18446744073709551616 * 18446744073709551616 + b * 18446744073709551616 + c) * P := Int.mul_le_mul_of_nonneg_right (by have := wb.1; have := wc.1; omega) (by omega)
  have k3 : 9223372036854775808 * P ≤ a * P := Int.mul_le_mul_of_nonneg_right norm (by omega)
  have e1 : (a * 18446744073709551616 + v2) * P = a * P * 18446744073709551616 + v2 * P := by rw [Int.add_mul, Int.mul_right_comm]
  have e2 : (a * 18446744073709551616 + 18446744073709551615) * P = a * P * 18446744073709551616 + 18446744073709551615 * P := by rw [Int.add_mul, Int.mul_right_comm]
  have e3 : (a * 18446744073709551616 * 18446744073709551616) * P = a * P * 18446744073709551616 * 18446744073709551616 := by
   rw [Int.mul_right_comm _ _ P, Int.mul_right_comm a _ P]
  rw [e1, e2] at k1
  rw [e3] at k2
  rw [eV, eD, e1]
  generalize a * P = ap at *
  generalize v2 * P = vp at *
  generalize (a * 18446744073709551616 * 18446744073709551616 + b * 18446744073709551616 + c) * P = y at *
  omega
 omega
theorem val_put {us ds : List Int} {j : Nat} (h : j + ds.length ≤ us.length) : val (put us j ds) = val us + BP j * (val ds - val (seg us j ds.length)) := by
 have e1 : us = us.take j ++ (seg us j ds.length ++ us.drop (j + ds.length)) := by
  unfold seg
  rw [← List.drop_drop, List.take_append_drop, List.take_append_drop]
 have hl : (us.take j).length = j := by simp; omega
 have hs : (seg us j ds.length).length = ds.length := seg_length h
 have e2 : val us = val (us.take j) + BP j * (val (seg us j ds.length) + BP ds.length * val (us.drop (j + ds.length))) := by
  conv => lhs; rw [e1]
  rw [val_append, val_append, hl, hs]
 unfold put
 rw [List.append_assoc, val_append, val_append, hl, e2, Int.mul_sub, Int.mul_add, Int.mul_add]
 omega
theorem val_seg_drop {us : List Int} {j n : Nat} (h : j + n ≤ us.length) : val us = val (us.take j) + BP j * (val (seg us j n) + BP n * val (us.drop (j + n))) := by
 have e1 : us = us.take j ++ (seg us j n ++ us.drop (j + n)) := by
  unfold seg
  rw [← List.drop_drop, List.take_append_drop, List.take_append_drop]
 have hl : (us.take j).length = j := by simp; omega
 have hs : (seg us j n).length = n := seg_length h
 conv => lhs; rw [e1]
 rw [val_append, val_append, hl, hs]
theorem dig_of {us vs : List Int} {j n : Nat} (hu : Wds us) (hv : Wds vs) (hl : j + n + 1 ≤ us.length) (hvl : vs.length = n) (hn : 2 ≤ n) (htop : 9223372036854775808 ≤ vs.getD (n - 1) 0)
  (hlt : val us < BP (j + 1) * val vs) :
  ∃ Vl Dl, Dig (us.getD (j + n) 0) (us.getD (j + n - 1) 0) (us.getD (j + n - 2) 0) (vs.getD (n - 1) 0) (vs.getD (n - 2) 0) (BP (n - 2)) Vl Dl (val vs) (val (seg us j (n + 1))) := by
 obtain ⟨k, rfl⟩ : ∃ k, n = k + 2 := ⟨n - 2, by omega⟩
 simp only [Nat.add_sub_cancel, show k + 2 - 1 = k + 1 by omega, show j + (k + 2) - 1 = j + k + 1 by omega, show j + (k + 2) - 2 = j + k by omega, show j + (k + 2) = j + k + 2 by omega, show j + k + 2 - 1 = j + k + 1 by omega, show j + k + 2 - 2 = j + k by omega] at htop ⊢
 have e1 : seg us j (k + 2 + 1) = seg us j k ++ [us.getD (j + k) 0] ++ [us.getD (j + k + 1) 0] ++ [us.getD (j + k + 2) 0] := by
  rw [seg_succ (by omega), seg_succ (by omega), seg_succ (by omega)]; rfl
 have e2 : vs = seg vs 0 k ++ [vs.getD k 0] ++ [vs.getD (k + 1) 0] := by
  have h := seg_all vs
  rw [hvl, seg_succ (by omega), seg_succ (by omega), Nat.zero_add, Nat.zero_add] at h
  exact h.symm
 have hk : (seg us j k).length = k := seg_length (by omega)
 have hk2 : (seg vs 0 k).length = k := seg_length (by omega)
 have d1 := seg_wds hu j k
 have d2 := seg_wds hv 0 k
 have b1 := val_lt d1; rw [hk] at b1
 have b2 := val_lt d2; rw [hk2] at b2
 refine ⟨val (seg vs 0 k), val (seg us j k), BP_pos k, ?_, ?_, val_nonneg d2, b2, val_nonneg d1, b1, hu.getD _, hu.getD _, hu.getD _, hv.getD _, hv.getD _, htop, ?_⟩
 ·conv => lhs; rw [e2]
  rw [val_snoc, val_snoc, List.length_append, hk2, List.length_singleton, BP_succ]
  generalize vs.getD k 0 = x
  generalize vs.getD (k + 1) 0 = y
  generalize BP k = p
  have f1 : (y * 18446744073709551616 + x) * p = 18446744073709551616 * (y * p) + x * p := by rw [Int.add_mul, Int.mul_comm y, Int.mul_assoc]
  have f2 : 18446744073709551616 * p * y = 18446744073709551616 * (y * p) := by rw [Int.mul_assoc, Int.mul_comm p]
  rw [f1, f2, Int.mul_comm p]
  omega
 ·rw [e1, val_snoc, val_snoc, val_snoc]
  simp only [List.length_append, hk, List.length_singleton, BP_succ]
  generalize us.getD (j + k) 0 = x
  generalize us.getD (j + k + 1) 0 = y
  generalize us.getD (j + k + 2) 0 = z
  generalize BP k = p
  have f3 : (z * 18446744073709551616 * 18446744073709551616 + y * 18446744073709551616 + x) * p = 18446744073709551616 * (18446744073709551616 * (z * p)) + 18446744073709551616 * (y * p) + x * p := by
   rw [Int.add_mul, Int.add_mul, Int.mul_comm (z * 18446744073709551616), Int.mul_comm z, Int.mul_comm y, Int.mul_assoc, Int.mul_assoc, Int.mul_assoc]
  have f2 : 18446744073709551616 * p * y = 18446744073709551616 * (y * p) := by rw [Int.mul_assoc, Int.mul_comm p]
  have f1 : 18446744073709551616 * (18446744073709551616 * p) * z = 18446744073709551616 * (18446744073709551616 * (z * p)) := by rw [Int.mul_assoc, Int.mul_assoc, Int.mul_comm p]
  rw [f3, f2, f1, Int.mul_comm p]
  omega
 ·have h1 := val_seg_drop (us := us) (j := j) (n := k + 2 + 1) (by omega)
  have h2 := val_nonneg (hu.take j)
  have h3 := val_nonneg (hu.drop (j + (k + 2 + 1)))
  have h4 := Int.mul_nonneg (Int.le_of_lt (BP_pos (k + 2 + 1))) h3
  rw [BP_succ, Int.mul_comm 18446744073709551616, Int.mul_assoc] at hlt
  have h5 : BP j * (val (seg us j (k + 2 + 1)) + BP (k + 2 + 1) * val (us.drop (j + (k + 2 + 1)))) < BP j * (18446744073709551616 * val vs) := by omega
  have h6 := Int.lt_of_mul_lt_mul_left h5 (Int.le_of_lt (BP_pos j))
  omega
theorem getD_last {us : List Int} {k : Nat} (h : us.length = k + 1) : val us = val (us.take k) + BP k * us.getD k 0 := by
 have h1 := seg_all us
 rw [h, seg_succ (by omega), Nat.zero_add, seg_take] at h1
 conv => lhs; rw [← h1]
 rw [val_snoc]
 have : (us.take k).length = k := by simp; omega
 rw [this]
theorem top_lt {us vs : List Int} {m n : Nat} (hu : Wds us) (hv : Wds vs) (hul : us.length = m + n) (hvl : vs.length = n) (hn : 1 ≤ n) (h : us.getD (m + n - 1) 0 < vs.getD (n - 1) 0) : val us < BP m * val vs := by
 obtain ⟨k, rfl⟩ : ∃ k, n = k + 1 := ⟨n - 1, by omega⟩
 have e1 := getD_last (us := us) (k := m + k) (by omega)
 have e2 := getD_last (us := vs) (k := k) hvl
 rw [show m + (k + 1) - 1 = m + k by omega, show k + 1 - 1 = k by omega] at h
 have b1 := val_lt (hu.take (m + k))
 have : (us.take (m + k)).length = m + k := by simp; omega
 rw [this] at b1
 have b2 := val_nonneg (hv.take k)
 have p1 := BP_pos (m + k)
 have p2 := BP_pos m
 have k1 := Int.mul_le_mul_of_nonneg_left (show us.getD (m + k) 0 + 1 ≤ vs.getD k 0 by omega) (Int.le_of_lt p1)
 have k2 := Int.mul_nonneg (Int.le_of_lt p2) b2
 rw [e2, Int.mul_add, ← Int.mul_assoc, ← BP_add]
 rw [Int.mul_add, Int.mul_one] at k1
 omega
theorem sub_ok {X vs : List Int} {q : Int} {n : Nat} (hX : Wds X) (hv : Wds vs) (hXl : X.length = n + 1) (hvl : vs.length = n) (hq : Wd q) (h : q * val vs ≤ val X) :
  subC X (mulD vs q 0 ++ [mulC vs q 0]) 0 = 0 ∧ val (subD X (mulD vs q 0 ++ [mulC vs q 0]) 0) = val X - q * val vs := by
 have hYl : (mulD vs q 0 ++ [mulC vs q 0]).length = n + 1 := by simp [mulD_length, hvl]
 have hY : Wds (mulD vs q 0 ++ [mulC vs q 0]) := (mulD_wds _ _ _).append (Wds.cons (mulC_wd _ _ _ hv hq wd0) Wds.nil)
 have hYv : val (mulD vs q 0 ++ [mulC vs q 0]) = q * val vs := by
  have := mulD_val vs q 0
  rw [val_snoc, mulD_length, Int.mul_comm q]; omega
 have hs := subD_val X _ 0 hX hY (by omega) (by omega) (hXl.trans hYl.symm)
 have hb := subC_bd X (mulD vs q 0 ++ [mulC vs q 0]) 0 (by omega) (by omega)
 have hw := val_lt (subD_wds X (mulD vs q 0 ++ [mulC vs q 0]) 0)
 rw [subD_length, hXl, hYl, Nat.min_self] at hw
 have hx := val_lt hX
 rw [hXl] at hs hx
 rw [hYv] at hs
 have hp := BP_pos (n + 1)
 have h0 : 0 ≤ q * val vs := Int.mul_nonneg hq.1 (val_nonneg hv)
 have hc : subC X (mulD vs q 0 ++ [mulC vs q 0]) 0 = 0 := by
  by_cases k : subC X (mulD vs q 0 ++ [mulC vs q 0]) 0 = 0
  ·exact k
  ·have k1 : subC X (mulD vs q 0 ++ [mulC vs q 0]) 0 = 1 := by omega
   rw [k1, Int.mul_one] at hs
   omega
 rw [hc] at hs
 exact ⟨hc, by omega⟩
theorem sub_back {X vs : List Int} {q : Int} {n : Nat} (hX : Wds X) (hv : Wds vs) (hXl : X.length = n + 1) (hvl : vs.length = n) (hq : Wd q) (h : val X < q * val vs) (h1 : (q - 1) * val vs ≤ val X) :
    subC X (mulD vs q 0 ++ [mulC vs q 0]) 0 = 1 ∧
    val (addD ((subD X (mulD vs q 0 ++ [mulC vs q 0]) 0).take n) vs 0) = val X - (q - 1) * val vs ∧
    ((subD X (mulD vs q 0 ++ [mulC vs q 0]) 0).getD n 0 + addC ((subD X (mulD vs q 0 ++ [mulC vs q 0]) 0).take n) vs 0) % 18446744073709551616 = 0 := by
  have hYl : (mulD vs q 0 ++ [mulC vs q 0]).length = n + 1 := by simp [mulD_length, hvl]
  have hY : Wds (mulD vs q 0 ++ [mulC vs q 0]) := (mulD_wds _ _ _).append (Wds.cons (mulC_wd _ _ _ hv hq wd0) Wds.nil)
  have hYv : val (mulD vs q 0 ++ [mulC vs q 0]) = q * val vs := by
    have := mulD_val vs q 0
    rw [val_snoc, mulD_length, Int.mul_comm q]; omega
  have hs := subD_val X _ 0 hX hY (by omega) (by omega) (hXl.trans hYl.symm)
  have hb := subC_bd X (mulD vs q 0 ++ [mulC vs q 0]) 0 (by omega) (by omega)
  have hwd := subD_wds X (mulD vs q 0 ++ [mulC vs q 0]) 0
  have hw := val_nonneg hwd
  have hdl : (subD X (mulD vs q 0 ++ [mulC vs q 0]) 0).length = n + 1 := by rw [subD_length, hXl, hYl, Nat.min_self]
  rw [hXl, hYv] at hs
  have hp := BP_pos (n + 1)
  have hc : subC X (mulD vs q 0 ++ [mulC vs q 0]) 0 = 1 := by
    by_cases k : subC X (mulD vs q 0 ++ [mulC vs q 0]) 0 = 1
    · exact k
    · have k1 : subC X (mulD vs q 0 ++ [mulC vs q 0]) 0 = 0 := by omega
      rw [k1, Int.mul_zero] at hs
      omega
  rw [hc, Int.mul_one] at hs
  generalize subD X (mulD vs q 0 ++ [mulC vs q 0]) 0 = ds at *
  refine ⟨hc, ?_⟩
  have hsp : ds = ds.take n ++ [ds.getD n 0] := by
    have := seg_all ds
    rw [hdl, seg_succ (by omega), Nat.zero_add, seg_take] at this
    exact this.symm
  have htl : (ds.take n).length = n := by simp; omega
  have hv1 : val ds = val (ds.take n) + BP n * ds.getD n 0 := by conv => lhs; rw [hsp]
                                                                 rw [val_snoc, htl]
  have ha := addD_val (ds.take n) vs 0 (by omega)
  have hab := addC_bd (ds.take n) vs 0 (hwd.take n) hv (by omega) (by omega)
  have hal := val_lt (addD_wds (ds.take n) vs 0)
  have hal0 := val_nonneg (addD_wds (ds.take n) vs 0)
  rw [addD_length, htl, hvl, Nat.min_self] at hal
  rw [htl] at ha
  have hvv := val_lt hv
  rw [hvl] at hvv
  have hpn := BP_pos n
  rw [BP_succ] at hs hp
  rw [Int.sub_mul, Int.one_mul] at h1 ⊢
  generalize ds.getD n 0 = t at *
  generalize addC (ds.take n) vs 0 = c' at *
  generalize val (addD (ds.take n) vs 0) = lo at *
  generalize q * val vs = qv at *
  have key : lo + BP n * (t + c' - 18446744073709551616) = val X - qv + val vs := by
    rw [Int.mul_sub, Int.mul_add]; omega
  have hz : t + c' - 18446744073709551616 = 0 := by
    generalize t + c' - 18446744073709551616 = z at *
    by_cases k : z ≤ -1
    · have := Int.mul_le_mul_of_nonneg_left k (Int.le_of_lt hpn); omega
    · by_cases k2 : 1 ≤ z
      · have := Int.mul_le_mul_of_nonneg_left k2 (Int.le_of_lt hpn); omega
      · omega
  rw [hz, Int.mul_zero] at key
  exact ⟨by omega, by omega⟩
theorem step_val {us vs ds : List Int} {j n : Nat} {Q : Int} (hu : Wds us) (hl : j + n + 1 ≤ us.length) (hd : ds.length = n + 1) (hds : Wds ds)
  (hval : val ds = val (seg us j (n + 1)) - Q * val vs) (hlt : val ds < val vs) (hlt0 : val us < BP (j + 1) * val vs) (hQ : Q = val (seg us j (n + 1)) / val vs) (hV : 0 < val vs) (hvb : val vs < BP n) :
  val (put us j ds) + BP j * val vs * Q = val us ∧ val (put us j ds) < BP j * val vs := by
 have h1 := val_put (us := us) (ds := ds) (j := j) (by omega)
 rw [hd, hval] at h1
 have e : BP j * (val (seg us j (n + 1)) - Q * val vs - val (seg us j (n + 1))) = - (BP j * val vs * Q) := by
  rw [show val (seg us j (n + 1)) - Q * val vs - val (seg us j (n + 1)) = - (Q * val vs) by omega, Int.mul_neg, Int.mul_comm Q, Int.mul_assoc]
 rw [e] at h1
 refine ⟨by omega, ?_⟩
 have hw : Wds (put us j ds) := put_wds hu hds j
 have h2 := val_seg_drop (us := put us j ds) (j := j) (n := n + 1) (by rw [put_length (by omega)]; omega)
 have h3 : seg (put us j ds) j (n + 1) = ds := by rw [← hd]; exact seg_put_same (by omega)
 have hl2 : ((put us j ds).take j).length = j := by rw [List.length_take, put_length (by omega)]; omega
 have h4 := val_lt (hw.take j)
 rw [hl2] at h4
 have h6 := val_seg_drop (us := us) (j := j) (n := n + 1) (by omega)
 have h7 := val_nonneg (hu.take j)
 have h8 := val_nonneg (hu.drop (j + (n + 1)))
 have h8b := val_nonneg (seg_wds hu j (n + 1))
 have h9 : val (us.drop (j + (n + 1))) = 0 := by
  rw [BP_succ, Int.mul_comm 18446744073709551616, Int.mul_assoc] at hlt0
  have h5 : BP j * (val (seg us j (n + 1)) + BP (n + 1) * val (us.drop (j + (n + 1)))) < BP j * (18446744073709551616 * val vs) := by omega
  have h6 := Int.lt_of_mul_lt_mul_left h5 (Int.le_of_lt (BP_pos j))
  rw [BP_succ] at h6
  have hpn := BP_pos n
  by_cases k : val (us.drop (j + (n + 1))) = 0
  ·exact k
  ·have := Int.mul_le_mul_of_nonneg_left (show 1 ≤ val (us.drop (j + (n + 1))) by omega) (show 0 ≤ 18446744073709551616 * BP n by omega)
   omega
 have h10 : (put us j ds).drop (j + (n + 1)) = us.drop (j + (n + 1)) := by
  unfold put
  rw [hd]
  have : (us.take j ++ ds).length = j + (n + 1) := by simp [hd]; omega
  rw [← this, List.drop_left]
 rw [h10, h9, h3, Int.mul_zero, Int.add_zero] at h2
 have h11 : BP j * (val ds + 1) ≤ BP j * val vs := Int.mul_le_mul_of_nonneg_left (by omega) (Int.le_of_lt (BP_pos j))
 rw [Int.mul_add, Int.mul_one] at h11
 omega
theorem greaterThan_any (x1 x2 y1 y2 : Int) (hx1 : Wd x1) (hx2 : Wd x2) (hy1 : Wd y1) (hy2 : Wd y2) (w : World) :
  Calls Tryz.prog 225 #[.int .u64 x1, .int .u64 x2, .int .u64 y1, .int .u64 y2] w fun e w' =>
   e = .returned (.bool (decide (y1 * 18446744073709551616 + y2 < x1 * 18446744073709551616 + x2))) ∧ w = w' := by
 obtain ⟨a0, a1⟩ := hx1
 obtain ⟨b0, b1⟩ := hx2
 obtain ⟨c0, c1⟩ := hy1
 obtain ⟨d0, d1⟩ := hy2
 by_cases h1 : y1 < x1
 ·have h : decide (y1 < x1) = true := decide_eq_true h1
  have e : decide (y1 * 18446744073709551616 + y2 < x1 * 18446744073709551616 + x2) = true := decide_eq_true (by omega)
  rw [e]
  go_enter Tryz.func225, Tryz.ntmps225
  go_wp2_with fail
  go_ret
  exact ⟨rfl, rfl⟩
 ·have h : decide (y1 < x1) = false := decide_eq_false h1
  by_cases h2 : x1 = y1
  ·have hb : (x1 == y1) = true := beq_iff_eq.2 h2
   have e : decide (y1 * 18446744073709551616 + y2 < x1 * 18446744073709551616 + x2) = decide (y2 < x2) := by
    apply decide_eq_decide.2; omega
   rw [e]
   have H2 := hid h2
   clear h2 e
   go_enter Tryz.func225, Tryz.ntmps225
   go_wp2_with fail
   go_ret
   exact ⟨rfl, rfl⟩
  ·have hb : (x1 == y1) = false := beq_eq_false_iff_ne.2 h2
   have e : decide (y1 * 18446744073709551616 + y2 < x1 * 18446744073709551616 + x2) = false := decide_eq_false (by omega)
   rw [e]
   go_enter Tryz.func225, Tryz.ntmps225
   go_wp2_with fail
   go_ret
   exact ⟨rfl, rfl⟩
theorem free_d (s : Nat) (u : FrameMode) (w : World) (h : StkAt w s) : CallsD Tryz.prog 154 #[.pointer (some ⟨s, 0, none⟩)] u w (fun e u' w' => u' = u ∧ e = .returned (.tuple #[]) ∧ w' = w) := by
 have hc := h.1
 go_enter_d Tryz.func154, Tryz.ntmps154
 go_wp2
 first | go_end0 | ((try simp only [Exit.inBlock, Exit.then]); refine bodyPost_ret (results_none rfl _ _ _) rfl ?_) | skip
 first | exact ⟨rfl, rfl, rfl⟩ | exact ⟨rfl, rfl⟩ | trivial | simp
theorem restore_d (s : Nat) (n : Int) (u : FrameMode) (w : World) (h : StkAt w s) : CallsD Tryz.prog 159 #[.pointer (some ⟨s, 0, none⟩), .int .i64 n] u w (fun e u' w' => u' = u ∧ e = .returned (.tuple #[]) ∧ w' = w) := by
 have hc := h.1
 go_enter_d Tryz.func159, Tryz.ntmps159
 go_wp2
 first | go_end0 | ((try simp only [Exit.inBlock, Exit.then]); refine bodyPost_ret (results_none rfl _ _ _) rfl ?_) | skip
 first | exact ⟨rfl, rfl, rfl⟩ | exact ⟨rfl, rfl⟩ | trivial | simp
def PDivB (w : World) (bq bu m n : Nat) (zs us usp vs : List Int) (e : Ending) (w' : World) : Prop :=
 e = .returned (.tuple #[]) ∧ ∃ qd us', Row w' bq (put zs 0 qd) ∧ Row w' bu (us' ++ usp) ∧ qd.length = m ∧ us'.length = m + n ∧ Wds qd ∧ val us' + val vs * val qd = val us ∧ val us' < val vs ∧ Chg (fun i => i = bu ∨ i = bq) w w'
def InvB (k m n : Nat) (us0 vs us qd : List Int) : Prop :=
 us.length = m + n ∧ qd.length = m - k ∧ Wds qd ∧ val us + BP k * val vs * val qd = val us0 ∧ (k ≤ m → val us < BP k * val vs) ∧ (k = m + 1 → us = us0)
def RelB (bq bu bv g cg k m n : Nat) (zs us0 usp vs : List Int) (w1 : World) (ujn : Value) (wr : World) : Prop :=
 ∃ us qd gs, Row wr bq (put zs k qd) ∧ Row wr bu (us ++ usp) ∧ Row wr g gs ∧ gs.length = cg ∧ InvB k m n us0 vs us qd ∧
  ujn = .int .u64 (if k = m + 1 then 0 else us.getD (k + n - 1) 0) ∧ Chg (fun i => i = bu ∨ i = bq ∨ i = g) w1 wr
theorem mul_zero : ∀ vs : List Int, mulD vs 0 0 = List.replicate vs.length 0 ∧ mulC vs 0 0 = 0
 | [] => ⟨rfl, rfl⟩
 | x :: t => by
  obtain ⟨h1, h2⟩ := mul_zero t
  simp only [mulD, mulC, Int.mul_zero, Int.add_zero, List.length_cons, List.replicate_succ]
  simp [h1, h2]
theorem sub_zero : ∀ {xs : List Int}, Wds xs → subD xs (List.replicate xs.length 0) 0 = xs ∧ subC xs (List.replicate xs.length 0) 0 = 0
 | [], _ => ⟨rfl, rfl⟩
 | x :: t, h => by
  obtain ⟨h1, h2⟩ := sub_zero h.tail
  obtain ⟨h3, h4⟩ := h.head
  have e : brw x (0 + 0) = 0 := by unfold brw; rw [if_neg (by omega)]
  simp only [subD, subC, List.length_cons, List.replicate_succ, e, h1, h2]
  refine ⟨?_, trivial⟩
  congr 1
  omega
theorem put_self {xs : List Int} {i n : Nat} (h : i + n ≤ xs.length) : put xs i (seg xs i n) = xs := by
 have hl : (seg xs i n).length = n := seg_length h
 unfold put
 rw [hl]; unfold seg
 rw [← List.drop_drop, List.append_assoc, List.take_append_drop, List.take_append_drop]
theorem getD_app {xs ys : List Int} {i : Nat} (h : i < xs.length) : (xs ++ ys).getD i 0 = xs.getD i 0 := by
 simp [List.getD_eq_getElem?_getD, List.getElem?_append_left h]
theorem put_app {xs ys ds : List Int} {i : Nat} (h : i + ds.length ≤ xs.length) : put (xs ++ ys) i ds = put xs i ds ++ ys := by
 unfold put
 rw [List.take_append_of_le_length (by omega), List.drop_append_of_le_length (by omega)]
 simp
theorem seg_app {xs ys : List Int} {i n : Nat} (h : i + n ≤ xs.length) : seg (xs ++ ys) i n = seg xs i n := by
 unfold seg
 rw [List.drop_append_of_le_length (by omega), List.take_append_of_le_length (by simp; omega)]
theorem seg_put_take {us usp SD : List Int} {j n : Nat} (hS : SD.length = n + 1) (h : j + (n + 1) ≤ us.length) : seg (put us j SD ++ usp) j n = SD.take n := by
 rw [seg_app (by rw [put_length (by omega)]; omega)]
 have h1 := seg_put_same (xs := us) (i := j) (ds := SD) (by omega)
 rw [hS] at h1
 have h2 : seg (put us j SD) j n = (seg (put us j SD) j (n + 1)).take n := by unfold seg; rw [List.take_take]; congr 1; omega
 rw [h2, h1]
theorem put_over {xs ds es : List Int} {i : Nat} (h : i ≤ xs.length) (he : es.length = ds.length) : put (put xs i ds) i es = put xs i es := by
 have e : (xs.take i).length = i := by simp; omega
 have := put_mid (A := xs.take i) (B := ds) (C := xs.drop (i + ds.length)) (ds := es) he.symm
 rw [e] at this
 unfold put at this ⊢
 rw [this, he]
theorem put_back {us usp SD AD : List Int} {j n : Nat} (hS : SD.length = n + 1) (hA : AD.length = n) (h : j + (n + 1) ≤ us.length) :
  (put (put us j SD ++ usp) j AD).set (j + n) 0 = put us j (AD ++ [0]) ++ usp := by
 have hl : (put us j SD).length = us.length := put_length (by omega)
 rw [put_app (by omega)]
 have hl2 : (put (put us j SD) j AD).length = us.length := by rw [put_length (by omega), hl]
 rw [List.set_append_left _ _ (by omega)]
 have := put_snoc (xs := put us j SD) (i := j) (ds := AD) 0 (by omega)
 rw [hA] at this
 rw [this, put_over (by omega) (by simp; omega)]
theorem getD_put_top {us usp SD AD : List Int} {j n : Nat} (hS : SD.length = n + 1) (hA : AD.length = n) (h : j + (n + 1) ≤ us.length) :
  (put (put us j SD ++ usp) j AD).getD (j + n) 0 = SD.getD n 0 := by
 have hl : (put us j SD).length = us.length := put_length (by omega)
 rw [put_getD_ahead (by simp; omega) (by omega), getD_app (by omega), put_getD_in (by omega) (by omega) (by omega)]
 congr 1; omega
set_option maxHeartbeats 8000000 in
theorem divBasic_any (bq bu bv s m n : Nat) (zs us usp vs vsp : List Int) (w : World)
  (hq : Row w bq zs) (hu : Row w bu (us ++ usp)) (hv : Row w bv (vs ++ vsp)) (hs : StkAt w s)
  (hul : us.length = m + n) (hvl : vs.length = n) (hn2 : 2 ≤ n) (hn3 : n ≤ 3) (hm1 : 1 ≤ m) (hm : m ≤ 100000) (hzl : m ≤ zs.length)
  (htop : 9223372036854775808 ≤ vs.getD (n - 1) 0) (hut : us.getD (m + n - 1) 0 < vs.getD (n - 1) 0)
  (huv : bu ≠ bv) (hqu : bq ≠ bu) (hqv : bq ≠ bv) (hsu : s ≠ bu) (hsq : s ≠ bq) (cu cv cq : Nat) (hcu : m + n ≤ cu) (hcv : n ≤ cv) (hcu2 : cu ≤ 9223372036854775807) (hcv2 : cv ≤ 9223372036854775807) :
  Calls Tryz.prog 199 #[.slice (some ⟨bq, 0, none⟩) m cq, .pointer (some ⟨s, 0, none⟩), .slice (some ⟨bu, 0, none⟩) (m + n) cu, .slice (some ⟨bv, 0, none⟩) n cv] w
   (PDivB w bq bu m n zs us usp vs) := by
 have hsn := fun w h => stkNat_any s (n + 1) w h (by omega) (by omega)
 rw [show ((n + 1 : Nat) : Int) = (n : Int) + 1 by omega] at hsn
 have hsv := fun w h => save_any s w h
 have e1 : (vs ++ vsp).getD (n - 1) 0 = vs.getD (n - 1) 0 := by simp [List.getD_eq_getElem?_getD, List.getElem?_append_left (show n - 1 < vs.length by omega)]
 have hcv1 : ∀ w', Row w' bv (vs ++ vsp) → w'.cell? ⟨bv, n - 1, none⟩ = some (.int .u64 (vs.getD (n - 1) 0)) := fun w' h => by
  have := h.cell (i := n - 1) (by simp; omega)
  rwa [e1] at this
 have hwv1 := hv.2.left.getD (n - 1)
 have hrec := fun w => reciprocalWord_any (vs.getD (n - 1) 0) hwv1 (by omega) w
 obtain ⟨hs0, hs1, hs2⟩ := nlzN_spec hwv1 (by omega)
 have hrw := recN_wd hs1 hs2
 have hdv := fun (r x : Int) (h0 : 0 ≤ r) (h1 : r < vs.getD (n - 1) 0) (hx : Wd x) (w : World) => divWW_any r x (vs.getD (n - 1) 0) h0 h1 hx hwv1 w
 generalize recN (vs.getD (n - 1) 0 * 2 ^ nlzN (vs.getD (n - 1) 0)) = rec at *
 generalize hv1 : vs.getD (n - 1) 0 = v1 at *
 have HCV1 := hid hcv1
 have HSN := hid hsn; have HSV := hid hsv; have HREC := hid hrec; have HDV := hid hdv; have HV1 := hid hv1; have HUT := hid hut
 have HUL := hid hul; have HVL := hid hvl
 have hmn : ((m : Int) + (n : Int) - (n : Int)) = (m : Int) := by omega
 have hws : IntKind.i64.wrap ((m : Int) + (n : Int) - (n : Int)) = (m : Int) := by rw [hmn]; exact IntWalk.i64_in _ (by omega)
 clear hcv1 hsn hsv hrec hdv hv1 hut e1 hs0 hs1 hs2 hul hvl
 obtain ⟨hrec0, hrec1⟩ := hrw
 have HW1 := hid hwv1
 obtain ⟨hv10, hv11⟩ := hwv1
 have hnn : (0 : Int) ≤ (n : Int) - 1 := by omega
 have htn : ((n : Int) - 1).toNat = n - 1 := by omega
 have hlt1 : (n : Int) - 1 < (n : Int) := by omega
 have hltn : n - 1 < n := by omega
 go_enter_defers Tryz.func199, Tryz.ntmps199
 go_wp2_with (first | (go_at_call 160; refine (HSV.out _ hs).mono ?_; rintro e w' ⟨rfl, rfl⟩) | (go_at_call 161; refine (HSN.out _ hs).mono ?_; rintro e w1 ⟨g, gs, rfl, hg, hg1, hg2, hg3, hg4, hgc⟩; have hcv1' := HCV1.out _ (hv.kept hgc (fun h => h))) | (go_at_call 223; refine (HREC.out _).mono ?_; rintro e w2 ⟨rfl, hq2⟩))
 have hcg := hg1
 generalize hcge : gs.length = cg at *
 have HG0 := hid hcge
 clear hcge
 have hu2 : Row w2 bu (us ++ usp) := by obtain ⟨i, rfl⟩ := hq2; exact (hu.kept hgc (fun h => h)).drewN i
 have hq0 : Row w2 bq zs := by obtain ⟨i, rfl⟩ := hq2; exact (hq.kept hgc (fun h => h)).drewN i
 have hv2 : Row w2 bv (vs ++ vsp) := by obtain ⟨i, rfl⟩ := hq2; exact (hv.kept hgc (fun h => h)).drewN i
 have hg2' : Row w2 g gs := by obtain ⟨i, rfl⟩ := hq2; exact hg.drewN i
 have hs2 : StkAt w2 s := by obtain ⟨i, rfl⟩ := hq2; exact (hs.kept hgc (fun h => h)).drewN i
 have hc2 : Chg (fun _ => False) w w2 := by obtain ⟨i, rfl⟩ := hq2; exact hgc.drewN i
 have hgu : g ≠ bu := by have := hu.lt; omega
 have hgq : g ≠ bq := by have := hq.lt; omega
 have hgv : g ≠ bv := by have := hv.lt; omega
 have hgs : g ≠ s := by have := hs.2; omega
 clear hcv1' hq2
 go_loopw [13, 14] (fun a i wr => ∃ k : Nat, k ≤ m + 1 ∧ i = .int .i64 ((k : Int) - 1) ∧ RelB bq bu bv g cg k m n zs us usp vs w2 a wr)
  (fun _ i _ => (intOf i + 1).toNat)
 case atStart =>
  refine ⟨m + 1, Nat.le_refl _, by go_num, us, [], gs, by rw [put_nil]; exact hq0, hu2, hg2', HG0.out, ⟨HUL.out, by simp, Wds.nil, by simp [val], fun h => by omega, fun _ => rfl⟩, by simp, Chg.refl _ _⟩
 case round =>
  obtain ⟨k, hk, rfl, us1, qd, gs1, r1, r2, r3, r4, r5, rfl, r7⟩ := hrel
  have R4 := hid r4; have R5 := hid r5
  clear r4 r5
  by_cases hk0 : k = 0
  ·subst hk0
   go_wp2_with fail
   have hs3 : StkAt wr s := hs2.kept r7 (by rintro (h | h | h) <;> omega)
   refine leaves_cons (f := 159) (args := #[.pointer (some ⟨s, 0, none⟩), .int .i64 0]) (by simp) (by simp [go_sem]) ?_
   refine (restore_d s 0 .returning _ hs3).mono ?_
   rintro e u' w'' ⟨rfl, rfl, rfl⟩
   refine ⟨_, results_none rfl _ _ _, rfl, qd, us1, r1, r2, ?_, ?_, ?_, ?_, ?_, ?_⟩
   all_goals obtain ⟨i1, i2, i3, i4, i5, i6⟩ := R5.out
   ·omega
   ·omega
   ·exact i3
   ·rw [BP_zero, Int.one_mul] at i4; exact i4
   ·have := i5 (by omega); rw [BP_zero, Int.one_mul] at this; exact this
   ·exact (hc2.mono (fun _ h => h.elim)).trans r7 (fun i hi h => by rcases h with h | h | h; exact .inl h; exact .inr h; omega)
  ·by_cases hkm : k = m + 1
   ·as_aux_lemma =>
     subst hkm
     obtain ⟨i1, i2, i3, i4, i5, i6⟩ := R5.out
     obtain rfl := i6 rfl
     obtain rfl : qd = [] := List.length_eq_zero_iff.1 (by omega)
     rw [if_pos rfl]
     have hqi : (((m + 1 : Nat) : Int) - 1) = (m : Int) := by omega
     rw [hqi]
     have hge : (0 : Int) ≤ (m : Int) := by omega
     have hne : ((0 : Int) == v1) = false := beq_eq_false_iff_ne.2 (by omega)
     have hw1 : IntKind.i64.wrap ((m : Int) + (n : Int)) = (m : Int) + (n : Int) := IntWalk.i64_in _ (by omega)
     have hw2 : IntKind.i64.wrap ((m : Int) + (n : Int) - 1) = (m : Int) + (n : Int) - 1 := IntWalk.i64_in _ (by omega)
     have hw3 : IntKind.i64.wrap ((m : Int) + (n : Int) - 2) = (m : Int) + (n : Int) - 2 := IntWalk.i64_in _ (by omega)
     have hw4 : IntKind.i64.wrap ((n : Int) - 2) = (n : Int) - 2 := IntWalk.i64_in _ (by omega)
     have hw5 : IntKind.i64.wrap ((m : Int) + ((n : Int) + 1)) = (m : Int) + ((n : Int) + 1) := IntWalk.i64_in _ (by omega)
     have ht1 : ((m : Int) + (n : Int) - 1).toNat = m + n - 1 := by omega
     have ht2 : ((m : Int) + (n : Int) - 2).toNat = m + n - 2 := by omega
     have ht3 : ((n : Int) - 2).toNat = n - 2 := by omega
     have ht4 : ((m : Int) + (n : Int)).toNat = m + n := by omega
     have hr1 : 0 ≤ (m : Int) + (n : Int) - 1 := by omega
     have hr2 : 0 ≤ (m : Int) + (n : Int) - 2 := by omega
     have hr3 : 0 ≤ (n : Int) - 2 := by omega
     have hr4 : (m : Int) + (n : Int) - 1 < (m : Int) + (n : Int) := by omega
     have hr5 : (m : Int) + (n : Int) - 2 < (m : Int) + (n : Int) := by omega
     have hr6 : (n : Int) - 2 < (n : Int) := by omega
     have hr7 : (n : Int) < (n : Int) + 1 := by omega
     have hr8 : ¬ ((m : Int) + ((n : Int) + 1) ≤ (m : Int) + (n : Int)) := by omega
     have hr9 : (m : Int) + (n : Int) < (m : Int) + ((n : Int) + 1) := by omega
     have hb1 : ((m : Int) == (m : Int)) = true := beq_self_eq_true _
     have hb0 : ((0 : Int) == 0) = true := rfl
     have c1 := r2.cell (i := m + n - 1) (by simp; omega)
     have c2 := r2.cell (i := m + n - 2) (by simp; omega)
     rw [getD_app (by omega)] at c1 c2
     have r2v : Row wr bv (vs ++ vsp) := hv2.kept r7 (fun h => by rcases h with h | h | h; exact huv h.symm; exact hqv h.symm; exact hgv h.symm)
     have c3 := r2v.cell (i := n - 2) (by simp; have := HVL.out; omega)
     rw [getD_app (by have := HVL.out; omega)] at c3
     have wt := r2.2.left.getD (m + n - 1)
     have wc := r2.2.left.getD (m + n - 2)
     have wv2 := r2v.2.left.getD (n - 2)
     have hlt := HUT.out
     have hv1p : 0 < v1 := by omega
     have hval := top_lt r2.2.left r2v.2.left HUL.out HVL.out (by omega) (by rw [HV1.out]; exact HUT.out)
     have HVAL := hid hval
     clear hval
     generalize ht : us1.getD (m + n - 1) 0 = t at *
     have HT := hid ht
     clear ht
     generalize us1.getD (m + n - 2) 0 = c at *
     generalize vs.getD (n - 2) 0 = v2 at *
     have hd0 := HDV.out 0 t (by omega) hv1p wt
     rw [Int.zero_mul, Int.zero_add, Int.ediv_eq_zero_of_lt wt.1 hlt, Int.emod_eq_of_lt wt.1 hlt] at hd0
     have hm0 := fun w => mulWW_any 0 v2 wd0 wv2 w
     rw [Int.zero_mul] at hm0
     have hgt := fun w => greaterThan_any 0 0 t c wd0 wd0 wt wc w
     have hfl : decide (t * 18446744073709551616 + c < 0 * 18446744073709551616 + 0) = false := decide_eq_false (by have := wt.1; have := wc.1; omega)
     rw [hfl] at hgt
     have HD0 := hid hd0; have HM0 := hid hm0; have HGT := hid hgt
     have hz1 := mul_zero vs
     have hsv : seg (vs ++ vsp) 0 n = vs := by rw [seg_app (by have := HVL.out; omega), ← HVL.out, seg_all]
     have hma := mulAddVWW_any g 0 cg bv 0 cv n gs1 (vs ++ vsp) 0 0 wr r3 r2v (by have := R4.out; omega) (by simp; have := HVL.out; omega) (fun e => absurd e.symm hgv) (by omega) wd0 wd0
     rw [hsv, hz1.1, hz1.2, HVL.out] at hma
     have HMA := hid hma
     have HCN : Hid (∀ w', Row w' g (put gs1 0 (List.replicate n 0)) → ∃ x, w'.cell? ⟨g, n, none⟩ = some (.int .u64 x)) := fun w' h => ⟨_, h.cell (i := n) (by rw [put_length (by simp; have := R4.out; omega)]; have := R4.out; omega)⟩
     clear hd0 hm0 hgt hfl hz1 hsv hma i1 i2 i3 i4 i5 i6
     obtain ⟨wt0, wt1⟩ := wt
     obtain ⟨wc0, wc1⟩ := wc
     obtain ⟨wv20, wv21⟩ := wv2
     go_wp2_with (first | (go_at_call 224; refine (HD0.out _).mono ?_; rintro e w3 ⟨rfl, rfl⟩) | (go_at_call 150; refine (HM0.out _).mono ?_; rintro e w3 ⟨rfl, rfl⟩))
     go_loopw [15, 16, 18, 19] (fun a b x y wx => a = .int .u64 0 ∧ b = .int .u64 t ∧ x = .int .u64 0 ∧ y = .int .u64 0 ∧ wr = wx) (fun _ _ _ _ _ => 0)
     case atStart => exact ⟨rfl, rfl, rfl, rfl, rfl⟩
     case round =>
      obtain ⟨rfl, rfl, rfl, rfl, rfl⟩ := hrel
      go_upto_region 28 with (first | (go_at_call 225; refine (HGT.out _).mono ?_; rintro e w3 ⟨rfl, rfl⟩) | (go_at_call 177; refine (HMA.out).mono ?_; rintro e w3 ⟨rfl, hg3r, hg3c⟩; obtain ⟨x5, hcell⟩ := HCN.out _ hg3r; have hfree := hg3r.free n))
      have rg : Row (w3.setCell ⟨g, n, none⟩ (.int .u64 0)) g ((put gs1 0 (List.replicate n 0)).set n 0) := hg3r.set n wd0
      have ru : Row (w3.setCell ⟨g, n, none⟩ (.int .u64 0)) bu (us1 ++ usp) := (r2.kept hg3c (fun h => hgu h.symm)).set_ne (fun h => hgu h.symm) n _
      have rq : Row (w3.setCell ⟨g, n, none⟩ (.int .u64 0)) bq (put zs (m + 1) []) := (r1.kept hg3c (fun h => hgq h.symm)).set_ne (fun h => hgq h.symm) n _
      have hcA : Chg (fun i => i = bu ∨ i = bq ∨ i = g) w2 (w3.setCell ⟨g, n, none⟩ (.int .u64 0)) := (r7.trans (hg3c.mono (fun _ h => .inr (.inr h))) (fun _ _ h => h)).setCell (fun _ => .inr (.inr rfl)) _
      clear hcell hfree hg3r hg3c HCN HMA
      have hq1 : (n : Int) ≤ (cg : Int) := by omega
      have hq2 : (m : Int) ≤ (m : Int) + (n : Int) := by omega
      have hq3 : (m : Int) + (n : Int) ≤ (cu : Int) := by omega
      have hq4 : m + n - m = n := by omega
      go_still_tail 15, kr_
      change wpList _ _ _ _ _ (w3.setCell ⟨g, n, none⟩ (.int .u64 0)).drew
      have rg2 := rg.drew
      have ru2 := ru.drew
      have rq2 := rq.drew
      have hcA2 := hcA.drew
      clear rg ru rq hcA
      generalize (w3.setCell ⟨g, n, none⟩ (.int .u64 0)).drew = w4 at *
      have hsub := subVV_any bu m (cu - m) bu m (cu - m) g 0 cg n _ _ _ w4 ru2 ru2 rg2 (by have := HUL.out; simp; omega) (by have := HUL.out; simp; omega) (by rw [List.length_set, put_length (by simp; have := R4.out; omega)]; have := R4.out; omega) (fun _ => Nat.le_refl _) (fun h => absurd h hgu) (by omega)
      have hsg : seg ((put gs1 0 (List.replicate n 0)).set n 0) 0 n = List.replicate n 0 := by
       have := R4.out
       rw [set_put _ (by rw [put_length (by simp; omega)]; omega), seg_put_below (by simp; rw [put_length (by simp; omega)]; omega) (by omega)]
       have := seg_put_same (xs := gs1) (i := 0) (ds := List.replicate n 0) (by simp; omega)
       rwa [List.length_replicate] at this
      have hsx : (seg (us1 ++ usp) m n).length = n := seg_length (by have := HUL.out; simp; omega)
      have hsz := sub_zero (seg_wds ru2.2 m n)
      rw [hsx] at hsz
      rw [hsg, hsz.1, hsz.2, put_self (by have := HUL.out; simp; omega)] at hsub
      have HSUB := hid hsub
      have HUC : Hid (∀ w', Row w' bu (us1 ++ usp) → w'.cell? ⟨bu, m + n - 1, none⟩ = some (.int .u64 t)) := fun w' h => by
       have := h.cell (i := m + n - 1) (by have := HUL.out; simp; omega)
       rwa [getD_app (by have := HUL.out; omega), HT.out] at this
      clear hsub hsg hsx hsz c1 c2 c3
      go_wp2_with (go_at_call 130; refine (HSUB.out).mono ?_; rintro e w5 ⟨rfl, r5u, r5c⟩; have c1 := HUC.out _ r5u)
      go_roundw
      case rel =>
       refine ⟨m, by omega, by go_num, us1, [], (put gs1 0 (List.replicate n 0)).set n 0, ?_, r5u, rg2.kept r5c hgu, ?_, ⟨HUL.out, by simp, Wds.nil, by simp [val], fun _ => HVAL.out, fun h => by omega⟩, ?_, hcA2.trans r5c (fun _ _ h => .inl h)⟩
       ·have := rq2.kept r5c hqu
        rwa [put_nil] at this ⊢
       ·rw [List.length_set, put_length (by simp; have := R4.out; omega)]; exact R4.out
       ·rw [if_neg (by omega), HT.out]
      case measure => simp [intOf]
   ·obtain ⟨j, rfl⟩ : ∃ j, k = j + 1 := ⟨k - 1, by omega⟩
    obtain ⟨i1, i2, i3, i4, i5, i6⟩ := R5.out
    have hjm : j < m := by omega
    rw [if_neg hkm, show j + 1 + n - 1 = j + n by omega]
    have r2v : Row wr bv (vs ++ vsp) := hv2.kept r7 (fun h => by rcases h with h | h | h; exact huv h.symm; exact hqv h.symm; exact hgv h.symm)
    have hwu := r2.2.left
    have hwv := r2v.2.left
    obtain ⟨Vl, Dl, hDig⟩ := dig_of hwu hwv (j := j) (n := n) (by omega) HVL.out hn2 (by rw [HV1.out]; exact htop) (i5 (by omega))
    rw [HV1.out] at hDig
    have c0 := r2.cell (i := j + n) (by simp; omega)
    have c1 := r2.cell (i := j + n - 1) (by simp; omega)
    have c2 := r2.cell (i := j + n - 2) (by simp; omega)
    have c3 := r2v.cell (i := n - 2) (by simp; have := HVL.out; omega)
    rw [getD_app (by omega)] at c0 c1 c2
    rw [getD_app (by have := HVL.out; omega)] at c3
    have I1 := hid i1; have I2 := hid i2; have I3 := hid i3; have I4 := hid i4; have I5 := hid (i5 (by omega))
    clear i1 i2 i3 i4 i5 i6 hkm
    generalize us1.getD (j + n) 0 = a at *
    generalize us1.getD (j + n - 1) 0 = b at *
    generalize us1.getD (j + n - 2) 0 = c at *
    generalize vs.getD (n - 2) 0 = v2 at *
    have HDIG := hid hDig
    have hqi : (((j + 1 : Nat) : Int) - 1) = (j : Int) := by omega
    rw [hqi]
    have hge : (0 : Int) ≤ (j : Int) := by omega
    have hw1 : IntKind.i64.wrap ((j : Int) + (n : Int)) = (j : Int) + (n : Int) := IntWalk.i64_in _ (by omega)
    have hw2 : IntKind.i64.wrap ((j : Int) + (n : Int) - 1) = (j : Int) + (n : Int) - 1 := IntWalk.i64_in _ (by omega)
    have hw3 : IntKind.i64.wrap ((j : Int) + (n : Int) - 2) = (j : Int) + (n : Int) - 2 := IntWalk.i64_in _ (by omega)
    have hw4 : IntKind.i64.wrap ((n : Int) - 2) = (n : Int) - 2 := IntWalk.i64_in _ (by omega)
    have hw5 : IntKind.i64.wrap ((j : Int) + ((n : Int) + 1)) = (j : Int) + ((n : Int) + 1) := IntWalk.i64_in _ (by omega)
    have ht1 : ((j : Int) + (n : Int) - 1).toNat = j + n - 1 := by omega
    have ht2 : ((j : Int) + (n : Int) - 2).toNat = j + n - 2 := by omega
    have ht3 : ((n : Int) - 2).toNat = n - 2 := by omega
    have ht4 : ((j : Int) + (n : Int)).toNat = j + n := by omega
    have ht5 : ((j : Int) + ((n : Int) + 1)).toNat = j + (n + 1) := by omega
    have hr1 : 0 ≤ (j : Int) + (n : Int) - 1 := by omega
    have hr2 : 0 ≤ (j : Int) + (n : Int) - 2 := by omega
    have hr3 : 0 ≤ (n : Int) - 2 := by omega
    have hr4 : (j : Int) + (n : Int) - 1 < (m : Int) + (n : Int) := by omega
    have hr5 : (j : Int) + (n : Int) - 2 < (m : Int) + (n : Int) := by omega
    have hr6 : (n : Int) - 2 < (n : Int) := by omega
    have hr7 : (n : Int) < (n : Int) + 1 := by omega
    have hr8 : (j : Int) + ((n : Int) + 1) ≤ (m : Int) + (n : Int) := by omega
    have hr9 : (j : Int) + (n : Int) < (m : Int) + (n : Int) := by omega
    have hr10 : (j : Int) < (m : Int) := by omega
    have hb1 : ((j : Int) == (m : Int)) = false := beq_eq_false_iff_ne.2 (by omega)
    have hgtf : decide ((m : Int) + (n : Int) < (j : Int) + ((n : Int) + 1)) = false := decide_eq_false (by omega)
    obtain ⟨dP, deV, deD, dVl, dVl', dDl, dDl', ⟨wa0, wa1⟩, ⟨wb0, wb1⟩, ⟨wc0, wc1⟩, dwv1, ⟨wv20, wv21⟩, dnorm, dlt⟩ := hDig
    clear dP deV deD dVl dVl' dDl dDl' dwv1 dnorm dlt
    go_upto_if 51 with fail
    go_cut [15, 16, 17, 18, 19, 20] from 45 to 200 (fun q x1 x2 x3 x4 x5 wx => (∃ q' : Int, q = .int .u64 q' ∧ Hid (val (seg us1 j (n + 1)) / val vs ≤ q' ∧ q' ≤ val (seg us1 j (n + 1)) / val vs + 1 ∧ Wd q')) ∧ wr = wx)
    case first =>
     as_aux_lemma =>
      by_cases hav : a = v1
      ·have hbe : (a == v1) = true := beq_iff_eq.2 hav
       have hfin : val (seg us1 j (n + 1)) / val vs ≤ 18446744073709551615 ∧ 18446744073709551615 ≤ val (seg us1 j (n + 1)) / val vs + 1 ∧ Wd 18446744073709551615 :=
        ⟨by have := HDIG.out.q_bd; omega, HDIG.out.max hav, by omega, by omega⟩
       have HFIN := hid hfin
       clear hfin hav
       go_wp2_with fail
       go_meet
       exact ⟨⟨_, rfl, HFIN⟩, rfl⟩
      ·have hbe : (a == v1) = false := beq_eq_false_iff_ne.2 hav
       have hle := HDIG.out.a_le
       have hd := HDV.out a b wa0 (by omega) ⟨wb0, wb1⟩
       obtain ⟨hdq, hdr⟩ := div_wd wa0 (show a < v1 by omega) ⟨wb0, wb1⟩ HW1.out
       have hst := HDIG.out.start
       have hem := Int.mul_ediv_add_emod (a * 18446744073709551616 + b) v1
       rw [Int.mul_comm] at hem
       have hmw := fun w => mulWW_any ((a * 18446744073709551616 + b) / v1) v2 hdq ⟨wv20, wv21⟩ w
       have hpw := mul_wd hdq ⟨wv20, wv21⟩ wd0
       rw [Int.add_zero] at hpw
       have hpm := Wd.mod ((a * 18446744073709551616 + b) / v1 * v2)
       have hpe := Int.mul_ediv_add_emod ((a * 18446744073709551616 + b) / v1 * v2) 18446744073709551616
       generalize (a * 18446744073709551616 + b) / v1 = q0 at *
       generalize (a * 18446744073709551616 + b) % v1 = r0 at *
       generalize q0 * v2 / 18446744073709551616 = y1 at *
       generalize q0 * v2 % 18446744073709551616 = y2 at *
       have hstart : q0 * v1 + r0 = a * 18446744073709551616 + b ∧ y1 * 18446744073709551616 + y2 = q0 * v2 ∧ val (seg us1 j (n + 1)) / val vs ≤ q0 ∧ Wd q0 ∧ Wd r0 ∧ Wd y1 ∧ Wd y2 := ⟨hem, by omega, hst, hdq, hdr, hpw, hpm⟩
       have HST := hid hstart
       have HD := hid hd; have HMW := hid hmw
       clear hstart hd hmw hpe hem hst
       obtain ⟨hdq0, hdq1⟩ := hdq
       obtain ⟨hdr0, hdr1⟩ := hdr
       obtain ⟨hpw0, hpw1⟩ := hpw
       obtain ⟨hpm0, hpm1⟩ := hpm
       go_wp2_with (first | (go_at_call 224; refine (HD.out _).mono ?_; rintro e w3 ⟨rfl, rfl⟩) | (go_at_call 150; refine (HMW.out _).mono ?_; rintro e w3 ⟨rfl, rfl⟩))
       go_loopw [15, 16, 18, 19] (fun q r x1 x2 wx => ∃ q' r' y1 y2 : Int, q = .int .u64 q' ∧ r = .int .u64 r' ∧ x1 = .int .u64 y1 ∧ x2 = .int .u64 y2 ∧
         Hid (q' * v1 + r' = a * 18446744073709551616 + b ∧ y1 * 18446744073709551616 + y2 = q' * v2 ∧ val (seg us1 j (n + 1)) / val vs ≤ q' ∧ Wd q' ∧ Wd r' ∧ Wd y1 ∧ Wd y2) ∧ wr = wx) (fun q _ _ _ _ => (intOf q).toNat)
       case atStart => exact ⟨_, _, _, _, rfl, rfl, rfl, rfl, HST, rfl⟩
       case round =>
        clear HST HD HMW hdq0 hdq1 hdr0 hdr1 hpw0 hpw1 hpm0 hpm1
        obtain ⟨q, r, y1, y2, rfl, rfl, rfl, rfl, HI, rfl⟩ := hrel
        obtain ⟨ie, iy, iq, iwq, iwr, iw1, iw2⟩ := HI.out
        have hgt := fun w => greaterThan_any y1 y2 r c iw1 iw2 iwr ⟨wc0, wc1⟩ w
        rw [iy] at hgt
        have hbad : r * 18446744073709551616 + c < q * v2 → val (seg us1 j (n + 1)) / val vs < q := fun h => HDIG.out.bad ie iwq h
        have hgood : ¬ (r * 18446744073709551616 + c < q * v2) → q ≤ val (seg us1 j (n + 1)) / val vs + 1 := fun h => HDIG.out.good ie iwq (by omega)
        have hbrk : 18446744073709551616 ≤ r + v1 → 1 ≤ q → q - 1 ≤ val (seg us1 j (n + 1)) / val vs + 1 := fun h h1 =>
         HDIG.out.brk (q := q - 1) (r := r + v1) (by rw [Int.sub_mul, Int.one_mul]; omega) ⟨by omega, by have := iwq.2; omega⟩ h
        obtain ⟨q00, q01⟩ := iwq
        obtain ⟨r00, r01⟩ := iwr
        obtain ⟨y10, y11⟩ := iw1
        obtain ⟨y20, y21⟩ := iw2
        have hqd := HDIG.out.q_bd.1
        generalize val (seg us1 j (n + 1)) / val vs = QQ at *
        by_cases ht : r * 18446744073709551616 + c < q * v2
        ·rw [decide_eq_true ht] at hgt
         have hlt : QQ < q := hbad ht
         have hq1p : 1 ≤ q := by omega
         have HGT := hid hgt
         have hwq : IntKind.u64.wrap (q - 1) = q - 1 := by rw [IntKind.wrap_u64]; omega
         by_cases hov : 18446744073709551616 ≤ r + v1
         ·have hwr : IntKind.u64.wrap (r + v1) = r + v1 - 18446744073709551616 := by rw [IntKind.wrap_u64]; omega
          have hdl : decide (r + v1 - 18446744073709551616 < v1) = true := decide_eq_true (by omega)
          have hfin : QQ ≤ q - 1 ∧ q - 1 ≤ QQ + 1 ∧ Wd (q - 1) := ⟨by omega, hbrk hov hq1p, by omega, by omega⟩
          have HFIN := hid hfin
          clear hfin hgt ht hlt ie iy iq hbad hgood hbrk
          go_wp2_with (go_at_call 225; refine (HGT.out _).mono ?_; rintro e w3 ⟨rfl, rfl⟩)
          go_meet
          exact ⟨⟨_, rfl, HFIN⟩, rfl⟩
         ·have hwr : IntKind.u64.wrap (r + v1) = r + v1 := by rw [IntKind.wrap_u64]; omega
          have hdl : decide (r + v1 < v1) = false := decide_eq_false (by omega)
          have hsq : (q - 1) * v1 + (r + v1) = a * 18446744073709551616 + b := by rw [Int.sub_mul, Int.one_mul]; omega
          have hsv : (q - 1) * v2 = q * v2 - v2 := by rw [Int.sub_mul, Int.one_mul]
          have hqv2 : 0 ≤ (q - 1) * v2 := Int.mul_nonneg (by omega) wv20
          by_cases hy : y2 < v2
          ·have hyd : decide (y2 < v2) = true := decide_eq_true hy
           have hy1p : 1 ≤ y1 := by omega
           have hwy : IntKind.u64.wrap (y1 - 1) = y1 - 1 := by rw [IntKind.wrap_u64]; omega
           have hwz : IntKind.u64.wrap (y2 - v2) = y2 - v2 + 18446744073709551616 := by rw [IntKind.wrap_u64]; omega
           have hnext : (q - 1) * v1 + (r + v1) = a * 18446744073709551616 + b ∧ (y1 - 1) * 18446744073709551616 + (y2 - v2 + 18446744073709551616) = (q - 1) * v2 ∧ QQ ≤ q - 1 ∧ Wd (q - 1) ∧ Wd (r + v1) ∧ Wd (y1 - 1) ∧ Wd (y2 - v2 + 18446744073709551616) :=
            ⟨hsq, by omega, by omega, ⟨by omega, by omega⟩, ⟨by omega, by omega⟩, ⟨by omega, by omega⟩, ⟨by omega, by omega⟩⟩
           have HN := hid hnext
           clear hnext hgt ht hlt ie iy iq hsq hsv hqv2 hbad hgood hbrk
           go_wp2_with (go_at_call 225; refine (HGT.out _).mono ?_; rintro e w3 ⟨rfl, rfl⟩)
           go_roundw
           case rel => exact ⟨_, _, _, _, rfl, rfl, rfl, rfl, HN, by first | rfl | trivial⟩
           case measure => simp [intOf]; omega
          ·have hyd : decide (y2 < v2) = false := decide_eq_false hy
           have hwz : IntKind.u64.wrap (y2 - v2) = y2 - v2 := by rw [IntKind.wrap_u64]; omega
           have hnext : (q - 1) * v1 + (r + v1) = a * 18446744073709551616 + b ∧ y1 * 18446744073709551616 + (y2 - v2) = (q - 1) * v2 ∧ QQ ≤ q - 1 ∧ Wd (q - 1) ∧ Wd (r + v1) ∧ Wd y1 ∧ Wd (y2 - v2) :=
            ⟨hsq, by omega, by omega, ⟨by omega, by omega⟩, ⟨by omega, by omega⟩, ⟨by omega, by omega⟩, ⟨by omega, by omega⟩⟩
           have HN := hid hnext
           clear hnext hgt ht hlt ie iy iq hsq hsv hqv2 hbad hgood hbrk
           go_wp2_with (go_at_call 225; refine (HGT.out _).mono ?_; rintro e w3 ⟨rfl, rfl⟩)
           go_roundw
           case rel => exact ⟨_, _, _, _, rfl, rfl, rfl, rfl, HN, by first | rfl | trivial⟩
           case measure => simp [intOf]; omega
        ·rw [decide_eq_false ht] at hgt
         have hfin : QQ ≤ q ∧ q ≤ QQ + 1 ∧ Wd q := ⟨iq, hgood ht, q00, q01⟩
         have HFIN := hid hfin
         have HGT := hid hgt
         clear hfin hgt ht ie iy iq hbad hgood hbrk
         go_wp2_with (go_at_call 225; refine (HGT.out _).mono ?_; rintro e w3 ⟨rfl, rfl⟩)
         go_meet
         exact ⟨⟨_, rfl, HFIN⟩, rfl⟩
    case rest =>
     obtain ⟨⟨q, rfl, HQ⟩, rfl⟩ := hcut
     clear c0 c2 c3 hw2 hw3 hw4 ht2 ht3 hr2 hr3 hr5 hr6 wa0 wa1 wb0 wb1 wc0 wc1 wv20 wv21
     have hw2 : IntKind.i64.wrap ((j : Int) + (n : Int) - 1) = (j : Int) + (n : Int) - 1 := IntWalk.i64_in _ (by omega)
     clear c1
     have hXl : (seg us1 j (n + 1)).length = n + 1 := seg_length (by have := I1.out; omega)
     have hXw : Wds (seg us1 j (n + 1)) := seg_wds hwu _ _
     have hsv : seg (vs ++ vsp) 0 n = vs := by rw [seg_app (by have := HVL.out; omega), ← HVL.out, seg_all]
     have hma := mulAddVWW_any g 0 cg bv 0 cv n gs1 (vs ++ vsp) q 0 wr r3 r2v (by have := R4.out; omega) (by simp; have := HVL.out; omega) (fun e => absurd e.symm hgv) (by omega) HQ.out.2.2 wd0
     rw [hsv] at hma
     have hok := fun h => sub_ok (q := q) hXw hwv hXl HVL.out HQ.out.2.2 h
     have hback := fun h h1 => sub_back (q := q) hXw hwv hXl HVL.out HQ.out.2.2 h h1
     have hmdl := mulD_length vs q 0
     have hmdw := mulD_wds vs q 0
     have hmcw := mulC_wd vs q 0 hwv HQ.out.2.2 wd0
     rw [HVL.out] at hmdl
     generalize mulD vs q 0 = md at *
     generalize mulC vs q 0 = mc at *
     have hSDl : (subD (seg us1 j (n + 1)) (md ++ [mc]) 0).length = n + 1 := by rw [subD_length, hXl]; simp [hmdl]
     have hSDw := subD_wds (seg us1 j (n + 1)) (md ++ [mc]) 0
     have hGs : (put gs1 0 md).set n mc = put gs1 0 (md ++ [mc]) := by
      have := put_snoc (xs := gs1) (i := 0) (ds := md) mc (by have := R4.out; omega)
      rwa [hmdl, Nat.zero_add] at this
     have hGseg : seg (put gs1 0 (md ++ [mc])) 0 (n + 1) = md ++ [mc] := by
      have := seg_put_same (xs := gs1) (i := 0) (ds := md ++ [mc]) (by simp [hmdl]; have := R4.out; omega)
      rwa [show (md ++ [mc]).length = n + 1 by simp [hmdl]] at this
     have hGl : (put gs1 0 (md ++ [mc])).length = cg := by rw [put_length (by simp [hmdl]; have := R4.out; omega)]; exact R4.out
     have hXapp : seg (us1 ++ usp) j (n + 1) = seg us1 j (n + 1) := seg_app (by have := I1.out; omega)
     have HMA := hid hma; have HOK := hid hok; have HBACK := hid hback; have HMCW := hid hmcw; have HSDL := hid hSDl; have HSDW := hid hSDw; have HGS := hid hGs; have HGSEG := hid hGseg; have HGL := hid hGl; have HXAPP := hid hXapp; have HXL := hid hXl; have HMDL := hid hmdl; have HSVE := hid hsv
     have HPUTA : Hid (∀ ds : List Int, ds.length = n + 1 → put (us1 ++ usp) j ds = put us1 j ds ++ usp) := fun ds h => put_app (by have := I1.out; omega)
     have HPL : Hid (∀ ds : List Int, ds.length = n + 1 → (put us1 j ds).length = m + n) := fun ds h => by rw [put_length (by have := I1.out; omega)]; exact I1.out
     have HCN : Hid (∀ w', Row w' g (put gs1 0 md) → ∃ x, w'.cell? ⟨g, n, none⟩ = some (.int .u64 x)) := fun w' h => ⟨_, h.cell (i := n) (by rw [put_length (by have := HMDL.out; have := R4.out; omega)]; have := R4.out; omega)⟩
     have HEND : Hid (∀ (Q : Int) (ds : List Int) (w5 w6 : World), ds.length = n + 1 → Wds ds → Wd Q → Q = val (seg us1 j (n + 1)) / val vs → val ds = val (seg us1 j (n + 1)) - Q * val vs → Row w5 bu (put us1 j ds ++ usp) → Row w5 bq (put zs (j + 1) qd) → Row w5 g (put gs1 0 (md ++ [mc])) →
       Chg (fun i => i = bu ∨ i = bq ∨ i = g) w2 w5 → ∀ x, x = .int .u64 ((put us1 j ds).getD (j + n - 1) 0) → RelB bq bu bv g cg j m n zs us usp vs w2 x (w5.setCell ⟨bq, j, none⟩ (.int .u64 Q))) := by
      intro Q ds w5 w6 h1 h2 h3 h4 h5 h6 h7 h8 h9 x hx
      have hdp := HDIG.out.vpos.2
      have e := Int.mul_ediv_add_emod (val (seg us1 j (n + 1))) (val vs)
      have m1 := Int.emod_lt_of_pos (val (seg us1 j (n + 1))) hdp
      rw [← h4, Int.mul_comm] at e
      have hvb := val_lt hwv
      rw [HVL.out] at hvb
      have hst := step_val hwu (by have := I1.out; omega) h1 h2 h5 (by omega) I5.out h4 hdp hvb
      have hset := h7.set j h3
      rw [put_cons _ (by have := I2.out; omega)] at hset
      refine ⟨put us1 j ds, Q :: qd, _, hset, h6.set_ne (fun h => hqu h.symm) _ _, h8.set_ne hgq _ _, HGL.out, ⟨HPL.out _ h1, by have := I2.out; simp; omega, Wds.cons h3 I3.out, ?_, fun _ => hst.2, fun h => by omega⟩, ?_, h9.setCell (fun _ => .inr (.inl rfl)) _⟩
      ·rw [val_cons, Int.mul_add, ← I4.out, ← hst.1, BP_succ]
       have e2 : BP j * val vs * (18446744073709551616 * val qd) = 18446744073709551616 * BP j * val vs * val qd := by
        rw [Int.mul_left_comm, ← Int.mul_assoc, ← Int.mul_assoc]
       omega
      ·rw [if_neg (by omega), hx]
     have HCQ : Hid (∀ w', Row w' bq (put zs (j + 1) qd) → ∃ x, w'.cell? ⟨bq, j, none⟩ = some (.int .u64 x)) := fun w' h => ⟨_, h.cell (i := j) (by rw [put_length (by have := I2.out; omega)]; omega)⟩
     have HCU : Hid (∀ w' ds, ds.length = n + 1 → Row w' bu (put us1 j ds ++ usp) → w'.cell? ⟨bu, j + n - 1, none⟩ = some (.int .u64 ((put us1 j ds).getD (j + n - 1) 0)) ∧ Wd ((put us1 j ds).getD (j + n - 1) 0)) := fun w' ds hd h => by
      have hl := HPL.out ds hd
      have h1 := h.cell (i := j + n - 1) (by rw [List.length_append, hl]; omega)
      rw [getD_app (by omega)] at h1
      exact ⟨h1, h.2.left.getD _⟩
     clear hma hok hback hmdl hmdw hmcw hSDl hSDw hGs hGseg hGl hXapp hXl hXw hsv
     have hgn : (g = bu) = False := by simp [hgu]
     obtain ⟨hq00, hq01⟩ := HQ.out.2.2
     have hmw := HMCW.out
     obtain ⟨hmc0, hmc1⟩ := hmw
     go_upto_region 28 with (go_at_call 177; refine (HMA.out).mono ?_; rintro e w3 ⟨rfl, hg3r, hg3c⟩; obtain ⟨x5, hcell⟩ := HCN.out _ hg3r; have hfree := hg3r.free n)
     have rg : Row (w3.setCell ⟨g, n, none⟩ (.int .u64 mc)) g (put gs1 0 (md ++ [mc])) := by have := hg3r.set n HMCW.out; rwa [HGS.out] at this
     have ru : Row (w3.setCell ⟨g, n, none⟩ (.int .u64 mc)) bu (us1 ++ usp) := (r2.kept hg3c (fun h => hgu h.symm)).set_ne (fun h => hgu h.symm) n _
     have rq : Row (w3.setCell ⟨g, n, none⟩ (.int .u64 mc)) bq (put zs (j + 1) qd) := (r1.kept hg3c (fun h => hgq h.symm)).set_ne (fun h => hgq h.symm) n _
     have rv : Row (w3.setCell ⟨g, n, none⟩ (.int .u64 mc)) bv (vs ++ vsp) := (r2v.kept hg3c (fun h => hgv h.symm)).set_ne (fun h => hgv h.symm) n _
     have hcA : Chg (fun i => i = bu ∨ i = bq ∨ i = g) w2 (w3.setCell ⟨g, n, none⟩ (.int .u64 mc)) := (r7.trans (hg3c.mono (fun _ h => .inr (.inr h))) (fun _ _ h => h)).setCell (fun _ => .inr (.inr rfl)) _
     clear hcell hfree hg3r hg3c HCN HMA
     have hq1 : (n : Int) + 1 ≤ (cg : Int) := by omega
     have hq2 : (j : Int) ≤ (j : Int) + ((n : Int) + 1) := by omega
     have hq3 : (j : Int) + ((n : Int) + 1) ≤ (cu : Int) := by omega
     have hq4 : j + (n + 1) - j = n + 1 := by omega
     have hq5 : ((j : Int) + ((n : Int) + 1)).toNat = j + (n + 1) := by omega
     have hq6 : ((n : Int) + 1).toNat = n + 1 := by omega
     have hq7 : (0 : Int) ≤ (n : Int) + 1 := by omega
     go_still_tail 15, kr_
     change wpList _ _ _ _ _ (w3.setCell ⟨g, n, none⟩ (.int .u64 mc)).drew
     have rg2 := rg.drew
     have ru2 := ru.drew
     have rq2 := rq.drew
     have rv2 := rv.drew
     have hcA2 := hcA.drew
     clear rg ru rq rv hcA
     generalize (w3.setCell ⟨g, n, none⟩ (.int .u64 mc)).drew = w4 at *
     have hsub := subVV_any bu j (cu - j) bu j (cu - j) g 0 cg (n + 1) _ _ _ w4 ru2 ru2 rg2 (by have := I1.out; simp; omega) (by have := I1.out; simp; omega) (by rw [HGL.out]; omega) (fun _ => Nat.le_refl _) (fun h => absurd h hgu) (by omega)
     rw [HXAPP.out, HGSEG.out, HPUTA.out _ HSDL.out] at hsub
     by_cases hqe : q * val vs ≤ val (seg us1 j (n + 1))
     ·as_aux_lemma =>
       obtain ⟨o1, o2⟩ := HOK.out hqe
       have hQe : q = val (seg us1 j (n + 1)) / val vs := by
        have h1 := HQ.out.1
        have h2 := (Int.le_ediv_iff_mul_le HDIG.out.vpos.2).2 hqe
        omega
       rw [o1] at hsub
       have HSUB := hid hsub
       have HQE := hid hQe
       have HO2 := hid o2
       clear hsub o1 o2 hQe hqe HBACK HOK
       go_wp2_with (go_at_call 130; refine (HSUB.out).mono ?_; rintro e w5 ⟨rfl, r5u, r5c⟩; obtain ⟨c1, wt0, wt1⟩ := HCU.out _ _ HSDL.out r5u; have r5q := rq2.kept r5c hqu; obtain ⟨x6, hcellq⟩ := HCQ.out _ r5q; have hfreeq := r5q.free j; have hnx := HEND.out q _ w5 w5 HSDL.out HSDW.out HQ.out.2.2 HQE.out HO2.out r5u r5q (rg2.kept r5c hgu) (hcA2.trans r5c (fun _ _ h => .inl h)) _ rfl; have HNX := hid hnx; clear hnx r5u r5c r5q; generalize (put us1 j (subD (seg us1 j (n + 1)) (md ++ [mc]) 0)).getD (j + n - 1) 0 = t at *)
       go_roundw
       case rel => exact ⟨j, by omega, by go_num, HNX.out⟩
       case measure => simp [intOf]
     ·as_aux_lemma =>
       have hlt : val (seg us1 j (n + 1)) < q * val vs := by omega
       have hQe : q - 1 = val (seg us1 j (n + 1)) / val vs := by
        have h1 := HQ.out
        have h2 : ¬ q ≤ val (seg us1 j (n + 1)) / val vs := fun h => hqe ((Int.le_ediv_iff_mul_le HDIG.out.vpos.2).1 h)
        omega
       have hQV : (q - 1) * val vs ≤ val (seg us1 j (n + 1)) := by rw [hQe]; exact Int.ediv_mul_le _ (by have := HDIG.out.vpos.2; omega)
       have hq1p : 1 ≤ q := by
        have := Int.ediv_nonneg (val_nonneg (seg_wds hwu j (n + 1))) (Int.le_of_lt HDIG.out.vpos.2)
        omega
       obtain ⟨o1, o2, o3⟩ := HBACK.out hlt hQV
       rw [o1] at hsub
       have hAl : (addD ((subD (seg us1 j (n + 1)) (md ++ [mc]) 0).take n) vs 0).length = n := by rw [addD_length]; simp [HSDL.out, HVL.out]
       have hAw := addD_wds ((subD (seg us1 j (n + 1)) (md ++ [mc]) 0).take n) vs 0
       have hcb := addC_bd ((subD (seg us1 j (n + 1)) (md ++ [mc]) 0).take n) vs 0 (HSDW.out.take n) hwv (by omega) (by omega)
       have hsdw := HSDW.out.getD n
       have hadd := fun (w6 : World) (h1 : Row w6 bu (put us1 j (subD (seg us1 j (n + 1)) (md ++ [mc]) 0) ++ usp)) (h2 : Row w6 bv (vs ++ vsp)) =>
        addVV_any bu j (cu - j) bu j (cu - j) bv 0 cv n _ _ _ w6 h1 h1 h2 (by have := HPL.out _ HSDL.out; simp; omega) (by have := HPL.out _ HSDL.out; simp; omega) (by have := HVL.out; simp; omega) (fun _ => Nat.le_refl _) (fun h => absurd h.symm huv) (by omega)
       rw [seg_put_take HSDL.out (by have := I1.out; omega), HSVE.out] at hadd
       generalize subD (seg us1 j (n + 1)) (md ++ [mc]) 0 = SD at *
       generalize addD (SD.take n) vs 0 = AD at *
       generalize addC (SD.take n) vs 0 = cc at *
       have hback := put_back (us := us1) (usp := usp) (j := j) HSDL.out hAl (by have := I1.out; omega)
       have htop := getD_put_top (us := us1) (usp := usp) (j := j) HSDL.out hAl (by have := I1.out; omega)
       have hA1 : (AD ++ [(0 : Int)]).length = n + 1 := by simp [hAl]
       have hA2 : Wds (AD ++ [(0 : Int)]) := hAw.append (Wds.cons wd0 Wds.nil)
       have hA3 : val (AD ++ [(0 : Int)]) = val (seg us1 j (n + 1)) - (q - 1) * val vs := by rw [val_snoc, Int.mul_zero, Int.add_zero]; exact o2
       have hzero : IntKind.u64.wrap (SD.getD n 0 + cc) = 0 := by rw [IntKind.wrap_u64]; exact o3
       have HCB : Hid (∀ w', Row w' bu (put (put us1 j SD ++ usp) j AD) → w'.cell? ⟨bu, j + n, none⟩ = some (.int .u64 (SD.getD n 0))) := fun w' h => by
        have h1 := h.cell (i := j + n) (by rw [put_length (by have := HPL.out _ HSDL.out; simp; omega), List.length_append, HPL.out _ HSDL.out]; omega)
        rwa [htop] at h1
       have HBK := hid hback
       have HSUB := hid hsub; have HADD := hid hadd; have HQE := hid hQe; have HA1 := hid hA1; have HA2 := hid hA2; have HA3 := hid hA3
       have HQ1W : Hid (Wd (q - 1)) := ⟨by omega, by omega⟩
       have hwq1 : IntKind.u64.wrap (q - 1) = q - 1 := by rw [IntKind.wrap_u64]; omega
       obtain ⟨hcc0, hcc1⟩ := hcb
       obtain ⟨hsd0, hsd1⟩ := hsdw
       clear hsub hadd o1 o2 o3 hQe hlt hQV hqe hback htop hA1 hA2 hA3 hAl hAw HBACK HOK
       generalize SD.getD n 0 = sd at *
       go_upto_region 30 with (go_at_call 130; refine (HSUB.out).mono ?_; rintro e w5 ⟨rfl, r5u, r5c⟩)
       have r5q := rq2.kept r5c hqu
       have r5v := rv2.kept r5c (fun h => huv h.symm)
       have r5g := rg2.kept r5c hgu
       have hc5 := hcA2.trans r5c (fun _ _ h => .inl h)
       have hp1 : ((j : Int) + (n : Int)).toNat = j + n := by omega
       have hp2 : (j : Int) ≤ (j : Int) + (n : Int) := by omega
       have hp3 : (j : Int) + (n : Int) ≤ (cu : Int) := by omega
       have hp4 : j + n - j = n := by omega
       have hp5 : (0 : Int) ≤ (j : Int) := by omega
       go_still_tail 13, kr_
       change wpList _ _ _ _ _ w5.drew
       have r6u := r5u.drew
       have r6q := r5q.drew
       have r6v := r5v.drew
       have r6g := r5g.drew
       have hc6 := hc5.drew
       clear r5u r5q r5v r5g hc5
       generalize w5.drew = w6 at *
       go_wp2_with (go_at_call 127; refine (HADD.out _ r6u r6v).mono ?_; rintro e w7 ⟨rfl, r7u, r7c⟩; have hcellt := HCB.out _ r7u; have hfreet := r7u.free (j + n); have r8u := r7u.set (j + n) wd0; rw [HBK.out] at r8u; obtain ⟨c1, wt0, wt1⟩ := HCU.out _ _ HA1.out r8u; have r8q := (r6q.kept r7c hqu).set_ne hqu (j + n) (.int .u64 0); obtain ⟨x6, hcellq⟩ := HCQ.out _ r8q; have hfreeq := r8q.free j; have hnx := HEND.out (q - 1) _ _ w7 HA1.out HA2.out HQ1W.out HQE.out HA3.out r8u r8q ((r6g.kept r7c hgu).set_ne hgu (j + n) _) ((hc6.trans r7c (fun _ _ h => .inl h)).setCell (fun _ => .inl rfl) _) _ rfl; have HNX := hid hnx; clear hnx r8u r8q; generalize (put us1 j (AD ++ [0])).getD (j + n - 1) 0 = t at *)
       go_roundw
       case rel => exact ⟨j, by omega, by go_num, HNX.out⟩
       case measure => simp [intOf]
theorem PInt.after {w w1 w' : World} {p : Nat} {bo : Option Nat} {X : Int} {ret : Value} {e : Ending} (hc : Chg (fun _ => False) w w1) (h : PInt w1 p bo X ret e w') : PInt w p bo X ret e w' := by
 obtain ⟨h1, bo', h2, h3, h4⟩ := h
 refine ⟨h1, bo', h2, ?_, (hc.mono (fun _ h => h.elim)).trans h4 sb_⟩
 rcases h3 with k | ⟨c, k, hk⟩
 ·exact .inl k
 ·exact .inr ⟨c, k, by have := hc.size; omega⟩
theorem PInt.eq {w w' : World} {p : Nat} {bo : Option Nat} {X : Int} {r : Value} {e : Ending} (h : PInt w p bo X r e w') : e = .returned r := h.1
theorem bint_row : (Tryz.prog.info? 254).map (fun i => i.size) = some 2 := by kernel_rfl
noncomputable def bintInfo : TypeInfo := (Tryz.prog.info? 254).get (by have := bint_row; cases h : Tryz.prog.info? 254 with | none => simp [h] at this | some i => rfl)
theorem info_bint : Tryz.prog.info? 254 = some bintInfo := by unfold bintInfo; simp
theorem bint_size : bintInfo.size = 2 := by have := bint_row; rw [info_bint] at this; simpa using this
theorem pbint_eql_same (w : World) (a : Addr) : (binOp .eql 108 (.pointer (some a)) (.pointer (some a))).run Tryz.prog w = .ok (.bool true) w := by
 have h : ∀ d : Nat, (Op.equalIn (d + 1) 108 (.pointer (some a)) (.pointer (some a))).run Tryz.prog w = .ok true w := fun d => by
  simp [Op.equalIn, run_underlying Tryz.underlying108, sizeOf, typeInfo, info_bint, run_sameAddr_same]
 simp only [binOp]
 simp [Op.equal, Op.maxDepth, h 9999]
theorem pbint_eql_other {w : World} {p q : Nat} {bo bq : Option Nat} {x y : Int} (hp : IntAt w p bo x) (hq : IntAt w q bq y) (hne : p ≠ q) :
  (binOp .eql 108 (.pointer (some ⟨p, 0, none⟩)) (.pointer (some ⟨q, 0, none⟩))).run Tryz.prog w = .ok (.bool false) w := by
 obtain ⟨c1, T1, h1⟩ := hp.obj
 obtain ⟨c2, T2, h2⟩ := hq.obj
 have h : ∀ d : Nat, (Op.equalIn (d + 1) 108 (.pointer (some ⟨p, 0, none⟩)) (.pointer (some ⟨q, 0, none⟩))).run Tryz.prog w = .ok false w := fun d => by
  simp [Op.equalIn, run_underlying Tryz.underlying108, sizeOf, typeInfo, info_bint, bint_size, run_sameAddr_other w (a := ⟨p, 0, none⟩) (b := ⟨q, 0, none⟩) (fun e => hne (Addr.mk.inj e).1) h1 h2]
 simp only [binOp]
 simp [Op.equal, Op.maxDepth, h 9999]
def PNew (w : World) (e : Ending) (w' : World) : Prop := ∃ b, e = .returned (.pointer (some ⟨b, 0, none⟩)) ∧ IntAt w' b none 0 ∧ w.heap.size ≤ b ∧ Chg (fun _ => False) w w'
theorem getBint_any (w : World) : Calls Tryz.prog 78 #[] w (PNew w) := by
 go_enter Tryz.func78, Tryz.ntmps78
 go_wp2
 go_ret
 refine ⟨w.heap.size, rfl, ⟨121, .slice none 0 0, [], ?_, by decide, ⟨rfl, rfl⟩, Nrm.nil, rfl⟩, Nat.le_refl _, (Chg.refl _ _).alloc _⟩
 rw [heap_alloc_new]
theorem putBint_d (v : Value) (u : FrameMode) (w : World) : CallsD Tryz.prog 79 #[v] u w (fun e u' w' => u' = u ∧ e = .returned (.tuple #[]) ∧ w' = w) := by
 go_enter_d Tryz.func79, Tryz.ntmps79
 go_wp2
 first | go_end0 | ((try simp only [Exit.inBlock, Exit.then]); refine bodyPost_ret (results_none rfl _ _ _) rfl ?_) | skip
 first | exact ⟨rfl, rfl, rfl⟩ | exact ⟨rfl, rfl⟩ | trivial | simp
theorem bint_setFint (p : Nat) (bo : Option Nat) (x0 x : Int) (w : World) (hp : IntAt w p bo x0) (hx : Wd x) :
  Calls Tryz.prog 80 #[.pointer (some ⟨p, 0, none⟩), .int .u64 x] w (PInt w p bo x (.tuple #[])) := by
 have H := hid (Int_SetUint64 p bo x0 x w hp hx)
 go_enter Tryz.func80, Tryz.ntmps80
 go_wp2_with (go_at_call 90; refine H.out.mono ?_; rintro e w1 ⟨rfl, h⟩; have HH := hid h; clear h)
 go_end0
 exact ⟨rfl, HH.out⟩
theorem bint_add (p q r : Nat) (bo bq br : Option Nat) (x0 x y : Int) (w : World) (hp : IntAt w p bo x0) (hq : IntAt w q bq x) (hr : IntAt w r br y) (hx : x < BP 30) (hy : y < BP 30) :
  Calls Tryz.prog 82 #[.pointer (some ⟨p, 0, none⟩), .pointer (some ⟨q, 0, none⟩), .pointer (some ⟨r, 0, none⟩)] w (PInt w p bo (x + y) (.tuple #[])) := by
 have H := hid (Int_Add p q r bo bq br x0 x y w hp hq hr hx hy)
 go_enter Tryz.func82, Tryz.ntmps82
 go_wp2_with (go_at_call 94; refine H.out.mono ?_; rintro e w1 ⟨rfl, h⟩; have HH := hid h; clear h)
 go_end0
 exact ⟨rfl, HH.out⟩
theorem bint_sub (p q r : Nat) (bo bq br : Option Nat) (x0 x y : Int) (w : World) (hp : IntAt w p bo x0) (hq : IntAt w q bq x) (hr : IntAt w r br y) (hx : x < BP 30) (hy : y ≤ x) :
  Calls Tryz.prog 96 #[.pointer (some ⟨p, 0, none⟩), .pointer (some ⟨q, 0, none⟩), .pointer (some ⟨r, 0, none⟩)] w (PInt w p bo (x - y) (.tuple #[])) := by
 have H := hid (Int_Sub p q r bo bq br x0 x y w hp hq hr hx hy)
 go_enter Tryz.func96, Tryz.ntmps96
 go_wp2_with (go_at_call 112; refine H.out.mono ?_; rintro e w1 ⟨rfl, h⟩; have HH := hid h; clear h)
 go_end0
 exact ⟨rfl, HH.out⟩
theorem bint_setBint (p q : Nat) (bo bq : Option Nat) (x0 x : Int) (w : World) (hp : IntAt w p bo x0) (hq : IntAt w q bq x) (hne : p ≠ q) (hx : x < BP 30) :
  Calls Tryz.prog 108 #[.pointer (some ⟨p, 0, none⟩), .pointer (some ⟨q, 0, none⟩)] w (PInt w p bo x (.tuple #[])) := by
 have H := hid (Int_Set p q bo bq x0 x w hp hq hne hx)
 go_enter Tryz.func108, Tryz.ntmps108
 go_wp2_with (go_at_call 125; refine H.out.mono ?_; rintro e w1 ⟨rfl, h⟩; have HH := hid h; clear h)
 go_end0
 exact ⟨rfl, HH.out⟩
theorem bint_dbl (p q : Nat) (bo bq : Option Nat) (x0 x : Int) (w : World) (hp : IntAt w p bo x0) (hq : IntAt w q bq x) (hx : x < BP 30) :
  Calls Tryz.prog 116 #[.pointer (some ⟨p, 0, none⟩), .pointer (some ⟨q, 0, none⟩)] w (PInt w p bo (x * 2) (.tuple #[])) := by
 have H := hid (Int_Lsh p q 1 bo bq x0 x w hp hq hx (by omega) (by omega))
 go_enter Tryz.func116, Tryz.ntmps116
 go_wp2_with (go_at_call 135; refine H.out.mono ?_; rintro e w1 ⟨rfl, h⟩; have HH := hid h; clear h)
 go_end0
 exact ⟨rfl, HH.out⟩
theorem bint_cmp (q r : Nat) (bq br : Option Nat) (x y : Int) (w : World) (hq : IntAt w q bq x) (hr : IntAt w r br y) (hne : q ≠ r) :
  Calls Tryz.prog 83 #[.pointer (some ⟨q, 0, none⟩), .pointer (some ⟨r, 0, none⟩)] w (fun e w' => e = .returned (.int .i64 (cmpI x y)) ∧ Q w w') := by
 have h := Int_Cmp q r bq br x y w hq hr hne
 generalize cmpI x y = k at *
 have H := hid h
 clear h
 go_enter Tryz.func83, Tryz.ntmps83
 go_wp2_with (go_at_call 95; refine H.out.mono ?_; rintro e w1 ⟨rfl, i, rfl⟩)
 go_ret
 exact ⟨rfl, _, rfl⟩
theorem bint_sign (q : Nat) (bq : Option Nat) (x : Int) (w : World) (hq : IntAt w q bq x) :
  Calls Tryz.prog 114 #[.pointer (some ⟨q, 0, none⟩)] w (fun e w' => e = .returned (.int .i64 (if x = 0 then 0 else 1)) ∧ w = w') := by
 have h := Int_Sign q bq x w hq
 generalize (if x = 0 then (0 : Int) else 1) = k at *
 have H := hid h
 clear h
 go_enter Tryz.func114, Tryz.ntmps114
 go_wp2_with (go_at_call 133; refine H.out.mono ?_; rintro e w1 ⟨rfl, rfl⟩)
 go_ret
 exact ⟨rfl, rfl⟩
theorem bint_fint (q : Nat) (bq : Option Nat) (x : Int) (w : World) (hq : IntAt w q bq x) (hx : Wd x) :
  Calls Tryz.prog 101 #[.pointer (some ⟨q, 0, none⟩)] w (fun e w' => e = .returned (.int .u64 x) ∧ w = w') := by
 have H := hid (Int_Uint64 q bq x w hq hx)
 go_enter Tryz.func101, Tryz.ntmps101
 go_wp2_with (go_at_call 119; refine H.out.mono ?_; rintro e w1 ⟨rfl, rfl⟩)
 go_ret
 exact ⟨rfl, rfl⟩
theorem bint_isOdd (q : Nat) (bq : Option Nat) (x : Int) (w : World) (hq : IntAt w q bq x) :
  Calls Tryz.prog 118 #[.pointer (some ⟨q, 0, none⟩)] w (fun e w' => e = .returned (.bool (x % 2 != 0)) ∧ w = w') := by
 have h := Int_Bit0 q bq x w hq
 have h0 : 0 ≤ x % 2 := by omega
 have h1 : x % 2 < 2 := by omega
 generalize x % 2 = k at *
 have H := hid h
 clear h
 go_enter Tryz.func118, Tryz.ntmps118
 go_wp2_with (go_at_call 136; refine H.out.mono ?_; rintro e w1 ⟨rfl, rfl⟩)
 go_ret
 exact ⟨rfl, rfl⟩
theorem bint_subAbs (p q r : Nat) (bo bq br : Option Nat) (x0 x y : Int) (w : World) (hp : IntAt w p bo x0) (hq : IntAt w q bq x) (hr : IntAt w r br y) (hne : q ≠ r) (hx : x < BP 30) (hy : y < BP 30) :
  Calls Tryz.prog 84 #[.pointer (some ⟨p, 0, none⟩), .pointer (some ⟨q, 0, none⟩), .pointer (some ⟨r, 0, none⟩)] w (PInt w p bo (if y ≤ x then x - y else y - x) (.tuple #[])) := by
 have hcm := bint_cmp q r bq br x y w hq hr hne
 by_cases h : y < x
 ·have hc : cmpI x y = 1 := by unfold cmpI; rw [if_neg (by omega), if_pos h]
  rw [hc] at hcm
  rw [if_pos (by omega)]
  have hs := fun (w1 : World) (k : Alike w w1) => (bint_sub p q r bo bq br x0 x y w1 (hp.alike k) (hq.alike k) (hr.alike k) hx (by omega))
  have HC := hid hcm; have HS := hid hs
  have hb : ((1 : Int) == 1) = true := rfl
  clear hcm hs hc
  go_enter Tryz.func84, Tryz.ntmps84
  go_wp2_with (first | (go_at_call 83; refine HC.out.mono ?_; rintro e w1 ⟨rfl, i, rfl⟩) | (go_at_call 96; refine (HS.out _ (by exact ⟨rfl, rfl, rfl, rfl⟩)).mono ?_; rintro e w2 hh; replace hh := hh.ofQ ⟨i, rfl⟩; obtain ⟨rfl, hh⟩ := hh; have HH := hid hh; clear hh))
  go_end0
  exact ⟨rfl, HH.out⟩
 ·have hk : cmpI x y ≤ 0 := by unfold cmpI; split <;> (try split) <;> omega
  have hE : (if y ≤ x then x - y else y - x) = y - x := by split <;> omega
  rw [hE]
  generalize cmpI x y = k at *
  have hs := fun (w1 : World) (k : Alike w w1) => (bint_sub p r q bo br bq x0 y x w1 (hp.alike k) (hr.alike k) (hq.alike k) hy (by omega))
  have HC := hid hcm; have HS := hid hs
  have hb : (k == 1) = false := beq_eq_false_iff_ne.2 (by omega)
  clear hcm hs hE
  go_enter Tryz.func84, Tryz.ntmps84
  go_wp2_with (first | (go_at_call 83; refine HC.out.mono ?_; rintro e w1 ⟨rfl, i, rfl⟩) | (go_at_call 96; refine (HS.out _ (by exact ⟨rfl, rfl, rfl, rfl⟩)).mono ?_; rintro e w2 hh; replace hh := hh.ofQ ⟨i, rfl⟩; obtain ⟨rfl, hh⟩ := hh; have HH := hid hh; clear hh))
  go_end0
  exact ⟨rfl, HH.out⟩
end Go.Proofs.YthdkandofddohaaGreatDoor
