/- Part 18 of the proof. -/
import Derived.Test.YtmpkgkjnoanlhaaGreatDoorP17
namespace Go.Proofs.YtmpkgkjnoanlhaaGreatDoor
open Go.RowKit
set_option linter.unusedVariables false
set_option linter.unusedSimpArgs false
set_option maxRecDepth 20000
def PWN (w : World) (sb : Bool) (a : Nat) (e : Ending) (w' : World) : Prop := ∃ (E : Option Addr) (k l : Nat), e = .returned (.agg #[.bool sb, .slice E k l]) ∧ SN w' E k l a ∧ Chg (fun _ => False) w w'
theorem sgn_len {w : World} {E : Option Addr} {k l a : Nat} (h : SN w E k l a) : (k != 0) = (a != 0) := by
 have := h.zero
 by_cases hk : k = 0
 ·have h2 := this.1 hk
  rw [hk, h2]
 ·have h2 : a ≠ 0 := fun h => hk (this.2 h)
  rw [bne_iff_ne.2 hk, bne_iff_ne.2 h2]
theorem wholeOf_sn {w : World} {E : Option Addr} {k l a : Nat} (s sb : Bool) (h : SN w E k l a) (hs : (s && a != 0) = sb) : Calls Tryz.prog 49 #[.bool s, .slice E k l] w (PV w (.agg #[.bool sb, .slice E k l])) :=
 wholeOf_any s E k l sb (by rw [sgn_len h]; exact hs) w
set_option maxHeartbeats 1000000 in
theorem WholeMul_any {w : World} {A B : Option Addr} {n c m d a b : Nat} (n1 n2 sb : Bool) (ha : SN w A n c a) (hb : SN w B m d b) (ha1 : a < 10 ^ 240) (hb1 : b < 10 ^ 240)  (hsb : ((n1 != n2) && a * b != 0) = sb) :
  Calls Tryz.prog 32 #[.agg #[.bool n1, .slice A n c], .agg #[.bool n2, .slice B m d]] w (PWN w sb (a * b)) := by
 have ha2 : a < 10 ^ 243 := Nat.lt_of_lt_of_le ha1 (Nat.pow_le_pow_right (by omega) (by omega))
 have hb2 : b < 10 ^ 243 := Nat.lt_of_lt_of_le hb1 (Nat.pow_le_pow_right (by omega) (by omega))
 have HM := hid (fun w1 (h : Chg (fun _ => False) w w1) => NatMul_any (ha.kept h) (hb.kept h) ha2 hb2)
 obtain ⟨p, hp⟩ : ∃ p, a * b = p := ⟨_, rfl⟩
 rw [hp] at HM hsb ⊢
 clear hp
 obtain ⟨s, hs⟩ : ∃ s, (!(n1 == n2)) = s := ⟨_, rfl⟩
 rw [show (n1 != n2) = s from hs] at hsb
 have HSB := hid hsb
 clear hsb ha hb ha1 hb1 ha2 hb2
 obtain ⟨HC0, HD, hB0, hB1, hB2⟩ := box3 w #[.bool n1, .slice A n c] 32 #[.bool n2, .slice B m d] 32 #[.bool false, .slice none 0 0] 32
 have HZ := hid hB2
 have HSS := hid (fun (w1 : World) h => And.intro ((cell2 (kept_heap (w' := w1) h hB0)).1) (And.intro ((cell2 (kept_heap (w' := w1) h hB0)).2.1) (And.intro ((cell2 (kept_heap (w' := w1) h hB1)).1) ((cell2 (kept_heap (w' := w1) h hB1)).2.1))))
 have HST := hid (fun w1 x0 x1 h => And.intro (far2 (z := w.heap.size + 1 + 1) (x0 := x0) (x1 := x1) (HSS.out w1 h).1 (by omega)) (And.intro (far2 (z := w.heap.size + 1 + 1) (x0 := x0) (x1 := x1) (HSS.out w1 h).2.1 (by omega)) (And.intro (far2 (z := w.heap.size + 1 + 1) (x0 := x0) (x1 := x1) (HSS.out w1 h).2.2.1 (by omega)) (far2 (z := w.heap.size + 1 + 1) (x0 := x0) (x1 := x1) (HSS.out w1 h).2.2.2 (by omega)))))
 clear hB0 hB1 hB2
 have hk := HD.out
 go_enter Tryz.func32, Tryz.ntmps32
 go_wp2_with fail
 first | (go_region_held3 (fun w' => w'.cell? ⟨w.heap.size, 0, none⟩ = some (.bool n1) ∧ w'.cell? ⟨w.heap.size, 1, none⟩ = some (.slice A n c) ∧ w'.cell? ⟨w.heap.size + 1, 0, none⟩ = some (.bool n2) ∧ w'.cell? ⟨w.heap.size + 1, 1, none⟩ = some (.slice B m d)) (first | with_reducible exact HSS.out _ hk | with_reducible exact HST.out _ _ _ hk | go_keep) (first | (go_at_call 34; refine (HM.out _ (HC0.out.trans hk sb_)).mono ?_; intro e w1 h; obtain ⟨E, k, l, he, hsn, hc⟩ := h; subst he; replace hk := hk.trans hc sb_; skip; have HSN := hid hsn; clear hsn; clear hc; obtain ⟨k0, k1, f0, f1⟩ := cell2 (kept_heap hk HZ.out)) | (go_at_call 49; refine (wholeOf_sn s sb HSN.out HSB.out).mono ?_; intro e w1 h; obtain ⟨he, hc⟩ := h; subst he; replace hk := hk.trans hc sb_; (try replace HSN := hid (HSN.out.kept hc)); clear hc; obtain ⟨k0, k1, f0, f1⟩ := cell2 (kept_heap hk HZ.out)))) | fail
 all_goals (go_wp2_with fail; refine bodyPost_ret (v := .agg #[.bool sb, .slice E k l]) (by rw [results_cell_row rfl _ _ (w.heap.size + 1 + 1) _ _ _ _ rfl (store2 (kept_heap hk HZ.out) _ _) Tryz.underlying32 rfl whole_size]) rfl ⟨E, k, l, rfl, sn_end2 HSN.out (kept_heap hk HZ.out) _ _, chg2 (HC0.out.trans hk sb_) (by omega) _ _⟩)
set_option maxHeartbeats 1000000 in
theorem WholeAdd_same {w : World} {A B : Option Addr} {n c m d a b : Nat} (n1 n2 sb : Bool) (ha : SN w A n c a) (hb : SN w B m d b) (ha1 : a < 10 ^ 240) (hb1 : b < 10 ^ 240) (hs : n1 = n2) (hsb : (n1 && (a + b) != 0) = sb) :
  Calls Tryz.prog 33 #[.agg #[.bool n1, .slice A n c], .agg #[.bool n2, .slice B m d]] w (PWN w sb ((a + b))) := by
 have ha2 : a < 10 ^ 243 := Nat.lt_of_lt_of_le ha1 (Nat.pow_le_pow_right (by omega) (by omega))
 have hb2 : b < 10 ^ 243 := Nat.lt_of_lt_of_le hb1 (Nat.pow_le_pow_right (by omega) (by omega))
 have HM := hid (fun w1 (h : Chg (fun _ => False) w w1) => NatAdd_any (ha.kept h) (hb.kept h) ha2 hb2)
 obtain ⟨p, hp⟩ : ∃ p, a + b = p := ⟨_, rfl⟩
 rw [hp] at HM hsb ⊢
 clear hp
 subst hs
 obtain ⟨s, hs⟩ : ∃ s, n1 = s := ⟨_, rfl⟩
 subst hs
 have HSB := hid hsb
 clear hsb ha hb ha1 hb1 ha2 hb2
 obtain ⟨HC0, HD, hB0, hB1, hB2⟩ := box3 w #[.bool n1, .slice A n c] 32 #[.bool n1, .slice B m d] 32 #[.bool false, .slice none 0 0] 32
 have HZ := hid hB2
 have HSS := hid (fun (w1 : World) h => And.intro ((cell2 (kept_heap (w' := w1) h hB0)).1) (And.intro ((cell2 (kept_heap (w' := w1) h hB0)).2.1) (And.intro ((cell2 (kept_heap (w' := w1) h hB1)).1) ((cell2 (kept_heap (w' := w1) h hB1)).2.1))))
 have HST := hid (fun w1 x0 x1 h => And.intro (far2 (z := w.heap.size + 1 + 1) (x0 := x0) (x1 := x1) (HSS.out w1 h).1 (by omega)) (And.intro (far2 (z := w.heap.size + 1 + 1) (x0 := x0) (x1 := x1) (HSS.out w1 h).2.1 (by omega)) (And.intro (far2 (z := w.heap.size + 1 + 1) (x0 := x0) (x1 := x1) (HSS.out w1 h).2.2.1 (by omega)) (far2 (z := w.heap.size + 1 + 1) (x0 := x0) (x1 := x1) (HSS.out w1 h).2.2.2 (by omega)))))
 clear hB0 hB1 hB2
 have hk := HD.out
 obtain ⟨d0, d1, d2, d3⟩ := HSS.out _ (Chg.refl _ _)
 go_enter Tryz.func33, Tryz.ntmps33
 go_wp2_with fail
 first | (go_region_held3 (fun w' => w'.cell? ⟨w.heap.size, 0, none⟩ = some (.bool n1) ∧ w'.cell? ⟨w.heap.size, 1, none⟩ = some (.slice A n c) ∧ w'.cell? ⟨w.heap.size + 1, 0, none⟩ = some (.bool n1) ∧ w'.cell? ⟨w.heap.size + 1, 1, none⟩ = some (.slice B m d)) (first | with_reducible exact HSS.out _ hk | with_reducible exact HST.out _ _ _ hk | go_keep) (first | (go_at_call 57; refine (HM.out _ (HC0.out.trans hk sb_)).mono ?_; intro e w1 h; obtain ⟨E, k, l, he, hsn, hc⟩ := h; subst he; replace hk := hk.trans hc sb_; skip; have HSN := hid hsn; clear hsn; clear hc; obtain ⟨k0, k1, f0, f1⟩ := cell2 (kept_heap hk HZ.out)) | (go_at_call 49; refine (wholeOf_sn n1 sb HSN.out HSB.out).mono ?_; intro e w1 h; obtain ⟨he, hc⟩ := h; subst he; replace hk := hk.trans hc sb_; (try replace HSN := hid (HSN.out.kept hc)); clear hc; obtain ⟨k0, k1, f0, f1⟩ := cell2 (kept_heap hk HZ.out)))) | fail
 all_goals (go_wp2_with fail; refine bodyPost_ret (v := .agg #[.bool sb, .slice E k l]) (by rw [results_cell_row rfl _ _ (w.heap.size + 1 + 1) _ _ _ _ rfl (store2 (kept_heap hk HZ.out) _ _) Tryz.underlying32 rfl whole_size]) rfl ⟨E, k, l, rfl, sn_end2 HSN.out (kept_heap hk HZ.out) _ _, chg2 (HC0.out.trans hk sb_) (by omega) _ _⟩)
set_option maxHeartbeats 1000000 in
theorem WholeAdd_ge {w : World} {A B : Option Addr} {n c m d a b : Nat} (n1 n2 sb : Bool) (ha : SN w A n c a) (hb : SN w B m d b) (ha1 : a < 10 ^ 240) (hb1 : b < 10 ^ 240) (hs : (n1 == n2) = false) (hle : b ≤ a) (hsb : (n1 && (a - b) != 0) = sb) :
  Calls Tryz.prog 33 #[.agg #[.bool n1, .slice A n c], .agg #[.bool n2, .slice B m d]] w (PWN w sb ((a - b))) := by
 have ha2 : a < 10 ^ 243 := Nat.lt_of_lt_of_le ha1 (Nat.pow_le_pow_right (by omega) (by omega))
 have hb2 : b < 10 ^ 243 := Nat.lt_of_lt_of_le hb1 (Nat.pow_le_pow_right (by omega) (by omega))
 have HM := hid (fun w1 (h : Chg (fun _ => False) w w1) => NatSub_any (ha.kept h) (hb.kept h) ha2 (by omega))
 have HCM := hid (fun w1 (h : Chg (fun _ => False) w w1) => NatCmp_any (ha.kept h) (hb.kept h) ha2 hb2)
 obtain ⟨p, hp⟩ : ∃ p, a - b = p := ⟨_, rfl⟩
 rw [hp] at HM hsb ⊢
 clear hp
 have hcm : (0 : Int) ≤ cmpN a b := by unfold cmpN; rw [if_neg (by omega)]; split <;> omega
 generalize cmpN a b = q at *
 have HSB := hid hsb
 clear hle hsb ha hb ha1 hb1 ha2 hb2
 obtain ⟨HC0, HD, hB0, hB1, hB2⟩ := box3 w #[.bool n1, .slice A n c] 32 #[.bool n2, .slice B m d] 32 #[.bool false, .slice none 0 0] 32
 have HZ := hid hB2
 have HSS := hid (fun (w1 : World) h => And.intro ((cell2 (kept_heap (w' := w1) h hB0)).1) (And.intro ((cell2 (kept_heap (w' := w1) h hB0)).2.1) (And.intro ((cell2 (kept_heap (w' := w1) h hB1)).1) ((cell2 (kept_heap (w' := w1) h hB1)).2.1))))
 have HST := hid (fun w1 x0 x1 h => And.intro (far2 (z := w.heap.size + 1 + 1) (x0 := x0) (x1 := x1) (HSS.out w1 h).1 (by omega)) (And.intro (far2 (z := w.heap.size + 1 + 1) (x0 := x0) (x1 := x1) (HSS.out w1 h).2.1 (by omega)) (And.intro (far2 (z := w.heap.size + 1 + 1) (x0 := x0) (x1 := x1) (HSS.out w1 h).2.2.1 (by omega)) (far2 (z := w.heap.size + 1 + 1) (x0 := x0) (x1 := x1) (HSS.out w1 h).2.2.2 (by omega)))))
 clear hB0 hB1 hB2
 have hk := HD.out
 obtain ⟨d0, d1, d2, d3⟩ := HSS.out _ (Chg.refl _ _)
 go_enter Tryz.func33, Tryz.ntmps33
 go_wp2_with (go_at_call 58; refine (HCM.out _ HC0.out).mono ?_; intro e w1 h; obtain ⟨he, hc⟩ := h; subst he; replace hk := hc; clear hc d0 d1 d2 d3; obtain ⟨d0, d1, d2, d3⟩ := HSS.out _ hk)
 have hk := hk.drew
 first | (go_region_held3 (fun w' => w'.cell? ⟨w.heap.size, 0, none⟩ = some (.bool n1) ∧ w'.cell? ⟨w.heap.size, 1, none⟩ = some (.slice A n c) ∧ w'.cell? ⟨w.heap.size + 1, 0, none⟩ = some (.bool n2) ∧ w'.cell? ⟨w.heap.size + 1, 1, none⟩ = some (.slice B m d)) (first | with_reducible exact HSS.out _ hk | with_reducible exact HST.out _ _ _ hk | go_keep) (first | (go_at_call 59; refine (HM.out _ (HC0.out.trans hk sb_)).mono ?_; intro e w1 h; obtain ⟨E, k, l, he, hsn, hc⟩ := h; subst he; replace hk := hk.trans hc sb_; skip; have HSN := hid hsn; clear hsn; clear hc; obtain ⟨k0, k1, f0, f1⟩ := cell2 (kept_heap hk HZ.out)) | (go_at_call 49; refine (wholeOf_sn n1 sb HSN.out HSB.out).mono ?_; intro e w1 h; obtain ⟨he, hc⟩ := h; subst he; replace hk := hk.trans hc sb_; (try replace HSN := hid (HSN.out.kept hc)); clear hc; obtain ⟨k0, k1, f0, f1⟩ := cell2 (kept_heap hk HZ.out)))) | fail
 all_goals (go_wp2_with fail; refine bodyPost_ret (v := .agg #[.bool sb, .slice E k l]) (by rw [results_cell_row rfl _ _ (w.heap.size + 1 + 1) _ _ _ _ rfl (store2 (kept_heap hk HZ.out) _ _) Tryz.underlying32 rfl whole_size]) rfl ⟨E, k, l, rfl, sn_end2 HSN.out (kept_heap hk HZ.out) _ _, chg2 (HC0.out.trans hk sb_) (by omega) _ _⟩)
set_option maxHeartbeats 1000000 in
theorem WholeAdd_lt {w : World} {A B : Option Addr} {n c m d a b : Nat} (n1 n2 sb : Bool) (ha : SN w A n c a) (hb : SN w B m d b) (ha1 : a < 10 ^ 240) (hb1 : b < 10 ^ 240) (hs : (n1 == n2) = false) (hle : a < b) (hsb : (n2 && (b - a) != 0) = sb) :
  Calls Tryz.prog 33 #[.agg #[.bool n1, .slice A n c], .agg #[.bool n2, .slice B m d]] w (PWN w sb ((b - a))) := by
 have ha2 : a < 10 ^ 243 := Nat.lt_of_lt_of_le ha1 (Nat.pow_le_pow_right (by omega) (by omega))
 have hb2 : b < 10 ^ 243 := Nat.lt_of_lt_of_le hb1 (Nat.pow_le_pow_right (by omega) (by omega))
 have HM := hid (fun w1 (h : Chg (fun _ => False) w w1) => NatSub_any (hb.kept h) (ha.kept h) hb2 (by omega))
 have HCM := hid (fun w1 (h : Chg (fun _ => False) w w1) => NatCmp_any (ha.kept h) (hb.kept h) ha2 hb2)
 obtain ⟨p, hp⟩ : ∃ p, b - a = p := ⟨_, rfl⟩
 rw [hp] at HM hsb ⊢
 clear hp
 have hcm : ¬ (0 : Int) ≤ cmpN a b := by unfold cmpN; rw [if_pos hle]; omega
 generalize cmpN a b = q at *
 have HSB := hid hsb
 clear hle hsb ha hb ha1 hb1 ha2 hb2
 obtain ⟨HC0, HD, hB0, hB1, hB2⟩ := box3 w #[.bool n1, .slice A n c] 32 #[.bool n2, .slice B m d] 32 #[.bool false, .slice none 0 0] 32
 have HZ := hid hB2
 have HSS := hid (fun (w1 : World) h => And.intro ((cell2 (kept_heap (w' := w1) h hB0)).1) (And.intro ((cell2 (kept_heap (w' := w1) h hB0)).2.1) (And.intro ((cell2 (kept_heap (w' := w1) h hB1)).1) ((cell2 (kept_heap (w' := w1) h hB1)).2.1))))
 have HST := hid (fun w1 x0 x1 h => And.intro (far2 (z := w.heap.size + 1 + 1) (x0 := x0) (x1 := x1) (HSS.out w1 h).1 (by omega)) (And.intro (far2 (z := w.heap.size + 1 + 1) (x0 := x0) (x1 := x1) (HSS.out w1 h).2.1 (by omega)) (And.intro (far2 (z := w.heap.size + 1 + 1) (x0 := x0) (x1 := x1) (HSS.out w1 h).2.2.1 (by omega)) (far2 (z := w.heap.size + 1 + 1) (x0 := x0) (x1 := x1) (HSS.out w1 h).2.2.2 (by omega)))))
 clear hB0 hB1 hB2
 have hk := HD.out
 obtain ⟨d0, d1, d2, d3⟩ := HSS.out _ (Chg.refl _ _)
 go_enter Tryz.func33, Tryz.ntmps33
 go_wp2_with (go_at_call 58; refine (HCM.out _ HC0.out).mono ?_; intro e w1 h; obtain ⟨he, hc⟩ := h; subst he; replace hk := hc; clear hc d0 d1 d2 d3; obtain ⟨d0, d1, d2, d3⟩ := HSS.out _ hk)
 have hk := hk.drew
 first | (go_region_held3 (fun w' => w'.cell? ⟨w.heap.size, 0, none⟩ = some (.bool n1) ∧ w'.cell? ⟨w.heap.size, 1, none⟩ = some (.slice A n c) ∧ w'.cell? ⟨w.heap.size + 1, 0, none⟩ = some (.bool n2) ∧ w'.cell? ⟨w.heap.size + 1, 1, none⟩ = some (.slice B m d)) (first | with_reducible exact HSS.out _ hk | with_reducible exact HST.out _ _ _ hk | go_keep) (first | (go_at_call 59; refine (HM.out _ (HC0.out.trans hk sb_)).mono ?_; intro e w1 h; obtain ⟨E, k, l, he, hsn, hc⟩ := h; subst he; replace hk := hk.trans hc sb_; skip; have HSN := hid hsn; clear hsn; clear hc; obtain ⟨k0, k1, f0, f1⟩ := cell2 (kept_heap hk HZ.out)) | (go_at_call 49; refine (wholeOf_sn n2 sb HSN.out HSB.out).mono ?_; intro e w1 h; obtain ⟨he, hc⟩ := h; subst he; replace hk := hk.trans hc sb_; (try replace HSN := hid (HSN.out.kept hc)); clear hc; obtain ⟨k0, k1, f0, f1⟩ := cell2 (kept_heap hk HZ.out)))) | fail
 all_goals (go_wp2_with fail; refine bodyPost_ret (v := .agg #[.bool sb, .slice E k l]) (by rw [results_cell_row rfl _ _ (w.heap.size + 1 + 1) _ _ _ _ rfl (store2 (kept_heap hk HZ.out) _ _) Tryz.underlying32 rfl whole_size]) rfl ⟨E, k, l, rfl, sn_end2 HSN.out (kept_heap hk HZ.out) _ _, chg2 (HC0.out.trans hk sb_) (by omega) _ _⟩)
end Go.Proofs.YtmpkgkjnoanlhaaGreatDoor
namespace Go.Proofs.YtmpkgkjnoanlhaaGreatDoor
open Go.RowKit
set_option linter.unusedVariables false
set_option linter.unusedSimpArgs false
def sumS (n1 : Bool) (a : Nat) (n2 : Bool) (b : Nat) : Bool × Nat := if n1 = n2 then (n1, a + b) else if a < b then (n2, b - a) else (n1, a - b)
theorem sumS_le (n1 : Bool) (a : Nat) (n2 : Bool) (b : Nat) : (sumS n1 a n2 b).2 ≤ a + b := by
 unfold sumS
 split
 ·exact Nat.le_refl _
 ·split <;> simp only <;> omega
def mxp (a b : Nat) : Nat := if a < b then b else a
def sumD (dn : Bool) (dc ds : Nat) (en : Bool) (ec es : Nat) : Bool × Nat := sumS dn (dc * 10 ^ (mxp ds es - ds)) en (ec * 10 ^ (mxp ds es - es))
theorem from19_bd {c s m k t : Nat} (hm : m ≤ 19) (h : from19 (10 ^ 19) 2 c s m = some (k, t)) : t ≤ 19 ∧ k < 10 ^ 19 ∧ m ≤ t := by
 have hr := from19_right pow19 0 c s m hm
 rw [h] at hr
 obtain ⟨h1, h2⟩ := hr
 cases hR : room (10 ^ 19) (rnd c s) 19 with
 | none => exact absurd (h1 hR) (by simp)
 | some R =>
  obtain ⟨h3, h4⟩ := h2 R hR
  by_cases hl : R < m
  ·exact absurd (h3 hl) (by simp)
  ·obtain ⟨k', t', e, a, b, c, _⟩ := h4 (by omega)
   simp only [Option.some.injEq, Prod.mk.injEq] at e
   obtain ⟨rfl, rfl⟩ := e
   exact ⟨b, c, a⟩
end Go.Proofs.YtmpkgkjnoanlhaaGreatDoor
namespace Go.Proofs.YtmpkgkjnoanlhaaGreatDoor
open Go.RowKit
set_option linter.unusedVariables false
set_option linter.unusedSimpArgs false
set_option maxRecDepth 20000
theorem WholeAdd_any {w : World} {A B : Option Addr} {n c m d a b : Nat} (n1 n2 sb : Bool) (ha : SN w A n c a) (hb : SN w B m d b) (ha1 : a < 10 ^ 240) (hb1 : b < 10 ^ 240) (hsb : ((sumS n1 a n2 b).1 && (sumS n1 a n2 b).2 != 0) = sb) :
  Calls Tryz.prog 33 #[.agg #[.bool n1, .slice A n c], .agg #[.bool n2, .slice B m d]] w (PWN w sb (sumS n1 a n2 b).2) := by
 unfold sumS at hsb ⊢
 by_cases hs : n1 = n2
 ·rw [if_pos hs] at hsb ⊢
  exact WholeAdd_same n1 n2 sb ha hb ha1 hb1 hs hsb
 ·rw [if_neg hs] at hsb ⊢
  have hs' : (n1 == n2) = false := by simpa using hs
  by_cases hlt : a < b
  ·rw [if_pos hlt] at hsb ⊢
   exact WholeAdd_lt n1 n2 sb ha hb ha1 hb1 hs' hlt hsb
  ·rw [if_neg hlt] at hsb ⊢
   exact WholeAdd_ge n1 n2 sb ha hb ha1 hb1 hs' (by omega) hsb
theorem cmpN_zero (a b : Nat) : cmpN a b = 0 ↔ a = b := by
 unfold cmpN
 by_cases h1 : a < b
 ·rw [if_pos h1]; omega
 ·rw [if_neg h1]
  by_cases h2 : a = b
  ·rw [if_pos h2]; simp [h2]
  ·rw [if_neg h2]; simp [h2]
def PCmp (w : World) (p : Prop) (e : Ending) (w' : World) : Prop := ∃ q : Int, e = .returned (.int .i64 q) ∧ (q = 0 ↔ p) ∧ Chg (fun _ => False) w w'
set_option maxHeartbeats 2000000 in
theorem WholeCmp_any {w : World} {A B : Option Addr} {n c m d a b : Nat} (n1 n2 : Bool) (ha : SN w A n c a) (hb : SN w B m d b) (ha1 : a < 10 ^ 243) (hb1 : b < 10 ^ 243) :
  Calls Tryz.prog 87 #[.agg #[.bool n1, .slice A n c], .agg #[.bool n2, .slice B m d]] w (PCmp w (n1 = n2 ∧ a = b)) := by
 have HCM := hid (fun w1 (h : Chg (fun _ => False) w w1) => NatCmp_any (ha.kept h) (hb.kept h) ha1 hb1)
 have HCN := hid (fun w1 (h : Chg (fun _ => False) w w1) => NatCmp_any (hb.kept h) (ha.kept h) hb1 ha1)
 have h1 := cmpN_zero a b
 have h2 : cmpN b a = 0 ↔ a = b := by rw [cmpN_zero]; exact eq_comm
 generalize cmpN a b = q1 at *
 generalize cmpN b a = q2 at *
 have H1 := hid h1
 have H2 := hid h2
 clear h1 h2 ha hb ha1 hb1
 obtain ⟨HC0, HD, hB0, hB1⟩ := box2 w #[.bool n1, .slice A n c] 32 #[.bool n2, .slice B m d] 32
 have HSS := hid (fun (w1 : World) h => And.intro ((cell2 (kept_heap (w' := w1) h hB0)).1) (And.intro ((cell2 (kept_heap (w' := w1) h hB0)).2.1) (And.intro ((cell2 (kept_heap (w' := w1) h hB1)).1) ((cell2 (kept_heap (w' := w1) h hB1)).2.1))))
 clear hB0 hB1
 obtain ⟨d0, d1, d2, d3⟩ := HSS.out _ (Chg.refl _ _)
 cases n1 <;> cases n2
 ·go_enter Tryz.func87, Tryz.ntmps87
  go_wp2_with (go_at_call 58; refine (HCM.out _ HC0.out).mono ?_; intro e w1 h; obtain ⟨he, hc⟩ := h; subst he)
  go_ret
  exact ⟨_, rfl, by rw [H1.out]; simp, HC0.out.trans hc sb_⟩
 ·go_enter Tryz.func87, Tryz.ntmps87
  go_wp2_with fail
  go_ret
  exact ⟨_, rfl, by simp, HC0.out⟩
 ·go_enter Tryz.func87, Tryz.ntmps87
  go_wp2_with fail
  go_ret
  exact ⟨_, rfl, by simp, HC0.out⟩
 ·go_enter Tryz.func87, Tryz.ntmps87
  go_wp2_with (go_at_call 58; refine (HCN.out _ HC0.out).mono ?_; intro e w1 h; obtain ⟨he, hc⟩ := h; subst he)
  go_ret
  exact ⟨_, rfl, by rw [H2.out]; simp, HC0.out.trans hc sb_⟩
theorem FracMinus_any (n1 : Bool) (A : Option Addr) (n c : Nat) (B : Option Addr) (m d : Nat) (sb : Bool) (hsb : (!n1 && n != 0) = sb) (w : World) :
  Calls Tryz.prog 28 #[.agg #[.bool n1, .slice A n c, .slice B m d]] w (PV w (.agg #[.bool sb, .slice A n c, .slice B m d])) := by
 have HM := hid (fun w => WholeMinus_any n1 A n c sb hsb w)
 clear hsb
 obtain ⟨HC0, HD, hB0, hB1⟩ := box2 w #[.bool n1, .slice A n c, .slice B m d] 34 #[.bool false, .slice none 0 0, .slice none 0 0] 34
 have HZ := hid hB1
 have HSS := hid (fun (w1 : World) h => And.intro ((cell3 (kept_heap (w' := w1) h hB0)).1) (And.intro ((cell3 (kept_heap (w' := w1) h hB0)).2.1) ((cell3 (kept_heap (w' := w1) h hB0)).2.2.1)))
 have HST := hid (fun w1 x0 x1 x2 h => And.intro (far3 (z := w.heap.size + 1) (x0 := x0) (x1 := x1) (x2 := x2) (HSS.out w1 h).1 (by omega)) (And.intro (far3 (z := w.heap.size + 1) (x0 := x0) (x1 := x1) (x2 := x2) (HSS.out w1 h).2.1 (by omega)) (far3 (z := w.heap.size + 1) (x0 := x0) (x1 := x1) (x2 := x2) (HSS.out w1 h).2.2 (by omega))))
 clear hB0 hB1
 have hk := HD.out
 go_enter Tryz.func28, Tryz.ntmps28
 go_wp2_with fail
 first | (go_region_held3 (fun w' => w'.cell? ⟨w.heap.size, 0, none⟩ = some (.bool n1) ∧ w'.cell? ⟨w.heap.size, 1, none⟩ = some (.slice A n c) ∧ w'.cell? ⟨w.heap.size, 2, none⟩ = some (.slice B m d)) (first | with_reducible exact HSS.out _ hk | with_reducible exact HST.out _ _ _ _ hk | go_keep) (first | (go_at_call 53; refine (HM.out _).mono ?_; intro e w1 h; obtain ⟨he, hc⟩ := h; subst he; replace hk := hk.trans hc sb_; skip; clear hc; obtain ⟨k0, k1, k2, f0, f1, f2⟩ := cell3 (kept_heap hk HZ.out)))) | fail
 all_goals (go_wp2_with fail; refine bodyPost_ret (v := .agg #[.bool sb, .slice A n c, .slice B m d]) (by rw [results_cell_row rfl _ _ (w.heap.size + 1) _ _ _ _ rfl (store3 (kept_heap hk HZ.out) _ _ _) Tryz.underlying34 rfl frac_size]) rfl ⟨rfl, chg3 (HC0.out.trans hk sb_) (by omega) _ _ _⟩)
def PFN (w : World) (sb : Bool) (a d : Nat) (e : Ending) (w' : World) : Prop := ∃ (E : Option Addr) (k l : Nat) (G : Option Addr) (i j : Nat), e = .returned (.agg #[.bool sb, .slice E k l, .slice G i j]) ∧ SN w' E k l a ∧ SN w' G i j d ∧ Chg (fun _ => False) w w'
theorem up243 {x k : Nat} (h : x < 10 ^ k) (hk : k ≤ 243) : x < 10 ^ 243 := Nat.lt_of_lt_of_le h (Nat.pow_le_pow_right (by omega) hk)
theorem up240 {x k : Nat} (h : x < 10 ^ k) (hk : k ≤ 240) : x < 10 ^ 240 := Nat.lt_of_lt_of_le h (Nat.pow_le_pow_right (by omega) hk)
theorem mul100 {x y i j : Nat} (hx : x < 10 ^ i) (hy : y < 10 ^ j) : x * y < 10 ^ (i + j) := by
 rw [Nat.pow_add]
 exact Nat.mul_lt_mul'' hx hy
set_option maxHeartbeats 4000000 in
theorem FracAdd_any {w : World} {A B D1 D2 : Option Addr} {n c m d p1 q1 p2 q2 a b x y : Nat} (n1 n2 sb : Bool) (ha : SN w A n c a) (hx : SN w D1 p1 q1 x) (hb : SN w B m d b) (hy : SN w D2 p2 q2 y)
  (ha1 : a < 10 ^ 100) (hb1 : b < 10 ^ 100) (hx1 : x < 10 ^ 100) (hy1 : y < 10 ^ 100) (hsb : ((sumS (n1 && a * y != 0) (a * y) (n2 && b * x != 0) (b * x)).1 && (sumS (n1 && a * y != 0) (a * y) (n2 && b * x != 0) (b * x)).2 != 0) = sb) :
  Calls Tryz.prog 15 #[.agg #[.bool n1, .slice A n c, .slice D1 p1 q1], .agg #[.bool n2, .slice B m d, .slice D2 p2 q2]] w (PFN w sb (sumS (n1 && a * y != 0) (a * y) (n2 && b * x != 0) (b * x)).2 (x * y)) := by
 have HM1 := hid (fun w1 s (hs : (n1 && a * y != 0) = s) (h : Chg (fun _ => False) w w1) => WholeMul_any n1 false s (ha.kept h) (hy.kept h) (up240 ha1 (by omega)) (up240 hy1 (by omega)) (by rw [← hs]; cases n1 <;> rfl))
 have HM2 := hid (fun w1 s (hs : (n2 && b * x != 0) = s) (h : Chg (fun _ => False) w w1) => WholeMul_any n2 false s (hb.kept h) (hx.kept h) (up240 hb1 (by omega)) (up240 hx1 (by omega)) (by rw [← hs]; cases n2 <;> rfl))
 have HM3 := hid (fun w1 (h : Chg (fun _ => False) w w1) => NatMul_any (hx.kept h) (hy.kept h) (up243 hx1 (by omega)) (up243 hy1 (by omega)))
 have hP : a * y < 10 ^ 240 := up240 (mul100 ha1 hy1) (by omega)
 have hQ : b * x < 10 ^ 240 := up240 (mul100 hb1 hx1) (by omega)
 obtain ⟨P, hPe⟩ : ∃ P, a * y = P := ⟨_, rfl⟩
 obtain ⟨Q, hQe⟩ : ∃ Q, b * x = Q := ⟨_, rfl⟩
 obtain ⟨R, hRe⟩ : ∃ R, x * y = R := ⟨_, rfl⟩
 rw [hPe] at HM1 hP
 rw [hQe] at HM2 hQ
 rw [hRe] at HM3
 rw [hPe, hQe] at hsb
 rw [hPe, hQe, hRe]
 obtain ⟨s1, hs1⟩ : ∃ s, (n1 && P != 0) = s := ⟨_, rfl⟩
 obtain ⟨s2, hs2⟩ : ∃ s, (n2 && Q != 0) = s := ⟨_, rfl⟩
 rw [hs1, hs2] at hsb
 rw [hs1, hs2]
 have HA := hid (fun (w1 : World) (E : Option Addr) (k l : Nat) (G : Option Addr) (i j : Nat) (h1 : SN w1 E k l P) (h2 : SN w1 G i j Q) => WholeAdd_any s1 s2 sb h1 h2 hP hQ hsb)
 have HS1 := hid hs1
 have HS2 := hid hs2
 generalize (sumS s1 P s2 Q).2 = Z at *
 clear ha hb hx hy ha1 hb1 hx1 hy1 hsb hs1 hs2 hP hQ hPe hQe hRe
 obtain ⟨HC0, HD, hB0, hB1, hB2⟩ := box3 w #[.bool n1, .slice A n c, .slice D1 p1 q1] 34 #[.bool n2, .slice B m d, .slice D2 p2 q2] 34 #[.bool false, .slice none 0 0, .slice none 0 0] 34
 have HZ := hid hB2
 have HSS := hid (fun (w1 : World) h => And.intro ((cell3 (kept_heap (w' := w1) h hB0)).1) (And.intro ((cell3 (kept_heap (w' := w1) h hB0)).2.1) (And.intro ((cell3 (kept_heap (w' := w1) h hB0)).2.2.1) (And.intro ((cell3 (kept_heap (w' := w1) h hB1)).1) (And.intro ((cell3 (kept_heap (w' := w1) h hB1)).2.1) ((cell3 (kept_heap (w' := w1) h hB1)).2.2.1))))))
 have HST := hid (fun w1 x0 x1 x2 h => And.intro (far3 (z := w.heap.size + 1 + 1) (x0 := x0) (x1 := x1) (x2 := x2) (HSS.out w1 h).1 (by omega)) (And.intro (far3 (z := w.heap.size + 1 + 1) (x0 := x0) (x1 := x1) (x2 := x2) (HSS.out w1 h).2.1 (by omega)) (And.intro (far3 (z := w.heap.size + 1 + 1) (x0 := x0) (x1 := x1) (x2 := x2) (HSS.out w1 h).2.2.1 (by omega)) (And.intro (far3 (z := w.heap.size + 1 + 1) (x0 := x0) (x1 := x1) (x2 := x2) (HSS.out w1 h).2.2.2.1 (by omega)) (And.intro (far3 (z := w.heap.size + 1 + 1) (x0 := x0) (x1 := x1) (x2 := x2) (HSS.out w1 h).2.2.2.2.1 (by omega)) (far3 (z := w.heap.size + 1 + 1) (x0 := x0) (x1 := x1) (x2 := x2) (HSS.out w1 h).2.2.2.2.2 (by omega)))))))
 clear hB0 hB1 hB2
 have hk := HD.out
 go_enter Tryz.func15, Tryz.ntmps15
 go_wp2_with fail
 first | (go_region_held3 (fun w' => w'.cell? ⟨w.heap.size, 0, none⟩ = some (.bool n1) ∧ w'.cell? ⟨w.heap.size, 1, none⟩ = some (.slice A n c) ∧ w'.cell? ⟨w.heap.size, 2, none⟩ = some (.slice D1 p1 q1) ∧ w'.cell? ⟨w.heap.size + 1, 0, none⟩ = some (.bool n2) ∧ w'.cell? ⟨w.heap.size + 1, 1, none⟩ = some (.slice B m d) ∧ w'.cell? ⟨w.heap.size + 1, 2, none⟩ = some (.slice D2 p2 q2)) (first | with_reducible exact HSS.out _ hk | with_reducible exact HST.out _ _ _ _ hk | go_keep) (first | (go_at_call_of 32 (Value.agg #[Value.bool n1, Value.slice A n c]); refine (HM1.out _ s1 HS1.out (HC0.out.trans hk sb_)).mono ?_; intro e w1 h; obtain ⟨E1, k1_, l1_, he, hsn, hc⟩ := h; subst he; replace hk := hk.trans hc sb_; (try replace HN1 := hid (HN1.out.kept hc)); (try replace HN2 := hid (HN2.out.kept hc)); (try replace HN3 := hid (HN3.out.kept hc)); (try replace HN4 := hid (HN4.out.kept hc)); have HN1 := hid hsn; clear hsn; clear hc; obtain ⟨k0, k1, k2, f0, f1, f2⟩ := cell3 (kept_heap hk HZ.out)) | (go_at_call_of 32 (Value.agg #[Value.bool n2, Value.slice B m d]); refine (HM2.out _ s2 HS2.out (HC0.out.trans hk sb_)).mono ?_; intro e w1 h; obtain ⟨E2, k2_, l2_, he, hsn, hc⟩ := h; subst he; replace hk := hk.trans hc sb_; (try replace HN1 := hid (HN1.out.kept hc)); (try replace HN2 := hid (HN2.out.kept hc)); (try replace HN3 := hid (HN3.out.kept hc)); (try replace HN4 := hid (HN4.out.kept hc)); have HN2 := hid hsn; clear hsn; clear hc; obtain ⟨k0, k1, k2, f0, f1, f2⟩ := cell3 (kept_heap hk HZ.out)) | (go_at_call 34; refine (HM3.out _ (HC0.out.trans hk sb_)).mono ?_; intro e w1 h; obtain ⟨E3, k3_, l3_, he, hsn, hc⟩ := h; subst he; replace hk := hk.trans hc sb_; (try replace HN1 := hid (HN1.out.kept hc)); (try replace HN2 := hid (HN2.out.kept hc)); (try replace HN3 := hid (HN3.out.kept hc)); (try replace HN4 := hid (HN4.out.kept hc)); have HN3 := hid hsn; clear hsn; clear hc; obtain ⟨k0, k1, k2, f0, f1, f2⟩ := cell3 (kept_heap hk HZ.out)) | (go_at_call 33; refine (HA.out _ _ _ _ _ _ _ HN1.out HN2.out).mono ?_; intro e w1 h; obtain ⟨E4, k4_, l4_, he, hsn, hc⟩ := h; subst he; replace hk := hk.trans hc sb_; (try replace HN1 := hid (HN1.out.kept hc)); (try replace HN2 := hid (HN2.out.kept hc)); (try replace HN3 := hid (HN3.out.kept hc)); (try replace HN4 := hid (HN4.out.kept hc)); have HN4 := hid hsn; clear hsn; clear hc; obtain ⟨k0, k1, k2, f0, f1, f2⟩ := cell3 (kept_heap hk HZ.out)))) | fail
 all_goals (go_wp2_with fail; refine bodyPost_ret (v := .agg #[.bool sb, .slice E4 k4_ l4_, .slice E3 k3_ l3_]) (by rw [results_cell_row rfl _ _ (w.heap.size + 1 + 1) _ _ _ _ rfl (store3 (kept_heap hk HZ.out) _ _ _) Tryz.underlying34 rfl frac_size]) rfl ⟨E4, k4_, l4_, E3, k3_, l3_, rfl, sn_end3 HN4.out (kept_heap hk HZ.out) (by simp) _ _ _, sn_end3 HN3.out (kept_heap hk HZ.out) (by simp) _ _ _, chg3 (HC0.out.trans hk sb_) (by omega) _ _ _⟩)
set_option maxHeartbeats 2000000 in
theorem FracSub_any {w : World} {A B D1 D2 : Option Addr} {n c m d p1 q1 p2 q2 a b x y : Nat} (n1 n2 m2 sb : Bool) (ha : SN w A n c a) (hx : SN w D1 p1 q1 x) (hb : SN w B m d b) (hy : SN w D2 p2 q2 y)
  (ha1 : a < 10 ^ 100) (hb1 : b < 10 ^ 100) (hx1 : x < 10 ^ 100) (hy1 : y < 10 ^ 100) (hm2 : (!n2 && b != 0) = m2) (hsb : ((sumS (n1 && a * y != 0) (a * y) (m2 && b * x != 0) (b * x)).1 && (sumS (n1 && a * y != 0) (a * y) (m2 && b * x != 0) (b * x)).2 != 0) = sb) :
  Calls Tryz.prog 11 #[.agg #[.bool n1, .slice A n c, .slice D1 p1 q1], .agg #[.bool n2, .slice B m d, .slice D2 p2 q2]] w (PFN w sb (sumS (n1 && a * y != 0) (a * y) (m2 && b * x != 0) (b * x)).2 (x * y)) := by
 have HMI := hid (fun w => FracMinus_any n2 B m d D2 p2 q2 m2 (by rw [sgn_len hb]; exact hm2) w)
 have HAD := hid (fun w1 (h : Chg (fun _ => False) w w1) => FracAdd_any n1 m2 sb (ha.kept h) (hx.kept h) (hb.kept h) (hy.kept h) ha1 hb1 hx1 hy1 hsb)
 generalize (sumS (n1 && a * y != 0) (a * y) (m2 && b * x != 0) (b * x)).2 = Z at *
 generalize x * y = R at *
 clear ha hb hx hy ha1 hb1 hx1 hy1 hsb hm2
 obtain ⟨HC0, HD, hB0, hB1, hB2⟩ := box3 w #[.bool n1, .slice A n c, .slice D1 p1 q1] 34 #[.bool n2, .slice B m d, .slice D2 p2 q2] 34 #[.bool false, .slice none 0 0, .slice none 0 0] 34
 have HZ := hid hB2
 have HSS := hid (fun (w1 : World) h => And.intro ((cell3 (kept_heap (w' := w1) h hB0)).1) (And.intro ((cell3 (kept_heap (w' := w1) h hB0)).2.1) (And.intro ((cell3 (kept_heap (w' := w1) h hB0)).2.2.1) (And.intro ((cell3 (kept_heap (w' := w1) h hB1)).1) (And.intro ((cell3 (kept_heap (w' := w1) h hB1)).2.1) ((cell3 (kept_heap (w' := w1) h hB1)).2.2.1))))))
 have HST := hid (fun w1 x0 x1 x2 h => And.intro (far3 (z := w.heap.size + 1 + 1) (x0 := x0) (x1 := x1) (x2 := x2) (HSS.out w1 h).1 (by omega)) (And.intro (far3 (z := w.heap.size + 1 + 1) (x0 := x0) (x1 := x1) (x2 := x2) (HSS.out w1 h).2.1 (by omega)) (And.intro (far3 (z := w.heap.size + 1 + 1) (x0 := x0) (x1 := x1) (x2 := x2) (HSS.out w1 h).2.2.1 (by omega)) (And.intro (far3 (z := w.heap.size + 1 + 1) (x0 := x0) (x1 := x1) (x2 := x2) (HSS.out w1 h).2.2.2.1 (by omega)) (And.intro (far3 (z := w.heap.size + 1 + 1) (x0 := x0) (x1 := x1) (x2 := x2) (HSS.out w1 h).2.2.2.2.1 (by omega)) (far3 (z := w.heap.size + 1 + 1) (x0 := x0) (x1 := x1) (x2 := x2) (HSS.out w1 h).2.2.2.2.2 (by omega)))))))
 clear hB0 hB1 hB2
 have hk := HD.out
 go_enter Tryz.func11, Tryz.ntmps11
 go_wp2_with fail
 first | (go_region_held3 (fun w' => w'.cell? ⟨w.heap.size, 0, none⟩ = some (.bool n1) ∧ w'.cell? ⟨w.heap.size, 1, none⟩ = some (.slice A n c) ∧ w'.cell? ⟨w.heap.size, 2, none⟩ = some (.slice D1 p1 q1) ∧ w'.cell? ⟨w.heap.size + 1, 0, none⟩ = some (.bool n2) ∧ w'.cell? ⟨w.heap.size + 1, 1, none⟩ = some (.slice B m d) ∧ w'.cell? ⟨w.heap.size + 1, 2, none⟩ = some (.slice D2 p2 q2)) (first | with_reducible exact HSS.out _ hk | with_reducible exact HST.out _ _ _ _ hk | go_keep) (first | (go_at_call 28; refine (HMI.out _).mono ?_; intro e w1 h; obtain ⟨he, hc⟩ := h; subst he; replace hk := hk.trans hc sb_; skip; skip; clear hc; obtain ⟨k0, k1, k2, f0, f1, f2⟩ := cell3 (kept_heap hk HZ.out)) | (go_at_call 15; refine (HAD.out _ (HC0.out.trans hk sb_)).mono ?_; intro e w1 h; obtain ⟨E4, k4_, l4_, E3, k3_, l3_, he, hs1, hs2, hc⟩ := h; subst he; replace hk := hk.trans hc sb_; skip; have HN4 := hid hs1; have HN3 := hid hs2; clear hs1 hs2; clear hc; obtain ⟨k0, k1, k2, f0, f1, f2⟩ := cell3 (kept_heap hk HZ.out)))) | fail
 all_goals (go_wp2_with fail; refine bodyPost_ret (v := .agg #[.bool sb, .slice E4 k4_ l4_, .slice E3 k3_ l3_]) (by rw [results_cell_row rfl _ _ (w.heap.size + 1 + 1) _ _ _ _ rfl (store3 (kept_heap hk HZ.out) _ _ _) Tryz.underlying34 rfl frac_size]) rfl ⟨E4, k4_, l4_, E3, k3_, l3_, rfl, sn_end3 HN4.out (kept_heap hk HZ.out) (by simp) _ _ _, sn_end3 HN3.out (kept_heap hk HZ.out) (by simp) _ _ _, chg3 (HC0.out.trans hk sb_) (by omega) _ _ _⟩)
set_option maxHeartbeats 2000000 in
theorem FracCmp_any {w : World} {A B D1 D2 : Option Addr} {n c m d p1 q1 p2 q2 a b x y : Nat} (n1 n2 : Bool) (ha : SN w A n c a) (hx : SN w D1 p1 q1 x) (hb : SN w B m d b) (hy : SN w D2 p2 q2 y)
  (ha1 : a < 10 ^ 100) (hb1 : b < 10 ^ 100) (hx1 : x < 10 ^ 100) (hy1 : y < 10 ^ 100) :
  Calls Tryz.prog 70 #[.agg #[.bool n1, .slice A n c, .slice D1 p1 q1], .agg #[.bool n2, .slice B m d, .slice D2 p2 q2]] w (PCmp w ((n1 && a * y != 0) = (n2 && b * x != 0) ∧ a * y = b * x)) := by
 have HM1 := hid (fun w1 s (hs : (n1 && a * y != 0) = s) (h : Chg (fun _ => False) w w1) => WholeMul_any n1 false s (ha.kept h) (hy.kept h) (up240 ha1 (by omega)) (up240 hy1 (by omega)) (by rw [← hs]; cases n1 <;> rfl))
 have HM2 := hid (fun w1 s (hs : (n2 && b * x != 0) = s) (h : Chg (fun _ => False) w w1) => WholeMul_any n2 false s (hb.kept h) (hx.kept h) (up240 hb1 (by omega)) (up240 hx1 (by omega)) (by rw [← hs]; cases n2 <;> rfl))
 have hP : a * y < 10 ^ 243 := up243 (mul100 ha1 hy1) (by omega)
 have hQ : b * x < 10 ^ 243 := up243 (mul100 hb1 hx1) (by omega)
 obtain ⟨P, hPe⟩ : ∃ P, a * y = P := ⟨_, rfl⟩
 obtain ⟨Q, hQe⟩ : ∃ Q, b * x = Q := ⟨_, rfl⟩
 rw [hPe] at HM1 hP
 rw [hQe] at HM2 hQ
 rw [hPe, hQe]
 obtain ⟨s1, hs1⟩ : ∃ s, (n1 && P != 0) = s := ⟨_, rfl⟩
 obtain ⟨s2, hs2⟩ : ∃ s, (n2 && Q != 0) = s := ⟨_, rfl⟩
 rw [hs1, hs2]
 have HA := hid (fun (w1 : World) (E : Option Addr) (k l : Nat) (G : Option Addr) (i j : Nat) (h1 : SN w1 E k l P) (h2 : SN w1 G i j Q) => WholeCmp_any s1 s2 h1 h2 hP hQ)
 have HS1 := hid hs1
 have HS2 := hid hs2
 generalize hpp : (s1 = s2 ∧ P = Q) = pp at *
 clear ha hb hx hy ha1 hb1 hx1 hy1 hs1 hs2 hP hQ hPe hQe hpp
 obtain ⟨HC0, HD, hB0, hB1⟩ := box2 w #[.bool n1, .slice A n c, .slice D1 p1 q1] 34 #[.bool n2, .slice B m d, .slice D2 p2 q2] 34
 have HSS := hid (fun (w1 : World) h => And.intro ((cell3 (kept_heap (w' := w1) h hB0)).1) (And.intro ((cell3 (kept_heap (w' := w1) h hB0)).2.1) (And.intro ((cell3 (kept_heap (w' := w1) h hB0)).2.2.1) (And.intro ((cell3 (kept_heap (w' := w1) h hB1)).1) (And.intro ((cell3 (kept_heap (w' := w1) h hB1)).2.1) ((cell3 (kept_heap (w' := w1) h hB1)).2.2.1))))))
 clear hB0 hB1
 have hk := HD.out
 go_enter Tryz.func70, Tryz.ntmps70
 go_wp2_with fail
 first | (go_region_held3 (fun w' => w'.cell? ⟨w.heap.size, 0, none⟩ = some (.bool n1) ∧ w'.cell? ⟨w.heap.size, 1, none⟩ = some (.slice A n c) ∧ w'.cell? ⟨w.heap.size, 2, none⟩ = some (.slice D1 p1 q1) ∧ w'.cell? ⟨w.heap.size + 1, 0, none⟩ = some (.bool n2) ∧ w'.cell? ⟨w.heap.size + 1, 1, none⟩ = some (.slice B m d) ∧ w'.cell? ⟨w.heap.size + 1, 2, none⟩ = some (.slice D2 p2 q2)) (first | with_reducible exact HSS.out _ hk | go_keep) (first | (go_at_call_of 32 (Value.agg #[Value.bool n1, Value.slice A n c]); refine (HM1.out _ s1 HS1.out (HC0.out.trans hk sb_)).mono ?_; intro e w1 h; obtain ⟨E1, k1_, l1_, he, hsn, hc⟩ := h; subst he; replace hk := hk.trans hc sb_; (try replace HN1 := hid (HN1.out.kept hc)); (try replace HN2 := hid (HN2.out.kept hc)); have HN1 := hid hsn; clear hsn; clear hc) | (go_at_call_of 32 (Value.agg #[Value.bool n2, Value.slice B m d]); refine (HM2.out _ s2 HS2.out (HC0.out.trans hk sb_)).mono ?_; intro e w1 h; obtain ⟨E2, k2_, l2_, he, hsn, hc⟩ := h; subst he; replace hk := hk.trans hc sb_; (try replace HN1 := hid (HN1.out.kept hc)); (try replace HN2 := hid (HN2.out.kept hc)); have HN2 := hid hsn; clear hsn; clear hc) | (go_at_call 87; refine (HA.out _ _ _ _ _ _ _ HN1.out HN2.out).mono ?_; intro e w1 h; obtain ⟨q, he, hq, hc⟩ := h; subst he; replace hk := hk.trans hc sb_; skip; have HQ := hid hq; clear hq; clear hc))) | fail
 all_goals (go_wp2_with fail; go_ret; exact ⟨q, rfl, HQ.out, HC0.out.trans hk sb_⟩)
set_option maxHeartbeats 2000000 in
theorem DecFrac_neg {w : World} {A : Option Addr} {n c a : Nat} (n1 : Bool) (e0 : Int) (k : Nat) (ha : SN w A n c a) (hk1 : k ≤ 200) (hneg : e0 < 0) (hw : IntKind.i64.wrap (-e0) = (k : Int)) :
  Calls Tryz.prog 27 #[.agg #[.bool n1, .slice A n c, .int .i64 e0]] w (PFN w n1 a (10 ^ k)) := by
 have HP := hid (fun w1 => Pow10_any (w := w1) k (by omega))
 generalize 10 ^ k = T at *
 have hge : ¬ 0 ≤ e0 := by omega
 have HN1 := hid (fun w1 (h : Chg (fun _ => False) w w1) => ha.kept h)
 clear ha hneg
 obtain ⟨HC0, HD, hB0, hB1⟩ := box2 w #[.bool n1, .slice A n c, .int .i64 e0] 57 #[.bool false, .slice none 0 0, .slice none 0 0] 34
 have HZ := hid hB1
 have HSS := hid (fun (w1 : World) h => And.intro ((cell3 (kept_heap (w' := w1) h hB0)).1) (And.intro ((cell3 (kept_heap (w' := w1) h hB0)).2.1) ((cell3 (kept_heap (w' := w1) h hB0)).2.2.1)))
 have HST := hid (fun w1 x0 x1 x2 h => And.intro (far3 (z := w.heap.size + 1) (x0 := x0) (x1 := x1) (x2 := x2) (HSS.out w1 h).1 (by omega)) (And.intro (far3 (z := w.heap.size + 1) (x0 := x0) (x1 := x1) (x2 := x2) (HSS.out w1 h).2.1 (by omega)) (far3 (z := w.heap.size + 1) (x0 := x0) (x1 := x1) (x2 := x2) (HSS.out w1 h).2.2 (by omega))))
 clear hB0 hB1
 have hk := HD.out
 obtain ⟨d0, d1, d2⟩ := HSS.out _ (Chg.refl _ _)
 go_enter Tryz.func27, Tryz.ntmps27
 go_wp2_with fail
 first | (go_region_held3 (fun w' => w'.cell? ⟨w.heap.size, 0, none⟩ = some (.bool n1) ∧ w'.cell? ⟨w.heap.size, 1, none⟩ = some (.slice A n c) ∧ w'.cell? ⟨w.heap.size, 2, none⟩ = some (.int .i64 e0)) (first | with_reducible exact HSS.out _ hk | with_reducible exact HST.out _ _ _ _ hk | go_keep) (first | (go_at_call 51; refine (HP.out _).mono ?_; intro e w1 h; obtain ⟨E3, k3_, l3_, he, hsn, hc⟩ := h; subst he; replace hk := hk.trans hc sb_; skip; have HN3 := hid hsn; clear hsn; clear hc; obtain ⟨k0, k1, k2, f0, f1, f2⟩ := cell3 (kept_heap hk HZ.out)))) | fail
 all_goals (go_wp2_with fail; refine bodyPost_ret (v := .agg #[.bool n1, .slice A n c, .slice E3 k3_ l3_]) (by rw [results_cell_row rfl _ _ (w.heap.size + 1) _ _ _ _ rfl (store3 (kept_heap hk HZ.out) _ _ _) Tryz.underlying34 rfl frac_size]) rfl ⟨A, n, c, E3, k3_, l3_, rfl, sn_end3 (HN1.out _ (HC0.out.trans hk sb_)) (kept_heap hk HZ.out) (by simp) _ _ _, sn_end3 HN3.out (kept_heap hk HZ.out) (by simp) _ _ _, chg3 (HC0.out.trans hk sb_) (by omega) _ _ _⟩)
set_option maxHeartbeats 2000000 in
theorem DecFrac_zero {w : World} {A : Option Addr} {n c a : Nat} (n1 : Bool) (ha : SN w A n c a) (ha1 : a < 10 ^ 240) (hn : (n1 && a != 0) = n1) :
  Calls Tryz.prog 27 #[.agg #[.bool n1, .slice A n c, .int .i64 0]] w (PFN w n1 a 1) := by
 have HP := hid (fun w1 => (Pow10_any (w := w1) 0 (by omega)))
 have HO := hid (fun w1 => (one_any (w := w1)))
 have HM := hid (fun w1 (E : Option Addr) (k l : Nat) (h : Chg (fun _ => False) w w1) (h1 : SN w1 E k l (10 ^ 0)) => NatMul_any (ha.kept h) h1 (up243 ha1 (by omega)) (by decide))
 rw [Nat.pow_zero, Nat.mul_one] at HM
 rw [Nat.pow_zero] at HP
 have HH := hid hn
 clear ha hn ha1
 obtain ⟨HC0, HD, hB0, hB1⟩ := box2 w #[.bool n1, .slice A n c, .int .i64 0] 57 #[.bool false, .slice none 0 0, .slice none 0 0] 34
 have HZ := hid hB1
 have HSS := hid (fun (w1 : World) h => And.intro ((cell3 (kept_heap (w' := w1) h hB0)).1) (And.intro ((cell3 (kept_heap (w' := w1) h hB0)).2.1) ((cell3 (kept_heap (w' := w1) h hB0)).2.2.1)))
 have HST := hid (fun w1 x0 x1 x2 h => And.intro (far3 (z := w.heap.size + 1) (x0 := x0) (x1 := x1) (x2 := x2) (HSS.out w1 h).1 (by omega)) (And.intro (far3 (z := w.heap.size + 1) (x0 := x0) (x1 := x1) (x2 := x2) (HSS.out w1 h).2.1 (by omega)) (far3 (z := w.heap.size + 1) (x0 := x0) (x1 := x1) (x2 := x2) (HSS.out w1 h).2.2 (by omega))))
 clear hB0 hB1
 have hk := HD.out
 obtain ⟨d0, d1, d2⟩ := HSS.out _ (Chg.refl _ _)
 go_enter Tryz.func27, Tryz.ntmps27
 go_wp2_with fail
 first | (go_region_held3 (fun w' => w'.cell? ⟨w.heap.size, 0, none⟩ = some (.bool n1) ∧ w'.cell? ⟨w.heap.size, 1, none⟩ = some (.slice A n c) ∧ w'.cell? ⟨w.heap.size, 2, none⟩ = some (.int .i64 0)) (first | with_reducible exact HSS.out _ hk | with_reducible exact HST.out _ _ _ _ hk | go_keep) (first | (go_at_call 51; refine (HP.out _).mono ?_; intro e w1 h; obtain ⟨E1, k1_, l1_, he, hsn, hc⟩ := h; subst he; replace hk := hk.trans hc sb_; (try replace HN1 := hid (HN1.out.kept hc)); (try replace HN2 := hid (HN2.out.kept hc)); (try replace HN3 := hid (HN3.out.kept hc)); have HN1 := hid hsn; clear hsn; clear hc; obtain ⟨k0, k1, k2, f0, f1, f2⟩ := cell3 (kept_heap hk HZ.out)) | (go_at_call 34; refine (HM.out _ _ _ _ (HC0.out.trans hk sb_) HN1.out).mono ?_; intro e w1 h; obtain ⟨E2, k2_, l2_, he, hsn, hc⟩ := h; subst he; replace hk := hk.trans hc sb_; (try replace HN1 := hid (HN1.out.kept hc)); (try replace HN2 := hid (HN2.out.kept hc)); (try replace HN3 := hid (HN3.out.kept hc)); have HN2 := hid hsn; clear hsn; clear hc; obtain ⟨k0, k1, k2, f0, f1, f2⟩ := cell3 (kept_heap hk HZ.out)) | (go_at_call 49; refine (wholeOf_sn n1 n1 HN2.out HH.out).mono ?_; intro e w1 h; obtain ⟨he, hc⟩ := h; subst he; replace hk := hk.trans hc sb_; (try replace HN1 := hid (HN1.out.kept hc)); (try replace HN2 := hid (HN2.out.kept hc)); (try replace HN3 := hid (HN3.out.kept hc)); skip; clear hc; obtain ⟨k0, k1, k2, f0, f1, f2⟩ := cell3 (kept_heap hk HZ.out)) | (go_at_call 52; refine (HO.out _).mono ?_; intro e w1 h; obtain ⟨E3, k3_, l3_, he, hsn, hc⟩ := h; subst he; replace hk := hk.trans hc sb_; (try replace HN1 := hid (HN1.out.kept hc)); (try replace HN2 := hid (HN2.out.kept hc)); (try replace HN3 := hid (HN3.out.kept hc)); have HN3 := hid hsn; clear hsn; clear hc; obtain ⟨k0, k1, k2, f0, f1, f2⟩ := cell3 (kept_heap hk HZ.out)))) | fail
 all_goals (go_wp2_with fail; refine bodyPost_ret (v := .agg #[.bool n1, .slice E2 k2_ l2_, .slice E3 k3_ l3_]) (by rw [results_cell_row rfl _ _ (w.heap.size + 1) _ _ _ _ rfl (store3 (kept_heap hk HZ.out) _ _ _) Tryz.underlying34 rfl frac_size]) rfl ⟨E2, k2_, l2_, E3, k3_, l3_, rfl, sn_end3 HN2.out (kept_heap hk HZ.out) (by simp) _ _ _, sn_end3 HN3.out (kept_heap hk HZ.out) (by simp) _ _ _, chg3 (HC0.out.trans hk sb_) (by omega) _ _ _⟩)
def PDN (w : World) (sb : Bool) (a : Nat) (e0 : Int) (e : Ending) (w' : World) : Prop := ∃ (E : Option Addr) (k l : Nat), e = .returned (.agg #[.bool sb, .slice E k l, .int .i64 e0]) ∧ SN w' E k l a ∧ Chg (fun _ => False) w w'
set_option maxHeartbeats 2000000 in
theorem FixDec_any {w : World} (n1 sb : Bool) (a : Nat) (s0 e0 : Int) (ha : (a : Int) < 18446744073709551616) (hsb : (n1 && a != 0) = sb) (hw : IntKind.i64.wrap (-s0) = e0) :
  Calls Tryz.prog 26 #[.agg #[.bool n1, .int .u64 (a : Int), .int .i64 s0]] w (PDN w sb a e0) := by
 have HP := hid (fun w1 => (NatFrom_any (w := w1) a ha))
 obtain ⟨v, hv⟩ : ∃ v : Int, (a : Int) = v := ⟨_, rfl⟩
 rw [hv] at HP ⊢
 have HH := hid hsb
 clear ha hv hsb
 obtain ⟨HC0, HD, hB0, hB1⟩ := box2 w #[.bool n1, .int .u64 v, .int .i64 s0] 24 #[.bool false, .slice none 0 0, .int .i64 0] 57
 have HZ := hid hB1
 have HSS := hid (fun (w1 : World) h => And.intro ((cell3 (kept_heap (w' := w1) h hB0)).1) (And.intro ((cell3 (kept_heap (w' := w1) h hB0)).2.1) ((cell3 (kept_heap (w' := w1) h hB0)).2.2.1)))
 have HST := hid (fun w1 x0 x1 x2 h => And.intro (far3 (z := w.heap.size + 1) (x0 := x0) (x1 := x1) (x2 := x2) (HSS.out w1 h).1 (by omega)) (And.intro (far3 (z := w.heap.size + 1) (x0 := x0) (x1 := x1) (x2 := x2) (HSS.out w1 h).2.1 (by omega)) (far3 (z := w.heap.size + 1) (x0 := x0) (x1 := x1) (x2 := x2) (HSS.out w1 h).2.2 (by omega))))
 clear hB0 hB1
 have hk := HD.out
 go_enter Tryz.func26, Tryz.ntmps26
 go_wp2_with fail
 first | (go_region_held3 (fun w' => w'.cell? ⟨w.heap.size, 0, none⟩ = some (.bool n1) ∧ w'.cell? ⟨w.heap.size, 1, none⟩ = some (.int .u64 v) ∧ w'.cell? ⟨w.heap.size, 2, none⟩ = some (.int .i64 s0)) (first | with_reducible exact HSS.out _ hk | with_reducible exact HST.out _ _ _ _ hk | go_keep) (first | (go_at_call 50; refine (HP.out _).mono ?_; intro e w1 h; obtain ⟨E1, k1_, l1_, he, hsn, hc⟩ := h; subst he; replace hk := hk.trans hc sb_; (try replace HN1 := hid (HN1.out.kept hc)); have HN1 := hid hsn; clear hsn; clear hc; obtain ⟨k0, k1, k2, f0, f1, f2⟩ := cell3 (kept_heap hk HZ.out)) | (go_at_call 49; refine (wholeOf_sn n1 sb HN1.out HH.out).mono ?_; intro e w1 h; obtain ⟨he, hc⟩ := h; subst he; replace hk := hk.trans hc sb_; (try replace HN1 := hid (HN1.out.kept hc)); skip; clear hc; obtain ⟨k0, k1, k2, f0, f1, f2⟩ := cell3 (kept_heap hk HZ.out)))) | fail
 all_goals (go_wp2_with fail; refine bodyPost_ret (v := .agg #[.bool sb, .slice E1 k1_ l1_, .int .i64 e0]) (by rw [results_cell_row rfl _ _ (w.heap.size + 1) _ _ _ _ rfl (store3 (kept_heap hk HZ.out) _ _ _) Tryz.underlying57 rfl sdec_size]) rfl ⟨E1, k1_, l1_, rfl, sn_end3 HN1.out (kept_heap hk HZ.out) (by simp) _ _ _, chg3 (HC0.out.trans hk sb_) (by omega) _ _ _⟩)
theorem DecFrac_any {w : World} {A : Option Addr} {n c a : Nat} (n1 : Bool) (e0 : Int) (s : Nat) (ha : SN w A n c a) (ha1 : a < 10 ^ 240) (hs : s ≤ 200) (hn : (n1 && a != 0) = n1) (he : e0 = -(s : Int)) :
  Calls Tryz.prog 27 #[.agg #[.bool n1, .slice A n c, .int .i64 e0]] w (PFN w n1 a (10 ^ s)) := by
 by_cases h0 : s = 0
 ·subst h0
  have : e0 = 0 := by omega
  subst this
  exact DecFrac_zero n1 ha ha1 hn
 ·exact DecFrac_neg n1 e0 s ha hs (by omega) (by rw [show -e0 = (s : Int) by omega]; exact IntWalk.i64_in _ (by omega))
set_option maxHeartbeats 2000000 in
theorem FixNum_any {w : World} (n1 sb : Bool) (a s : Nat) (ha : a < 10 ^ 19) (hs : s ≤ 19) (hsb : (n1 && a != 0) = sb) :
  Calls Tryz.prog 10 #[.agg #[.bool n1, .int .u64 (a : Int), .int .i64 (s : Int)]] w (PFN w sb a (10 ^ s)) := by
 have ha2 : (a : Int) < 18446744073709551616 := by
  have : (10 : Nat) ^ 19 = 10000000000000000000 := by decide
  omega
 have HF := hid (fun w1 => FixDec_any (w := w1) n1 sb a (s : Int) (-(s : Int)) ha2 hsb (IntWalk.i64_in _ (by omega)))
 have hnn : (sb && a != 0) = sb := by rw [← hsb]; cases n1 <;> simp
 have HD := hid (fun w1 (E : Option Addr) (k l : Nat) (h : SN w1 E k l a) => DecFrac_any sb (-(s : Int)) s h (up240 ha (by omega)) (by omega) hnn rfl)
 obtain ⟨v, hv⟩ : ∃ v : Int, (a : Int) = v := ⟨_, rfl⟩
 obtain ⟨s0, hs0⟩ : ∃ s0 : Int, (s : Int) = s0 := ⟨_, rfl⟩
 obtain ⟨e0, he0⟩ : ∃ e0 : Int, -(s : Int) = e0 := ⟨_, rfl⟩
 rw [hv, hs0, ← hs0, he0] at HF
 rw [he0] at HD
 rw [hv, hs0]
 rw [hs0] at HF
 generalize 10 ^ s = T at *
 clear ha hs hsb ha2 hnn hv hs0 he0
 obtain ⟨HC0, HDD, hB0, hB1⟩ := box2 w #[.bool n1, .int .u64 v, .int .i64 s0] 24 #[.bool false, .slice none 0 0, .slice none 0 0] 34
 have HZ := hid hB1
 have HSS := hid (fun (w1 : World) h => And.intro ((cell3 (kept_heap (w' := w1) h hB0)).1) (And.intro ((cell3 (kept_heap (w' := w1) h hB0)).2.1) ((cell3 (kept_heap (w' := w1) h hB0)).2.2.1)))
 have HST := hid (fun w1 x0 x1 x2 h => And.intro (far3 (z := w.heap.size + 1) (x0 := x0) (x1 := x1) (x2 := x2) (HSS.out w1 h).1 (by omega)) (And.intro (far3 (z := w.heap.size + 1) (x0 := x0) (x1 := x1) (x2 := x2) (HSS.out w1 h).2.1 (by omega)) (far3 (z := w.heap.size + 1) (x0 := x0) (x1 := x1) (x2 := x2) (HSS.out w1 h).2.2 (by omega))))
 clear hB0 hB1
 have hk := Chg.refl (fun _ => False) ((w.alloc (.cells #[.bool n1, .int .u64 v, .int .i64 s0] 24)).alloc (.cells #[.bool false, .slice none 0 0, .slice none 0 0] 34))
 obtain ⟨d0, d1, d2⟩ := HSS.out _ hk
 go_enter Tryz.func10, Tryz.ntmps10
 go_wp2_with (first | (go_at_call 26; refine (HF.out _).mono ?_; intro e w1 h; obtain ⟨E1, k1_, l1_, he, hsn, hc⟩ := h; subst he; replace hk := hk.trans hc sb_; skip; have HN1 := hid hsn; clear hsn; clear hc; obtain ⟨k0, k1, k2, f0, f1, f2⟩ := cell3 (kept_heap hk HZ.out)) | (go_at_call 27; refine (HD.out _ _ _ _ HN1.out).mono ?_; intro e w1 h; obtain ⟨E2, k2_, l2_, E3, k3_, l3_, he, hs1, hs2, hc⟩ := h; subst he; replace hk := hk.trans hc sb_; skip; have HN2 := hid hs1; have HN3 := hid hs2; clear hs1 hs2; clear hc; obtain ⟨k0, k1, k2, f0, f1, f2⟩ := cell3 (kept_heap hk HZ.out)))
 refine bodyPost_ret (v := .agg #[.bool sb, .slice E2 k2_ l2_, .slice E3 k3_ l3_]) (by rw [results_cell_row rfl _ _ (w.heap.size + 1) _ _ _ _ rfl (store3 (kept_heap hk HZ.out) _ _ _) Tryz.underlying34 rfl frac_size]) rfl ⟨E2, k2_, l2_, E3, k3_, l3_, rfl, sn_end3 HN2.out (kept_heap hk HZ.out) (by simp) _ _ _, sn_end3 HN3.out (kept_heap hk HZ.out) (by simp) _ _ _, chg3 (HC0.out.trans hk sb_) (by omega) _ _ _⟩
theorem FixIs_any (n1 : Bool) (v s0 : Int) (w : World) :
  Calls Tryz.prog 19 #[.agg #[.bool n1, .int .u64 v, .int .i64 s0]] w (PV w (.bool (decide (v ≤ 9999999999999999999) && (decide (0 ≤ s0) && decide (s0 ≤ 19))))) := by
 obtain ⟨HC0, HD, hB0⟩ := box1 w #[.bool n1, .int .u64 v, .int .i64 s0] 24
 have HSS := hid (fun (w1 : World) h => And.intro ((cell3 (kept_heap (w' := w1) h hB0)).1) (And.intro ((cell3 (kept_heap (w' := w1) h hB0)).2.1) ((cell3 (kept_heap (w' := w1) h hB0)).2.2.1)))
 clear hB0
 obtain ⟨d0, d1, d2⟩ := HSS.out _ (Chg.refl _ _)
 by_cases h1 : v ≤ 9999999999999999999
 ·have h1' := decide_eq_true h1
  by_cases h2 : 0 ≤ s0
  ·have h2' := decide_eq_true h2
   by_cases h3 : s0 ≤ 19
   ·have h3' := decide_eq_true h3
    rw [h1', h2', h3']
    go_enter Tryz.func19, Tryz.ntmps19
    go_wp2_with fail
    go_ret
    exact ⟨rfl, HC0.out⟩
   ·have h3' := decide_eq_false h3
    rw [h1', h2', h3']
    go_enter Tryz.func19, Tryz.ntmps19
    go_wp2_with fail
    go_ret
    exact ⟨rfl, HC0.out⟩
  ·have h2' := decide_eq_false h2
   rw [h1', h2']
   go_enter Tryz.func19, Tryz.ntmps19
   go_wp2_with fail
   go_ret
   exact ⟨rfl, HC0.out⟩
 ·have h1' := decide_eq_false h1
  rw [h1']
  go_enter Tryz.func19, Tryz.ntmps19
  go_wp2_with fail
  go_ret
  exact ⟨rfl, HC0.out⟩
theorem rounds_any (neg odd : Bool) (h : Int) (w : World) :
  Calls Tryz.prog 68 #[.int .i64 5, .bool neg, .int .i64 h, .bool odd] w (PV w (.bool (decide (0 < h) || (h == 0 && odd)))) := by
 by_cases h1 : 0 < h
 ·have h1' := decide_eq_true h1
  rw [h1', Bool.true_or]
  go_enter Tryz.func68, Tryz.ntmps68
  go_wp2_with fail
  go_ret
  exact ⟨rfl, Chg.refl _ _⟩
 ·have h1' := decide_eq_false h1
  rw [h1', Bool.false_or]
  by_cases h2 : h = 0
  ·have h2' : (h == 0) = true := beq_iff_eq.2 h2
   rw [h2', Bool.true_and]
   go_enter Tryz.func68, Tryz.ntmps68
   go_wp2_with fail
   go_ret
   exact ⟨rfl, Chg.refl _ _⟩
  ·have h2' : (h == 0) = false := beq_eq_false_iff_ne.2 h2
   rw [h2', Bool.false_and]
   go_enter Tryz.func68, Tryz.ntmps68
   go_wp2_with fail
   go_ret
   exact ⟨rfl, Chg.refl _ _⟩
set_option maxHeartbeats 2000000 in
theorem FixHas_neg {w : World} {B D2 : Option Addr} {m d p2 q2 a b s y : Nat} (n2 : Bool) (ha : a < 10 ^ 19) (hs : s ≤ 19) (ha0 : a ≠ 0) (hb : SN w B m d b) (hy : SN w D2 p2 q2 y) (hb1 : b < 10 ^ 100) (hy1 : y < 10 ^ 100)
  (hcmp : (true && a * y != 0) = (n2 && b * 10 ^ s != 0) ∧ a * y = b * 10 ^ s) :
  Calls Tryz.prog 48 #[.agg #[.bool true, .int .u64 (a : Int), .int .i64 (s : Int)], .agg #[.bool n2, .slice B m d, .slice D2 p2 q2]] w (PV w (.bool true)) := by
 have HI := hid (fun w => FixIs_any true (a : Int) (s : Int) w)
 have h19 : (10 : Nat) ^ 19 = 10000000000000000000 := by decide
 have hb1' : decide ((a : Int) ≤ 9999999999999999999) = true := decide_eq_true (by omega)
 clear h19
 have hb2' : decide ((0 : Int) ≤ (s : Int)) = true := decide_eq_true (by omega)
 have hb3' : decide ((s : Int) ≤ 19) = true := decide_eq_true (by omega)
 rw [hb1', hb2', hb3', Bool.true_and, Bool.true_and] at HI
 have hsg : (true && a != 0) = true := by rw [Bool.true_and]; exact bne_iff_ne.2 ha0
 have HF := hid (fun w1 => FixNum_any (w := w1) true true a s ha hs hsg)
 have h100 : (10 : Nat) ^ s < 10 ^ 100 := Nat.pow_lt_pow_right (by omega) (by omega)
 have ha100 : a < 10 ^ 100 := Nat.lt_of_lt_of_le ha (Nat.pow_le_pow_right (by omega) (by omega))
 have HCM := hid (fun w1 (E : Option Addr) (k l : Nat) (G : Option Addr) (i j : Nat) (h : Chg (fun _ => False) w w1) (h1 : SN w1 E k l a) (h2 : SN w1 G i j (10 ^ s)) => (FracCmp_any true n2 h1 h2 (hb.kept h) (hy.kept h) ha100 hb1 h100 hy1))
 obtain ⟨v, hv⟩ : ∃ v : Int, (a : Int) = v := ⟨_, rfl⟩
 obtain ⟨s0, hs0⟩ : ∃ s0 : Int, (s : Int) = s0 := ⟨_, rfl⟩
 have hvz : (v == 0) = false := beq_eq_false_iff_ne.2 (by omega)
 have HP := hid hcmp
 rw [hv, hs0] at HI HF
 rw [hv, hs0]
 clear ha hs hcmp hb hy hb1 hy1 hb1' hb2' hb3' hsg h100 ha100 hv hs0 ha0
 obtain ⟨HC0, HD, hB0, hB1⟩ := box2 w #[.bool true, .int .u64 v, .int .i64 s0] 24 #[.bool n2, .slice B m d, .slice D2 p2 q2] 34
 have HSS := hid (fun (w1 : World) h => And.intro ((cell3 (kept_heap (w' := w1) h hB0)).1) (And.intro ((cell3 (kept_heap (w' := w1) h hB0)).2.1) (And.intro ((cell3 (kept_heap (w' := w1) h hB0)).2.2.1) (And.intro ((cell3 (kept_heap (w' := w1) h hB1)).1) (And.intro ((cell3 (kept_heap (w' := w1) h hB1)).2.1) ((cell3 (kept_heap (w' := w1) h hB1)).2.2.1))))))
 clear hB0 hB1
 have hk := HD.out
 go_enter Tryz.func48, Tryz.ntmps48
 go_wp2_with fail
 first | (go_region_held3 (fun w' => w'.cell? ⟨w.heap.size, 0, none⟩ = some (.bool true) ∧ w'.cell? ⟨w.heap.size, 1, none⟩ = some (.int .u64 v) ∧ w'.cell? ⟨w.heap.size, 2, none⟩ = some (.int .i64 s0) ∧ w'.cell? ⟨w.heap.size + 1, 0, none⟩ = some (.bool n2) ∧ w'.cell? ⟨w.heap.size + 1, 1, none⟩ = some (.slice B m d) ∧ w'.cell? ⟨w.heap.size + 1, 2, none⟩ = some (.slice D2 p2 q2)) (first | with_reducible exact HSS.out _ hk | go_keep) (first | (go_at_call 19; refine (HI.out _).mono ?_; intro e w1 h; obtain ⟨he, hc⟩ := h; subst he; replace hk := hk.trans hc sb_; skip; skip; clear hc) | (go_at_call 10; refine (HF.out _).mono ?_; intro e w1 h; obtain ⟨E1, k1_, l1_, E2, k2_, l2_, he, hs1, hs2, hc⟩ := h; subst he; replace hk := hk.trans hc sb_; skip; have HN1 := hid hs1; have HN2 := hid hs2; clear hs1 hs2; clear hc) | (go_at_call 70; refine (HCM.out _ _ _ _ _ _ _ (HC0.out.trans hk sb_) HN1.out HN2.out).mono ?_; intro e w1 h; obtain ⟨q, he, hq, hc⟩ := h; have hq0 := hq.2 HP.out; subst hq0; subst he; replace hk := hk.trans hc sb_; clear hc hq))) | fail
 all_goals (go_wp2_with fail; go_ret; exact ⟨rfl, HC0.out.trans hk sb_⟩)
set_option maxHeartbeats 2000000 in
theorem FixHas_pos {w : World} {B D2 : Option Addr} {m d p2 q2 a b s y : Nat} (n2 : Bool) (ha : a < 10 ^ 19) (hs : s ≤ 19) (hb : SN w B m d b) (hy : SN w D2 p2 q2 y) (hb1 : b < 10 ^ 100) (hy1 : y < 10 ^ 100)
  (hcmp : (false && a * y != 0) = (n2 && b * 10 ^ s != 0) ∧ a * y = b * 10 ^ s) :
  Calls Tryz.prog 48 #[.agg #[.bool false, .int .u64 (a : Int), .int .i64 (s : Int)], .agg #[.bool n2, .slice B m d, .slice D2 p2 q2]] w (PV w (.bool true)) := by
 have HI := hid (fun w => FixIs_any false (a : Int) (s : Int) w)
 have h19 : (10 : Nat) ^ 19 = 10000000000000000000 := by decide
 have hb1' : decide ((a : Int) ≤ 9999999999999999999) = true := decide_eq_true (by omega)
 clear h19
 have hb2' : decide ((0 : Int) ≤ (s : Int)) = true := decide_eq_true (by omega)
 have hb3' : decide ((s : Int) ≤ 19) = true := decide_eq_true (by omega)
 rw [hb1', hb2', hb3', Bool.true_and, Bool.true_and] at HI
 have hsg : (false && a != 0) = false := rfl
 have HF := hid (fun w1 => FixNum_any (w := w1) false false a s ha hs hsg)
 have h100 : (10 : Nat) ^ s < 10 ^ 100 := Nat.pow_lt_pow_right (by omega) (by omega)
 have ha100 : a < 10 ^ 100 := Nat.lt_of_lt_of_le ha (Nat.pow_le_pow_right (by omega) (by omega))
 have HCM := hid (fun w1 (E : Option Addr) (k l : Nat) (G : Option Addr) (i j : Nat) (h : Chg (fun _ => False) w w1) (h1 : SN w1 E k l a) (h2 : SN w1 G i j (10 ^ s)) => (FracCmp_any false n2 h1 h2 (hb.kept h) (hy.kept h) ha100 hb1 h100 hy1))
 obtain ⟨v, hv⟩ : ∃ v : Int, (a : Int) = v := ⟨_, rfl⟩
 obtain ⟨s0, hs0⟩ : ∃ s0 : Int, (s : Int) = s0 := ⟨_, rfl⟩
 have HP := hid hcmp
 rw [hv, hs0] at HI HF
 rw [hv, hs0]
 clear ha hs hcmp hb hy hb1 hy1 hb1' hb2' hb3' hsg h100 ha100 hv hs0
 obtain ⟨HC0, HD, hB0, hB1⟩ := box2 w #[.bool false, .int .u64 v, .int .i64 s0] 24 #[.bool n2, .slice B m d, .slice D2 p2 q2] 34
 have HSS := hid (fun (w1 : World) h => And.intro ((cell3 (kept_heap (w' := w1) h hB0)).1) (And.intro ((cell3 (kept_heap (w' := w1) h hB0)).2.1) (And.intro ((cell3 (kept_heap (w' := w1) h hB0)).2.2.1) (And.intro ((cell3 (kept_heap (w' := w1) h hB1)).1) (And.intro ((cell3 (kept_heap (w' := w1) h hB1)).2.1) ((cell3 (kept_heap (w' := w1) h hB1)).2.2.1))))))
 clear hB0 hB1
 have hk := HD.out
 obtain ⟨d0, d1, d2, d3, d4, d5⟩ := HSS.out _ (Chg.refl _ _)
 go_enter Tryz.func48, Tryz.ntmps48
 go_wp2_with fail
 first | (go_region_with (first | (go_at_call 19; refine (HI.out _).mono ?_; intro e w1 h; obtain ⟨he, hc⟩ := h; subst he; replace hk := hk.trans hc sb_; skip; skip; clear hc; clear d0 d1 d2 d3 d4 d5; obtain ⟨d0, d1, d2, d3, d4, d5⟩ := HSS.out _ hk) | (go_at_call 10; refine (HF.out _).mono ?_; intro e w1 h; obtain ⟨E1, k1_, l1_, E2, k2_, l2_, he, hs1, hs2, hc⟩ := h; subst he; replace hk := hk.trans hc sb_; skip; have HN1 := hid hs1; have HN2 := hid hs2; clear hs1 hs2; clear hc; clear d0 d1 d2 d3 d4 d5; obtain ⟨d0, d1, d2, d3, d4, d5⟩ := HSS.out _ hk) | (go_at_call 70; refine (HCM.out _ _ _ _ _ _ _ (HC0.out.trans hk sb_) HN1.out HN2.out).mono ?_; intro e w1 h; obtain ⟨q, he, hq, hc⟩ := h; have hq0 := hq.2 HP.out; subst hq0; subst he; replace hk := hk.trans hc sb_; clear hc hq; clear d0 d1 d2 d3 d4 d5; obtain ⟨d0, d1, d2, d3, d4, d5⟩ := HSS.out _ hk))) | fail
 all_goals (go_wp2_with fail; go_ret; exact ⟨rfl, HC0.out.trans hk sb_⟩)
end Go.Proofs.YtmpkgkjnoanlhaaGreatDoor
namespace Go.Proofs.YtmpkgkjnoanlhaaGreatDoor
open Go.RowKit Go.Proofs.YtmpkgkjnoanlhaaGreatDoorW.PrintWords Go.Proofs.YtmpkgkjnoanlhaaGreatDoorW.PrintLast Go.Proofs.YtmpkgkjnoanlhaaGreatDoorW.PrintMore PFnFixSubExact
set_option linter.unusedVariables false
set_option linter.unusedSimpArgs false
set_option maxRecDepth 20000
theorem rhe_up {N x : Nat} (h : x < 2 * (N % x) ∨ (x = 2 * (N % x) ∧ (N / x) % 2 = 1)) : rhe N x = N / x + 1 := by unfold rhe; rw [if_pos h]
theorem rhe_no {N x : Nat} (h : ¬ (x < 2 * (N % x) ∨ (x = 2 * (N % x) ∧ (N / x) % 2 = 1))) : rhe N x = N / x := by unfold rhe; rw [if_neg h]
theorem SN.head {w : World} {A : Option Addr} {n c a : Nat} (h : SN w A n c a) (h0 : 0 < n) : ∃ (ad : Addr) (y : Int), A = some ad ∧ 0 ≤ y ∧ y < 1000000000 ∧ y % 2 = (a : Int) % 2 ∧ w.cell? ad = some (.int .u32 y) := by
 obtain ⟨xs, rfl, h2, h3, h4⟩ := h
 obtain ⟨ad, e, hc⟩ := Kd.at_int h3 0 (by omega) (by omega)
 have hr : rd xs 0 = xs.getD 0 0 := rd_nat xs 0
 obtain ⟨b0, b1⟩ := h4.lms.getD 0
 refine ⟨ad, xs.getD 0 0, e, b0, b1, ?_, ?_⟩
 ·rw [← h4.val, ← List.drop_zero (l := xs), drop_get]
  simp only [List.drop_zero]
  omega
 ·rw [← hr]
  simpa [Addr.add] using hc
set_option maxHeartbeats 4000000 in
theorem Round_exact {w : World} {A D1 : Option Addr} {n c p1 q1 a x : Nat} (n1 sb : Bool) (p : Nat) (ha : SN w A n c a) (hx : SN w D1 p1 q1 x) (ha1 : a < 10 ^ 100) (hx1 : x < 10 ^ 100) (hx0 : 0 < x) (hp : p ≤ 19) (hr : (a * 10 ^ p) % x = 0) (hsb : (n1 && (a * 10 ^ p) / x != 0) = sb) :
  Calls Tryz.prog 45 #[.agg #[.bool n1, .slice A n c, .slice D1 p1 q1], .int .i64 (p : Int), .int .i64 5] w (PDN w sb ((a * 10 ^ p) / x) (-(p : Int))) := by
 have h19 : (10 : Nat) ^ p < 10 ^ 20 := Nat.pow_lt_pow_right (by omega) (by omega)
 have hN : a * 10 ^ p < 10 ^ (100 + 20) := mul100 ha1 h19
 have hNd : a * 10 ^ p < 10 ^ 207 := Nat.lt_of_lt_of_le hN (Nat.pow_le_pow_right (by omega) (by omega))
 have hR : (a * 10 ^ p) % x < 10 ^ 100 := Nat.lt_trans (Nat.mod_lt _ hx0) hx1
 have hRR : (a * 10 ^ p) % x + (a * 10 ^ p) % x < 10 ^ 243 := by
  have h1 : (10 : Nat) ^ 243 = 10 ^ 100 * 10 ^ 143 := by rw [← Nat.pow_add]
  have h2 : (2 : Nat) ≤ 10 ^ 143 := by decide
  rw [h1]
  have := Nat.mul_le_mul_left (10 ^ 100) h2
  omega
 have hQ : (a * 10 ^ p) / x < 10 ^ 243 := Nat.lt_of_le_of_lt (Nat.div_le_self _ _) (up243 hN (by omega))
 have HP := hid (fun w1 => Pow10_any (w := w1) p (by omega))
 have HM := hid (fun w1 (E : Option Addr) (k l : Nat) (h : Chg (fun _ => False) w w1) (h1 : SN w1 E k l (10 ^ p)) => NatMul_any (ha.kept h) h1 (up243 ha1 (by omega)) (up243 h19 (by omega)))
 have HDv := hid (fun w1 (E : Option Addr) (k l : Nat) (h : Chg (fun _ => False) w w1) (h1 : SN w1 E k l (a * 10 ^ p)) => NatDiv_any h1 (hx.kept h) hNd (Nat.lt_of_lt_of_le hx1 (Nat.pow_le_pow_right (by omega) (by omega))) hx0)
 have HA2 := hid (fun w1 (E : Option Addr) (k l : Nat) (h1 : SN w1 E k l ((a * 10 ^ p) % x)) => NatAdd_any h1 h1 (up243 hR (by omega)) (up243 hR (by omega)))
 have HCM := hid (fun w1 (E : Option Addr) (k l : Nat) (h : Chg (fun _ => False) w w1) (h1 : SN w1 E k l ((a * 10 ^ p) % x + (a * 10 ^ p) % x)) => NatCmp_any h1 (hx.kept h) hRR (up243 hx1 (by omega)))
 have HO := hid (fun w1 => one_any (w := w1))
 have HA1 := hid (fun w1 (E : Option Addr) (k l : Nat) (G : Option Addr) (i j : Nat) (h1 : SN w1 E k l ((a * 10 ^ p) / x)) (h2 : SN w1 G i j 1) => NatAdd_any h1 h2 hQ (by decide))
 have HH := hid hsb
 obtain ⟨e0, he0⟩ : ∃ e0 : Int, -(p : Int) = e0 := ⟨_, rfl⟩
 have hw : IntKind.i64.wrap (-(p : Int)) = e0 := by rw [← he0]; exact IntWalk.i64_in _ (by omega)
 have hge : (0 : Int) ≤ (p : Int) := by omega
 rw [he0]
 have HR0 := hid hr
 clear he0 hsb ha hx ha1 hx1 hx0 hp h19 hN hNd hR hRR hQ hr
 generalize 10 ^ p = T at *
 generalize a * T = N at *
 obtain ⟨HC0, HD, hB0, hB1⟩ := box2 w #[.bool n1, .slice A n c, .slice D1 p1 q1] 34 #[.bool false, .slice none 0 0, .int .i64 0] 57
 have HZ := hid hB1
 have HSS := hid (fun (w1 : World) h => And.intro ((cell3 (kept_heap (w' := w1) h hB0)).1) (And.intro ((cell3 (kept_heap (w' := w1) h hB0)).2.1) ((cell3 (kept_heap (w' := w1) h hB0)).2.2.1)))
 have HST := hid (fun w1 x0 x1 x2 h => And.intro (far3 (z := w.heap.size + 1) (x0 := x0) (x1 := x1) (x2 := x2) (HSS.out w1 h).1 (by omega)) (And.intro (far3 (z := w.heap.size + 1) (x0 := x0) (x1 := x1) (x2 := x2) (HSS.out w1 h).2.1 (by omega)) (far3 (z := w.heap.size + 1) (x0 := x0) (x1 := x1) (x2 := x2) (HSS.out w1 h).2.2 (by omega))))
 clear hB0 hB1
 have hk := Chg.refl (fun _ => False) ((w.alloc (.cells #[.bool n1, .slice A n c, .slice D1 p1 q1] 34)).alloc (.cells #[.bool false, .slice none 0 0, .int .i64 0] 57))
 go_enter Tryz.func45, Tryz.ntmps45
 go_wp2_with fail
 have hk := hk.drew
 first | (go_region_held3 (fun w' => w'.cell? ⟨w.heap.size, 0, none⟩ = some (.bool n1) ∧ w'.cell? ⟨w.heap.size, 1, none⟩ = some (.slice A n c) ∧ w'.cell? ⟨w.heap.size, 2, none⟩ = some (.slice D1 p1 q1)) (first | with_reducible exact HSS.out _ hk | with_reducible exact HST.out _ _ _ _ hk | go_keep) (first | fail)) | fail
 go_wp2_with (first | (go_at_call 51; refine (HP.out _).mono ?_; intro e w1 h; obtain ⟨E1, k1_, l1_, he, hsn, hc⟩ := h; subst he; replace hk := hk.trans hc sb_; skip; have HN1 := hid hsn; clear hsn; clear hc; obtain ⟨k0, k1, k2, f0, f1, f2⟩ := cell3 (kept_heap hk HZ.out)) | (go_at_call 34; refine (HM.out _ _ _ _ (HC0.out.trans hk sb_) HN1.out).mono ?_; intro e w1 h; obtain ⟨E2, k2_, l2_, he, hsn, hc⟩ := h; subst he; replace hk := hk.trans hc sb_; skip; have HN2 := hid hsn; clear hsn; clear hc; obtain ⟨k0, k1, k2, f0, f1, f2⟩ := cell3 (kept_heap hk HZ.out)))
 go_at_call 67
 refine (HDv.out _ _ _ _ (HC0.out.trans hk sb_) HN2.out).mono ?_
 intro e w1 h
 obtain ⟨EQ, kq, lq, ER, kr, lr, he, hs1, hs2, hc⟩ := h
 subst he
 replace hk := hk.trans hc sb_
 clear hc
 obtain ⟨k0, k1, k2, f0, f1, f2⟩ := cell3 (kept_heap hk HZ.out)
 have hkr : kr = 0 := hs2.zero.2 HR0.out
 subst hkr
 obtain ⟨d0, d1, d2⟩ := HSS.out _ hk
 have HQ := hid hs1
 have HR := hid hs2
 clear hs1 hs2
 go_wp2_with fail
 go_quiet (fail)
 all_goals (go_wp2_with (first | (go_at_call 49; refine (wholeOf_sn n1 sb (HQ.out.kept ((Chg.refl _ _).drewN _)) HH.out).mono ?_; intro e w2 h; obtain ⟨he, hc⟩ := h; subst he; replace HQ := hid (HQ.out.kept (((Chg.refl (fun _ => False) _).drewN _).trans hc sb_)); replace hk := (hk.drewN _).trans hc sb_; clear hc; obtain ⟨k0, k1, k2, f0, f1, f2⟩ := cell3 (kept_heap hk HZ.out))); refine bodyPost_ret (v := .agg #[.bool sb, .slice EQ kq lq, .int .i64 e0]) (by rw [results_cell_row rfl _ _ (w.heap.size + 1) _ _ _ _ rfl (store3 (kept_heap hk HZ.out) _ _ _) Tryz.underlying57 rfl sdec_size]) rfl ⟨_, _, _, rfl, sn_end3 HQ.out (kept_heap hk HZ.out) (by simp) _ _ _, chg3 (HC0.out.trans hk sb_) (by omega) _ _ _⟩)
theorem odd_cast (a : Nat) : ((a : Int) % 2 == 1) = (a % 2 == 1) := by
 by_cases h : a % 2 = 1
 ·have h2 : (a : Int) % 2 = 1 := by omega
  rw [h, h2]; rfl
 ·have h2 : (a : Int) % 2 = 0 := by omega
  have h3 : a % 2 = 0 := by omega
  rw [h3, h2]; rfl
theorem cell_kept2 {w w' : World} {ad : Addr} {v : Value} (h : w.cell? ad = some v) (hc : Chg (fun _ => False) w w') : w'.cell? ad = some v := by
 have hl := World.block_lt_of_cell? w _ h
 unfold World.cell? at *
 rw [hc.keep _ hl (fun h => h)]; exact h
theorem cmpN_pos (a b : Nat) : (0 < cmpN a b) ↔ b < a := by
 unfold cmpN
 by_cases h1 : a < b
 ·rw [if_pos h1]; omega
 ·rw [if_neg h1]
  by_cases h2 : a = b
  ·rw [if_pos h2]; omega
  ·rw [if_neg h2]; omega
theorem round_yes (R x Q : Nat) (h : x < 2 * R ∨ (x = 2 * R ∧ Q % 2 = 1)) : (decide (0 < cmpN (R + R) x) || (cmpN (R + R) x == 0 && (Q % 2 == 1))) = true := by
 rcases h with h | ⟨h1, h2⟩
 ·have : 0 < cmpN (R + R) x := (cmpN_pos _ _).2 (by omega)
  simp [this]
 ·have : cmpN (R + R) x = 0 := (cmpN_zero _ _).2 (by omega)
  simp [this, h2]
theorem round_not (R x Q : Nat) (h : ¬ (x < 2 * R ∨ (x = 2 * R ∧ Q % 2 = 1))) : (decide (0 < cmpN (R + R) x) || (cmpN (R + R) x == 0 && (Q % 2 == 1))) = false := by
 have h1 : ¬ 0 < cmpN (R + R) x := fun h2 => h (.inl (by have := (cmpN_pos _ _).1 h2; omega))
 by_cases h3 : cmpN (R + R) x = 0
 ·have h4 := (cmpN_zero _ _).1 h3
  have h5 : ¬ Q % 2 = 1 := fun h6 => h (.inr ⟨by omega, h6⟩)
  simp [h3, h5]
 ·simp [h1, h3]
set_option maxHeartbeats 4000000 in
theorem Round_qup {w : World} {A D1 : Option Addr} {n c p1 q1 a x : Nat} (n1 sb : Bool) (p : Nat) (ha : SN w A n c a) (hx : SN w D1 p1 q1 x) (ha1 : a < 10 ^ 100) (hx1 : x < 10 ^ 100) (hx0 : 0 < x) (hp : p ≤ 19) (hr : (a * 10 ^ p) % x ≠ 0) (hq : (a * 10 ^ p) / x ≠ 0) (hup : (x < 2 * ((a * 10 ^ p) % x) ∨ (x = 2 * ((a * 10 ^ p) % x) ∧ ((a * 10 ^ p) / x) % 2 = 1))) (hsb : (n1 && ((a * 10 ^ p) / x + 1) != 0) = sb) :
  Calls Tryz.prog 45 #[.agg #[.bool n1, .slice A n c, .slice D1 p1 q1], .int .i64 (p : Int), .int .i64 5] w (PDN w sb (((a * 10 ^ p) / x + 1)) (-(p : Int))) := by
 have h19 : (10 : Nat) ^ p < 10 ^ 20 := Nat.pow_lt_pow_right (by omega) (by omega)
 have hN : a * 10 ^ p < 10 ^ (100 + 20) := mul100 ha1 h19
 have hNd : a * 10 ^ p < 10 ^ 207 := Nat.lt_of_lt_of_le hN (Nat.pow_le_pow_right (by omega) (by omega))
 have hR : (a * 10 ^ p) % x < 10 ^ 100 := Nat.lt_trans (Nat.mod_lt _ hx0) hx1
 have hRR : (a * 10 ^ p) % x + (a * 10 ^ p) % x < 10 ^ 243 := by
  have h1 : (10 : Nat) ^ 243 = 10 ^ 100 * 10 ^ 143 := by rw [← Nat.pow_add]
  have h2 : (2 : Nat) ≤ 10 ^ 143 := by decide
  rw [h1]
  have := Nat.mul_le_mul_left (10 ^ 100) h2
  omega
 have hQ : (a * 10 ^ p) / x < 10 ^ 243 := Nat.lt_of_le_of_lt (Nat.div_le_self _ _) (up243 hN (by omega))
 have HP := hid (fun w1 => Pow10_any (w := w1) p (by omega))
 have HM := hid (fun w1 (E : Option Addr) (k l : Nat) (h : Chg (fun _ => False) w w1) (h1 : SN w1 E k l (10 ^ p)) => NatMul_any (ha.kept h) h1 (up243 ha1 (by omega)) (up243 h19 (by omega)))
 have HDv := hid (fun w1 (E : Option Addr) (k l : Nat) (h : Chg (fun _ => False) w w1) (h1 : SN w1 E k l (a * 10 ^ p)) => NatDiv_any h1 (hx.kept h) hNd (Nat.lt_of_lt_of_le hx1 (Nat.pow_le_pow_right (by omega) (by omega))) hx0)
 have HA2 := hid (fun w1 (E : Option Addr) (k l : Nat) (h1 : SN w1 E k l ((a * 10 ^ p) % x)) => NatAdd_any h1 h1 (up243 hR (by omega)) (up243 hR (by omega)))
 have HCM := hid (fun w1 (E : Option Addr) (k l : Nat) (h : Chg (fun _ => False) w w1) (h1 : SN w1 E k l ((a * 10 ^ p) % x + (a * 10 ^ p) % x)) => NatCmp_any h1 (hx.kept h) hRR (up243 hx1 (by omega)))
 have HO := hid (fun w1 => one_any (w := w1))
 have HA1 := hid (fun w1 (E : Option Addr) (k l : Nat) (G : Option Addr) (i j : Nat) (h1 : SN w1 E k l ((a * 10 ^ p) / x)) (h2 : SN w1 G i j 1) => NatAdd_any h1 h2 hQ (by decide))
 have HH := hid hsb
 obtain ⟨e0, he0⟩ : ∃ e0 : Int, -(p : Int) = e0 := ⟨_, rfl⟩
 have hw : IntKind.i64.wrap (-(p : Int)) = e0 := by rw [← he0]; exact IntWalk.i64_in _ (by omega)
 have hge : (0 : Int) ≤ (p : Int) := by omega
 rw [he0]
 have HR0 := hid hr
 have HQ0 := hid hq
 obtain ⟨ob, hob⟩ : ∃ ob, ((a * 10 ^ p) / x % 2 == 1) = ob := ⟨_, rfl⟩
 have hub : (decide (0 < cmpN ((a * 10 ^ p) % x + (a * 10 ^ p) % x) x) || (cmpN ((a * 10 ^ p) % x + (a * 10 ^ p) % x) x == 0 && ob)) = true := by
  rw [← hob]
  exact round_yes _ _ _ hup
 have HRD := hid (fun w => rounds_any n1 ob (cmpN ((a * 10 ^ p) % x + (a * 10 ^ p) % x) x) w)
 rw [hub] at HRD
 have HOB := hid hob
 generalize cmpN ((a * 10 ^ p) % x + (a * 10 ^ p) % x) x = cq at *
 clear he0 hsb ha hx ha1 hx1 hx0 hp h19 hN hNd hR hRR hQ hr hq hup hub hob
 generalize 10 ^ p = T at *
 generalize a * T = N at *
 obtain ⟨HC0, HD, hB0, hB1⟩ := box2 w #[.bool n1, .slice A n c, .slice D1 p1 q1] 34 #[.bool false, .slice none 0 0, .int .i64 0] 57
 have HZ := hid hB1
 have HSS := hid (fun (w1 : World) h => And.intro ((cell3 (kept_heap (w' := w1) h hB0)).1) (And.intro ((cell3 (kept_heap (w' := w1) h hB0)).2.1) ((cell3 (kept_heap (w' := w1) h hB0)).2.2.1)))
 have HST := hid (fun w1 x0 x1 x2 h => And.intro (far3 (z := w.heap.size + 1) (x0 := x0) (x1 := x1) (x2 := x2) (HSS.out w1 h).1 (by omega)) (And.intro (far3 (z := w.heap.size + 1) (x0 := x0) (x1 := x1) (x2 := x2) (HSS.out w1 h).2.1 (by omega)) (far3 (z := w.heap.size + 1) (x0 := x0) (x1 := x1) (x2 := x2) (HSS.out w1 h).2.2 (by omega))))
 clear hB0 hB1
 have hk := Chg.refl (fun _ => False) ((w.alloc (.cells #[.bool n1, .slice A n c, .slice D1 p1 q1] 34)).alloc (.cells #[.bool false, .slice none 0 0, .int .i64 0] 57))
 go_enter Tryz.func45, Tryz.ntmps45
 go_wp2_with fail
 have hk := hk.drew
 first | (go_region_held3 (fun w' => w'.cell? ⟨w.heap.size, 0, none⟩ = some (.bool n1) ∧ w'.cell? ⟨w.heap.size, 1, none⟩ = some (.slice A n c) ∧ w'.cell? ⟨w.heap.size, 2, none⟩ = some (.slice D1 p1 q1)) (first | with_reducible exact HSS.out _ hk | with_reducible exact HST.out _ _ _ _ hk | go_keep) (first | fail)) | fail
 go_wp2_with (first | (go_at_call 51; refine (HP.out _).mono ?_; intro e w1 h; obtain ⟨E1, k1_, l1_, he, hsn, hc⟩ := h; subst he; replace hk := hk.trans hc sb_; skip; have HN1 := hid hsn; clear hsn; clear hc; obtain ⟨k0, k1, k2, f0, f1, f2⟩ := cell3 (kept_heap hk HZ.out)) | (go_at_call 34; refine (HM.out _ _ _ _ (HC0.out.trans hk sb_) HN1.out).mono ?_; intro e w1 h; obtain ⟨E2, k2_, l2_, he, hsn, hc⟩ := h; subst he; replace hk := hk.trans hc sb_; skip; have HN2 := hid hsn; clear hsn; clear hc; obtain ⟨k0, k1, k2, f0, f1, f2⟩ := cell3 (kept_heap hk HZ.out)))
 go_at_call 67
 refine (HDv.out _ _ _ _ (HC0.out.trans hk sb_) HN2.out).mono ?_
 intro e w1 h
 obtain ⟨EQ, kq, lq, ER, kr, lr, he, hs1, hs2, hc⟩ := h
 subst he
 replace hk := hk.trans hc sb_
 clear hc
 obtain ⟨k0, k1, k2, f0, f1, f2⟩ := cell3 (kept_heap hk HZ.out)
 have hkr : 0 < kr := Nat.pos_of_ne_zero (fun h => HR0.out (hs2.zero.1 h))
 have hkq : 0 < kq := Nat.pos_of_ne_zero (fun h => HQ0.out (hs1.zero.1 h))
 obtain ⟨ad, y, hea, hy0, hy1, hy2, hyc⟩ := hs1.head hkq
 subst hea
 have hyb : (Int.tmod y 2 == 1) = ob := by (rw [← HOB.out, Int.tmod_eq_emod_of_nonneg hy0, hy2]; exact odd_cast _)
 have HYC := hid (fun w2 (h : Chg (fun _ => False) w1 w2) => cell_kept2 hyc h)
 clear hyc hy2
 have hw6 := Chg.refl (fun _ => False) w1
 obtain ⟨d0, d1, d2⟩ := HSS.out _ hk
 have HQ := hid hs1
 have HR := hid hs2
 clear hs1 hs2
 go_wp2_with fail
 have hk := hk.drew
 have hw6 := hw6.drew
 replace HQ := hid (HQ.out.kept (Chg.refl (fun _ => False) w1).drew)
 replace HR := hid (HR.out.kept (Chg.refl (fun _ => False) w1).drew)
 have HS6 := hid (fun w2 (h1 : Chg (fun _ => False) ((w.alloc (.cells #[.bool n1, .slice A n c, .slice D1 p1 q1] 34)).alloc (.cells #[.bool false, .slice none 0 0, .int .i64 0] 57)) w2) (h2 : Chg (fun _ => False) w1 w2) => (show w2.cell? ⟨w.heap.size, 0, none⟩ = some (.bool n1) ∧ w2.cell? ⟨w.heap.size, 1, none⟩ = some (.slice A n c) ∧ w2.cell? ⟨w.heap.size, 2, none⟩ = some (.slice D1 p1 q1) ∧ w2.cell? ad = some (.int .u32 y) from ⟨(HSS.out _ h1).1, (HSS.out _ h1).2.1, (HSS.out _ h1).2.2, HYC.out _ h2⟩))
 first | (go_region_held3 (fun w' => w'.cell? ⟨w.heap.size, 0, none⟩ = some (.bool n1) ∧ w'.cell? ⟨w.heap.size, 1, none⟩ = some (.slice A n c) ∧ w'.cell? ⟨w.heap.size, 2, none⟩ = some (.slice D1 p1 q1) ∧ w'.cell? ad = some (.int .u32 y)) (first | with_reducible exact HS6.out _ hk hw6) (first | (go_at_call 57; refine (HA2.out _ _ _ _ HR.out).mono ?_; intro e w1 h; obtain ⟨E5, k5_, l5_, he, hsn, hc⟩ := h; subst he; replace hk := hk.trans hc sb_; (try replace HQ := hid (HQ.out.kept hc)); (try replace HR := hid (HR.out.kept hc)); (try replace HN5 := hid (HN5.out.kept hc)); (try replace HN6 := hid (HN6.out.kept hc)); (try replace HN7 := hid (HN7.out.kept hc)); replace hw6 := hw6.trans hc sb_; have HN5 := hid hsn; clear hsn; clear hc; obtain ⟨k0, k1, k2, f0, f1, f2⟩ := cell3 (kept_heap hk HZ.out)) | (go_at_call 58; refine (HCM.out _ _ _ _ (HC0.out.trans hk sb_) HN5.out).mono ?_; intro e w1 h; obtain ⟨he, hc⟩ := h; subst he; replace hk := hk.trans hc sb_; (try replace HQ := hid (HQ.out.kept hc)); (try replace HR := hid (HR.out.kept hc)); (try replace HN5 := hid (HN5.out.kept hc)); (try replace HN6 := hid (HN6.out.kept hc)); (try replace HN7 := hid (HN7.out.kept hc)); replace hw6 := hw6.trans hc sb_; skip; clear hc; obtain ⟨k0, k1, k2, f0, f1, f2⟩ := cell3 (kept_heap hk HZ.out)) | (go_at_call 68; refine (HRD.out _).mono ?_; intro e w1 h; obtain ⟨he, hc⟩ := h; subst he; replace hk := hk.trans hc sb_; (try replace HQ := hid (HQ.out.kept hc)); (try replace HR := hid (HR.out.kept hc)); (try replace HN5 := hid (HN5.out.kept hc)); (try replace HN6 := hid (HN6.out.kept hc)); (try replace HN7 := hid (HN7.out.kept hc)); replace hw6 := hw6.trans hc sb_; skip; clear hc; obtain ⟨k0, k1, k2, f0, f1, f2⟩ := cell3 (kept_heap hk HZ.out)))) | fail
 all_goals (go_wp2_with (first | (go_at_call 52; refine (HO.out _).mono ?_; intro e w1 h; obtain ⟨E6, k6_, l6_, he, hsn, hc⟩ := h; subst he; replace hk := hk.trans hc sb_; (try replace HQ := hid (HQ.out.kept hc)); (try replace HR := hid (HR.out.kept hc)); (try replace HN5 := hid (HN5.out.kept hc)); (try replace HN6 := hid (HN6.out.kept hc)); (try replace HN7 := hid (HN7.out.kept hc)); have HN6 := hid hsn; clear hsn; clear hc; obtain ⟨k0, k1, k2, f0, f1, f2⟩ := cell3 (kept_heap hk HZ.out); obtain ⟨d0, d1, d2⟩ := HSS.out _ hk) | (go_at_call 57; refine (HA1.out _ _ _ _ _ _ _ HQ.out HN6.out).mono ?_; intro e w1 h; obtain ⟨E7, k7_, l7_, he, hsn, hc⟩ := h; subst he; replace hk := hk.trans hc sb_; (try replace HQ := hid (HQ.out.kept hc)); (try replace HR := hid (HR.out.kept hc)); (try replace HN5 := hid (HN5.out.kept hc)); (try replace HN6 := hid (HN6.out.kept hc)); (try replace HN7 := hid (HN7.out.kept hc)); have HN7 := hid hsn; clear hsn; clear hc; obtain ⟨k0, k1, k2, f0, f1, f2⟩ := cell3 (kept_heap hk HZ.out); obtain ⟨d0, d1, d2⟩ := HSS.out _ hk) | (go_at_call 49; refine (wholeOf_sn n1 sb HN7.out HH.out).mono ?_; intro e w1 h; obtain ⟨he, hc⟩ := h; subst he; replace hk := hk.trans hc sb_; (try replace HQ := hid (HQ.out.kept hc)); (try replace HR := hid (HR.out.kept hc)); (try replace HN5 := hid (HN5.out.kept hc)); (try replace HN6 := hid (HN6.out.kept hc)); (try replace HN7 := hid (HN7.out.kept hc)); skip; clear hc; obtain ⟨k0, k1, k2, f0, f1, f2⟩ := cell3 (kept_heap hk HZ.out))); refine bodyPost_ret (v := .agg #[.bool sb, .slice E7 k7_ l7_, .int .i64 e0]) (by rw [results_cell_row rfl _ _ (w.heap.size + 1) _ _ _ _ rfl (store3 (kept_heap hk HZ.out) _ _ _) Tryz.underlying57 rfl sdec_size]) rfl ⟨_, _, _, rfl, sn_end3 HN7.out (kept_heap hk HZ.out) (by simp) _ _ _, chg3 (HC0.out.trans hk sb_) (by omega) _ _ _⟩)
end Go.Proofs.YtmpkgkjnoanlhaaGreatDoor
