/- Part 18 of the proof: the lemmas of Sn2, Plain1, Sn3, Sn4. -/
import Derived.Test.YtmpkgkjnoanlhaaGreatDoorK00
import Derived.Test.YtmpkgkjnoanlhaaGreatDoorK17
namespace Go.Proofs.YtmpkgkjnoanlhaaGreatDoor
open Go.RowKit
set_option linter.unusedVariables false
set_option linter.unusedSimpArgs false
set_option maxRecDepth 20000
def PWN (w : World) (sb : Bool) (a : Nat) (e : Ending) (w' : World) : Prop := ∃ (E : Option Addr) (k l : Nat), e = .returned (.agg #[.bool sb, .slice E k l]) ∧ SN w' E k l a ∧ Chg (fun _ => False) w w'
theorem sgn_len {w : World} {E : Option Addr} {k l a : Nat} (h : SN w E k l a) : (k != 0) = (a != 0) := by
 have := h.zero
 by_cases hk : k = 0
 ·have h2 := this.1 hk
  rw [hk, h2]
 ·have h2 : a ≠ 0 := fun h => hk (this.2 h)
  rw [bne_iff_ne.2 hk, bne_iff_ne.2 h2]
theorem wholeOf_sn {w : World} {E : Option Addr} {k l a : Nat} (s sb : Bool) (h : SN w E k l a) (hs : (s && a != 0) = sb) : Calls Tryz.prog 49 #[.bool s, .slice E k l] w (PV w (.agg #[.bool sb, .slice E k l])) :=
 wholeOf_any s E k l sb (by rw [sgn_len h]; exact hs) w
set_option maxHeartbeats 1000000 in
theorem WholeMul_any {w : World} {A B : Option Addr} {n c m d a b : Nat} (n1 n2 sb : Bool) (ha : SN w A n c a) (hb : SN w B m d b) (ha1 : a < 10 ^ 240) (hb1 : b < 10 ^ 240)  (hsb : ((n1 != n2) && a * b != 0) = sb) :
  Calls Tryz.prog 32 #[.agg #[.bool n1, .slice A n c], .agg #[.bool n2, .slice B m d]] w (PWN w sb (a * b)) := by
 have ha2 : a < 10 ^ 243 := Nat.lt_of_lt_of_le ha1 (Nat.pow_le_pow_right (by omega) (by omega))
 have hb2 : b < 10 ^ 243 := Nat.lt_of_lt_of_le hb1 (Nat.pow_le_pow_right (by omega) (by omega))
 have HM := hid (fun w1 (h : Chg (fun _ => False) w w1) => NatMul_any (ha.kept h) (hb.kept h) ha2 hb2)
 obtain ⟨p, hp⟩ : ∃ p, a * b = p := ⟨_, rfl⟩
 rw [hp] at HM hsb ⊢
 clear hp
 obtain ⟨s, hs⟩ : ∃ s, (!(n1 == n2)) = s := ⟨_, rfl⟩
 rw [show (n1 != n2) = s from hs] at hsb
 have HSB := hid hsb
 clear hsb ha hb ha1 hb1 ha2 hb2
 have HC0 := hid ((((Chg.refl (fun _ => False) w).alloc (.cells #[.bool n1, .slice A n c] 32)).alloc (.cells #[.bool n2, .slice B m d] 32)).alloc (.cells #[.bool false, .slice none 0 0] 32))
 have hB0 : (((w.alloc (.cells #[.bool n1, .slice A n c] 32)).alloc (.cells #[.bool n2, .slice B m d] 32)).alloc (.cells #[.bool false, .slice none 0 0] 32)).heap[w.heap.size]? = some (.cells #[.bool n1, .slice A n c] 32 (0, 0)) := by
  rw [Below.heap_alloc _ _ _ (by simp; omega)]
  rw [Below.heap_alloc _ _ _ (by simp)]
  have := heap_alloc_new w (.cells #[.bool n1, .slice A n c] 32)
  simpa using this
 have hB1 : (((w.alloc (.cells #[.bool n1, .slice A n c] 32)).alloc (.cells #[.bool n2, .slice B m d] 32)).alloc (.cells #[.bool false, .slice none 0 0] 32)).heap[w.heap.size + 1]? = some (.cells #[.bool n2, .slice B m d] 32 (0, 0)) := by
  rw [Below.heap_alloc _ _ _ (by simp)]
  have := heap_alloc_new (w.alloc (.cells #[.bool n1, .slice A n c] 32)) (.cells #[.bool n2, .slice B m d] 32)
  simpa using this
 have hB2 : (((w.alloc (.cells #[.bool n1, .slice A n c] 32)).alloc (.cells #[.bool n2, .slice B m d] 32)).alloc (.cells #[.bool false, .slice none 0 0] 32)).heap[w.heap.size + 1 + 1]? = some (.cells #[.bool false, .slice none 0 0] 32 (0, 0)) := by
  have := heap_alloc_new ((w.alloc (.cells #[.bool n1, .slice A n c] 32)).alloc (.cells #[.bool n2, .slice B m d] 32)) (.cells #[.bool false, .slice none 0 0] 32)
  simpa using this
 have HZ := hid hB2
 have HSS := hid (fun w1 (h : Chg (fun _ => False) (((w.alloc (.cells #[.bool n1, .slice A n c] 32)).alloc (.cells #[.bool n2, .slice B m d] 32)).alloc (.cells #[.bool false, .slice none 0 0] 32)) w1) => (show w1.cell? ⟨w.heap.size, 0, none⟩ = some (.bool n1) ∧ w1.cell? ⟨w.heap.size, 1, none⟩ = some (.slice A n c) ∧ w1.cell? ⟨w.heap.size + 1, 0, none⟩ = some (.bool n2) ∧ w1.cell? ⟨w.heap.size + 1, 1, none⟩ = some (.slice B m d) from ⟨(cell2 (kept_heap h hB0)).1, (cell2 (kept_heap h hB0)).2.1, (cell2 (kept_heap h hB1)).1, (cell2 (kept_heap h hB1)).2.1⟩))
 have HST := hid (fun w1 (x0 x1 : Value) (h : Chg (fun _ => False) (((w.alloc (.cells #[.bool n1, .slice A n c] 32)).alloc (.cells #[.bool n2, .slice B m d] 32)).alloc (.cells #[.bool false, .slice none 0 0] 32)) w1) => (show ((w1.setCell ⟨w.heap.size + 1 + 1, 0, none⟩ x0).setCell ⟨w.heap.size + 1 + 1, 1, none⟩ x1).cell? ⟨w.heap.size, 0, none⟩ = some (.bool n1) ∧ ((w1.setCell ⟨w.heap.size + 1 + 1, 0, none⟩ x0).setCell ⟨w.heap.size + 1 + 1, 1, none⟩ x1).cell? ⟨w.heap.size, 1, none⟩ = some (.slice A n c) ∧ ((w1.setCell ⟨w.heap.size + 1 + 1, 0, none⟩ x0).setCell ⟨w.heap.size + 1 + 1, 1, none⟩ x1).cell? ⟨w.heap.size + 1, 0, none⟩ = some (.bool n2) ∧ ((w1.setCell ⟨w.heap.size + 1 + 1, 0, none⟩ x0).setCell ⟨w.heap.size + 1 + 1, 1, none⟩ x1).cell? ⟨w.heap.size + 1, 1, none⟩ = some (.slice B m d) from by
  have hh := HSS.out w1 h
  refine ⟨?_, ?_, ?_, ?_⟩ <;> (repeat rw [far_cell (by omega)])
  ·exact hh.1
  ·exact hh.2.1
  ·exact hh.2.2.1
  ·exact hh.2.2.2))
 have HD := hid (Chg.drew (Chg.refl (fun _ => False) (((w.alloc (.cells #[.bool n1, .slice A n c] 32)).alloc (.cells #[.bool n2, .slice B m d] 32)).alloc (.cells #[.bool false, .slice none 0 0] 32))))
 clear hB0 hB1 hB2
 have hk := HD.out
 go_enter Tryz.func32, Tryz.ntmps32
 go_wp2_with fail
 first | (go_region_held3 (fun w' => w'.cell? ⟨w.heap.size, 0, none⟩ = some (.bool n1) ∧ w'.cell? ⟨w.heap.size, 1, none⟩ = some (.slice A n c) ∧ w'.cell? ⟨w.heap.size + 1, 0, none⟩ = some (.bool n2) ∧ w'.cell? ⟨w.heap.size + 1, 1, none⟩ = some (.slice B m d)) (first | with_reducible exact HSS.out _ hk | with_reducible exact HST.out _ _ _ hk | go_keep) (first | (go_at_call 34; refine (HM.out _ (HC0.out.trans hk sb_)).mono ?_; intro e w1 h; obtain ⟨E, k, l, he, hsn, hc⟩ := h; subst he; replace hk := hk.trans hc sb_; skip; have HSN := hid hsn; clear hsn; clear hc; obtain ⟨k0, k1, f0, f1⟩ := cell2 (kept_heap hk HZ.out)) | (go_at_call 49; refine (wholeOf_sn s sb HSN.out HSB.out).mono ?_; intro e w1 h; obtain ⟨he, hc⟩ := h; subst he; replace hk := hk.trans hc sb_; (try replace HSN := hid (HSN.out.kept hc)); clear hc; obtain ⟨k0, k1, f0, f1⟩ := cell2 (kept_heap hk HZ.out)))) | fail
 all_goals (go_wp2_with fail; refine bodyPost_ret (v := .agg #[.bool sb, .slice E k l]) (by rw [results_cell_row rfl _ _ (w.heap.size + 1 + 1) _ _ _ _ rfl (store2 (kept_heap hk HZ.out) _ _) Tryz.underlying32 rfl whole_size]) rfl ⟨E, k, l, rfl, sn_end2 HSN.out (kept_heap hk HZ.out) _ _, chg2 (HC0.out.trans hk sb_) (by omega) _ _⟩)
set_option maxHeartbeats 1000000 in
theorem WholeAdd_same {w : World} {A B : Option Addr} {n c m d a b : Nat} (n1 n2 sb : Bool) (ha : SN w A n c a) (hb : SN w B m d b) (ha1 : a < 10 ^ 240) (hb1 : b < 10 ^ 240) (hs : n1 = n2) (hsb : (n1 && (a + b) != 0) = sb) :
  Calls Tryz.prog 33 #[.agg #[.bool n1, .slice A n c], .agg #[.bool n2, .slice B m d]] w (PWN w sb ((a + b))) := by
 have ha2 : a < 10 ^ 243 := Nat.lt_of_lt_of_le ha1 (Nat.pow_le_pow_right (by omega) (by omega))
 have hb2 : b < 10 ^ 243 := Nat.lt_of_lt_of_le hb1 (Nat.pow_le_pow_right (by omega) (by omega))
 have HM := hid (fun w1 (h : Chg (fun _ => False) w w1) => NatAdd_any (ha.kept h) (hb.kept h) ha2 hb2)
 obtain ⟨p, hp⟩ : ∃ p, a + b = p := ⟨_, rfl⟩
 rw [hp] at HM hsb ⊢
 clear hp
 subst hs
 obtain ⟨s, hs⟩ : ∃ s, n1 = s := ⟨_, rfl⟩
 subst hs
 have HSB := hid hsb
 clear hsb ha hb ha1 hb1 ha2 hb2
 have HC0 := hid ((((Chg.refl (fun _ => False) w).alloc (.cells #[.bool n1, .slice A n c] 32)).alloc (.cells #[.bool n1, .slice B m d] 32)).alloc (.cells #[.bool false, .slice none 0 0] 32))
 have hB0 : (((w.alloc (.cells #[.bool n1, .slice A n c] 32)).alloc (.cells #[.bool n1, .slice B m d] 32)).alloc (.cells #[.bool false, .slice none 0 0] 32)).heap[w.heap.size]? = some (.cells #[.bool n1, .slice A n c] 32 (0, 0)) := by
  rw [Below.heap_alloc _ _ _ (by simp; omega)]
  rw [Below.heap_alloc _ _ _ (by simp)]
  have := heap_alloc_new w (.cells #[.bool n1, .slice A n c] 32)
  simpa using this
 have hB1 : (((w.alloc (.cells #[.bool n1, .slice A n c] 32)).alloc (.cells #[.bool n1, .slice B m d] 32)).alloc (.cells #[.bool false, .slice none 0 0] 32)).heap[w.heap.size + 1]? = some (.cells #[.bool n1, .slice B m d] 32 (0, 0)) := by
  rw [Below.heap_alloc _ _ _ (by simp)]
  have := heap_alloc_new (w.alloc (.cells #[.bool n1, .slice A n c] 32)) (.cells #[.bool n1, .slice B m d] 32)
  simpa using this
 have hB2 : (((w.alloc (.cells #[.bool n1, .slice A n c] 32)).alloc (.cells #[.bool n1, .slice B m d] 32)).alloc (.cells #[.bool false, .slice none 0 0] 32)).heap[w.heap.size + 1 + 1]? = some (.cells #[.bool false, .slice none 0 0] 32 (0, 0)) := by
  have := heap_alloc_new ((w.alloc (.cells #[.bool n1, .slice A n c] 32)).alloc (.cells #[.bool n1, .slice B m d] 32)) (.cells #[.bool false, .slice none 0 0] 32)
  simpa using this
 have HZ := hid hB2
 have HSS := hid (fun w1 (h : Chg (fun _ => False) (((w.alloc (.cells #[.bool n1, .slice A n c] 32)).alloc (.cells #[.bool n1, .slice B m d] 32)).alloc (.cells #[.bool false, .slice none 0 0] 32)) w1) => (show w1.cell? ⟨w.heap.size, 0, none⟩ = some (.bool n1) ∧ w1.cell? ⟨w.heap.size, 1, none⟩ = some (.slice A n c) ∧ w1.cell? ⟨w.heap.size + 1, 0, none⟩ = some (.bool n1) ∧ w1.cell? ⟨w.heap.size + 1, 1, none⟩ = some (.slice B m d) from ⟨(cell2 (kept_heap h hB0)).1, (cell2 (kept_heap h hB0)).2.1, (cell2 (kept_heap h hB1)).1, (cell2 (kept_heap h hB1)).2.1⟩))
 have HST := hid (fun w1 (x0 x1 : Value) (h : Chg (fun _ => False) (((w.alloc (.cells #[.bool n1, .slice A n c] 32)).alloc (.cells #[.bool n1, .slice B m d] 32)).alloc (.cells #[.bool false, .slice none 0 0] 32)) w1) => (show ((w1.setCell ⟨w.heap.size + 1 + 1, 0, none⟩ x0).setCell ⟨w.heap.size + 1 + 1, 1, none⟩ x1).cell? ⟨w.heap.size, 0, none⟩ = some (.bool n1) ∧ ((w1.setCell ⟨w.heap.size + 1 + 1, 0, none⟩ x0).setCell ⟨w.heap.size + 1 + 1, 1, none⟩ x1).cell? ⟨w.heap.size, 1, none⟩ = some (.slice A n c) ∧ ((w1.setCell ⟨w.heap.size + 1 + 1, 0, none⟩ x0).setCell ⟨w.heap.size + 1 + 1, 1, none⟩ x1).cell? ⟨w.heap.size + 1, 0, none⟩ = some (.bool n1) ∧ ((w1.setCell ⟨w.heap.size + 1 + 1, 0, none⟩ x0).setCell ⟨w.heap.size + 1 + 1, 1, none⟩ x1).cell? ⟨w.heap.size + 1, 1, none⟩ = some (.slice B m d) from by
  have hh := HSS.out w1 h
  refine ⟨?_, ?_, ?_, ?_⟩ <;> (repeat rw [far_cell (by omega)])
  ·exact hh.1
  ·exact hh.2.1
  ·exact hh.2.2.1
  ·exact hh.2.2.2))
 have HD := hid (Chg.drew (Chg.refl (fun _ => False) (((w.alloc (.cells #[.bool n1, .slice A n c] 32)).alloc (.cells #[.bool n1, .slice B m d] 32)).alloc (.cells #[.bool false, .slice none 0 0] 32))))
 clear hB0 hB1 hB2
 have hk := HD.out
 obtain ⟨d0, d1, d2, d3⟩ := HSS.out _ (Chg.refl _ _)
 go_enter Tryz.func33, Tryz.ntmps33
 go_wp2_with fail
 first | (go_region_held3 (fun w' => w'.cell? ⟨w.heap.size, 0, none⟩ = some (.bool n1) ∧ w'.cell? ⟨w.heap.size, 1, none⟩ = some (.slice A n c) ∧ w'.cell? ⟨w.heap.size + 1, 0, none⟩ = some (.bool n1) ∧ w'.cell? ⟨w.heap.size + 1, 1, none⟩ = some (.slice B m d)) (first | with_reducible exact HSS.out _ hk | with_reducible exact HST.out _ _ _ hk | go_keep) (first | (go_at_call 57; refine (HM.out _ (HC0.out.trans hk sb_)).mono ?_; intro e w1 h; obtain ⟨E, k, l, he, hsn, hc⟩ := h; subst he; replace hk := hk.trans hc sb_; skip; have HSN := hid hsn; clear hsn; clear hc; obtain ⟨k0, k1, f0, f1⟩ := cell2 (kept_heap hk HZ.out)) | (go_at_call 49; refine (wholeOf_sn n1 sb HSN.out HSB.out).mono ?_; intro e w1 h; obtain ⟨he, hc⟩ := h; subst he; replace hk := hk.trans hc sb_; (try replace HSN := hid (HSN.out.kept hc)); clear hc; obtain ⟨k0, k1, f0, f1⟩ := cell2 (kept_heap hk HZ.out)))) | fail
 all_goals (go_wp2_with fail; refine bodyPost_ret (v := .agg #[.bool sb, .slice E k l]) (by rw [results_cell_row rfl _ _ (w.heap.size + 1 + 1) _ _ _ _ rfl (store2 (kept_heap hk HZ.out) _ _) Tryz.underlying32 rfl whole_size]) rfl ⟨E, k, l, rfl, sn_end2 HSN.out (kept_heap hk HZ.out) _ _, chg2 (HC0.out.trans hk sb_) (by omega) _ _⟩)
set_option maxHeartbeats 1000000 in
theorem WholeAdd_ge {w : World} {A B : Option Addr} {n c m d a b : Nat} (n1 n2 sb : Bool) (ha : SN w A n c a) (hb : SN w B m d b) (ha1 : a < 10 ^ 240) (hb1 : b < 10 ^ 240) (hs : (n1 == n2) = false) (hle : b ≤ a) (hsb : (n1 && (a - b) != 0) = sb) :
  Calls Tryz.prog 33 #[.agg #[.bool n1, .slice A n c], .agg #[.bool n2, .slice B m d]] w (PWN w sb ((a - b))) := by
 have ha2 : a < 10 ^ 243 := Nat.lt_of_lt_of_le ha1 (Nat.pow_le_pow_right (by omega) (by omega))
 have hb2 : b < 10 ^ 243 := Nat.lt_of_lt_of_le hb1 (Nat.pow_le_pow_right (by omega) (by omega))
 have HM := hid (fun w1 (h : Chg (fun _ => False) w w1) => NatSub_any (ha.kept h) (hb.kept h) ha2 (by omega))
 have HCM := hid (fun w1 (h : Chg (fun _ => False) w w1) => NatCmp_any (ha.kept h) (hb.kept h) ha2 hb2)
 obtain ⟨p, hp⟩ : ∃ p, a - b = p := ⟨_, rfl⟩
 rw [hp] at HM hsb ⊢
 clear hp
 have hcm : (0 : Int) ≤ cmpN a b := by unfold cmpN; rw [if_neg (by omega)]; split <;> omega
 generalize cmpN a b = q at *
 have HSB := hid hsb
 clear hle hsb ha hb ha1 hb1 ha2 hb2
 have HC0 := hid ((((Chg.refl (fun _ => False) w).alloc (.cells #[.bool n1, .slice A n c] 32)).alloc (.cells #[.bool n2, .slice B m d] 32)).alloc (.cells #[.bool false, .slice none 0 0] 32))
 have hB0 : (((w.alloc (.cells #[.bool n1, .slice A n c] 32)).alloc (.cells #[.bool n2, .slice B m d] 32)).alloc (.cells #[.bool false, .slice none 0 0] 32)).heap[w.heap.size]? = some (.cells #[.bool n1, .slice A n c] 32 (0, 0)) := by
  rw [Below.heap_alloc _ _ _ (by simp; omega)]
  rw [Below.heap_alloc _ _ _ (by simp)]
  have := heap_alloc_new w (.cells #[.bool n1, .slice A n c] 32)
  simpa using this
 have hB1 : (((w.alloc (.cells #[.bool n1, .slice A n c] 32)).alloc (.cells #[.bool n2, .slice B m d] 32)).alloc (.cells #[.bool false, .slice none 0 0] 32)).heap[w.heap.size + 1]? = some (.cells #[.bool n2, .slice B m d] 32 (0, 0)) := by
  rw [Below.heap_alloc _ _ _ (by simp)]
  have := heap_alloc_new (w.alloc (.cells #[.bool n1, .slice A n c] 32)) (.cells #[.bool n2, .slice B m d] 32)
  simpa using this
 have hB2 : (((w.alloc (.cells #[.bool n1, .slice A n c] 32)).alloc (.cells #[.bool n2, .slice B m d] 32)).alloc (.cells #[.bool false, .slice none 0 0] 32)).heap[w.heap.size + 1 + 1]? = some (.cells #[.bool false, .slice none 0 0] 32 (0, 0)) := by
  have := heap_alloc_new ((w.alloc (.cells #[.bool n1, .slice A n c] 32)).alloc (.cells #[.bool n2, .slice B m d] 32)) (.cells #[.bool false, .slice none 0 0] 32)
  simpa using this
 have HZ := hid hB2
 have HSS := hid (fun w1 (h : Chg (fun _ => False) (((w.alloc (.cells #[.bool n1, .slice A n c] 32)).alloc (.cells #[.bool n2, .slice B m d] 32)).alloc (.cells #[.bool false, .slice none 0 0] 32)) w1) => (show w1.cell? ⟨w.heap.size, 0, none⟩ = some (.bool n1) ∧ w1.cell? ⟨w.heap.size, 1, none⟩ = some (.slice A n c) ∧ w1.cell? ⟨w.heap.size + 1, 0, none⟩ = some (.bool n2) ∧ w1.cell? ⟨w.heap.size + 1, 1, none⟩ = some (.slice B m d) from ⟨(cell2 (kept_heap h hB0)).1, (cell2 (kept_heap h hB0)).2.1, (cell2 (kept_heap h hB1)).1, (cell2 (kept_heap h hB1)).2.1⟩))
 have HST := hid (fun w1 (x0 x1 : Value) (h : Chg (fun _ => False) (((w.alloc (.cells #[.bool n1, .slice A n c] 32)).alloc (.cells #[.bool n2, .slice B m d] 32)).alloc (.cells #[.bool false, .slice none 0 0] 32)) w1) => (show ((w1.setCell ⟨w.heap.size + 1 + 1, 0, none⟩ x0).setCell ⟨w.heap.size + 1 + 1, 1, none⟩ x1).cell? ⟨w.heap.size, 0, none⟩ = some (.bool n1) ∧ ((w1.setCell ⟨w.heap.size + 1 + 1, 0, none⟩ x0).setCell ⟨w.heap.size + 1 + 1, 1, none⟩ x1).cell? ⟨w.heap.size, 1, none⟩ = some (.slice A n c) ∧ ((w1.setCell ⟨w.heap.size + 1 + 1, 0, none⟩ x0).setCell ⟨w.heap.size + 1 + 1, 1, none⟩ x1).cell? ⟨w.heap.size + 1, 0, none⟩ = some (.bool n2) ∧ ((w1.setCell ⟨w.heap.size + 1 + 1, 0, none⟩ x0).setCell ⟨w.heap.size + 1 + 1, 1, none⟩ x1).cell? ⟨w.heap.size + 1, 1, none⟩ = some (.slice B m d) from by
  have hh := HSS.out w1 h
  refine ⟨?_, ?_, ?_, ?_⟩ <;> (repeat rw [far_cell (by omega)])
  ·exact hh.1
  ·exact hh.2.1
  ·exact hh.2.2.1
  ·exact hh.2.2.2))
 have HD := hid (Chg.drew (Chg.refl (fun _ => False) (((w.alloc (.cells #[.bool n1, .slice A n c] 32)).alloc (.cells #[.bool n2, .slice B m d] 32)).alloc (.cells #[.bool false, .slice none 0 0] 32))))
 clear hB0 hB1 hB2
 have hk := HD.out
 obtain ⟨d0, d1, d2, d3⟩ := HSS.out _ (Chg.refl _ _)
 go_enter Tryz.func33, Tryz.ntmps33
 go_wp2_with (go_at_call 58; refine (HCM.out _ HC0.out).mono ?_; intro e w1 h; obtain ⟨he, hc⟩ := h; subst he; replace hk := hc; clear hc d0 d1 d2 d3; obtain ⟨d0, d1, d2, d3⟩ := HSS.out _ hk)
 have hk := hk.drew
 first | (go_region_held3 (fun w' => w'.cell? ⟨w.heap.size, 0, none⟩ = some (.bool n1) ∧ w'.cell? ⟨w.heap.size, 1, none⟩ = some (.slice A n c) ∧ w'.cell? ⟨w.heap.size + 1, 0, none⟩ = some (.bool n2) ∧ w'.cell? ⟨w.heap.size + 1, 1, none⟩ = some (.slice B m d)) (first | with_reducible exact HSS.out _ hk | with_reducible exact HST.out _ _ _ hk | go_keep) (first | (go_at_call 59; refine (HM.out _ (HC0.out.trans hk sb_)).mono ?_; intro e w1 h; obtain ⟨E, k, l, he, hsn, hc⟩ := h; subst he; replace hk := hk.trans hc sb_; skip; have HSN := hid hsn; clear hsn; clear hc; obtain ⟨k0, k1, f0, f1⟩ := cell2 (kept_heap hk HZ.out)) | (go_at_call 49; refine (wholeOf_sn n1 sb HSN.out HSB.out).mono ?_; intro e w1 h; obtain ⟨he, hc⟩ := h; subst he; replace hk := hk.trans hc sb_; (try replace HSN := hid (HSN.out.kept hc)); clear hc; obtain ⟨k0, k1, f0, f1⟩ := cell2 (kept_heap hk HZ.out)))) | fail
 all_goals (go_wp2_with fail; refine bodyPost_ret (v := .agg #[.bool sb, .slice E k l]) (by rw [results_cell_row rfl _ _ (w.heap.size + 1 + 1) _ _ _ _ rfl (store2 (kept_heap hk HZ.out) _ _) Tryz.underlying32 rfl whole_size]) rfl ⟨E, k, l, rfl, sn_end2 HSN.out (kept_heap hk HZ.out) _ _, chg2 (HC0.out.trans hk sb_) (by omega) _ _⟩)
set_option maxHeartbeats 1000000 in
theorem WholeAdd_lt {w : World} {A B : Option Addr} {n c m d a b : Nat} (n1 n2 sb : Bool) (ha : SN w A n c a) (hb : SN w B m d b) (ha1 : a < 10 ^ 240) (hb1 : b < 10 ^ 240) (hs : (n1 == n2) = false) (hle : a < b) (hsb : (n2 && (b - a) != 0) = sb) :
  Calls Tryz.prog 33 #[.agg #[.bool n1, .slice A n c], .agg #[.bool n2, .slice B m d]] w (PWN w sb ((b - a))) := by
 have ha2 : a < 10 ^ 243 := Nat.lt_of_lt_of_le ha1 (Nat.pow_le_pow_right (by omega) (by omega))
 have hb2 : b < 10 ^ 243 := Nat.lt_of_lt_of_le hb1 (Nat.pow_le_pow_right (by omega) (by omega))
 have HM := hid (fun w1 (h : Chg (fun _ => False) w w1) => NatSub_any (hb.kept h) (ha.kept h) hb2 (by omega))
 have HCM := hid (fun w1 (h : Chg (fun _ => False) w w1) => NatCmp_any (ha.kept h) (hb.kept h) ha2 hb2)
 obtain ⟨p, hp⟩ : ∃ p, b - a = p := ⟨_, rfl⟩
 rw [hp] at HM hsb ⊢
 clear hp
 have hcm : ¬ (0 : Int) ≤ cmpN a b := by unfold cmpN; rw [if_pos hle]; omega
 generalize cmpN a b = q at *
 have HSB := hid hsb
 clear hle hsb ha hb ha1 hb1 ha2 hb2
 have HC0 := hid ((((Chg.refl (fun _ => False) w).alloc (.cells #[.bool n1, .slice A n c] 32)).alloc (.cells #[.bool n2, .slice B m d] 32)).alloc (.cells #[.bool false, .slice none 0 0] 32))
 have hB0 : (((w.alloc (.cells #[.bool n1, .slice A n c] 32)).alloc (.cells #[.bool n2, .slice B m d] 32)).alloc (.cells #[.bool false, .slice none 0 0] 32)).heap[w.heap.size]? = some (.cells #[.bool n1, .slice A n c] 32 (0, 0)) := by
  rw [Below.heap_alloc _ _ _ (by simp; omega)]
  rw [Below.heap_alloc _ _ _ (by simp)]
  have := heap_alloc_new w (.cells #[.bool n1, .slice A n c] 32)
  simpa using this
 have hB1 : (((w.alloc (.cells #[.bool n1, .slice A n c] 32)).alloc (.cells #[.bool n2, .slice B m d] 32)).alloc (.cells #[.bool false, .slice none 0 0] 32)).heap[w.heap.size + 1]? = some (.cells #[.bool n2, .slice B m d] 32 (0, 0)) := by
  rw [Below.heap_alloc _ _ _ (by simp)]
  have := heap_alloc_new (w.alloc (.cells #[.bool n1, .slice A n c] 32)) (.cells #[.bool n2, .slice B m d] 32)
  simpa using this
 have hB2 : (((w.alloc (.cells #[.bool n1, .slice A n c] 32)).alloc (.cells #[.bool n2, .slice B m d] 32)).alloc (.cells #[.bool false, .slice none 0 0] 32)).heap[w.heap.size + 1 + 1]? = some (.cells #[.bool false, .slice none 0 0] 32 (0, 0)) := by
  have := heap_alloc_new ((w.alloc (.cells #[.bool n1, .slice A n c] 32)).alloc (.cells #[.bool n2, .slice B m d] 32)) (.cells #[.bool false, .slice none 0 0] 32)
  simpa using this
 have HZ := hid hB2
 have HSS := hid (fun w1 (h : Chg (fun _ => False) (((w.alloc (.cells #[.bool n1, .slice A n c] 32)).alloc (.cells #[.bool n2, .slice B m d] 32)).alloc (.cells #[.bool false, .slice none 0 0] 32)) w1) => (show w1.cell? ⟨w.heap.size, 0, none⟩ = some (.bool n1) ∧ w1.cell? ⟨w.heap.size, 1, none⟩ = some (.slice A n c) ∧ w1.cell? ⟨w.heap.size + 1, 0, none⟩ = some (.bool n2) ∧ w1.cell? ⟨w.heap.size + 1, 1, none⟩ = some (.slice B m d) from ⟨(cell2 (kept_heap h hB0)).1, (cell2 (kept_heap h hB0)).2.1, (cell2 (kept_heap h hB1)).1, (cell2 (kept_heap h hB1)).2.1⟩))
 have HST := hid (fun w1 (x0 x1 : Value) (h : Chg (fun _ => False) (((w.alloc (.cells #[.bool n1, .slice A n c] 32)).alloc (.cells #[.bool n2, .slice B m d] 32)).alloc (.cells #[.bool false, .slice none 0 0] 32)) w1) => (show ((w1.setCell ⟨w.heap.size + 1 + 1, 0, none⟩ x0).setCell ⟨w.heap.size + 1 + 1, 1, none⟩ x1).cell? ⟨w.heap.size, 0, none⟩ = some (.bool n1) ∧ ((w1.setCell ⟨w.heap.size + 1 + 1, 0, none⟩ x0).setCell ⟨w.heap.size + 1 + 1, 1, none⟩ x1).cell? ⟨w.heap.size, 1, none⟩ = some (.slice A n c) ∧ ((w1.setCell ⟨w.heap.size + 1 + 1, 0, none⟩ x0).setCell ⟨w.heap.size + 1 + 1, 1, none⟩ x1).cell? ⟨w.heap.size + 1, 0, none⟩ = some (.bool n2) ∧ ((w1.setCell ⟨w.heap.size + 1 + 1, 0, none⟩ x0).setCell ⟨w.heap.size + 1 + 1, 1, none⟩ x1).cell? ⟨w.heap.size + 1, 1, none⟩ = some (.slice B m d) from by
  have hh := HSS.out w1 h
  refine ⟨?_, ?_, ?_, ?_⟩ <;> (repeat rw [far_cell (by omega)])
  ·exact hh.1
  ·exact hh.2.1
  ·exact hh.2.2.1
  ·exact hh.2.2.2))
 have HD := hid (Chg.drew (Chg.refl (fun _ => False) (((w.alloc (.cells #[.bool n1, .slice A n c] 32)).alloc (.cells #[.bool n2, .slice B m d] 32)).alloc (.cells #[.bool false, .slice none 0 0] 32))))
 clear hB0 hB1 hB2
 have hk := HD.out
 obtain ⟨d0, d1, d2, d3⟩ := HSS.out _ (Chg.refl _ _)
 go_enter Tryz.func33, Tryz.ntmps33
 go_wp2_with (go_at_call 58; refine (HCM.out _ HC0.out).mono ?_; intro e w1 h; obtain ⟨he, hc⟩ := h; subst he; replace hk := hc; clear hc d0 d1 d2 d3; obtain ⟨d0, d1, d2, d3⟩ := HSS.out _ hk)
 have hk := hk.drew
 first | (go_region_held3 (fun w' => w'.cell? ⟨w.heap.size, 0, none⟩ = some (.bool n1) ∧ w'.cell? ⟨w.heap.size, 1, none⟩ = some (.slice A n c) ∧ w'.cell? ⟨w.heap.size + 1, 0, none⟩ = some (.bool n2) ∧ w'.cell? ⟨w.heap.size + 1, 1, none⟩ = some (.slice B m d)) (first | with_reducible exact HSS.out _ hk | with_reducible exact HST.out _ _ _ hk | go_keep) (first | (go_at_call 59; refine (HM.out _ (HC0.out.trans hk sb_)).mono ?_; intro e w1 h; obtain ⟨E, k, l, he, hsn, hc⟩ := h; subst he; replace hk := hk.trans hc sb_; skip; have HSN := hid hsn; clear hsn; clear hc; obtain ⟨k0, k1, f0, f1⟩ := cell2 (kept_heap hk HZ.out)) | (go_at_call 49; refine (wholeOf_sn n2 sb HSN.out HSB.out).mono ?_; intro e w1 h; obtain ⟨he, hc⟩ := h; subst he; replace hk := hk.trans hc sb_; (try replace HSN := hid (HSN.out.kept hc)); clear hc; obtain ⟨k0, k1, f0, f1⟩ := cell2 (kept_heap hk HZ.out)))) | fail
 all_goals (go_wp2_with fail; refine bodyPost_ret (v := .agg #[.bool sb, .slice E k l]) (by rw [results_cell_row rfl _ _ (w.heap.size + 1 + 1) _ _ _ _ rfl (store2 (kept_heap hk HZ.out) _ _) Tryz.underlying32 rfl whole_size]) rfl ⟨E, k, l, rfl, sn_end2 HSN.out (kept_heap hk HZ.out) _ _, chg2 (HC0.out.trans hk sb_) (by omega) _ _⟩)
end Go.Proofs.YtmpkgkjnoanlhaaGreatDoor
namespace Go.Proofs.YtmpkgkjnoanlhaaGreatDoor
open Go.RowKit
set_option linter.unusedVariables false
set_option linter.unusedSimpArgs false
def sumS (n1 : Bool) (a : Nat) (n2 : Bool) (b : Nat) : Bool × Nat := if n1 = n2 then (n1, a + b) else if a < b then (n2, b - a) else (n1, a - b)
theorem sumS_le (n1 : Bool) (a : Nat) (n2 : Bool) (b : Nat) : (sumS n1 a n2 b).2 ≤ a + b := by
 unfold sumS
 split
 ·exact Nat.le_refl _
 ·split <;> simp only <;> omega
theorem digs_add {a b k : Nat} (ha : digs a ≤ k) (hb : digs b ≤ k) {c : Nat} (hc : c ≤ a + b) : digs c ≤ k + 1 := by
 rw [digs_le] at *
 rw [Nat.pow_succ]; omega
theorem digs_mul {a j k : Nat} (ha : digs a ≤ k) : digs (a * 10 ^ j) ≤ k + j := by
 rw [digs_le] at *
 rw [Nat.pow_add]
 exact Nat.mul_lt_mul_of_pos_right ha (pow10_pos j)
def mxp (a b : Nat) : Nat := if a < b then b else a
def addF (dn : Bool) (dc ds : Nat) (en : Bool) (ec es m : Nat) : Option (Int × Nat) :=
 if dc * 10 ^ (mxp ds es - ds) < 10 ^ 19 ∧ ec * 10 ^ (mxp ds es - es) < 10 ^ 19 ∧ (dn = en → dc * 10 ^ (mxp ds es - ds) + ec * 10 ^ (mxp ds es - es) < 10 ^ 19) then
  fromFint ((sumS dn (dc * 10 ^ (mxp ds es - ds)) en (ec * 10 ^ (mxp ds es - es))).2 : Nat) (mxp ds es) m
 else none
def sumD (dn : Bool) (dc ds : Nat) (en : Bool) (ec es : Nat) : Bool × Nat := sumS dn (dc * 10 ^ (mxp ds es - ds)) en (ec * 10 ^ (mxp ds es - es))
theorem addF_from19 {dn en : Bool} {dc ds ec es m : Nat} (hds : ds ≤ 19) (hes : es ≤ 19) (hm : m ≤ 19) {k : Int} {t : Nat} (h : addF dn dc ds en ec es m = some (k, t)) :
  ∃ k' : Nat, k = k' ∧ from19 (10 ^ 19) 2 (sumD dn dc ds en ec es).2 (mxp ds es) m = some (k', t) := by
 unfold addF at h
 split at h
 ·next hh =>
  obtain ⟨h1, h2, h3⟩ := hh
  refine fromFint_from19 ?_ (by unfold mxp; split <;> omega) hm h
  unfold sumD sumS
  split
  ·next e => exact h3 e
  ·split <;> simp only <;> omega
 ·cases h
theorem from19_bd {c s m k t : Nat} (hm : m ≤ 19) (h : from19 (10 ^ 19) 2 c s m = some (k, t)) : t ≤ 19 ∧ k < 10 ^ 19 ∧ m ≤ t := by
 have hr := from19_right pow19 0 c s m hm
 rw [h] at hr
 obtain ⟨h1, h2⟩ := hr
 cases hR : room (10 ^ 19) (rnd c s) 19 with
 | none => exact absurd (h1 hR) (by simp)
 | some R =>
  obtain ⟨h3, h4⟩ := h2 R hR
  by_cases hl : R < m
  ·exact absurd (h3 hl) (by simp)
  ·obtain ⟨k', t', e, a, b, c, _⟩ := h4 (by omega)
   simp only [Option.some.injEq, Prod.mk.injEq] at e
   obtain ⟨rfl, rfl⟩ := e
   exact ⟨b, c, a⟩
end Go.Proofs.YtmpkgkjnoanlhaaGreatDoor
namespace Go.Proofs.YtmpkgkjnoanlhaaGreatDoor
open Go.RowKit
set_option linter.unusedVariables false
set_option linter.unusedSimpArgs false
set_option maxRecDepth 20000
theorem WholeAdd_any {w : World} {A B : Option Addr} {n c m d a b : Nat} (n1 n2 sb : Bool) (ha : SN w A n c a) (hb : SN w B m d b) (ha1 : a < 10 ^ 240) (hb1 : b < 10 ^ 240) (hsb : ((sumS n1 a n2 b).1 && (sumS n1 a n2 b).2 != 0) = sb) :
  Calls Tryz.prog 33 #[.agg #[.bool n1, .slice A n c], .agg #[.bool n2, .slice B m d]] w (PWN w sb (sumS n1 a n2 b).2) := by
 unfold sumS at hsb ⊢
 by_cases hs : n1 = n2
 ·rw [if_pos hs] at hsb ⊢
  exact WholeAdd_same n1 n2 sb ha hb ha1 hb1 hs hsb
 ·rw [if_neg hs] at hsb ⊢
  have hs' : (n1 == n2) = false := by simpa using hs
  by_cases hlt : a < b
  ·rw [if_pos hlt] at hsb ⊢
   exact WholeAdd_lt n1 n2 sb ha hb ha1 hb1 hs' hlt hsb
  ·rw [if_neg hlt] at hsb ⊢
   exact WholeAdd_ge n1 n2 sb ha hb ha1 hb1 hs' (by omega) hsb
theorem cmpN_zero (a b : Nat) : cmpN a b = 0 ↔ a = b := by
 unfold cmpN
 by_cases h1 : a < b
 ·rw [if_pos h1]; omega
 ·rw [if_neg h1]
  by_cases h2 : a = b
  ·rw [if_pos h2]; simp [h2]
  ·rw [if_neg h2]; simp [h2]
def PCmp (w : World) (p : Prop) (e : Ending) (w' : World) : Prop := ∃ q : Int, e = .returned (.int .i64 q) ∧ (q = 0 ↔ p) ∧ Chg (fun _ => False) w w'
set_option maxHeartbeats 2000000 in
theorem WholeCmp_any {w : World} {A B : Option Addr} {n c m d a b : Nat} (n1 n2 : Bool) (ha : SN w A n c a) (hb : SN w B m d b) (ha1 : a < 10 ^ 243) (hb1 : b < 10 ^ 243) :
  Calls Tryz.prog 87 #[.agg #[.bool n1, .slice A n c], .agg #[.bool n2, .slice B m d]] w (PCmp w (n1 = n2 ∧ a = b)) := by
 have HCM := hid (fun w1 (h : Chg (fun _ => False) w w1) => NatCmp_any (ha.kept h) (hb.kept h) ha1 hb1)
 have HCN := hid (fun w1 (h : Chg (fun _ => False) w w1) => NatCmp_any (hb.kept h) (ha.kept h) hb1 ha1)
 have h1 := cmpN_zero a b
 have h2 : cmpN b a = 0 ↔ a = b := by rw [cmpN_zero]; exact eq_comm
 generalize cmpN a b = q1 at *
 generalize cmpN b a = q2 at *
 have H1 := hid h1
 have H2 := hid h2
 clear h1 h2 ha hb ha1 hb1
 have HC0 := hid (((Chg.refl (fun _ => False) w).alloc (.cells #[.bool n1, .slice A n c] 32)).alloc (.cells #[.bool n2, .slice B m d] 32))
 have hB0 : ((w.alloc (.cells #[.bool n1, .slice A n c] 32)).alloc (.cells #[.bool n2, .slice B m d] 32)).heap[w.heap.size]? = some (.cells #[.bool n1, .slice A n c] 32 (0, 0)) := by
  rw [Below.heap_alloc _ _ _ (by simp)]
  have := heap_alloc_new w (.cells #[.bool n1, .slice A n c] 32)
  simpa using this
 have hB1 : ((w.alloc (.cells #[.bool n1, .slice A n c] 32)).alloc (.cells #[.bool n2, .slice B m d] 32)).heap[w.heap.size + 1]? = some (.cells #[.bool n2, .slice B m d] 32 (0, 0)) := by
  have := heap_alloc_new (w.alloc (.cells #[.bool n1, .slice A n c] 32)) (.cells #[.bool n2, .slice B m d] 32)
  simpa using this
 have HSS := hid (fun w1 (h : Chg (fun _ => False) ((w.alloc (.cells #[.bool n1, .slice A n c] 32)).alloc (.cells #[.bool n2, .slice B m d] 32)) w1) => (show w1.cell? ⟨w.heap.size, 0, none⟩ = some (.bool n1) ∧ w1.cell? ⟨w.heap.size, 1, none⟩ = some (.slice A n c) ∧ w1.cell? ⟨w.heap.size + 1, 0, none⟩ = some (.bool n2) ∧ w1.cell? ⟨w.heap.size + 1, 1, none⟩ = some (.slice B m d) from ⟨(cell2 (kept_heap h hB0)).1, (cell2 (kept_heap h hB0)).2.1, (cell2 (kept_heap h hB1)).1, (cell2 (kept_heap h hB1)).2.1⟩))
 have HD := hid (Chg.drew (Chg.refl (fun _ => False) ((w.alloc (.cells #[.bool n1, .slice A n c] 32)).alloc (.cells #[.bool n2, .slice B m d] 32))))
 clear hB0 hB1
 obtain ⟨d0, d1, d2, d3⟩ := HSS.out _ (Chg.refl _ _)
 cases n1 <;> cases n2
 ·go_enter Tryz.func87, Tryz.ntmps87
  go_wp2_with (go_at_call 58; refine (HCM.out _ HC0.out).mono ?_; intro e w1 h; obtain ⟨he, hc⟩ := h; subst he)
  go_ret
  exact ⟨_, rfl, by rw [H1.out]; simp, HC0.out.trans hc sb_⟩
 ·go_enter Tryz.func87, Tryz.ntmps87
  go_wp2_with fail
  go_ret
  exact ⟨_, rfl, by simp, HC0.out⟩
 ·go_enter Tryz.func87, Tryz.ntmps87
  go_wp2_with fail
  go_ret
  exact ⟨_, rfl, by simp, HC0.out⟩
 ·go_enter Tryz.func87, Tryz.ntmps87
  go_wp2_with (go_at_call 58; refine (HCN.out _ HC0.out).mono ?_; intro e w1 h; obtain ⟨he, hc⟩ := h; subst he)
  go_ret
  exact ⟨_, rfl, by rw [H2.out]; simp, HC0.out.trans hc sb_⟩
theorem FracMinus_any (n1 : Bool) (A : Option Addr) (n c : Nat) (B : Option Addr) (m d : Nat) (sb : Bool) (hsb : (!n1 && n != 0) = sb) (w : World) :
  Calls Tryz.prog 28 #[.agg #[.bool n1, .slice A n c, .slice B m d]] w (PV w (.agg #[.bool sb, .slice A n c, .slice B m d])) := by
 have HM := hid (fun w => WholeMinus_any n1 A n c sb hsb w)
 clear hsb
 have HC0 := hid (((Chg.refl (fun _ => False) w).alloc (.cells #[.bool n1, .slice A n c, .slice B m d] 34)).alloc (.cells #[.bool false, .slice none 0 0, .slice none 0 0] 34))
 have hB0 : ((w.alloc (.cells #[.bool n1, .slice A n c, .slice B m d] 34)).alloc (.cells #[.bool false, .slice none 0 0, .slice none 0 0] 34)).heap[w.heap.size]? = some (.cells #[.bool n1, .slice A n c, .slice B m d] 34 (0, 0)) := by
  rw [Below.heap_alloc _ _ _ (by simp)]
  have := heap_alloc_new w (.cells #[.bool n1, .slice A n c, .slice B m d] 34)
  simpa using this
 have hB1 : ((w.alloc (.cells #[.bool n1, .slice A n c, .slice B m d] 34)).alloc (.cells #[.bool false, .slice none 0 0, .slice none 0 0] 34)).heap[w.heap.size + 1]? = some (.cells #[.bool false, .slice none 0 0, .slice none 0 0] 34 (0, 0)) := by
  have := heap_alloc_new (w.alloc (.cells #[.bool n1, .slice A n c, .slice B m d] 34)) (.cells #[.bool false, .slice none 0 0, .slice none 0 0] 34)
  simpa using this
 have HZ := hid hB1
 have HSS := hid (fun w1 (h : Chg (fun _ => False) ((w.alloc (.cells #[.bool n1, .slice A n c, .slice B m d] 34)).alloc (.cells #[.bool false, .slice none 0 0, .slice none 0 0] 34)) w1) => (show w1.cell? ⟨w.heap.size, 0, none⟩ = some (.bool n1) ∧ w1.cell? ⟨w.heap.size, 1, none⟩ = some (.slice A n c) ∧ w1.cell? ⟨w.heap.size, 2, none⟩ = some (.slice B m d) from ⟨(cell3 (kept_heap h hB0)).1, (cell3 (kept_heap h hB0)).2.1, (cell3 (kept_heap h hB0)).2.2.1⟩))
 have HST := hid (fun w1 (x0 x1 x2 : Value) (h : Chg (fun _ => False) ((w.alloc (.cells #[.bool n1, .slice A n c, .slice B m d] 34)).alloc (.cells #[.bool false, .slice none 0 0, .slice none 0 0] 34)) w1) => (show (((w1.setCell ⟨w.heap.size + 1, 0, none⟩ x0).setCell ⟨w.heap.size + 1, 1, none⟩ x1).setCell ⟨w.heap.size + 1, 2, none⟩ x2).cell? ⟨w.heap.size, 0, none⟩ = some (.bool n1) ∧ (((w1.setCell ⟨w.heap.size + 1, 0, none⟩ x0).setCell ⟨w.heap.size + 1, 1, none⟩ x1).setCell ⟨w.heap.size + 1, 2, none⟩ x2).cell? ⟨w.heap.size, 1, none⟩ = some (.slice A n c) ∧ (((w1.setCell ⟨w.heap.size + 1, 0, none⟩ x0).setCell ⟨w.heap.size + 1, 1, none⟩ x1).setCell ⟨w.heap.size + 1, 2, none⟩ x2).cell? ⟨w.heap.size, 2, none⟩ = some (.slice B m d) from by
  have hh := HSS.out w1 h
  refine ⟨?_, ?_, ?_⟩ <;> (repeat rw [far_cell (by omega)])
  ·exact hh.1
  ·exact hh.2.1
  ·exact hh.2.2))
 have HD := hid (Chg.drew (Chg.refl (fun _ => False) ((w.alloc (.cells #[.bool n1, .slice A n c, .slice B m d] 34)).alloc (.cells #[.bool false, .slice none 0 0, .slice none 0 0] 34))))
 clear hB0 hB1
 have hk := HD.out
 go_enter Tryz.func28, Tryz.ntmps28
 go_wp2_with fail
 first | (go_region_held3 (fun w' => w'.cell? ⟨w.heap.size, 0, none⟩ = some (.bool n1) ∧ w'.cell? ⟨w.heap.size, 1, none⟩ = some (.slice A n c) ∧ w'.cell? ⟨w.heap.size, 2, none⟩ = some (.slice B m d)) (first | with_reducible exact HSS.out _ hk | with_reducible exact HST.out _ _ _ _ hk | go_keep) (first | (go_at_call 53; refine (HM.out _).mono ?_; intro e w1 h; obtain ⟨he, hc⟩ := h; subst he; replace hk := hk.trans hc sb_; skip; clear hc; obtain ⟨k0, k1, k2, f0, f1, f2⟩ := cell3 (kept_heap hk HZ.out)))) | fail
 all_goals (go_wp2_with fail; refine bodyPost_ret (v := .agg #[.bool sb, .slice A n c, .slice B m d]) (by rw [results_cell_row rfl _ _ (w.heap.size + 1) _ _ _ _ rfl (store3 (kept_heap hk HZ.out) _ _ _) Tryz.underlying34 rfl frac_size]) rfl ⟨rfl, chg3 (HC0.out.trans hk sb_) (by omega) _ _ _⟩)
def PFN (w : World) (sb : Bool) (a d : Nat) (e : Ending) (w' : World) : Prop := ∃ (E : Option Addr) (k l : Nat) (G : Option Addr) (i j : Nat), e = .returned (.agg #[.bool sb, .slice E k l, .slice G i j]) ∧ SN w' E k l a ∧ SN w' G i j d ∧ Chg (fun _ => False) w w'
theorem up243 {x k : Nat} (h : x < 10 ^ k) (hk : k ≤ 243) : x < 10 ^ 243 := Nat.lt_of_lt_of_le h (Nat.pow_le_pow_right (by omega) hk)
theorem up240 {x k : Nat} (h : x < 10 ^ k) (hk : k ≤ 240) : x < 10 ^ 240 := Nat.lt_of_lt_of_le h (Nat.pow_le_pow_right (by omega) hk)
theorem mul100 {x y i j : Nat} (hx : x < 10 ^ i) (hy : y < 10 ^ j) : x * y < 10 ^ (i + j) := by
 rw [Nat.pow_add]
 exact Nat.mul_lt_mul'' hx hy
set_option maxHeartbeats 4000000 in
theorem FracAdd_any {w : World} {A B D1 D2 : Option Addr} {n c m d p1 q1 p2 q2 a b x y : Nat} (n1 n2 sb : Bool) (ha : SN w A n c a) (hx : SN w D1 p1 q1 x) (hb : SN w B m d b) (hy : SN w D2 p2 q2 y)
  (ha1 : a < 10 ^ 100) (hb1 : b < 10 ^ 100) (hx1 : x < 10 ^ 100) (hy1 : y < 10 ^ 100) (hsb : ((sumS (n1 && a * y != 0) (a * y) (n2 && b * x != 0) (b * x)).1 && (sumS (n1 && a * y != 0) (a * y) (n2 && b * x != 0) (b * x)).2 != 0) = sb) :
  Calls Tryz.prog 15 #[.agg #[.bool n1, .slice A n c, .slice D1 p1 q1], .agg #[.bool n2, .slice B m d, .slice D2 p2 q2]] w (PFN w sb (sumS (n1 && a * y != 0) (a * y) (n2 && b * x != 0) (b * x)).2 (x * y)) := by
 have HM1 := hid (fun w1 s (hs : (n1 && a * y != 0) = s) (h : Chg (fun _ => False) w w1) => WholeMul_any n1 false s (ha.kept h) (hy.kept h) (up240 ha1 (by omega)) (up240 hy1 (by omega)) (by rw [← hs]; cases n1 <;> rfl))
 have HM2 := hid (fun w1 s (hs : (n2 && b * x != 0) = s) (h : Chg (fun _ => False) w w1) => WholeMul_any n2 false s (hb.kept h) (hx.kept h) (up240 hb1 (by omega)) (up240 hx1 (by omega)) (by rw [← hs]; cases n2 <;> rfl))
 have HM3 := hid (fun w1 (h : Chg (fun _ => False) w w1) => NatMul_any (hx.kept h) (hy.kept h) (up243 hx1 (by omega)) (up243 hy1 (by omega)))
 have hP : a * y < 10 ^ 240 := up240 (mul100 ha1 hy1) (by omega)
 have hQ : b * x < 10 ^ 240 := up240 (mul100 hb1 hx1) (by omega)
 obtain ⟨P, hPe⟩ : ∃ P, a * y = P := ⟨_, rfl⟩
 obtain ⟨Q, hQe⟩ : ∃ Q, b * x = Q := ⟨_, rfl⟩
 obtain ⟨R, hRe⟩ : ∃ R, x * y = R := ⟨_, rfl⟩
 rw [hPe] at HM1 hP
 rw [hQe] at HM2 hQ
 rw [hRe] at HM3
 rw [hPe, hQe] at hsb
 rw [hPe, hQe, hRe]
 obtain ⟨s1, hs1⟩ : ∃ s, (n1 && P != 0) = s := ⟨_, rfl⟩
 obtain ⟨s2, hs2⟩ : ∃ s, (n2 && Q != 0) = s := ⟨_, rfl⟩
 rw [hs1, hs2] at hsb
 rw [hs1, hs2]
 have HA := hid (fun (w1 : World) (E : Option Addr) (k l : Nat) (G : Option Addr) (i j : Nat) (h1 : SN w1 E k l P) (h2 : SN w1 G i j Q) => WholeAdd_any s1 s2 sb h1 h2 hP hQ hsb)
 have HS1 := hid hs1
 have HS2 := hid hs2
 generalize (sumS s1 P s2 Q).2 = Z at *
 clear ha hb hx hy ha1 hb1 hx1 hy1 hsb hs1 hs2 hP hQ hPe hQe hRe
 have HC0 := hid ((((Chg.refl (fun _ => False) w).alloc (.cells #[.bool n1, .slice A n c, .slice D1 p1 q1] 34)).alloc (.cells #[.bool n2, .slice B m d, .slice D2 p2 q2] 34)).alloc (.cells #[.bool false, .slice none 0 0, .slice none 0 0] 34))
 have hB0 : (((w.alloc (.cells #[.bool n1, .slice A n c, .slice D1 p1 q1] 34)).alloc (.cells #[.bool n2, .slice B m d, .slice D2 p2 q2] 34)).alloc (.cells #[.bool false, .slice none 0 0, .slice none 0 0] 34)).heap[w.heap.size]? = some (.cells #[.bool n1, .slice A n c, .slice D1 p1 q1] 34 (0, 0)) := by
  rw [Below.heap_alloc _ _ _ (by simp; omega)]
  rw [Below.heap_alloc _ _ _ (by simp)]
  have := heap_alloc_new w (.cells #[.bool n1, .slice A n c, .slice D1 p1 q1] 34)
  simpa using this
 have hB1 : (((w.alloc (.cells #[.bool n1, .slice A n c, .slice D1 p1 q1] 34)).alloc (.cells #[.bool n2, .slice B m d, .slice D2 p2 q2] 34)).alloc (.cells #[.bool false, .slice none 0 0, .slice none 0 0] 34)).heap[w.heap.size + 1]? = some (.cells #[.bool n2, .slice B m d, .slice D2 p2 q2] 34 (0, 0)) := by
  rw [Below.heap_alloc _ _ _ (by simp)]
  have := heap_alloc_new (w.alloc (.cells #[.bool n1, .slice A n c, .slice D1 p1 q1] 34)) (.cells #[.bool n2, .slice B m d, .slice D2 p2 q2] 34)
  simpa using this
 have hB2 : (((w.alloc (.cells #[.bool n1, .slice A n c, .slice D1 p1 q1] 34)).alloc (.cells #[.bool n2, .slice B m d, .slice D2 p2 q2] 34)).alloc (.cells #[.bool false, .slice none 0 0, .slice none 0 0] 34)).heap[w.heap.size + 1 + 1]? = some (.cells #[.bool false, .slice none 0 0, .slice none 0 0] 34 (0, 0)) := by
  have := heap_alloc_new ((w.alloc (.cells #[.bool n1, .slice A n c, .slice D1 p1 q1] 34)).alloc (.cells #[.bool n2, .slice B m d, .slice D2 p2 q2] 34)) (.cells #[.bool false, .slice none 0 0, .slice none 0 0] 34)
  simpa using this
 have HZ := hid hB2
 have HSS := hid (fun w1 (h : Chg (fun _ => False) (((w.alloc (.cells #[.bool n1, .slice A n c, .slice D1 p1 q1] 34)).alloc (.cells #[.bool n2, .slice B m d, .slice D2 p2 q2] 34)).alloc (.cells #[.bool false, .slice none 0 0, .slice none 0 0] 34)) w1) => (show w1.cell? ⟨w.heap.size, 0, none⟩ = some (.bool n1) ∧ w1.cell? ⟨w.heap.size, 1, none⟩ = some (.slice A n c) ∧ w1.cell? ⟨w.heap.size, 2, none⟩ = some (.slice D1 p1 q1) ∧ w1.cell? ⟨w.heap.size + 1, 0, none⟩ = some (.bool n2) ∧ w1.cell? ⟨w.heap.size + 1, 1, none⟩ = some (.slice B m d) ∧ w1.cell? ⟨w.heap.size + 1, 2, none⟩ = some (.slice D2 p2 q2) from ⟨(cell3 (kept_heap h hB0)).1, (cell3 (kept_heap h hB0)).2.1, (cell3 (kept_heap h hB0)).2.2.1, (cell3 (kept_heap h hB1)).1, (cell3 (kept_heap h hB1)).2.1, (cell3 (kept_heap h hB1)).2.2.1⟩))
 have HST := hid (fun w1 (x0 x1 x2 : Value) (h : Chg (fun _ => False) (((w.alloc (.cells #[.bool n1, .slice A n c, .slice D1 p1 q1] 34)).alloc (.cells #[.bool n2, .slice B m d, .slice D2 p2 q2] 34)).alloc (.cells #[.bool false, .slice none 0 0, .slice none 0 0] 34)) w1) => (show (((w1.setCell ⟨w.heap.size + 1 + 1, 0, none⟩ x0).setCell ⟨w.heap.size + 1 + 1, 1, none⟩ x1).setCell ⟨w.heap.size + 1 + 1, 2, none⟩ x2).cell? ⟨w.heap.size, 0, none⟩ = some (.bool n1) ∧ (((w1.setCell ⟨w.heap.size + 1 + 1, 0, none⟩ x0).setCell ⟨w.heap.size + 1 + 1, 1, none⟩ x1).setCell ⟨w.heap.size + 1 + 1, 2, none⟩ x2).cell? ⟨w.heap.size, 1, none⟩ = some (.slice A n c) ∧ (((w1.setCell ⟨w.heap.size + 1 + 1, 0, none⟩ x0).setCell ⟨w.heap.size + 1 + 1, 1, none⟩ x1).setCell ⟨w.heap.size + 1 + 1, 2, none⟩ x2).cell? ⟨w.heap.size, 2, none⟩ = some (.slice D1 p1 q1) ∧ (((w1.setCell ⟨w.heap.size + 1 + 1, 0, none⟩ x0).setCell ⟨w.heap.size + 1 + 1, 1, none⟩ x1).setCell ⟨w.heap.size + 1 + 1, 2, none⟩ x2).cell? ⟨w.heap.size + 1, 0, none⟩ = some (.bool n2) ∧ (((w1.setCell ⟨w.heap.size + 1 + 1, 0, none⟩ x0).setCell ⟨w.heap.size + 1 + 1, 1, none⟩ x1).setCell ⟨w.heap.size + 1 + 1, 2, none⟩ x2).cell? ⟨w.heap.size + 1, 1, none⟩ = some (.slice B m d) ∧ (((w1.setCell ⟨w.heap.size + 1 + 1, 0, none⟩ x0).setCell ⟨w.heap.size + 1 + 1, 1, none⟩ x1).setCell ⟨w.heap.size + 1 + 1, 2, none⟩ x2).cell? ⟨w.heap.size + 1, 2, none⟩ = some (.slice D2 p2 q2) from by
  have hh := HSS.out w1 h
  refine ⟨?_, ?_, ?_, ?_, ?_, ?_⟩ <;> (repeat rw [far_cell (by omega)])
  ·exact hh.1
  ·exact hh.2.1
  ·exact hh.2.2.1
  ·exact hh.2.2.2.1
  ·exact hh.2.2.2.2.1
  ·exact hh.2.2.2.2.2))
 have HD := hid (Chg.drew (Chg.refl (fun _ => False) (((w.alloc (.cells #[.bool n1, .slice A n c, .slice D1 p1 q1] 34)).alloc (.cells #[.bool n2, .slice B m d, .slice D2 p2 q2] 34)).alloc (.cells #[.bool false, .slice none 0 0, .slice none 0 0] 34))))
 clear hB0 hB1 hB2
 have hk := HD.out
 go_enter Tryz.func15, Tryz.ntmps15
 go_wp2_with fail
 first | (go_region_held3 (fun w' => w'.cell? ⟨w.heap.size, 0, none⟩ = some (.bool n1) ∧ w'.cell? ⟨w.heap.size, 1, none⟩ = some (.slice A n c) ∧ w'.cell? ⟨w.heap.size, 2, none⟩ = some (.slice D1 p1 q1) ∧ w'.cell? ⟨w.heap.size + 1, 0, none⟩ = some (.bool n2) ∧ w'.cell? ⟨w.heap.size + 1, 1, none⟩ = some (.slice B m d) ∧ w'.cell? ⟨w.heap.size + 1, 2, none⟩ = some (.slice D2 p2 q2)) (first | with_reducible exact HSS.out _ hk | with_reducible exact HST.out _ _ _ _ hk | go_keep) (first | (go_at_call_of 32 (Value.agg #[Value.bool n1, Value.slice A n c]); refine (HM1.out _ s1 HS1.out (HC0.out.trans hk sb_)).mono ?_; intro e w1 h; obtain ⟨E1, k1_, l1_, he, hsn, hc⟩ := h; subst he; replace hk := hk.trans hc sb_; (try replace HN1 := hid (HN1.out.kept hc)); (try replace HN2 := hid (HN2.out.kept hc)); (try replace HN3 := hid (HN3.out.kept hc)); (try replace HN4 := hid (HN4.out.kept hc)); have HN1 := hid hsn; clear hsn; clear hc; obtain ⟨k0, k1, k2, f0, f1, f2⟩ := cell3 (kept_heap hk HZ.out)) | (go_at_call_of 32 (Value.agg #[Value.bool n2, Value.slice B m d]); refine (HM2.out _ s2 HS2.out (HC0.out.trans hk sb_)).mono ?_; intro e w1 h; obtain ⟨E2, k2_, l2_, he, hsn, hc⟩ := h; subst he; replace hk := hk.trans hc sb_; (try replace HN1 := hid (HN1.out.kept hc)); (try replace HN2 := hid (HN2.out.kept hc)); (try replace HN3 := hid (HN3.out.kept hc)); (try replace HN4 := hid (HN4.out.kept hc)); have HN2 := hid hsn; clear hsn; clear hc; obtain ⟨k0, k1, k2, f0, f1, f2⟩ := cell3 (kept_heap hk HZ.out)) | (go_at_call 34; refine (HM3.out _ (HC0.out.trans hk sb_)).mono ?_; intro e w1 h; obtain ⟨E3, k3_, l3_, he, hsn, hc⟩ := h; subst he; replace hk := hk.trans hc sb_; (try replace HN1 := hid (HN1.out.kept hc)); (try replace HN2 := hid (HN2.out.kept hc)); (try replace HN3 := hid (HN3.out.kept hc)); (try replace HN4 := hid (HN4.out.kept hc)); have HN3 := hid hsn; clear hsn; clear hc; obtain ⟨k0, k1, k2, f0, f1, f2⟩ := cell3 (kept_heap hk HZ.out)) | (go_at_call 33; refine (HA.out _ _ _ _ _ _ _ HN1.out HN2.out).mono ?_; intro e w1 h; obtain ⟨E4, k4_, l4_, he, hsn, hc⟩ := h; subst he; replace hk := hk.trans hc sb_; (try replace HN1 := hid (HN1.out.kept hc)); (try replace HN2 := hid (HN2.out.kept hc)); (try replace HN3 := hid (HN3.out.kept hc)); (try replace HN4 := hid (HN4.out.kept hc)); have HN4 := hid hsn; clear hsn; clear hc; obtain ⟨k0, k1, k2, f0, f1, f2⟩ := cell3 (kept_heap hk HZ.out)))) | fail
 all_goals (go_wp2_with fail; refine bodyPost_ret (v := .agg #[.bool sb, .slice E4 k4_ l4_, .slice E3 k3_ l3_]) (by rw [results_cell_row rfl _ _ (w.heap.size + 1 + 1) _ _ _ _ rfl (store3 (kept_heap hk HZ.out) _ _ _) Tryz.underlying34 rfl frac_size]) rfl ⟨E4, k4_, l4_, E3, k3_, l3_, rfl, sn_end3 HN4.out (kept_heap hk HZ.out) (by simp) _ _ _, sn_end3 HN3.out (kept_heap hk HZ.out) (by simp) _ _ _, chg3 (HC0.out.trans hk sb_) (by omega) _ _ _⟩)
set_option maxHeartbeats 2000000 in
theorem FracSub_any {w : World} {A B D1 D2 : Option Addr} {n c m d p1 q1 p2 q2 a b x y : Nat} (n1 n2 m2 sb : Bool) (ha : SN w A n c a) (hx : SN w D1 p1 q1 x) (hb : SN w B m d b) (hy : SN w D2 p2 q2 y)
  (ha1 : a < 10 ^ 100) (hb1 : b < 10 ^ 100) (hx1 : x < 10 ^ 100) (hy1 : y < 10 ^ 100) (hm2 : (!n2 && b != 0) = m2) (hsb : ((sumS (n1 && a * y != 0) (a * y) (m2 && b * x != 0) (b * x)).1 && (sumS (n1 && a * y != 0) (a * y) (m2 && b * x != 0) (b * x)).2 != 0) = sb) :
  Calls Tryz.prog 11 #[.agg #[.bool n1, .slice A n c, .slice D1 p1 q1], .agg #[.bool n2, .slice B m d, .slice D2 p2 q2]] w (PFN w sb (sumS (n1 && a * y != 0) (a * y) (m2 && b * x != 0) (b * x)).2 (x * y)) := by
 have HMI := hid (fun w => FracMinus_any n2 B m d D2 p2 q2 m2 (by rw [sgn_len hb]; exact hm2) w)
 have HAD := hid (fun w1 (h : Chg (fun _ => False) w w1) => FracAdd_any n1 m2 sb (ha.kept h) (hx.kept h) (hb.kept h) (hy.kept h) ha1 hb1 hx1 hy1 hsb)
 generalize (sumS (n1 && a * y != 0) (a * y) (m2 && b * x != 0) (b * x)).2 = Z at *
 generalize x * y = R at *
 clear ha hb hx hy ha1 hb1 hx1 hy1 hsb hm2
 have HC0 := hid ((((Chg.refl (fun _ => False) w).alloc (.cells #[.bool n1, .slice A n c, .slice D1 p1 q1] 34)).alloc (.cells #[.bool n2, .slice B m d, .slice D2 p2 q2] 34)).alloc (.cells #[.bool false, .slice none 0 0, .slice none 0 0] 34))
 have hB0 : (((w.alloc (.cells #[.bool n1, .slice A n c, .slice D1 p1 q1] 34)).alloc (.cells #[.bool n2, .slice B m d, .slice D2 p2 q2] 34)).alloc (.cells #[.bool false, .slice none 0 0, .slice none 0 0] 34)).heap[w.heap.size]? = some (.cells #[.bool n1, .slice A n c, .slice D1 p1 q1] 34 (0, 0)) := by
  rw [Below.heap_alloc _ _ _ (by simp; omega)]
  rw [Below.heap_alloc _ _ _ (by simp)]
  have := heap_alloc_new w (.cells #[.bool n1, .slice A n c, .slice D1 p1 q1] 34)
  simpa using this
 have hB1 : (((w.alloc (.cells #[.bool n1, .slice A n c, .slice D1 p1 q1] 34)).alloc (.cells #[.bool n2, .slice B m d, .slice D2 p2 q2] 34)).alloc (.cells #[.bool false, .slice none 0 0, .slice none 0 0] 34)).heap[w.heap.size + 1]? = some (.cells #[.bool n2, .slice B m d, .slice D2 p2 q2] 34 (0, 0)) := by
  rw [Below.heap_alloc _ _ _ (by simp)]
  have := heap_alloc_new (w.alloc (.cells #[.bool n1, .slice A n c, .slice D1 p1 q1] 34)) (.cells #[.bool n2, .slice B m d, .slice D2 p2 q2] 34)
  simpa using this
 have hB2 : (((w.alloc (.cells #[.bool n1, .slice A n c, .slice D1 p1 q1] 34)).alloc (.cells #[.bool n2, .slice B m d, .slice D2 p2 q2] 34)).alloc (.cells #[.bool false, .slice none 0 0, .slice none 0 0] 34)).heap[w.heap.size + 1 + 1]? = some (.cells #[.bool false, .slice none 0 0, .slice none 0 0] 34 (0, 0)) := by
  have := heap_alloc_new ((w.alloc (.cells #[.bool n1, .slice A n c, .slice D1 p1 q1] 34)).alloc (.cells #[.bool n2, .slice B m d, .slice D2 p2 q2] 34)) (.cells #[.bool false, .slice none 0 0, .slice none 0 0] 34)
  simpa using this
 have HZ := hid hB2
 have HSS := hid (fun w1 (h : Chg (fun _ => False) (((w.alloc (.cells #[.bool n1, .slice A n c, .slice D1 p1 q1] 34)).alloc (.cells #[.bool n2, .slice B m d, .slice D2 p2 q2] 34)).alloc (.cells #[.bool false, .slice none 0 0, .slice none 0 0] 34)) w1) => (show w1.cell? ⟨w.heap.size, 0, none⟩ = some (.bool n1) ∧ w1.cell? ⟨w.heap.size, 1, none⟩ = some (.slice A n c) ∧ w1.cell? ⟨w.heap.size, 2, none⟩ = some (.slice D1 p1 q1) ∧ w1.cell? ⟨w.heap.size + 1, 0, none⟩ = some (.bool n2) ∧ w1.cell? ⟨w.heap.size + 1, 1, none⟩ = some (.slice B m d) ∧ w1.cell? ⟨w.heap.size + 1, 2, none⟩ = some (.slice D2 p2 q2) from ⟨(cell3 (kept_heap h hB0)).1, (cell3 (kept_heap h hB0)).2.1, (cell3 (kept_heap h hB0)).2.2.1, (cell3 (kept_heap h hB1)).1, (cell3 (kept_heap h hB1)).2.1, (cell3 (kept_heap h hB1)).2.2.1⟩))
 have HST := hid (fun w1 (x0 x1 x2 : Value) (h : Chg (fun _ => False) (((w.alloc (.cells #[.bool n1, .slice A n c, .slice D1 p1 q1] 34)).alloc (.cells #[.bool n2, .slice B m d, .slice D2 p2 q2] 34)).alloc (.cells #[.bool false, .slice none 0 0, .slice none 0 0] 34)) w1) => (show (((w1.setCell ⟨w.heap.size + 1 + 1, 0, none⟩ x0).setCell ⟨w.heap.size + 1 + 1, 1, none⟩ x1).setCell ⟨w.heap.size + 1 + 1, 2, none⟩ x2).cell? ⟨w.heap.size, 0, none⟩ = some (.bool n1) ∧ (((w1.setCell ⟨w.heap.size + 1 + 1, 0, none⟩ x0).setCell ⟨w.heap.size + 1 + 1, 1, none⟩ x1).setCell ⟨w.heap.size + 1 + 1, 2, none⟩ x2).cell? ⟨w.heap.size, 1, none⟩ = some (.slice A n c) ∧ (((w1.setCell ⟨w.heap.size + 1 + 1, 0, none⟩ x0).setCell ⟨w.heap.size + 1 + 1, 1, none⟩ x1).setCell ⟨w.heap.size + 1 + 1, 2, none⟩ x2).cell? ⟨w.heap.size, 2, none⟩ = some (.slice D1 p1 q1) ∧ (((w1.setCell ⟨w.heap.size + 1 + 1, 0, none⟩ x0).setCell ⟨w.heap.size + 1 + 1, 1, none⟩ x1).setCell ⟨w.heap.size + 1 + 1, 2, none⟩ x2).cell? ⟨w.heap.size + 1, 0, none⟩ = some (.bool n2) ∧ (((w1.setCell ⟨w.heap.size + 1 + 1, 0, none⟩ x0).setCell ⟨w.heap.size + 1 + 1, 1, none⟩ x1).setCell ⟨w.heap.size + 1 + 1, 2, none⟩ x2).cell? ⟨w.heap.size + 1, 1, none⟩ = some (.slice B m d) ∧ (((w1.setCell ⟨w.heap.size + 1 + 1, 0, none⟩ x0).setCell ⟨w.heap.size + 1 + 1, 1, none⟩ x1).setCell ⟨w.heap.size + 1 + 1, 2, none⟩ x2).cell? ⟨w.heap.size + 1, 2, none⟩ = some (.slice D2 p2 q2) from by
  have hh := HSS.out w1 h
  refine ⟨?_, ?_, ?_, ?_, ?_, ?_⟩ <;> (repeat rw [far_cell (by omega)])
  ·exact hh.1
  ·exact hh.2.1
  ·exact hh.2.2.1
  ·exact hh.2.2.2.1
  ·exact hh.2.2.2.2.1
  ·exact hh.2.2.2.2.2))
 have HD := hid (Chg.drew (Chg.refl (fun _ => False) (((w.alloc (.cells #[.bool n1, .slice A n c, .slice D1 p1 q1] 34)).alloc (.cells #[.bool n2, .slice B m d, .slice D2 p2 q2] 34)).alloc (.cells #[.bool false, .slice none 0 0, .slice none 0 0] 34))))
 clear hB0 hB1 hB2
 have hk := HD.out
 go_enter Tryz.func11, Tryz.ntmps11
 go_wp2_with fail
 first | (go_region_held3 (fun w' => w'.cell? ⟨w.heap.size, 0, none⟩ = some (.bool n1) ∧ w'.cell? ⟨w.heap.size, 1, none⟩ = some (.slice A n c) ∧ w'.cell? ⟨w.heap.size, 2, none⟩ = some (.slice D1 p1 q1) ∧ w'.cell? ⟨w.heap.size + 1, 0, none⟩ = some (.bool n2) ∧ w'.cell? ⟨w.heap.size + 1, 1, none⟩ = some (.slice B m d) ∧ w'.cell? ⟨w.heap.size + 1, 2, none⟩ = some (.slice D2 p2 q2)) (first | with_reducible exact HSS.out _ hk | with_reducible exact HST.out _ _ _ _ hk | go_keep) (first | (go_at_call 28; refine (HMI.out _).mono ?_; intro e w1 h; obtain ⟨he, hc⟩ := h; subst he; replace hk := hk.trans hc sb_; skip; skip; clear hc; obtain ⟨k0, k1, k2, f0, f1, f2⟩ := cell3 (kept_heap hk HZ.out)) | (go_at_call 15; refine (HAD.out _ (HC0.out.trans hk sb_)).mono ?_; intro e w1 h; obtain ⟨E4, k4_, l4_, E3, k3_, l3_, he, hs1, hs2, hc⟩ := h; subst he; replace hk := hk.trans hc sb_; skip; have HN4 := hid hs1; have HN3 := hid hs2; clear hs1 hs2; clear hc; obtain ⟨k0, k1, k2, f0, f1, f2⟩ := cell3 (kept_heap hk HZ.out)))) | fail
 all_goals (go_wp2_with fail; refine bodyPost_ret (v := .agg #[.bool sb, .slice E4 k4_ l4_, .slice E3 k3_ l3_]) (by rw [results_cell_row rfl _ _ (w.heap.size + 1 + 1) _ _ _ _ rfl (store3 (kept_heap hk HZ.out) _ _ _) Tryz.underlying34 rfl frac_size]) rfl ⟨E4, k4_, l4_, E3, k3_, l3_, rfl, sn_end3 HN4.out (kept_heap hk HZ.out) (by simp) _ _ _, sn_end3 HN3.out (kept_heap hk HZ.out) (by simp) _ _ _, chg3 (HC0.out.trans hk sb_) (by omega) _ _ _⟩)
set_option maxHeartbeats 2000000 in
theorem FracCmp_any {w : World} {A B D1 D2 : Option Addr} {n c m d p1 q1 p2 q2 a b x y : Nat} (n1 n2 : Bool) (ha : SN w A n c a) (hx : SN w D1 p1 q1 x) (hb : SN w B m d b) (hy : SN w D2 p2 q2 y)
  (ha1 : a < 10 ^ 100) (hb1 : b < 10 ^ 100) (hx1 : x < 10 ^ 100) (hy1 : y < 10 ^ 100) :
  Calls Tryz.prog 70 #[.agg #[.bool n1, .slice A n c, .slice D1 p1 q1], .agg #[.bool n2, .slice B m d, .slice D2 p2 q2]] w (PCmp w ((n1 && a * y != 0) = (n2 && b * x != 0) ∧ a * y = b * x)) := by
 have HM1 := hid (fun w1 s (hs : (n1 && a * y != 0) = s) (h : Chg (fun _ => False) w w1) => WholeMul_any n1 false s (ha.kept h) (hy.kept h) (up240 ha1 (by omega)) (up240 hy1 (by omega)) (by rw [← hs]; cases n1 <;> rfl))
 have HM2 := hid (fun w1 s (hs : (n2 && b * x != 0) = s) (h : Chg (fun _ => False) w w1) => WholeMul_any n2 false s (hb.kept h) (hx.kept h) (up240 hb1 (by omega)) (up240 hx1 (by omega)) (by rw [← hs]; cases n2 <;> rfl))
 have hP : a * y < 10 ^ 243 := up243 (mul100 ha1 hy1) (by omega)
 have hQ : b * x < 10 ^ 243 := up243 (mul100 hb1 hx1) (by omega)
 obtain ⟨P, hPe⟩ : ∃ P, a * y = P := ⟨_, rfl⟩
 obtain ⟨Q, hQe⟩ : ∃ Q, b * x = Q := ⟨_, rfl⟩
 rw [hPe] at HM1 hP
 rw [hQe] at HM2 hQ
 rw [hPe, hQe]
 obtain ⟨s1, hs1⟩ : ∃ s, (n1 && P != 0) = s := ⟨_, rfl⟩
 obtain ⟨s2, hs2⟩ : ∃ s, (n2 && Q != 0) = s := ⟨_, rfl⟩
 rw [hs1, hs2]
 have HA := hid (fun (w1 : World) (E : Option Addr) (k l : Nat) (G : Option Addr) (i j : Nat) (h1 : SN w1 E k l P) (h2 : SN w1 G i j Q) => WholeCmp_any s1 s2 h1 h2 hP hQ)
 have HS1 := hid hs1
 have HS2 := hid hs2
 generalize hpp : (s1 = s2 ∧ P = Q) = pp at *
 clear ha hb hx hy ha1 hb1 hx1 hy1 hs1 hs2 hP hQ hPe hQe hpp
 have HC0 := hid (((Chg.refl (fun _ => False) w).alloc (.cells #[.bool n1, .slice A n c, .slice D1 p1 q1] 34)).alloc (.cells #[.bool n2, .slice B m d, .slice D2 p2 q2] 34))
 have hB0 : ((w.alloc (.cells #[.bool n1, .slice A n c, .slice D1 p1 q1] 34)).alloc (.cells #[.bool n2, .slice B m d, .slice D2 p2 q2] 34)).heap[w.heap.size]? = some (.cells #[.bool n1, .slice A n c, .slice D1 p1 q1] 34 (0, 0)) := by
  rw [Below.heap_alloc _ _ _ (by simp)]
  have := heap_alloc_new w (.cells #[.bool n1, .slice A n c, .slice D1 p1 q1] 34)
  simpa using this
 have hB1 : ((w.alloc (.cells #[.bool n1, .slice A n c, .slice D1 p1 q1] 34)).alloc (.cells #[.bool n2, .slice B m d, .slice D2 p2 q2] 34)).heap[w.heap.size + 1]? = some (.cells #[.bool n2, .slice B m d, .slice D2 p2 q2] 34 (0, 0)) := by
  have := heap_alloc_new (w.alloc (.cells #[.bool n1, .slice A n c, .slice D1 p1 q1] 34)) (.cells #[.bool n2, .slice B m d, .slice D2 p2 q2] 34)
  simpa using this
 have HSS := hid (fun w1 (h : Chg (fun _ => False) ((w.alloc (.cells #[.bool n1, .slice A n c, .slice D1 p1 q1] 34)).alloc (.cells #[.bool n2, .slice B m d, .slice D2 p2 q2] 34)) w1) => (show w1.cell? ⟨w.heap.size, 0, none⟩ = some (.bool n1) ∧ w1.cell? ⟨w.heap.size, 1, none⟩ = some (.slice A n c) ∧ w1.cell? ⟨w.heap.size, 2, none⟩ = some (.slice D1 p1 q1) ∧ w1.cell? ⟨w.heap.size + 1, 0, none⟩ = some (.bool n2) ∧ w1.cell? ⟨w.heap.size + 1, 1, none⟩ = some (.slice B m d) ∧ w1.cell? ⟨w.heap.size + 1, 2, none⟩ = some (.slice D2 p2 q2) from ⟨(cell3 (kept_heap h hB0)).1, (cell3 (kept_heap h hB0)).2.1, (cell3 (kept_heap h hB0)).2.2.1, (cell3 (kept_heap h hB1)).1, (cell3 (kept_heap h hB1)).2.1, (cell3 (kept_heap h hB1)).2.2.1⟩))
 have HD := hid (Chg.drew (Chg.refl (fun _ => False) ((w.alloc (.cells #[.bool n1, .slice A n c, .slice D1 p1 q1] 34)).alloc (.cells #[.bool n2, .slice B m d, .slice D2 p2 q2] 34))))
 clear hB0 hB1
 have hk := HD.out
 go_enter Tryz.func70, Tryz.ntmps70
 go_wp2_with fail
 first | (go_region_held3 (fun w' => w'.cell? ⟨w.heap.size, 0, none⟩ = some (.bool n1) ∧ w'.cell? ⟨w.heap.size, 1, none⟩ = some (.slice A n c) ∧ w'.cell? ⟨w.heap.size, 2, none⟩ = some (.slice D1 p1 q1) ∧ w'.cell? ⟨w.heap.size + 1, 0, none⟩ = some (.bool n2) ∧ w'.cell? ⟨w.heap.size + 1, 1, none⟩ = some (.slice B m d) ∧ w'.cell? ⟨w.heap.size + 1, 2, none⟩ = some (.slice D2 p2 q2)) (first | with_reducible exact HSS.out _ hk | go_keep) (first | (go_at_call_of 32 (Value.agg #[Value.bool n1, Value.slice A n c]); refine (HM1.out _ s1 HS1.out (HC0.out.trans hk sb_)).mono ?_; intro e w1 h; obtain ⟨E1, k1_, l1_, he, hsn, hc⟩ := h; subst he; replace hk := hk.trans hc sb_; (try replace HN1 := hid (HN1.out.kept hc)); (try replace HN2 := hid (HN2.out.kept hc)); have HN1 := hid hsn; clear hsn; clear hc) | (go_at_call_of 32 (Value.agg #[Value.bool n2, Value.slice B m d]); refine (HM2.out _ s2 HS2.out (HC0.out.trans hk sb_)).mono ?_; intro e w1 h; obtain ⟨E2, k2_, l2_, he, hsn, hc⟩ := h; subst he; replace hk := hk.trans hc sb_; (try replace HN1 := hid (HN1.out.kept hc)); (try replace HN2 := hid (HN2.out.kept hc)); have HN2 := hid hsn; clear hsn; clear hc) | (go_at_call 87; refine (HA.out _ _ _ _ _ _ _ HN1.out HN2.out).mono ?_; intro e w1 h; obtain ⟨q, he, hq, hc⟩ := h; subst he; replace hk := hk.trans hc sb_; skip; have HQ := hid hq; clear hq; clear hc))) | fail
 all_goals (go_wp2_with fail; go_ret; exact ⟨q, rfl, HQ.out, HC0.out.trans hk sb_⟩)
set_option maxHeartbeats 2000000 in
theorem DecFrac_neg {w : World} {A : Option Addr} {n c a : Nat} (n1 : Bool) (e0 : Int) (k : Nat) (ha : SN w A n c a) (hk1 : k ≤ 200) (hneg : e0 < 0) (hw : IntKind.i64.wrap (-e0) = (k : Int)) :
  Calls Tryz.prog 27 #[.agg #[.bool n1, .slice A n c, .int .i64 e0]] w (PFN w n1 a (10 ^ k)) := by
 have HP := hid (fun w1 => Pow10_any (w := w1) k (by omega))
 generalize 10 ^ k = T at *
 have hge : ¬ 0 ≤ e0 := by omega
 have HN1 := hid (fun w1 (h : Chg (fun _ => False) w w1) => ha.kept h)
 clear ha hneg
 have HC0 := hid (((Chg.refl (fun _ => False) w).alloc (.cells #[.bool n1, .slice A n c, .int .i64 e0] 57)).alloc (.cells #[.bool false, .slice none 0 0, .slice none 0 0] 34))
 have hB0 : ((w.alloc (.cells #[.bool n1, .slice A n c, .int .i64 e0] 57)).alloc (.cells #[.bool false, .slice none 0 0, .slice none 0 0] 34)).heap[w.heap.size]? = some (.cells #[.bool n1, .slice A n c, .int .i64 e0] 57 (0, 0)) := by
  rw [Below.heap_alloc _ _ _ (by simp)]
  have := heap_alloc_new w (.cells #[.bool n1, .slice A n c, .int .i64 e0] 57)
  simpa using this
 have hB1 : ((w.alloc (.cells #[.bool n1, .slice A n c, .int .i64 e0] 57)).alloc (.cells #[.bool false, .slice none 0 0, .slice none 0 0] 34)).heap[w.heap.size + 1]? = some (.cells #[.bool false, .slice none 0 0, .slice none 0 0] 34 (0, 0)) := by
  have := heap_alloc_new (w.alloc (.cells #[.bool n1, .slice A n c, .int .i64 e0] 57)) (.cells #[.bool false, .slice none 0 0, .slice none 0 0] 34)
  simpa using this
 have HZ := hid hB1
 have HSS := hid (fun w1 (h : Chg (fun _ => False) ((w.alloc (.cells #[.bool n1, .slice A n c, .int .i64 e0] 57)).alloc (.cells #[.bool false, .slice none 0 0, .slice none 0 0] 34)) w1) => (show w1.cell? ⟨w.heap.size, 0, none⟩ = some (.bool n1) ∧ w1.cell? ⟨w.heap.size, 1, none⟩ = some (.slice A n c) ∧ w1.cell? ⟨w.heap.size, 2, none⟩ = some (.int .i64 e0) from ⟨(cell3 (kept_heap h hB0)).1, (cell3 (kept_heap h hB0)).2.1, (cell3 (kept_heap h hB0)).2.2.1⟩))
 have HST := hid (fun w1 (x0 x1 x2 : Value) (h : Chg (fun _ => False) ((w.alloc (.cells #[.bool n1, .slice A n c, .int .i64 e0] 57)).alloc (.cells #[.bool false, .slice none 0 0, .slice none 0 0] 34)) w1) => (show (((w1.setCell ⟨w.heap.size + 1, 0, none⟩ x0).setCell ⟨w.heap.size + 1, 1, none⟩ x1).setCell ⟨w.heap.size + 1, 2, none⟩ x2).cell? ⟨w.heap.size, 0, none⟩ = some (.bool n1) ∧ (((w1.setCell ⟨w.heap.size + 1, 0, none⟩ x0).setCell ⟨w.heap.size + 1, 1, none⟩ x1).setCell ⟨w.heap.size + 1, 2, none⟩ x2).cell? ⟨w.heap.size, 1, none⟩ = some (.slice A n c) ∧ (((w1.setCell ⟨w.heap.size + 1, 0, none⟩ x0).setCell ⟨w.heap.size + 1, 1, none⟩ x1).setCell ⟨w.heap.size + 1, 2, none⟩ x2).cell? ⟨w.heap.size, 2, none⟩ = some (.int .i64 e0) from by
  have hh := HSS.out w1 h
  refine ⟨?_, ?_, ?_⟩ <;> (repeat rw [far_cell (by omega)])
  ·exact hh.1
  ·exact hh.2.1
  ·exact hh.2.2))
 have HD := hid (Chg.drew (Chg.refl (fun _ => False) ((w.alloc (.cells #[.bool n1, .slice A n c, .int .i64 e0] 57)).alloc (.cells #[.bool false, .slice none 0 0, .slice none 0 0] 34))))
 clear hB0 hB1
 have hk := HD.out
 obtain ⟨d0, d1, d2⟩ := HSS.out _ (Chg.refl _ _)
 go_enter Tryz.func27, Tryz.ntmps27
 go_wp2_with fail
 first | (go_region_held3 (fun w' => w'.cell? ⟨w.heap.size, 0, none⟩ = some (.bool n1) ∧ w'.cell? ⟨w.heap.size, 1, none⟩ = some (.slice A n c) ∧ w'.cell? ⟨w.heap.size, 2, none⟩ = some (.int .i64 e0)) (first | with_reducible exact HSS.out _ hk | with_reducible exact HST.out _ _ _ _ hk | go_keep) (first | (go_at_call 51; refine (HP.out _).mono ?_; intro e w1 h; obtain ⟨E3, k3_, l3_, he, hsn, hc⟩ := h; subst he; replace hk := hk.trans hc sb_; skip; have HN3 := hid hsn; clear hsn; clear hc; obtain ⟨k0, k1, k2, f0, f1, f2⟩ := cell3 (kept_heap hk HZ.out)))) | fail
 all_goals (go_wp2_with fail; refine bodyPost_ret (v := .agg #[.bool n1, .slice A n c, .slice E3 k3_ l3_]) (by rw [results_cell_row rfl _ _ (w.heap.size + 1) _ _ _ _ rfl (store3 (kept_heap hk HZ.out) _ _ _) Tryz.underlying34 rfl frac_size]) rfl ⟨A, n, c, E3, k3_, l3_, rfl, sn_end3 (HN1.out _ (HC0.out.trans hk sb_)) (kept_heap hk HZ.out) (by simp) _ _ _, sn_end3 HN3.out (kept_heap hk HZ.out) (by simp) _ _ _, chg3 (HC0.out.trans hk sb_) (by omega) _ _ _⟩)
set_option maxHeartbeats 2000000 in
theorem DecFrac_zero {w : World} {A : Option Addr} {n c a : Nat} (n1 : Bool) (ha : SN w A n c a) (ha1 : a < 10 ^ 240) (hn : (n1 && a != 0) = n1) :
  Calls Tryz.prog 27 #[.agg #[.bool n1, .slice A n c, .int .i64 0]] w (PFN w n1 a 1) := by
 have HP := hid (fun w1 => (Pow10_any (w := w1) 0 (by omega)))
 have HO := hid (fun w1 => (one_any (w := w1)))
 have HM := hid (fun w1 (E : Option Addr) (k l : Nat) (h : Chg (fun _ => False) w w1) (h1 : SN w1 E k l (10 ^ 0)) => NatMul_any (ha.kept h) h1 (up243 ha1 (by omega)) (by decide))
 rw [Nat.pow_zero, Nat.mul_one] at HM
 rw [Nat.pow_zero] at HP
 have HH := hid hn
 clear ha hn ha1
 have HC0 := hid (((Chg.refl (fun _ => False) w).alloc (.cells #[.bool n1, .slice A n c, .int .i64 0] 57)).alloc (.cells #[.bool false, .slice none 0 0, .slice none 0 0] 34))
 have hB0 : ((w.alloc (.cells #[.bool n1, .slice A n c, .int .i64 0] 57)).alloc (.cells #[.bool false, .slice none 0 0, .slice none 0 0] 34)).heap[w.heap.size]? = some (.cells #[.bool n1, .slice A n c, .int .i64 0] 57 (0, 0)) := by
  rw [Below.heap_alloc _ _ _ (by simp)]
  have := heap_alloc_new w (.cells #[.bool n1, .slice A n c, .int .i64 0] 57)
  simpa using this
 have hB1 : ((w.alloc (.cells #[.bool n1, .slice A n c, .int .i64 0] 57)).alloc (.cells #[.bool false, .slice none 0 0, .slice none 0 0] 34)).heap[w.heap.size + 1]? = some (.cells #[.bool false, .slice none 0 0, .slice none 0 0] 34 (0, 0)) := by
  have := heap_alloc_new (w.alloc (.cells #[.bool n1, .slice A n c, .int .i64 0] 57)) (.cells #[.bool false, .slice none 0 0, .slice none 0 0] 34)
  simpa using this
 have HZ := hid hB1
 have HSS := hid (fun w1 (h : Chg (fun _ => False) ((w.alloc (.cells #[.bool n1, .slice A n c, .int .i64 0] 57)).alloc (.cells #[.bool false, .slice none 0 0, .slice none 0 0] 34)) w1) => (show w1.cell? ⟨w.heap.size, 0, none⟩ = some (.bool n1) ∧ w1.cell? ⟨w.heap.size, 1, none⟩ = some (.slice A n c) ∧ w1.cell? ⟨w.heap.size, 2, none⟩ = some (.int .i64 0) from ⟨(cell3 (kept_heap h hB0)).1, (cell3 (kept_heap h hB0)).2.1, (cell3 (kept_heap h hB0)).2.2.1⟩))
 have HST := hid (fun w1 (x0 x1 x2 : Value) (h : Chg (fun _ => False) ((w.alloc (.cells #[.bool n1, .slice A n c, .int .i64 0] 57)).alloc (.cells #[.bool false, .slice none 0 0, .slice none 0 0] 34)) w1) => (show (((w1.setCell ⟨w.heap.size + 1, 0, none⟩ x0).setCell ⟨w.heap.size + 1, 1, none⟩ x1).setCell ⟨w.heap.size + 1, 2, none⟩ x2).cell? ⟨w.heap.size, 0, none⟩ = some (.bool n1) ∧ (((w1.setCell ⟨w.heap.size + 1, 0, none⟩ x0).setCell ⟨w.heap.size + 1, 1, none⟩ x1).setCell ⟨w.heap.size + 1, 2, none⟩ x2).cell? ⟨w.heap.size, 1, none⟩ = some (.slice A n c) ∧ (((w1.setCell ⟨w.heap.size + 1, 0, none⟩ x0).setCell ⟨w.heap.size + 1, 1, none⟩ x1).setCell ⟨w.heap.size + 1, 2, none⟩ x2).cell? ⟨w.heap.size, 2, none⟩ = some (.int .i64 0) from by
  have hh := HSS.out w1 h
  refine ⟨?_, ?_, ?_⟩ <;> (repeat rw [far_cell (by omega)])
  ·exact hh.1
  ·exact hh.2.1
  ·exact hh.2.2))
 have HD := hid (Chg.drew (Chg.refl (fun _ => False) ((w.alloc (.cells #[.bool n1, .slice A n c, .int .i64 0] 57)).alloc (.cells #[.bool false, .slice none 0 0, .slice none 0 0] 34))))
 clear hB0 hB1
 have hk := HD.out
 obtain ⟨d0, d1, d2⟩ := HSS.out _ (Chg.refl _ _)
 go_enter Tryz.func27, Tryz.ntmps27
 go_wp2_with fail
 first | (go_region_held3 (fun w' => w'.cell? ⟨w.heap.size, 0, none⟩ = some (.bool n1) ∧ w'.cell? ⟨w.heap.size, 1, none⟩ = some (.slice A n c) ∧ w'.cell? ⟨w.heap.size, 2, none⟩ = some (.int .i64 0)) (first | with_reducible exact HSS.out _ hk | with_reducible exact HST.out _ _ _ _ hk | go_keep) (first | (go_at_call 51; refine (HP.out _).mono ?_; intro e w1 h; obtain ⟨E1, k1_, l1_, he, hsn, hc⟩ := h; subst he; replace hk := hk.trans hc sb_; (try replace HN1 := hid (HN1.out.kept hc)); (try replace HN2 := hid (HN2.out.kept hc)); (try replace HN3 := hid (HN3.out.kept hc)); have HN1 := hid hsn; clear hsn; clear hc; obtain ⟨k0, k1, k2, f0, f1, f2⟩ := cell3 (kept_heap hk HZ.out)) | (go_at_call 34; refine (HM.out _ _ _ _ (HC0.out.trans hk sb_) HN1.out).mono ?_; intro e w1 h; obtain ⟨E2, k2_, l2_, he, hsn, hc⟩ := h; subst he; replace hk := hk.trans hc sb_; (try replace HN1 := hid (HN1.out.kept hc)); (try replace HN2 := hid (HN2.out.kept hc)); (try replace HN3 := hid (HN3.out.kept hc)); have HN2 := hid hsn; clear hsn; clear hc; obtain ⟨k0, k1, k2, f0, f1, f2⟩ := cell3 (kept_heap hk HZ.out)) | (go_at_call 49; refine (wholeOf_sn n1 n1 HN2.out HH.out).mono ?_; intro e w1 h; obtain ⟨he, hc⟩ := h; subst he; replace hk := hk.trans hc sb_; (try replace HN1 := hid (HN1.out.kept hc)); (try replace HN2 := hid (HN2.out.kept hc)); (try replace HN3 := hid (HN3.out.kept hc)); skip; clear hc; obtain ⟨k0, k1, k2, f0, f1, f2⟩ := cell3 (kept_heap hk HZ.out)) | (go_at_call 52; refine (HO.out _).mono ?_; intro e w1 h; obtain ⟨E3, k3_, l3_, he, hsn, hc⟩ := h; subst he; replace hk := hk.trans hc sb_; (try replace HN1 := hid (HN1.out.kept hc)); (try replace HN2 := hid (HN2.out.kept hc)); (try replace HN3 := hid (HN3.out.kept hc)); have HN3 := hid hsn; clear hsn; clear hc; obtain ⟨k0, k1, k2, f0, f1, f2⟩ := cell3 (kept_heap hk HZ.out)))) | fail
 all_goals (go_wp2_with fail; refine bodyPost_ret (v := .agg #[.bool n1, .slice E2 k2_ l2_, .slice E3 k3_ l3_]) (by rw [results_cell_row rfl _ _ (w.heap.size + 1) _ _ _ _ rfl (store3 (kept_heap hk HZ.out) _ _ _) Tryz.underlying34 rfl frac_size]) rfl ⟨E2, k2_, l2_, E3, k3_, l3_, rfl, sn_end3 HN2.out (kept_heap hk HZ.out) (by simp) _ _ _, sn_end3 HN3.out (kept_heap hk HZ.out) (by simp) _ _ _, chg3 (HC0.out.trans hk sb_) (by omega) _ _ _⟩)
def PDN (w : World) (sb : Bool) (a : Nat) (e0 : Int) (e : Ending) (w' : World) : Prop := ∃ (E : Option Addr) (k l : Nat), e = .returned (.agg #[.bool sb, .slice E k l, .int .i64 e0]) ∧ SN w' E k l a ∧ Chg (fun _ => False) w w'
set_option maxHeartbeats 2000000 in
theorem FixDec_any {w : World} (n1 sb : Bool) (a : Nat) (s0 e0 : Int) (ha : (a : Int) < 18446744073709551616) (hsb : (n1 && a != 0) = sb) (hw : IntKind.i64.wrap (-s0) = e0) :
  Calls Tryz.prog 26 #[.agg #[.bool n1, .int .u64 (a : Int), .int .i64 s0]] w (PDN w sb a e0) := by
 have HP := hid (fun w1 => (NatFrom_any (w := w1) a ha))
 obtain ⟨v, hv⟩ : ∃ v : Int, (a : Int) = v := ⟨_, rfl⟩
 rw [hv] at HP ⊢
 have HH := hid hsb
 clear ha hv hsb
 have HC0 := hid (((Chg.refl (fun _ => False) w).alloc (.cells #[.bool n1, .int .u64 v, .int .i64 s0] 24)).alloc (.cells #[.bool false, .slice none 0 0, .int .i64 0] 57))
 have hB0 : ((w.alloc (.cells #[.bool n1, .int .u64 v, .int .i64 s0] 24)).alloc (.cells #[.bool false, .slice none 0 0, .int .i64 0] 57)).heap[w.heap.size]? = some (.cells #[.bool n1, .int .u64 v, .int .i64 s0] 24 (0, 0)) := by
  rw [Below.heap_alloc _ _ _ (by simp)]
  have := heap_alloc_new w (.cells #[.bool n1, .int .u64 v, .int .i64 s0] 24)
  simpa using this
 have hB1 : ((w.alloc (.cells #[.bool n1, .int .u64 v, .int .i64 s0] 24)).alloc (.cells #[.bool false, .slice none 0 0, .int .i64 0] 57)).heap[w.heap.size + 1]? = some (.cells #[.bool false, .slice none 0 0, .int .i64 0] 57 (0, 0)) := by
  have := heap_alloc_new (w.alloc (.cells #[.bool n1, .int .u64 v, .int .i64 s0] 24)) (.cells #[.bool false, .slice none 0 0, .int .i64 0] 57)
  simpa using this
 have HZ := hid hB1
 have HSS := hid (fun w1 (h : Chg (fun _ => False) ((w.alloc (.cells #[.bool n1, .int .u64 v, .int .i64 s0] 24)).alloc (.cells #[.bool false, .slice none 0 0, .int .i64 0] 57)) w1) => (show w1.cell? ⟨w.heap.size, 0, none⟩ = some (.bool n1) ∧ w1.cell? ⟨w.heap.size, 1, none⟩ = some (.int .u64 v) ∧ w1.cell? ⟨w.heap.size, 2, none⟩ = some (.int .i64 s0) from ⟨(cell3 (kept_heap h hB0)).1, (cell3 (kept_heap h hB0)).2.1, (cell3 (kept_heap h hB0)).2.2.1⟩))
 have HST := hid (fun w1 (x0 x1 x2 : Value) (h : Chg (fun _ => False) ((w.alloc (.cells #[.bool n1, .int .u64 v, .int .i64 s0] 24)).alloc (.cells #[.bool false, .slice none 0 0, .int .i64 0] 57)) w1) => (show (((w1.setCell ⟨w.heap.size + 1, 0, none⟩ x0).setCell ⟨w.heap.size + 1, 1, none⟩ x1).setCell ⟨w.heap.size + 1, 2, none⟩ x2).cell? ⟨w.heap.size, 0, none⟩ = some (.bool n1) ∧ (((w1.setCell ⟨w.heap.size + 1, 0, none⟩ x0).setCell ⟨w.heap.size + 1, 1, none⟩ x1).setCell ⟨w.heap.size + 1, 2, none⟩ x2).cell? ⟨w.heap.size, 1, none⟩ = some (.int .u64 v) ∧ (((w1.setCell ⟨w.heap.size + 1, 0, none⟩ x0).setCell ⟨w.heap.size + 1, 1, none⟩ x1).setCell ⟨w.heap.size + 1, 2, none⟩ x2).cell? ⟨w.heap.size, 2, none⟩ = some (.int .i64 s0) from by
  have hh := HSS.out w1 h
  refine ⟨?_, ?_, ?_⟩ <;> (repeat rw [far_cell (by omega)])
  ·exact hh.1
  ·exact hh.2.1
  ·exact hh.2.2))
 have HD := hid (Chg.drew (Chg.refl (fun _ => False) ((w.alloc (.cells #[.bool n1, .int .u64 v, .int .i64 s0] 24)).alloc (.cells #[.bool false, .slice none 0 0, .int .i64 0] 57))))
 clear hB0 hB1
 have hk := HD.out
 go_enter Tryz.func26, Tryz.ntmps26
 go_wp2_with fail
 first | (go_region_held3 (fun w' => w'.cell? ⟨w.heap.size, 0, none⟩ = some (.bool n1) ∧ w'.cell? ⟨w.heap.size, 1, none⟩ = some (.int .u64 v) ∧ w'.cell? ⟨w.heap.size, 2, none⟩ = some (.int .i64 s0)) (first | with_reducible exact HSS.out _ hk | with_reducible exact HST.out _ _ _ _ hk | go_keep) (first | (go_at_call 50; refine (HP.out _).mono ?_; intro e w1 h; obtain ⟨E1, k1_, l1_, he, hsn, hc⟩ := h; subst he; replace hk := hk.trans hc sb_; (try replace HN1 := hid (HN1.out.kept hc)); have HN1 := hid hsn; clear hsn; clear hc; obtain ⟨k0, k1, k2, f0, f1, f2⟩ := cell3 (kept_heap hk HZ.out)) | (go_at_call 49; refine (wholeOf_sn n1 sb HN1.out HH.out).mono ?_; intro e w1 h; obtain ⟨he, hc⟩ := h; subst he; replace hk := hk.trans hc sb_; (try replace HN1 := hid (HN1.out.kept hc)); skip; clear hc; obtain ⟨k0, k1, k2, f0, f1, f2⟩ := cell3 (kept_heap hk HZ.out)))) | fail
 all_goals (go_wp2_with fail; refine bodyPost_ret (v := .agg #[.bool sb, .slice E1 k1_ l1_, .int .i64 e0]) (by rw [results_cell_row rfl _ _ (w.heap.size + 1) _ _ _ _ rfl (store3 (kept_heap hk HZ.out) _ _ _) Tryz.underlying57 rfl sdec_size]) rfl ⟨E1, k1_, l1_, rfl, sn_end3 HN1.out (kept_heap hk HZ.out) (by simp) _ _ _, chg3 (HC0.out.trans hk sb_) (by omega) _ _ _⟩)
end Go.Proofs.YtmpkgkjnoanlhaaGreatDoor
