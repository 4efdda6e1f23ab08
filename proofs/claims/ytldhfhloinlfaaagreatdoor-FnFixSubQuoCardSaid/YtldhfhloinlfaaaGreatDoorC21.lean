/- Part 21 of the proof. -/
import Derived.Test.YtldhfhloinlfaaaGreatDoorC18
namespace Go.Proofs.YtldhfhloinlfaaaGreatDoor
open Go.RowKit
set_option linter.unusedVariables false
set_option linter.unusedSimpArgs false
set_option maxRecDepth 20000
set_option maxHeartbeats 2000000 in
theorem Neg_any (neg : Bool) (c : Int) (s : Nat) (hc : Fi c) (hs : s ≤ 19) (w : World) :
  Calls Tryz.prog 74 #[.agg #[.bool neg, .int .i8 s, .int .u64 c]] w (fun e w' => e = .returned (.agg #[.bool (!neg && c != 0), .int .i8 s, .int .u64 c]) ∧ Chg (fun _ => False) w w') := by
 obtain ⟨nb, hnb⟩ : ∃ nb, (!neg && c != 0) = nb := ⟨_, rfl⟩
 rw [hnb]
 have HU := hid (fun w => newUnsafe_flat (!neg) nb c s hc hs hnb w)
 have HS := hid (fun w => Scale_any neg c s hs w)
 have HN := hid (fun w => IsNeg_any neg c s w)
 clear hnb hc
 have hb1 : ((w.alloc (.cells #[.bool neg, .int .i8 s, .int .u64 c] 53)).alloc (.cells #[.bool false, .int .i8 0, .int .u64 0] 53)).heap[w.heap.size]? = some (.cells #[.bool neg, .int .i8 s, .int .u64 c] 53 (0, 0)) := by
  rw [Below.heap_alloc _ _ _ (by simp)]; exact heap_alloc_new _ _
 have hb2 : ((w.alloc (.cells #[.bool neg, .int .i8 s, .int .u64 c] 53)).alloc (.cells #[.bool false, .int .i8 0, .int .u64 0] 53)).heap[w.heap.size + 1]? = some (.cells #[.bool false, .int .i8 0, .int .u64 0] 53 (0, 0)) := heap_alloc2_new _ _ _
 have HBX := hid (fun w1 (h : Chg (fun _ => False) ((w.alloc (.cells #[.bool neg, .int .i8 s, .int .u64 c] 53)).alloc (.cells #[.bool false, .int .i8 0, .int .u64 0] 53)) w1) => cell3 ((h.keep w.heap.size (by simp; omega) (fun h => h)).trans hb1))
 have HRS := hid (fun w1 (h : Chg (fun _ => False) ((w.alloc (.cells #[.bool neg, .int .i8 s, .int .u64 c] 53)).alloc (.cells #[.bool false, .int .i8 0, .int .u64 0] 53)) w1) => (h.keep (w.heap.size + 1) (by simp) (fun h => h)).trans hb2)
 clear hb1 hb2
 have HC0 : Hid (Chg (fun _ => False) ((w.alloc (.cells #[.bool neg, .int .i8 s, .int .u64 c] 53)).alloc (.cells #[.bool false, .int .i8 0, .int .u64 0] 53)) ((w.alloc (.cells #[.bool neg, .int .i8 s, .int .u64 c] 53)).alloc (.cells #[.bool false, .int .i8 0, .int .u64 0] 53)).drew) := (Chg.refl _ _).drew
 have HCW : Hid (Chg (fun _ => False) w ((w.alloc (.cells #[.bool neg, .int .i8 s, .int .u64 c] 53)).alloc (.cells #[.bool false, .int .i8 0, .int .u64 0] 53))) := ((Chg.refl _ _).alloc _).alloc _
 have HSS := hid (fun w1 (h : Chg (fun _ => False) ((w.alloc (.cells #[.bool neg, .int .i8 s, .int .u64 c] 53)).alloc (.cells #[.bool false, .int .i8 0, .int .u64 0] 53)) w1) => (show w1.cell? ⟨w.heap.size, 0, none⟩ = some (.bool neg) ∧ w1.cell? ⟨w.heap.size, 1, none⟩ = some (.int .i8 s) ∧ w1.cell? ⟨w.heap.size, 2, none⟩ = some (.int .u64 c) from ⟨(HBX.out w1 h).1, (HBX.out w1 h).2.1, (HBX.out w1 h).2.2.1⟩))
 go_enter Tryz.func74, Tryz.ntmps74
 go_wp2_with fail
 go_region_held3 (fun w' => w'.cell? ⟨w.heap.size, 0, none⟩ = some (.bool neg) ∧ w'.cell? ⟨w.heap.size, 1, none⟩ = some (.int .i8 s) ∧ w'.cell? ⟨w.heap.size, 2, none⟩ = some (.int .u64 c)) (first | exact HSS.out _ hk3 | exact HSS.out _ hk2 | exact HSS.out _ hk1 | exact HSS.out _ HC0.out | go_keep) (first | (go_at_call 75; refine (HN.out _).mono ?_; intro e w1 h; obtain ⟨he1, hc1⟩ := h; subst he1; have hk1 := HC0.out.trans hc1 sb_) | (go_at_call 77; refine (HS.out _).mono ?_; intro e w2 h; obtain ⟨he2, hc2⟩ := h; subst he2; have hk2 := hk1.trans hc2 sb_) | (go_at_call 102; refine (HU.out _).mono ?_; intro e w3 h; obtain ⟨he3, hc3⟩ := h; subst he3; have hk3 := hk2.trans hc3 sb_; have hr3 := HRS.out w3 hk3; obtain ⟨k0, k1, k2, f0, f1, f2⟩ := cell3 hr3; have HR3 := hid hr3; clear hr3))
 all_goals (go_wp2_with fail; refine bodyPost_ret (v := .agg #[.bool nb, .int .i8 s, .int .u64 c]) (by rw [results_cell_row rfl _ _ (w.heap.size + 1) _ _ _ _ rfl (store3 HR3.out _ _ _) Tryz.underlying53 rfl dec_size]) rfl ⟨rfl, chg3 (HCW.out.trans hk3 sb_) (by omega) _ _ _⟩)
end Go.Proofs.YtldhfhloinlfaaaGreatDoor
