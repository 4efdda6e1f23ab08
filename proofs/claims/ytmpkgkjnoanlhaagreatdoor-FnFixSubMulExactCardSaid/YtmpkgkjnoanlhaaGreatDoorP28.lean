/- Part 28 of the proof. -/
import Derived.Test.YtmpkgkjnoanlhaaGreatDoorP22
namespace Go.Proofs.YtmpkgkjnoanlhaaGreatDoor
open Go.RowKit
set_option linter.unusedVariables false
set_option linter.unusedSimpArgs false
set_option maxRecDepth 20000
theorem addExact_lives (w : World) (he : EnvD w) : Calls Tryz.prog 40 #[.agg #[.bool false, .int .i8 (1 : Nat), .int .u64 ((15 : Nat) : Int)], .agg #[.bool false, .int .i8 (0 : Nat), .int .u64 ((2 : Nat) : Int)], .int .i64 (0 : Nat)] w
  (fun e w' => e = .returned (.tuple #[.agg #[.bool false, .int .i8 (1 : Nat), .int .u64 35], .nilIface]) ∧ Chg (fun _ => False) w w') := by
 refine addExact_ok false false 15 2 1 0 0 (by omega) w 35 1 false (hid ?_)
 have he3 : EnvD _ := he.kept ((((Chg.refl (fun _ => False) w).alloc (.cells #[.bool false, .int .i8 (1 : Nat), .int .u64 ((15 : Nat) : Int)] 46)).alloc (.cells #[.bool false, .int .i8 (0 : Nat), .int .u64 ((2 : Nat) : Int)] 46)).alloc (.cells #[.bool false, .int .i8 0, .int .u64 0] 46))
 refine (addFint_gt_same false false ((15 : Nat) : Int) ((2 : Nat) : Int) 1 0 0 ⟨by decide, by decide⟩ ⟨by decide, by decide⟩ (by omega) (by omega) (by omega) _ he3 (by omega) 20 (by decide) (by decide) rfl 35 (by decide) (by decide)).mono (fun e w' h => ?_)
 have hf : fromFint 35 1 0 = some (35, 1) := by decide
 unfold PDec at h
 rw [hf] at h
 exact ⟨h.2, h.1⟩
set_option maxHeartbeats 2000000 in
theorem Add_lives2 (w : World) (he : EnvD w) : Calls Tryz.prog 55 #[.agg #[.bool false, .int .i8 (1 : Nat), .int .u64 ((15 : Nat) : Int)], .agg #[.bool false, .int .i8 (0 : Nat), .int .u64 ((2 : Nat) : Int)]] w
  (fun e w' => e = .returned (.tuple #[.agg #[.bool false, .int .i8 (1 : Nat), .int .u64 35], .nilIface]) ∧ Chg (fun _ => False) w w') := by
 have HA := hid (fun w1 (he : EnvD w1) => addExact_lives w1 he)
 have HE := hid he
 obtain ⟨DC, hDC⟩ : ∃ v : Int, ((15 : Nat) : Int) = v := ⟨_, rfl⟩
 obtain ⟨EC, hEC⟩ : ∃ v : Int, ((2 : Nat) : Int) = v := ⟨_, rfl⟩
 obtain ⟨ds, hds⟩ : ∃ v : Int, ((1 : Nat) : Int) = v := ⟨_, rfl⟩
 obtain ⟨es, hes⟩ : ∃ v : Int, ((0 : Nat) : Int) = v := ⟨_, rfl⟩
 have hz : ((0 : Nat) : Int) = 0 := rfl
 rw [hDC, hEC, hds, hz] at HA
 rw [hz] at hes
 rw [hDC, hEC, hds]
 rw [hz]
 clear he hDC hEC hds hes hz
 obtain ⟨HC0, HD, hB0, hB1, hB2⟩ := box3 w #[.bool false, .int .i8 ds, .int .u64 DC] 46 #[.bool false, .int .i8 0, .int .u64 EC] 46 #[.bool false, .int .i8 0, .int .u64 0] 46
 have HZ := hid hB2
 obtain ⟨d0, d1, d2, _, _, _⟩ := cell3 hB0
 obtain ⟨e0, e1, e2, _, _, _⟩ := cell3 hB1
 clear hB0 hB1 hB2 HD
 go_enter Tryz.func55, Tryz.ntmps55
 go_wp2_with (go_at_call 40; refine (HA.out _ (HE.out.kept HC0.out)).mono ?_; intro e w1 h; obtain ⟨he, hc⟩ := h; subst he; have hk := hc; clear hc; obtain ⟨k0, k1, k2, f0, f1, f2⟩ := cell3 (kept_heap hk HZ.out))
 exact bodyPost_ret (v := .tuple #[.agg #[.bool false, .int .i8 ds, .int .u64 35], .nilIface]) (dec_result rfl _ _ (w.heap.size + 1 + 1) _ _ _ _ 46 rfl rfl (store3 (kept_heap hk HZ.out) _ _ _)) rfl ⟨rfl, chg3 (HC0.out.trans hk sb_) (by omega) _ _ _⟩
theorem FixAdd_lives2 (w : World) (he : EnvD w) :
  Calls Tryz.prog 29 #[.agg #[.bool false, .int .u64 15, .int .i64 1], .agg #[.bool false, .int .u64 2, .int .i64 0]] w (PV w (.tuple #[.agg #[.bool false, .int .u64 35, .int .i64 1], .int .i64 0])) :=
 FixAdd_ok false false false false 15 2 1 0 (by decide) (by decide) (by omega) (by omega) rfl rfl w he false 35 1 (by omega) (fun w1 he1 => Add_lives2 w1 he1)
theorem gvLives_any2 (w : World) (he : EnvD w) : Calls Tryz.prog 12 #[] w (PV w (.bool true)) := by
 have HF := hid (FixAdd_lives2 w he)
 clear he
 go_enter Tryz.func12, Tryz.ntmps12
 go_wp2_with (go_at_call 29; refine HF.out.mono ?_; intro e w1 h; obtain ⟨he, hc⟩ := h; subst he; have hk := hc; clear hc)
 go_ret
 exact ⟨rfl, hk.alloc _⟩
end Go.Proofs.YtmpkgkjnoanlhaaGreatDoor
