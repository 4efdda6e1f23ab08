/- Part 43 of the proof. -/
import Derived.Test.YtldhfhloinlfaaaGreatDoorC30
namespace Go.Proofs.YtldhfhloinlfaaaGreatDoor
open Go.RowKit
set_option linter.unusedVariables false
set_option linter.unusedSimpArgs false
set_option maxRecDepth 20000
theorem FracInv_any (n1 : Bool) (A : Option Addr) (n c : Nat) (B : Option Addr) (m d : Nat) (sb : Bool) (hsb : (n1 && m != 0) = sb) (w : World) :
  Calls Tryz.prog 22 #[.agg #[.bool n1, .slice A n c, .slice B m d]] w (PV w (.agg #[.bool sb, .slice B m d, .slice A n c])) := by
 have HM := hid (fun w => wholeOf_any n1 B m d sb hsb w)
 clear hsb
 obtain ⟨HC0, HD, hB0, hB1⟩ := box2 w #[.bool n1, .slice A n c, .slice B m d] 34 #[.bool false, .slice none 0 0, .slice none 0 0] 34
 have HZ := hid hB1
 have HSS := hid (fun (w1 : World) h => And.intro ((cell3 (kept_heap (w' := w1) h hB0)).1) (And.intro ((cell3 (kept_heap (w' := w1) h hB0)).2.1) ((cell3 (kept_heap (w' := w1) h hB0)).2.2.1)))
 have HST := hid (fun w1 x0 x1 x2 h => And.intro (far3 (z := w.heap.size + 1) (x0 := x0) (x1 := x1) (x2 := x2) (HSS.out w1 h).1 (by omega)) (And.intro (far3 (z := w.heap.size + 1) (x0 := x0) (x1 := x1) (x2 := x2) (HSS.out w1 h).2.1 (by omega)) (far3 (z := w.heap.size + 1) (x0 := x0) (x1 := x1) (x2 := x2) (HSS.out w1 h).2.2 (by omega))))
 clear hB0 hB1
 have hk := HD.out
 go_enter Tryz.func22, Tryz.ntmps22
 go_wp2_with fail
 first | (go_region_held3 (fun w' => w'.cell? ⟨w.heap.size, 0, none⟩ = some (.bool n1) ∧ w'.cell? ⟨w.heap.size, 1, none⟩ = some (.slice A n c) ∧ w'.cell? ⟨w.heap.size, 2, none⟩ = some (.slice B m d)) (first | with_reducible exact HSS.out _ hk | with_reducible exact HST.out _ _ _ _ hk | go_keep) (first | (go_at_call 49; refine (HM.out _).mono ?_; intro e w1 h; obtain ⟨he, hc⟩ := h; subst he; replace hk := hk.trans hc sb_; skip; skip; clear hc; obtain ⟨k0, k1, k2, f0, f1, f2⟩ := cell3 (kept_heap hk HZ.out)))) | fail
 all_goals (go_wp2_with fail; refine bodyPost_ret (v := .agg #[.bool sb, .slice B m d, .slice A n c]) (by rw [results_cell_row rfl _ _ (w.heap.size + 1) _ _ _ _ rfl (store3 (kept_heap hk HZ.out) _ _ _) Tryz.underlying34 rfl frac_size]) rfl ⟨rfl, chg3 (HC0.out.trans hk sb_) (by omega) _ _ _⟩)
theorem FracInv_sn {w : World} {A D1 : Option Addr} {n c p1 q1 x : Nat} (n1 sb : Bool) (hx : SN w D1 p1 q1 x) (hsb : (n1 && x != 0) = sb) :
  Calls Tryz.prog 22 #[.agg #[.bool n1, .slice A n c, .slice D1 p1 q1]] w (PV w (.agg #[.bool sb, .slice D1 p1 q1, .slice A n c])) :=
 FracInv_any n1 A n c D1 p1 q1 sb (by rw [sgn_len hx]; exact hsb) w
theorem addExact_lives (w : World) (he : EnvD w) : Calls Tryz.prog 73 #[.agg #[.bool false, .int .i8 (1 : Nat), .int .u64 ((15 : Nat) : Int)], .agg #[.bool false, .int .i8 (0 : Nat), .int .u64 ((2 : Nat) : Int)], .int .i64 (0 : Nat)] w
  (fun e w' => e = .returned (.tuple #[.agg #[.bool false, .int .i8 (1 : Nat), .int .u64 35], .nilIface]) ∧ Chg (fun _ => False) w w') := by
 refine addExact_ok false false 15 2 1 0 0 (by omega) w 35 1 false (hid ?_)
 have he3 : EnvD _ := he.kept ((((Chg.refl (fun _ => False) w).alloc (.cells #[.bool false, .int .i8 (1 : Nat), .int .u64 ((15 : Nat) : Int)] 53)).alloc (.cells #[.bool false, .int .i8 (0 : Nat), .int .u64 ((2 : Nat) : Int)] 53)).alloc (.cells #[.bool false, .int .i8 0, .int .u64 0] 53))
 refine (addFint_gt_same false false ((15 : Nat) : Int) ((2 : Nat) : Int) 1 0 0 ⟨by decide, by decide⟩ ⟨by decide, by decide⟩ (by omega) (by omega) (by omega) _ he3 (by omega) 20 (by decide) (by decide) rfl 35 (by decide) (by decide)).mono (fun e w' h => ?_)
 have hf : fromFint 35 1 0 = some (35, 1) := by decide
 unfold PDec at h
 rw [hf] at h
 exact ⟨h.2, h.1⟩
set_option maxHeartbeats 2000000 in
theorem Add_lives2 (w : World) (he : EnvD w) : Calls Tryz.prog 61 #[.agg #[.bool false, .int .i8 (1 : Nat), .int .u64 ((15 : Nat) : Int)], .agg #[.bool false, .int .i8 (0 : Nat), .int .u64 ((2 : Nat) : Int)]] w
  (fun e w' => e = .returned (.tuple #[.agg #[.bool false, .int .i8 (1 : Nat), .int .u64 35], .nilIface]) ∧ Chg (fun _ => False) w w') := by
 have HA := hid (fun w1 (he : EnvD w1) => addExact_lives w1 he)
 have HE := hid he
 obtain ⟨DC, hDC⟩ : ∃ v : Int, ((15 : Nat) : Int) = v := ⟨_, rfl⟩
 obtain ⟨EC, hEC⟩ : ∃ v : Int, ((2 : Nat) : Int) = v := ⟨_, rfl⟩
 obtain ⟨ds, hds⟩ : ∃ v : Int, ((1 : Nat) : Int) = v := ⟨_, rfl⟩
 obtain ⟨es, hes⟩ : ∃ v : Int, ((0 : Nat) : Int) = v := ⟨_, rfl⟩
 have hz : ((0 : Nat) : Int) = 0 := rfl
 rw [hDC, hEC, hds, hz] at HA
 rw [hz] at hes
 rw [hDC, hEC, hds]
 rw [hz]
 clear he hDC hEC hds hes hz
 obtain ⟨HC0, HD, hB0, hB1, hB2⟩ := box3 w #[.bool false, .int .i8 ds, .int .u64 DC] 53 #[.bool false, .int .i8 0, .int .u64 EC] 53 #[.bool false, .int .i8 0, .int .u64 0] 53
 have HZ := hid hB2
 obtain ⟨d0, d1, d2, _, _, _⟩ := cell3 hB0
 obtain ⟨e0, e1, e2, _, _, _⟩ := cell3 hB1
 clear hB0 hB1 hB2 HD
 go_enter Tryz.func61, Tryz.ntmps61
 go_wp2_with (go_at_call 73; refine (HA.out _ (HE.out.kept HC0.out)).mono ?_; intro e w1 h; obtain ⟨he, hc⟩ := h; subst he; have hk := hc; clear hc; obtain ⟨k0, k1, k2, f0, f1, f2⟩ := cell3 (kept_heap hk HZ.out))
 exact bodyPost_ret (v := .tuple #[.agg #[.bool false, .int .i8 ds, .int .u64 35], .nilIface]) (dec_result rfl _ _ (w.heap.size + 1 + 1) _ _ _ _ 53 rfl rfl (store3 (kept_heap hk HZ.out) _ _ _)) rfl ⟨rfl, chg3 (HC0.out.trans hk sb_) (by omega) _ _ _⟩
theorem FixAdd_lives2 (w : World) (he : EnvD w) :
  Calls Tryz.prog 30 #[.agg #[.bool false, .int .u64 15, .int .i64 1], .agg #[.bool false, .int .u64 2, .int .i64 0]] w (PV w (.tuple #[.agg #[.bool false, .int .u64 35, .int .i64 1], .int .i64 0])) :=
 FixAdd_ok false false false false 15 2 1 0 (by decide) (by decide) (by omega) (by omega) rfl rfl w he false 35 1 (by omega) (fun w1 he1 => Add_lives2 w1 he1)
theorem gvLives_any2 (w : World) (he : EnvD w) : Calls Tryz.prog 17 #[] w (PV w (.bool true)) := by
 have HF := hid (FixAdd_lives2 w he)
 clear he
 go_enter Tryz.func17, Tryz.ntmps17
 go_wp2_with (go_at_call 30; refine HF.out.mono ?_; intro e w1 h; obtain ⟨he, hc⟩ := h; subst he; have hk := hc; clear hc)
 go_ret
 exact ⟨rfl, hk.alloc _⟩
end Go.Proofs.YtldhfhloinlfaaaGreatDoor
