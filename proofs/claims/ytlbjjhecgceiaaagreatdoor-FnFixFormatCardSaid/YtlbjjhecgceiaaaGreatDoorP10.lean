/- Part 10 of the proof. -/
import Derived.Test.YtlbjjhecgceiaaaGreatDoorP08
namespace Go.Proofs.YtlbjjhecgceiaaaGreatDoor.PFnFixSubExact
open Go.RowKit Go.Proofs.YtlbjjhecgceiaaaGreatDoorW.PrintWords Go.Proofs.YtlbjjhecgceiaaaGreatDoorW.PrintLast Go.Proofs.YtlbjjhecgceiaaaGreatDoorW.PrintMore
attribute [local go_sem] max2_int min2_int max_two min_two max_three min_three max_four min_four
set_option linter.unusedVariables false
set_option linter.unusedSimpArgs false
def spec_wholeOf.f (a0 : Bool) (l1 : List Int) : Option (Bool × List Int) := if a0 = true then (some (decide (0 < l1.length), l1)) else (some (false, l1))
set_option maxHeartbeats 8000000 in
set_option maxRecDepth 100000 in
theorem spec_wholeOf.calls (a0 : Bool) (P1_ : Nat → Prop) (u9000_ : Value) (l1 : List Int) (r1 : Bool) (r2 : List Int) (w0 w : World) (hB : Below w0.heap.size w0 w) (ho1 : Kd.R (Kd.int .u32) 80 w w0.heap.size P1_ u9000_ l1) (h : spec_wholeOf.f a0 l1 = some (r1, r2)) :
  Calls Tryz.prog 39 #[.bool a0, u9000_] w fun e w' => ∃ v1_ : Value, e = .returned (.agg #[.bool r1, v1_]) ∧ Kd.R (Kd.int .u32) 80 w' w0.heap.size (fun k_ => (P1_ k_ ∨ w.heap.size ≤ k_)) v1_ r2 ∧ Below w0.heap.size w0 w' ∧ Kept w w' (fun k_ => P1_ k_) := by
 have hu32 := Tryz.underlying32
 have HO1 := Aside0.mk (show Kd.R (Kd.int .u32) 80 w w0.heap.size (fun k_ => (P1_ k_ ∨ w.heap.size ≤ k_)) u9000_ l1 from Kd.R_mono ho1 (fun k_ hk => (.inl hk)))
 have HK := Aside0.mk (Kept.refl w (fun k_ => P1_ k_))
 have HW0 := Aside0.mk hB.size
 have HB := Aside0.mk hB
 clear hB
 have H : (if a0 = true then (some (decide (0 < l1.length), l1)) else (some (false, l1))) = some (r1, r2) := h
 clear h
 by_cases c3 : a0 = true
 ·subst c3
  have H1 : (some (decide (0 < l1.length), l1)) = some (r1, r2) := by rw [if_pos rfl] at H; exact H
  clear H
  have H := H1
  clear H1
  simp only [Option.some.injEq, Prod.mk.injEq] at H
  obtain ⟨rfl, rfl⟩ := H
  go_enter Tryz.func39, Tryz.ntmps39
  go_wp2_with (first | ((with_reducible refine gate_dst (N := 4) rfl ?_); (try (refine gate_guard (by rfl) ?_; dsimp only)); refine box_event ?hg (N := 4) ?hd (cs := #[.bool false, .slice none 0 0]) (t := 32) ?hr ?_; (case hd => rfl); (case hg => rfl); (case hr => first | (go_simp; done) | (go_simp; rfl)); intro gb223 hg w4 hbox hb; have n0_ := Aside0.mk (Kd.R_below (rr_ HO1.out) hb); have n1_ := Aside0.mk (Kept.below (S := (fun k_ => P1_ k_)) (by repeat (first | (with_reducible first | exact HK.out | apply Kept.alloc | apply Kept.drewN | apply Kept.drew) | exact HK.out)) hb); have n2_ := Aside0.mk (below_step bel_ hb); have n3_ := Aside0.mk (hbox); have n4_ := Aside0.mk ((by rw [hg]; exact (by first | exact HK.out.1 | exact (show Kept w _ (fun k_ => P1_ k_) from by repeat (first | (with_reducible first | exact HK.out | apply Kept.alloc | apply Kept.drewN | apply Kept.drew) | exact HK.out)).1) : w.heap.size ≤ gb223)); have n5_ := Aside0.mk ((by rw [hg]; exact (below_size bel_) : w0.heap.size ≤ gb223)); clear HO1; clear HK; clear HB; have HO1 := n0_; have HK := n1_; have HB := n2_; have BK223 := n3_; have GW223 := n4_; have GE223 := n5_; clear n0_ n1_ n2_ n3_ n4_ n5_; clear hb hbox hg; obtain ⟨Ao5, co5, eo5⟩ := Kd.R_slice HO1.out; subst eo5; have hcz6_0 : w4.cell? ⟨gb223, 0, none⟩ = some (.bool false) := (blk_cell BK223.out 0).trans rfl; have hcz6_1 : w4.cell? ⟨gb223, 1, none⟩ = some (.slice none 0 0) := (blk_cell BK223.out 1).trans rfl; have hfz6_0 := blk_frozen BK223.out 0; have hfz6_1 := blk_frozen BK223.out 1))
  refine bodyPost_ret (results_cell_row rfl _ _ gb223 32 #[.bool (decide (0 < l1.length)), .slice Ao5 l1.length co5] (0, 0) _ rfl (by (with_reducible repeat (first | refine blk_drewN ?_ _ | refine blk_drew ?_ | refine blk_alloc ?_ _)); refine blk_put (cs := #[.bool (decide (0 < l1.length)), .slice none 0 0]) ?_ 1 _ rfl; (with_reducible repeat (first | refine blk_drewN ?_ _ | refine blk_drew ?_ | refine blk_alloc ?_ _)); refine blk_put (cs := #[.bool false, .slice none 0 0]) ?_ 0 _ rfl; (with_reducible repeat (first | refine blk_drewN ?_ _ | refine blk_drew ?_ | refine blk_alloc ?_ _)); exact BK223.out) Tryz.underlying32 rfl kr_) rfl ?_
  exact ⟨_, by first | rfl | (simp [errW_none, errW_some] <;> rfl) | (simp [*, errW_none, errW_some] <;> rfl), by (with_reducible repeat (first | apply Kd.R_alloc | apply Kd.R_drewN | apply Kd.R_drew)); exact Kd.R_mono (Kd.R_far (p := ⟨gb223, 1, none⟩) (Kd.R_far (p := ⟨gb223, 0, none⟩) (Kd.R_types HO1.out BK223.out (by decide)) (fun _ hk => hk.2) (.bool (decide (0 < l1.length)))) (fun _ hk => hk.2) (.slice Ao5 l1.length co5)) (fun _ hk => hk.1), by repeat (first | (with_reducible first | exact HB.out | apply below_alloc | apply pw_below_drewN | apply below_drew1 | refine below_set ?_ GE223.out) | exact HB.out), by repeat (first | (with_reducible first | exact HK.out | apply Kept.alloc | apply Kept.drewN | apply Kept.drew | refine Kept.setCell ?_ (.inr GW223.out) _) | exact HK.out)⟩
 ·replace c3 := Bool.eq_false_iff.mpr c3
  subst c3
  have H1 : (some (false, l1)) = some (r1, r2) := by rw [if_neg (show ¬ (false = true) by decide)] at H; exact H
  clear H
  have H := H1
  clear H1
  simp only [Option.some.injEq, Prod.mk.injEq] at H
  obtain ⟨rfl, rfl⟩ := H
  go_enter Tryz.func39, Tryz.ntmps39
  go_wp2_with (first | ((with_reducible refine gate_dst (N := 4) rfl ?_); (try (refine gate_guard (by rfl) ?_; dsimp only)); refine box_event ?hg (N := 4) ?hd (cs := #[.bool false, .slice none 0 0]) (t := 32) ?hr ?_; (case hd => rfl); (case hg => rfl); (case hr => first | (go_simp; done) | (go_simp; rfl)); intro gb223 hg w7 hbox hb; have n0_ := Aside0.mk (Kd.R_below (rr_ HO1.out) hb); have n1_ := Aside0.mk (Kept.below (S := (fun k_ => P1_ k_)) (by repeat (first | (with_reducible first | exact HK.out | apply Kept.alloc | apply Kept.drewN | apply Kept.drew) | exact HK.out)) hb); have n2_ := Aside0.mk (below_step bel_ hb); have n3_ := Aside0.mk (hbox); have n4_ := Aside0.mk ((by rw [hg]; exact (by first | exact HK.out.1 | exact (show Kept w _ (fun k_ => P1_ k_) from by repeat (first | (with_reducible first | exact HK.out | apply Kept.alloc | apply Kept.drewN | apply Kept.drew) | exact HK.out)).1) : w.heap.size ≤ gb223)); have n5_ := Aside0.mk ((by rw [hg]; exact (below_size bel_) : w0.heap.size ≤ gb223)); clear HO1; clear HK; clear HB; have HO1 := n0_; have HK := n1_; have HB := n2_; have BK223 := n3_; have GW223 := n4_; have GE223 := n5_; clear n0_ n1_ n2_ n3_ n4_ n5_; clear hb hbox hg; obtain ⟨Ao8, co8, eo8⟩ := Kd.R_slice HO1.out; subst eo8; have hcz9_0 : w7.cell? ⟨gb223, 0, none⟩ = some (.bool false) := (blk_cell BK223.out 0).trans rfl; have hcz9_1 : w7.cell? ⟨gb223, 1, none⟩ = some (.slice none 0 0) := (blk_cell BK223.out 1).trans rfl; have hfz9_0 := blk_frozen BK223.out 0; have hfz9_1 := blk_frozen BK223.out 1))
  refine bodyPost_ret (results_cell_row rfl _ _ gb223 32 #[.bool false, .slice Ao8 l1.length co8] (0, 0) _ rfl (by (with_reducible repeat (first | refine blk_drewN ?_ _ | refine blk_drew ?_ | refine blk_alloc ?_ _)); refine blk_put (cs := #[.bool false, .slice none 0 0]) ?_ 1 _ rfl; (with_reducible repeat (first | refine blk_drewN ?_ _ | refine blk_drew ?_ | refine blk_alloc ?_ _)); refine blk_put (cs := #[.bool false, .slice none 0 0]) ?_ 0 _ rfl; (with_reducible repeat (first | refine blk_drewN ?_ _ | refine blk_drew ?_ | refine blk_alloc ?_ _)); exact BK223.out) Tryz.underlying32 rfl kr_) rfl ?_
  exact ⟨_, by first | rfl | (simp [errW_none, errW_some] <;> rfl) | (simp [*, errW_none, errW_some] <;> rfl), by (with_reducible repeat (first | apply Kd.R_alloc | apply Kd.R_drewN | apply Kd.R_drew)); exact Kd.R_mono (Kd.R_far (p := ⟨gb223, 1, none⟩) (Kd.R_far (p := ⟨gb223, 0, none⟩) (Kd.R_types HO1.out BK223.out (by decide)) (fun _ hk => hk.2) (.bool false)) (fun _ hk => hk.2) (.slice Ao8 l1.length co8)) (fun _ hk => hk.1), by repeat (first | (with_reducible first | exact HB.out | apply below_alloc | apply pw_below_drewN | apply below_drew1 | refine below_set ?_ GE223.out) | exact HB.out), by repeat (first | (with_reducible first | exact HK.out | apply Kept.alloc | apply Kept.drewN | apply Kept.drew | refine Kept.setCell ?_ (.inr GW223.out) _) | exact HK.out)⟩
def spec_OfFix.f (k : Nat) (a0_0 : Bool) (a0_1 : Int) (a0_2 : Int) : Option (Bool × List Int × Int × Bool) := (spec_NatFrom.f k a0_1).bind fun t311 => ((spec_wholeOf.f a0_0 t311).bind fun bt314 => ((spec_Nat_Digits.f k bt314.2).bind fun t319 => (if t319 ≤ 19 then (if a0_2 ≥ 0 then (some (bt314.1, bt314.2, wrap64 (-a0_2), decide (a0_2 ≤ 19))) else (some (bt314.1, bt314.2, wrap64 (-a0_2), false))) else (some (bt314.1, bt314.2, wrap64 (-a0_2), false)))))
def spec_OfFix.T1 : Bool × List (List Nat × List Nat) := (true, [([], []), ([0], [0]), ([], []), ([2], [2]), ([3], [3]), ([1, 4, 4], [1, 4]), ([], []), ([6, 5, 5, 0, 1, 2, 3, 4, 5, 6], [5, 6])])
def spec_OfFix.B1 : List Nat := [0, 1, 0, 4, 12, 31, 0, 127]
theorem spec_OfFix.tab1 : rtab .any (opsOf Tryz.f21 1) = spec_OfFix.T1 := by kernel_rfl
theorem spec_OfFix.bits1 : waitsOk spec_OfFix.T1.2 spec_OfFix.B1 = true := by kernel_rfl
def spec_OfFix.T2 : Bool × List (List Nat × List Nat) := (true, [([], []), ([], []), ([1], [1]), ([2], [2]), ([0, 3], [0, 3]), ([], []), ([5], [5]), ([6], [6]), ([7], [7]), ([8, 7], [8]), ([9], [9]), ([10, 9], [9, 10]), ([11, 9], [9, 11]), ([9, 12], [9, 12]), ([13, 9], [13]), ([14], [14]), ([15, 14], [14, 15]), ([16, 14], [14, 16]), ([14, 17], [14, 17]), ([4, 14, 0, 1, 2, 3, 4], [4]), ([18, 19, 0, 1, 2, 3, 4, 5, 6, 7, 8, 9, 10, 11, 12, 13, 14, 15, 16, 17, 18, 19], [18])])
def spec_OfFix.B2 : List Nat := [0, 0, 2, 6, 15, 0, 32, 96, 224, 480, 992, 2016, 4064, 8160, 16352, 32736, 65504, 131040, 262112, 32767, 1048575]
theorem spec_OfFix.tab2 : rtab .any (opsOf Tryz.f21 2) = spec_OfFix.T2 := by kernel_rfl
theorem spec_OfFix.bits2 : waitsOk spec_OfFix.T2.2 spec_OfFix.B2 = true := by kernel_rfl
set_option maxHeartbeats 8000000 in
set_option maxRecDepth 100000 in
theorem spec_OfFix.calls (k : Nat) (a0_0 : Bool) (a0_1 : Int) (a0_2 : Int) (r1 : Bool) (r2 : List Int) (r3 : Int) (r4 : Bool) (w : World) (h : spec_OfFix.f k a0_0 a0_1 a0_2 = some (r1, r2, r3, r4)) :
  Calls Tryz.prog 21 #[.agg #[.bool a0_0, .int .u64 a0_1, .int .i64 a0_2]] w fun e w' => ∃ v1_ : Value, e = .returned (.tuple #[.agg #[.bool r1, v1_, .int .i64 r3], .bool r4]) ∧ Kd.R (Kd.int .u32) 80 w' w.heap.size (fun _ => True) v1_ r2 ∧ Below w.heap.size w w' := by
 have hu24 := Tryz.underlying24
 have hu43 := Tryz.underlying43
 have hu32 := Tryz.underlying32
 have HB := Aside0.mk (Below.refl w.heap.size w)
 have H : ((spec_NatFrom.f k a0_1).bind fun t311 => ((spec_wholeOf.f a0_0 t311).bind fun bt314 => ((spec_Nat_Digits.f k bt314.2).bind fun t319 => (if t319 ≤ 19 then (if a0_2 ≥ 0 then (some (bt314.1, bt314.2, wrap64 (-a0_2), decide (a0_2 ≤ 19))) else (some (bt314.1, bt314.2, wrap64 (-a0_2), false))) else (some (bt314.1, bt314.2, wrap64 (-a0_2), false)))))) = some (r1, r2, r3, r4) := h
 clear h
 replace H := Option.bind_eq_some_iff.mp H
 obtain ⟨t311, A20, H⟩ := H
 replace H : ((spec_wholeOf.f a0_0 t311).bind fun bt314 => ((spec_Nat_Digits.f k bt314.2).bind fun t319 => (if t319 ≤ 19 then (if a0_2 ≥ 0 then (some (bt314.1, bt314.2, wrap64 (-a0_2), decide (a0_2 ≤ 19))) else (some (bt314.1, bt314.2, wrap64 (-a0_2), false))) else (some (bt314.1, bt314.2, wrap64 (-a0_2), false))))) = some (r1, r2, r3, r4) := H
 have A2 := Aside0.mk A20
 clear A20
 replace H := Option.bind_eq_some_iff.mp H
 obtain ⟨⟨t314, t315⟩, A30, H⟩ := H
 replace H : ((spec_Nat_Digits.f k t315).bind fun t319 => (if t319 ≤ 19 then (if a0_2 ≥ 0 then (some (t314, t315, wrap64 (-a0_2), decide (a0_2 ≤ 19))) else (some (t314, t315, wrap64 (-a0_2), false))) else (some (t314, t315, wrap64 (-a0_2), false)))) = some (r1, r2, r3, r4) := H
 have A3 := Aside0.mk A30
 clear A30
 replace H := Option.bind_eq_some_iff.mp H
 obtain ⟨t319, A40, H⟩ := H
 replace H : (if t319 ≤ 19 then (if a0_2 ≥ 0 then (some (t314, t315, wrap64 (-a0_2), decide (a0_2 ≤ 19))) else (some (t314, t315, wrap64 (-a0_2), false))) else (some (t314, t315, wrap64 (-a0_2), false))) = some (r1, r2, r3, r4) := H
 have A4 := Aside0.mk A40
 clear A40
 by_cases c5 : t319 ≤ 19
 ·rw [if_pos c5] at H
  have c5b0 : decide (t319 ≤ 19) = true := decide_eq_true c5
  clear c5
  by_cases c6 : a0_2 ≥ 0
  ·rw [if_pos c6] at H
   have c6b0 : decide (0 ≤ a0_2) = true := decide_eq_true c6
   clear c6
   simp only [Option.some.injEq, Prod.mk.injEq] at H
   obtain ⟨rfl, rfl, rfl, rfl⟩ := H
   go_enter Tryz.func21, Tryz.ntmps21
   try go_wp2_with (first | ((with_reducible refine gate_dst (N := 1) rfl ?_); refine box_event ?hg (N := 1) ?hd (cs := #[.bool a0_0, .int .u64 a0_1, .int .i64 a0_2]) (t := 24) ?hr ?_; (case hd => rfl); (case hg => rfl); (case hr => first | (go_simp; done) | (go_simp; rfl)); intro gb309 hg w7 hbox hb; have n0_ := Aside0.mk (below_step bel_ hb); have n1_ := Aside0.mk (hbox); have n2_ := Aside0.mk ((by rw [hg]; exact (below_size bel_) : w.heap.size ≤ gb309)); have n3_ := Aside0.mk ((by rw [hg]; exact (below_size bel_) : w.heap.size ≤ gb309)); clear HB; have HB := n0_; have BK309 := n1_; have GW309 := n2_; have GE309 := n3_; clear n0_ n1_ n2_ n3_; clear hb hbox hg) | ((with_reducible refine gate_dst (N := 2) rfl ?_); refine box_event ?hg (N := 2) ?hd (cs := #[.bool false, .slice none 0 0, .int .i64 0]) (t := 43) ?hr ?_; (case hd => rfl); (case hg => rfl); (case hr => first | (go_simp; done) | (go_simp; rfl)); intro gb310 hg w8 hbox hb; have n0_ := Aside0.mk (blk_below (g := gb309) (o := .cells #[.bool a0_0, .int .u64 a0_1, .int .i64 a0_2] 24 (0, 0)) (by (with_reducible repeat (first | refine blk_drewN ?_ _ | refine blk_drew ?_ | refine blk_alloc ?_ _)); exact BK309.out) hb); have n1_ := Aside0.mk (below_step (by repeat (first | (with_reducible first | exact HB.out | apply below_alloc | apply pw_below_drewN | apply below_drew1 | refine below_set ?_ GE309.out) | exact HB.out)) hb); have n2_ := Aside0.mk (hbox); have n3_ := Aside0.mk ((by rw [hg]; exact (below_size (by repeat (first | (with_reducible first | exact HB.out | apply below_alloc | apply pw_below_drewN | apply below_drew1 | refine below_set ?_ GE309.out) | exact HB.out))) : w.heap.size ≤ gb310)); have n4_ := Aside0.mk ((by rw [hg]; exact (below_size (by repeat (first | (with_reducible first | exact HB.out | apply below_alloc | apply pw_below_drewN | apply below_drew1 | refine below_set ?_ GE309.out) | exact HB.out))) : w.heap.size ≤ gb310)); have n5_ := Aside0.mk ((by rw [hg]; exact Nat.ne_of_lt (blk_lt (g := gb309) (o := .cells #[.bool a0_0, .int .u64 a0_1, .int .i64 a0_2] 24 (0, 0)) (by (with_reducible repeat (first | refine blk_drewN ?_ _ | refine blk_drew ?_ | refine blk_alloc ?_ _)); exact BK309.out)) : gb309 ≠ gb310)); have n6_ := Aside0.mk ((by rw [hg]; exact Nat.ne_of_gt (blk_lt (g := gb309) (o := .cells #[.bool a0_0, .int .u64 a0_1, .int .i64 a0_2] 24 (0, 0)) (by (with_reducible repeat (first | refine blk_drewN ?_ _ | refine blk_drew ?_ | refine blk_alloc ?_ _)); exact BK309.out)) : gb310 ≠ gb309)); clear BK309; clear HB; have BK309 := n0_; have HB := n1_; have BK310 := n2_; have GW310 := n3_; have GE310 := n4_; have NB309_310 := n5_; have NB310_309 := n6_; clear n0_ n1_ n2_ n3_ n4_ n5_ n6_; clear hb hbox hg))
   have n0_ := Aside0.mk (blk_drew BK309.out)
   have n1_ := Aside0.mk (blk_drew BK310.out)
   have n2_ := Aside0.mk (below_drew1 HB.out)
   clear BK309
   clear BK310
   clear HB
   have BK309 := n0_
   have BK310 := n1_
   have HB := n2_
   clear n0_ n1_ n2_
   refine start_ (n := 8) (S := fun w' => w'.cell? ⟨gb309, 0, none⟩ = some (.bool a0_0) ∧ w'.cell? ⟨gb309, 1, none⟩ = some (.int .u64 a0_1) ∧ w'.cell? ⟨gb309, 2, none⟩ = some (.int .i64 a0_2)) (ds := []) #[false, false, false, false, false, false, false, false] kr_ rfl rfl ⟨(blk_cell BK309.out 0).trans rfl, (blk_cell BK309.out 1).trans rfl, (blk_cell BK309.out 2).trans rfl⟩ (fun hHeld => ?_); refine with_tabW spec_OfFix.tab1 spec_OfFix.bits1 (fun HT_ HW_ => ?_)
   generalize w8.drew = w9 at BK309 BK310 HB hHeld ⊢
   refine pure_ (i := 0) (N := some 5) (v := ?_) (a' := ?_) #[true, false, false, false, false, false, false, false] rfl rfl (any_of HT_.out kr_) (fun _ _ _ h => h) (Or.inl ⟨by rfl, ?_⟩) ?_ ?_
   rotate_left
   ·intro w'
    go_simp
    with_reducible rfl
   rotate_left
   ·simp only [Act.put, List.setIfInBounds_toArray, List.set_cons_zero, List.set_cons_succ, i64_w, i32_w]
    rfl
   refine pure_ (i := 2) (N := some 7) (v := ?_) (a' := ?_) #[true, false, true, false, false, false, false, false] rfl rfl (any_of HT_.out kr_) (fun _ _ _ h => h) (Or.inl ⟨by rfl, ?_⟩) ?_ ?_
   rotate_left
   ·intro w'
    go_simp
    with_reducible rfl
   rotate_left
   ·simp only [Act.put, List.setIfInBounds_toArray, List.set_cons_zero, List.set_cons_succ, i64_w, i32_w]
    rfl
   refine take_ (i := 1) (N := some 6) (v := ?_) (a' := ?_) #[true, true, true, false, false, false, false, false] rfl rfl (take_ofW HT_.out HW_.out kr_) (fun _ _ _ h => h) (Or.inl ⟨by rfl, ?_⟩) hHeld ?_ ?_
   rotate_left
   ·rintro w' ⟨s0, s1, s2⟩
    go_simp
    with_reducible rfl
   rotate_left
   ·simp only [Act.put, List.setIfInBounds_toArray, List.set_cons_zero, List.set_cons_succ, i64_w, i32_w]
    rfl
   refine take_ (i := 3) (N := some 8) (v := ?_) (a' := ?_) #[true, true, true, true, false, false, false, false] rfl rfl (take_ofW HT_.out HW_.out kr_) (fun _ _ _ h => h) (Or.inl ⟨by rfl, ?_⟩) hHeld ?_ ?_
   rotate_left
   ·rintro w' ⟨s0, s1, s2⟩
    go_simp
    with_reducible rfl
   rotate_left
   ·simp only [Act.put, List.setIfInBounds_toArray, List.set_cons_zero, List.set_cons_succ, i64_w, i32_w]
    rfl
   refine join_ (σ := Value × Value × Nat) 1 #[true, true, true, true, true, true, true, false] (fun s_ => [(9, s_.1), (10, .agg #[.bool t314, s_.2.1]), (4, .pointer (some ⟨s_.2.2, 0, none⟩))]) (fun s_ w' => (w'.cell? ⟨gb309, 0, none⟩ = some (.bool a0_0) ∧ w'.cell? ⟨gb309, 1, none⟩ = some (.int .u64 a0_1) ∧ w'.cell? ⟨gb309, 2, none⟩ = some (.int .i64 a0_2)) ∧ (Kd.R (Kd.int .u32) 80 w' w.heap.size (fun _ => True) s_.2.1 t315) ∧ (w'.heap[gb309]? = some (.cells #[.bool a0_0, .int .u64 a0_1, .int .i64 a0_2] 24 (0, 0))) ∧ (w'.heap[gb310]? = some (.cells #[.bool false, .slice none 0 0, .int .i64 0] 43 (0, 0))) ∧ (w'.heap[s_.2.2]? = some (.cells #[.bool false, .slice none 0 0] 32 (0, 0))) ∧ (w.heap.size ≤ s_.2.2) ∧ (w.heap.size ≤ s_.2.2) ∧ (gb309 ≠ s_.2.2) ∧ (s_.2.2 ≠ gb309) ∧ (gb310 ≠ s_.2.2) ∧ (s_.2.2 ≠ gb310) ∧ (Below w.heap.size w w')) ?_ ?_
   rotate_left
   ·intro hCont
    refine two_ (i := 4) (j := 6) (Ni := some 9) (Nj := some 4) #[true, true, true, true, true, false, false, false] #[true, true, true, true, false, false, true, false] rfl rfl rfl rfl (two_of HT_.out kr_) (by decide) (by decide) (fun K hK => ?_) (fun K hK => ?_)
    ·skip
     refine goes_ Tryz.func52 kr_ rfl #[.int .u64 a0_1] (by rfl) rfl rfl lm_ ?_
     with_reducible refine (spec_NatFrom.calls k a0_1 t311 _ A2.out).mono ?_
     rintro e w10 ⟨v312, rfl, ho0, hb⟩
     refine ⟨_, rfl, ?_⟩
     have n0_ := Aside0.mk (Kd.R_lower ho0 (below_size (by repeat (first | (with_reducible first | exact HB.out | apply below_alloc | apply pw_below_drewN | apply below_drew1 | refine below_set ?_ GE309.out | refine below_set ?_ GE310.out) | exact HB.out))))
     have n1_ := Aside0.mk (blk_below (g := gb309) (o := .cells #[.bool a0_0, .int .u64 a0_1, .int .i64 a0_2] 24 (0, 0)) (by (with_reducible repeat (first | refine blk_drewN ?_ _ | refine blk_drew ?_ | refine blk_alloc ?_ _)); exact BK309.out) hb)
     have n2_ := Aside0.mk (blk_below (g := gb310) (o := .cells #[.bool false, .slice none 0 0, .int .i64 0] 43 (0, 0)) (by (with_reducible repeat (first | refine blk_drewN ?_ _ | refine blk_drew ?_ | refine blk_alloc ?_ _)); exact BK310.out) hb)
     have n3_ := Aside0.mk (below_step (by repeat (first | (with_reducible first | exact HB.out | apply below_alloc | apply pw_below_drewN | apply below_drew1 | refine below_set ?_ GE309.out | refine below_set ?_ GE310.out) | exact HB.out)) hb)
     clear BK309
     clear BK310
     clear HB
     have HO313 := n0_
     have BK309 := n1_
     have BK310 := n2_
     have HB := n3_
     clear n0_ n1_ n2_ n3_
     (try clear hb)
     (try clear hb2)
     (try clear hk)
     (try clear hi)
     (try clear ho0)
     obtain ⟨Ao11, co11, eo11⟩ := Kd.R_slice HO313.out
     (first | subst eo11 | (injection eo11 with f1_ f2_ f3_; have f4_ := f1_.symm; have f5_ := f3_.symm; clear f1_ f2_ f3_; subst f4_; subst f5_))
     refine hK.out _ _ ⟨(blk_cell BK309.out 0).trans rfl, (blk_cell BK309.out 1).trans rfl, (blk_cell BK309.out 2).trans rfl⟩ (fun hHeld => ?_)
     clear hK K
     refine norm_ (a' := ?_) ?_ ?_
     rotate_left
     ·show Act.put _ (some 9) _ = _
      simp only [Act.put, List.setIfInBounds_toArray, List.set_cons_zero, List.set_cons_succ, i64_w, i32_w]
      rfl
     refine two_ (i := 5) (j := 6) (Ni := some 10) (Nj := some 4) #[true, true, true, true, true, true, false, false] #[true, true, true, true, true, false, true, false] rfl rfl rfl rfl (two_of HT_.out kr_) (by decide) (by decide) (fun K hK => ?_) (fun K hK => ?_)
     ·skip
      refine goes_ Tryz.func39 kr_ rfl #[.bool a0_0, .slice Ao11 t311.length co11] (by rfl) rfl rfl lm_ ?_
      with_reducible refine (spec_wholeOf.calls a0_0 (fun k_ => some k_ = (.slice Ao11 t311.length co11 : Value).ownBlock) (.slice Ao11 t311.length co11) t311 t314 t315 w _ ?side1 ?side2 A3.out).mono ?_
      (case side1 => repeat (first | (with_reducible first | exact HB.out | apply below_alloc | apply pw_below_drewN | apply below_drew1 | refine below_set ?_ GE309.out | refine below_set ?_ GE310.out) | exact HB.out))
      (case side2 => exact Kd.R_tight rfl HO313.out)
      rintro e w12 ⟨v316, rfl, ho0, hb, hkp⟩
      refine ⟨_, rfl, ?_⟩
      have n0_ := Aside0.mk (blk_kept (by (with_reducible repeat (first | refine blk_drewN ?_ _ | refine blk_drew ?_ | refine blk_alloc ?_ _)); exact BK309.out) hkp (fun hs_ => (fun e_ => (Kd.R_ne HO313.out BK309.out (by decide)) e_) hs_))
      have n1_ := Aside0.mk (blk_kept (by (with_reducible repeat (first | refine blk_drewN ?_ _ | refine blk_drew ?_ | refine blk_alloc ?_ _)); exact BK310.out) hkp (fun hs_ => (fun e_ => (Kd.R_ne HO313.out BK310.out (by decide)) e_) hs_))
      have n2_ := Aside0.mk (Kd.R_mono (ok' := fun k_ => True) ho0 (fun k_ hk_ => trivial))
      have n3_ := Aside0.mk (hb)
      clear BK309
      clear BK310
      clear HB
      clear HO313
      have BK309 := n0_
      have BK310 := n1_
      have HO317 := n2_
      have HB := n3_
      clear n0_ n1_ n2_ n3_
      (try clear hb)
      (try clear hkp)
      (try clear ho0)
      refine hK.out _ _ ⟨(blk_cell BK309.out 0).trans rfl, (blk_cell BK309.out 1).trans rfl, (blk_cell BK309.out 2).trans rfl⟩ (fun hHeld => ?_)
      clear hK K
      refine norm_ (a' := ?_) ?_ ?_
      rotate_left
      ·show Act.put _ (some 10) _ = _
       simp only [Act.put, List.setIfInBounds_toArray, List.set_cons_zero, List.set_cons_succ, i64_w, i32_w]
       rfl
      refine one_ (i := 6) (N := some 4) #[true, true, true, true, true, true, true, false] rfl rfl (one_of HT_.out kr_) (by decide) (fun K hK => ?_)
      refine box_step ?hg (N := 4) ?hd (cs := #[.bool false, .slice none 0 0]) (t := 32) ?hr ?_; (case hd => rfl); (case hg => rfl); (case hr => first | (go_simp; done) | (go_simp; rfl))
      intro gb318 hg w13 hbox hb
      have n0_ := Aside0.mk (Kd.R_below (rr_ HO317.out) hb)
      have n1_ := Aside0.mk (blk_below (g := gb309) (o := .cells #[.bool a0_0, .int .u64 a0_1, .int .i64 a0_2] 24 (0, 0)) (by (with_reducible repeat (first | refine blk_drewN ?_ _ | refine blk_drew ?_ | refine blk_alloc ?_ _)); exact BK309.out) hb)
      have n2_ := Aside0.mk (blk_below (g := gb310) (o := .cells #[.bool false, .slice none 0 0, .int .i64 0] 43 (0, 0)) (by (with_reducible repeat (first | refine blk_drewN ?_ _ | refine blk_drew ?_ | refine blk_alloc ?_ _)); exact BK310.out) hb)
      have n3_ := Aside0.mk (below_step (by repeat (first | (with_reducible first | exact HB.out | apply below_alloc | apply pw_below_drewN | apply below_drew1 | refine below_set ?_ GE309.out | refine below_set ?_ GE310.out) | exact HB.out)) hb)
      have n4_ := Aside0.mk (hbox)
      have n5_ := Aside0.mk ((by rw [hg]; exact (below_size (by repeat (first | (with_reducible first | exact HB.out | apply below_alloc | apply pw_below_drewN | apply below_drew1 | refine below_set ?_ GE309.out | refine below_set ?_ GE310.out) | exact HB.out))) : w.heap.size ≤ gb318))
      have n6_ := Aside0.mk ((by rw [hg]; exact (below_size (by repeat (first | (with_reducible first | exact HB.out | apply below_alloc | apply pw_below_drewN | apply below_drew1 | refine below_set ?_ GE309.out | refine below_set ?_ GE310.out) | exact HB.out))) : w.heap.size ≤ gb318))
      have n7_ := Aside0.mk ((by rw [hg]; exact Nat.ne_of_lt (blk_lt (g := gb309) (o := .cells #[.bool a0_0, .int .u64 a0_1, .int .i64 a0_2] 24 (0, 0)) (by (with_reducible repeat (first | refine blk_drewN ?_ _ | refine blk_drew ?_ | refine blk_alloc ?_ _)); exact BK309.out)) : gb309 ≠ gb318))
      have n8_ := Aside0.mk ((by rw [hg]; exact Nat.ne_of_gt (blk_lt (g := gb309) (o := .cells #[.bool a0_0, .int .u64 a0_1, .int .i64 a0_2] 24 (0, 0)) (by (with_reducible repeat (first | refine blk_drewN ?_ _ | refine blk_drew ?_ | refine blk_alloc ?_ _)); exact BK309.out)) : gb318 ≠ gb309))
      have n9_ := Aside0.mk ((by rw [hg]; exact Nat.ne_of_lt (blk_lt (g := gb310) (o := .cells #[.bool false, .slice none 0 0, .int .i64 0] 43 (0, 0)) (by (with_reducible repeat (first | refine blk_drewN ?_ _ | refine blk_drew ?_ | refine blk_alloc ?_ _)); exact BK310.out)) : gb310 ≠ gb318))
      have n10_ := Aside0.mk ((by rw [hg]; exact Nat.ne_of_gt (blk_lt (g := gb310) (o := .cells #[.bool false, .slice none 0 0, .int .i64 0] 43 (0, 0)) (by (with_reducible repeat (first | refine blk_drewN ?_ _ | refine blk_drew ?_ | refine blk_alloc ?_ _)); exact BK310.out)) : gb318 ≠ gb310))
      clear HO317
      clear BK309
      clear BK310
      clear HB
      have HO317 := n0_
      have BK309 := n1_
      have BK310 := n2_
      have HB := n3_
      have BK318 := n4_
      have GW318 := n5_
      have GE318 := n6_
      have NB309_318 := n7_
      have NB318_309 := n8_
      have NB310_318 := n9_
      have NB318_310 := n10_
      clear n0_ n1_ n2_ n3_ n4_ n5_ n6_ n7_ n8_ n9_ n10_
      clear hb hbox hg
      refine hK.out _ _ ⟨(blk_cell BK309.out 0).trans rfl, (blk_cell BK309.out 1).trans rfl, (blk_cell BK309.out 2).trans rfl⟩ (fun hHeld => ?_)
      clear hK K
      refine norm_ (a' := ?_) ?_ ?_
      rotate_left
      ·show Act.put _ (some 4) _ = _
       simp only [Act.put, List.setIfInBounds_toArray, List.set_cons_zero, List.set_cons_succ, i64_w, i32_w]
       rfl
      exact norm_ (by simp only [putAll, Act.put, List.setIfInBounds_toArray, List.set_cons_zero, List.set_cons_succ]) (hCont (.slice Ao11 t311.length co11, v316, gb318) _ ⟨hHeld, (rr_ HO317.out), (by (with_reducible repeat (first | refine blk_drewN ?_ _ | refine blk_drew ?_ | refine blk_alloc ?_ _)); exact BK309.out), (by (with_reducible repeat (first | refine blk_drewN ?_ _ | refine blk_drew ?_ | refine blk_alloc ?_ _)); exact BK310.out), (by (with_reducible repeat (first | refine blk_drewN ?_ _ | refine blk_drew ?_ | refine blk_alloc ?_ _)); exact BK318.out), GW318.out, GE318.out, NB309_318.out, NB318_309.out, NB310_318.out, NB318_310.out, (by repeat (first | (with_reducible first | exact HB.out | apply below_alloc | apply pw_below_drewN | apply below_drew1 | refine below_set ?_ GE309.out | refine below_set ?_ GE310.out | refine below_set ?_ GE318.out) | exact HB.out))⟩)
     ·skip
      refine box_step ?hg (N := 4) ?hd (cs := #[.bool false, .slice none 0 0]) (t := 32) ?hr ?_; (case hd => rfl); (case hg => rfl); (case hr => first | (go_simp; done) | (go_simp; rfl))
      intro gb318 hg w11 hbox hb
      have n0_ := Aside0.mk (Kd.R_below (rr_ HO313.out) hb)
      have n1_ := Aside0.mk (blk_below (g := gb309) (o := .cells #[.bool a0_0, .int .u64 a0_1, .int .i64 a0_2] 24 (0, 0)) (by (with_reducible repeat (first | refine blk_drewN ?_ _ | refine blk_drew ?_ | refine blk_alloc ?_ _)); exact BK309.out) hb)
      have n2_ := Aside0.mk (blk_below (g := gb310) (o := .cells #[.bool false, .slice none 0 0, .int .i64 0] 43 (0, 0)) (by (with_reducible repeat (first | refine blk_drewN ?_ _ | refine blk_drew ?_ | refine blk_alloc ?_ _)); exact BK310.out) hb)
      have n3_ := Aside0.mk (below_step (by repeat (first | (with_reducible first | exact HB.out | apply below_alloc | apply pw_below_drewN | apply below_drew1 | refine below_set ?_ GE309.out | refine below_set ?_ GE310.out) | exact HB.out)) hb)
      have n4_ := Aside0.mk (hbox)
      have n5_ := Aside0.mk ((by rw [hg]; exact (below_size (by repeat (first | (with_reducible first | exact HB.out | apply below_alloc | apply pw_below_drewN | apply below_drew1 | refine below_set ?_ GE309.out | refine below_set ?_ GE310.out) | exact HB.out))) : w.heap.size ≤ gb318))
      have n6_ := Aside0.mk ((by rw [hg]; exact (below_size (by repeat (first | (with_reducible first | exact HB.out | apply below_alloc | apply pw_below_drewN | apply below_drew1 | refine below_set ?_ GE309.out | refine below_set ?_ GE310.out) | exact HB.out))) : w.heap.size ≤ gb318))
      have n7_ := Aside0.mk ((by rw [hg]; exact Nat.ne_of_lt (blk_lt (g := gb309) (o := .cells #[.bool a0_0, .int .u64 a0_1, .int .i64 a0_2] 24 (0, 0)) (by (with_reducible repeat (first | refine blk_drewN ?_ _ | refine blk_drew ?_ | refine blk_alloc ?_ _)); exact BK309.out)) : gb309 ≠ gb318))
      have n8_ := Aside0.mk ((by rw [hg]; exact Nat.ne_of_gt (blk_lt (g := gb309) (o := .cells #[.bool a0_0, .int .u64 a0_1, .int .i64 a0_2] 24 (0, 0)) (by (with_reducible repeat (first | refine blk_drewN ?_ _ | refine blk_drew ?_ | refine blk_alloc ?_ _)); exact BK309.out)) : gb318 ≠ gb309))
      have n9_ := Aside0.mk ((by rw [hg]; exact Nat.ne_of_lt (blk_lt (g := gb310) (o := .cells #[.bool false, .slice none 0 0, .int .i64 0] 43 (0, 0)) (by (with_reducible repeat (first | refine blk_drewN ?_ _ | refine blk_drew ?_ | refine blk_alloc ?_ _)); exact BK310.out)) : gb310 ≠ gb318))
      have n10_ := Aside0.mk ((by rw [hg]; exact Nat.ne_of_gt (blk_lt (g := gb310) (o := .cells #[.bool false, .slice none 0 0, .int .i64 0] 43 (0, 0)) (by (with_reducible repeat (first | refine blk_drewN ?_ _ | refine blk_drew ?_ | refine blk_alloc ?_ _)); exact BK310.out)) : gb318 ≠ gb310))
      clear HO313
      clear BK309
      clear BK310
      clear HB
      have HO313 := n0_
      have BK309 := n1_
      have BK310 := n2_
      have HB := n3_
      have BK318 := n4_
      have GW318 := n5_
      have GE318 := n6_
      have NB309_318 := n7_
      have NB318_309 := n8_
      have NB310_318 := n9_
      have NB318_310 := n10_
      clear n0_ n1_ n2_ n3_ n4_ n5_ n6_ n7_ n8_ n9_ n10_
      clear hb hbox hg
      obtain ⟨Ao12, co12, eo12⟩ := Kd.R_slice HO313.out
      (first | subst eo12 | (injection eo12 with f1_ f2_ f3_; have f4_ := f1_.symm; have f5_ := f3_.symm; clear f1_ f2_ f3_; subst f4_; subst f5_))
      refine hK.out _ _ ⟨(blk_cell BK309.out 0).trans rfl, (blk_cell BK309.out 1).trans rfl, (blk_cell BK309.out 2).trans rfl⟩ (fun hHeld => ?_)
      clear hK K
      refine norm_ (a' := ?_) ?_ ?_
      rotate_left
      ·show Act.put _ (some 4) _ = _
       simp only [Act.put, List.setIfInBounds_toArray, List.set_cons_zero, List.set_cons_succ, i64_w, i32_w]
       rfl
      refine one_ (i := 5) (N := some 10) #[true, true, true, true, true, true, true, false] rfl rfl (one_of HT_.out kr_) (by decide) (fun K hK => ?_)
      refine goes_ Tryz.func39 kr_ rfl #[.bool a0_0, .slice Ao12 t311.length co12] (by rfl) rfl rfl lm_ ?_
      with_reducible refine (spec_wholeOf.calls a0_0 (fun k_ => some k_ = (.slice Ao12 t311.length co12 : Value).ownBlock) (.slice Ao12 t311.length co12) t311 t314 t315 w _ ?side1 ?side2 A3.out).mono ?_
      (case side1 => repeat (first | (with_reducible first | exact HB.out | apply below_alloc | apply pw_below_drewN | apply below_drew1 | refine below_set ?_ GE309.out | refine below_set ?_ GE310.out | refine below_set ?_ GE318.out) | exact HB.out))
      (case side2 => exact Kd.R_tight rfl HO313.out)
      rintro e w13 ⟨v316, rfl, ho0, hb, hkp⟩
      refine ⟨_, rfl, ?_⟩
      have n0_ := Aside0.mk (blk_kept (by (with_reducible repeat (first | refine blk_drewN ?_ _ | refine blk_drew ?_ | refine blk_alloc ?_ _)); exact BK309.out) hkp (fun hs_ => (fun e_ => (Kd.R_ne HO313.out BK309.out (by decide)) e_) hs_))
      have n1_ := Aside0.mk (blk_kept (by (with_reducible repeat (first | refine blk_drewN ?_ _ | refine blk_drew ?_ | refine blk_alloc ?_ _)); exact BK310.out) hkp (fun hs_ => (fun e_ => (Kd.R_ne HO313.out BK310.out (by decide)) e_) hs_))
      have n2_ := Aside0.mk (blk_kept (by (with_reducible repeat (first | refine blk_drewN ?_ _ | refine blk_drew ?_ | refine blk_alloc ?_ _)); exact BK318.out) hkp (fun hs_ => (fun e_ => (Kd.R_ne HO313.out BK318.out (by decide)) e_) hs_))
      have n3_ := Aside0.mk (Kd.R_mono (ok' := fun k_ => True) ho0 (fun k_ hk_ => trivial))
      have n4_ := Aside0.mk (hb)
      clear BK309
      clear BK310
      clear BK318
      clear HB
      clear HO313
      have BK309 := n0_
      have BK310 := n1_
      have BK318 := n2_
      have HO317 := n3_
      have HB := n4_
      clear n0_ n1_ n2_ n3_ n4_
      (try clear hb)
      (try clear hkp)
      (try clear ho0)
      refine hK.out _ _ ⟨(blk_cell BK309.out 0).trans rfl, (blk_cell BK309.out 1).trans rfl, (blk_cell BK309.out 2).trans rfl⟩ (fun hHeld => ?_)
      clear hK K
      refine norm_ (a' := ?_) ?_ ?_
      rotate_left
      ·show Act.put _ (some 10) _ = _
       simp only [Act.put, List.setIfInBounds_toArray, List.set_cons_zero, List.set_cons_succ, i64_w, i32_w]
       rfl
      exact norm_ (by simp only [putAll, Act.put, List.setIfInBounds_toArray, List.set_cons_zero, List.set_cons_succ]) (hCont (.slice Ao12 t311.length co12, v316, gb318) _ ⟨hHeld, (rr_ HO317.out), (by (with_reducible repeat (first | refine blk_drewN ?_ _ | refine blk_drew ?_ | refine blk_alloc ?_ _)); exact BK309.out), (by (with_reducible repeat (first | refine blk_drewN ?_ _ | refine blk_drew ?_ | refine blk_alloc ?_ _)); exact BK310.out), (by (with_reducible repeat (first | refine blk_drewN ?_ _ | refine blk_drew ?_ | refine blk_alloc ?_ _)); exact BK318.out), GW318.out, GE318.out, NB309_318.out, NB318_309.out, NB310_318.out, NB318_310.out, (by repeat (first | (with_reducible first | exact HB.out | apply below_alloc | apply pw_below_drewN | apply below_drew1 | refine below_set ?_ GE309.out | refine below_set ?_ GE310.out | refine below_set ?_ GE318.out) | exact HB.out))⟩)
    ·skip
     refine box_step ?hg (N := 4) ?hd (cs := #[.bool false, .slice none 0 0]) (t := 32) ?hr ?_; (case hd => rfl); (case hg => rfl); (case hr => first | (go_simp; done) | (go_simp; rfl))
     intro gb318 hg w10 hbox hb
     have n0_ := Aside0.mk (blk_below (g := gb309) (o := .cells #[.bool a0_0, .int .u64 a0_1, .int .i64 a0_2] 24 (0, 0)) (by (with_reducible repeat (first | refine blk_drewN ?_ _ | refine blk_drew ?_ | refine blk_alloc ?_ _)); exact BK309.out) hb)
     have n1_ := Aside0.mk (blk_below (g := gb310) (o := .cells #[.bool false, .slice none 0 0, .int .i64 0] 43 (0, 0)) (by (with_reducible repeat (first | refine blk_drewN ?_ _ | refine blk_drew ?_ | refine blk_alloc ?_ _)); exact BK310.out) hb)
     have n2_ := Aside0.mk (below_step (by repeat (first | (with_reducible first | exact HB.out | apply below_alloc | apply pw_below_drewN | apply below_drew1 | refine below_set ?_ GE309.out | refine below_set ?_ GE310.out) | exact HB.out)) hb)
     have n3_ := Aside0.mk (hbox)
     have n4_ := Aside0.mk ((by rw [hg]; exact (below_size (by repeat (first | (with_reducible first | exact HB.out | apply below_alloc | apply pw_below_drewN | apply below_drew1 | refine below_set ?_ GE309.out | refine below_set ?_ GE310.out) | exact HB.out))) : w.heap.size ≤ gb318))
     have n5_ := Aside0.mk ((by rw [hg]; exact (below_size (by repeat (first | (with_reducible first | exact HB.out | apply below_alloc | apply pw_below_drewN | apply below_drew1 | refine below_set ?_ GE309.out | refine below_set ?_ GE310.out) | exact HB.out))) : w.heap.size ≤ gb318))
     have n6_ := Aside0.mk ((by rw [hg]; exact Nat.ne_of_lt (blk_lt (g := gb309) (o := .cells #[.bool a0_0, .int .u64 a0_1, .int .i64 a0_2] 24 (0, 0)) (by (with_reducible repeat (first | refine blk_drewN ?_ _ | refine blk_drew ?_ | refine blk_alloc ?_ _)); exact BK309.out)) : gb309 ≠ gb318))
     have n7_ := Aside0.mk ((by rw [hg]; exact Nat.ne_of_gt (blk_lt (g := gb309) (o := .cells #[.bool a0_0, .int .u64 a0_1, .int .i64 a0_2] 24 (0, 0)) (by (with_reducible repeat (first | refine blk_drewN ?_ _ | refine blk_drew ?_ | refine blk_alloc ?_ _)); exact BK309.out)) : gb318 ≠ gb309))
     have n8_ := Aside0.mk ((by rw [hg]; exact Nat.ne_of_lt (blk_lt (g := gb310) (o := .cells #[.bool false, .slice none 0 0, .int .i64 0] 43 (0, 0)) (by (with_reducible repeat (first | refine blk_drewN ?_ _ | refine blk_drew ?_ | refine blk_alloc ?_ _)); exact BK310.out)) : gb310 ≠ gb318))
     have n9_ := Aside0.mk ((by rw [hg]; exact Nat.ne_of_gt (blk_lt (g := gb310) (o := .cells #[.bool false, .slice none 0 0, .int .i64 0] 43 (0, 0)) (by (with_reducible repeat (first | refine blk_drewN ?_ _ | refine blk_drew ?_ | refine blk_alloc ?_ _)); exact BK310.out)) : gb318 ≠ gb310))
     clear BK309
     clear BK310
     clear HB
     have BK309 := n0_
     have BK310 := n1_
     have HB := n2_
     have BK318 := n3_
     have GW318 := n4_
     have GE318 := n5_
     have NB309_318 := n6_
     have NB318_309 := n7_
     have NB310_318 := n8_
     have NB318_310 := n9_
     clear n0_ n1_ n2_ n3_ n4_ n5_ n6_ n7_ n8_ n9_
     clear hb hbox hg
     refine hK.out _ _ ⟨(blk_cell BK309.out 0).trans rfl, (blk_cell BK309.out 1).trans rfl, (blk_cell BK309.out 2).trans rfl⟩ (fun hHeld => ?_)
     clear hK K
     refine norm_ (a' := ?_) ?_ ?_
     rotate_left
     ·show Act.put _ (some 4) _ = _
      simp only [Act.put, List.setIfInBounds_toArray, List.set_cons_zero, List.set_cons_succ, i64_w, i32_w]
      rfl
     refine one_ (i := 4) (N := some 9) #[true, true, true, true, true, false, true, false] rfl rfl (one_of HT_.out kr_) (by decide) (fun K hK => ?_)
     refine goes_ Tryz.func52 kr_ rfl #[.int .u64 a0_1] (by rfl) rfl rfl lm_ ?_
     with_reducible refine (spec_NatFrom.calls k a0_1 t311 _ A2.out).mono ?_
     rintro e w11 ⟨v312, rfl, ho0, hb⟩
     refine ⟨_, rfl, ?_⟩
     have n0_ := Aside0.mk (Kd.R_lower ho0 (below_size (by repeat (first | (with_reducible first | exact HB.out | apply below_alloc | apply pw_below_drewN | apply below_drew1 | refine below_set ?_ GE309.out | refine below_set ?_ GE310.out | refine below_set ?_ GE318.out) | exact HB.out))))
     have n1_ := Aside0.mk (blk_below (g := gb309) (o := .cells #[.bool a0_0, .int .u64 a0_1, .int .i64 a0_2] 24 (0, 0)) (by (with_reducible repeat (first | refine blk_drewN ?_ _ | refine blk_drew ?_ | refine blk_alloc ?_ _)); exact BK309.out) hb)
     have n2_ := Aside0.mk (blk_below (g := gb310) (o := .cells #[.bool false, .slice none 0 0, .int .i64 0] 43 (0, 0)) (by (with_reducible repeat (first | refine blk_drewN ?_ _ | refine blk_drew ?_ | refine blk_alloc ?_ _)); exact BK310.out) hb)
     have n3_ := Aside0.mk (blk_below (g := gb318) (o := .cells #[.bool false, .slice none 0 0] 32 (0, 0)) (by (with_reducible repeat (first | refine blk_drewN ?_ _ | refine blk_drew ?_ | refine blk_alloc ?_ _)); exact BK318.out) hb)
     have n4_ := Aside0.mk (below_step (by repeat (first | (with_reducible first | exact HB.out | apply below_alloc | apply pw_below_drewN | apply below_drew1 | refine below_set ?_ GE309.out | refine below_set ?_ GE310.out | refine below_set ?_ GE318.out) | exact HB.out)) hb)
     clear BK309
     clear BK310
     clear BK318
     clear HB
     have HO313 := n0_
     have BK309 := n1_
     have BK310 := n2_
     have BK318 := n3_
     have HB := n4_
     clear n0_ n1_ n2_ n3_ n4_
     (try clear hb)
     (try clear hb2)
     (try clear hk)
     (try clear hi)
     (try clear ho0)
     obtain ⟨Ao12, co12, eo12⟩ := Kd.R_slice HO313.out
     (first | subst eo12 | (injection eo12 with f1_ f2_ f3_; have f4_ := f1_.symm; have f5_ := f3_.symm; clear f1_ f2_ f3_; subst f4_; subst f5_))
     refine hK.out _ _ ⟨(blk_cell BK309.out 0).trans rfl, (blk_cell BK309.out 1).trans rfl, (blk_cell BK309.out 2).trans rfl⟩ (fun hHeld => ?_)
     clear hK K
     refine norm_ (a' := ?_) ?_ ?_
     rotate_left
     ·show Act.put _ (some 9) _ = _
      simp only [Act.put, List.setIfInBounds_toArray, List.set_cons_zero, List.set_cons_succ, i64_w, i32_w]
      rfl
     refine one_ (i := 5) (N := some 10) #[true, true, true, true, true, true, true, false] rfl rfl (one_of HT_.out kr_) (by decide) (fun K hK => ?_)
     refine goes_ Tryz.func39 kr_ rfl #[.bool a0_0, .slice Ao12 t311.length co12] (by rfl) rfl rfl lm_ ?_
     with_reducible refine (spec_wholeOf.calls a0_0 (fun k_ => some k_ = (.slice Ao12 t311.length co12 : Value).ownBlock) (.slice Ao12 t311.length co12) t311 t314 t315 w _ ?side1 ?side2 A3.out).mono ?_
     (case side1 => repeat (first | (with_reducible first | exact HB.out | apply below_alloc | apply pw_below_drewN | apply below_drew1 | refine below_set ?_ GE309.out | refine below_set ?_ GE310.out | refine below_set ?_ GE318.out) | exact HB.out))
     (case side2 => exact Kd.R_tight rfl HO313.out)
     rintro e w13 ⟨v316, rfl, ho0, hb, hkp⟩
     refine ⟨_, rfl, ?_⟩
     have n0_ := Aside0.mk (blk_kept (by (with_reducible repeat (first | refine blk_drewN ?_ _ | refine blk_drew ?_ | refine blk_alloc ?_ _)); exact BK309.out) hkp (fun hs_ => (fun e_ => (Kd.R_ne HO313.out BK309.out (by decide)) e_) hs_))
     have n1_ := Aside0.mk (blk_kept (by (with_reducible repeat (first | refine blk_drewN ?_ _ | refine blk_drew ?_ | refine blk_alloc ?_ _)); exact BK310.out) hkp (fun hs_ => (fun e_ => (Kd.R_ne HO313.out BK310.out (by decide)) e_) hs_))
     have n2_ := Aside0.mk (blk_kept (by (with_reducible repeat (first | refine blk_drewN ?_ _ | refine blk_drew ?_ | refine blk_alloc ?_ _)); exact BK318.out) hkp (fun hs_ => (fun e_ => (Kd.R_ne HO313.out BK318.out (by decide)) e_) hs_))
     have n3_ := Aside0.mk (Kd.R_mono (ok' := fun k_ => True) ho0 (fun k_ hk_ => trivial))
     have n4_ := Aside0.mk (hb)
     clear BK309
     clear BK310
     clear BK318
     clear HB
     clear HO313
     have BK309 := n0_
     have BK310 := n1_
     have BK318 := n2_
     have HO317 := n3_
     have HB := n4_
     clear n0_ n1_ n2_ n3_ n4_
     (try clear hb)
     (try clear hkp)
     (try clear ho0)
     refine hK.out _ _ ⟨(blk_cell BK309.out 0).trans rfl, (blk_cell BK309.out 1).trans rfl, (blk_cell BK309.out 2).trans rfl⟩ (fun hHeld => ?_)
     clear hK K
     refine norm_ (a' := ?_) ?_ ?_
     rotate_left
     ·show Act.put _ (some 10) _ = _
      simp only [Act.put, List.setIfInBounds_toArray, List.set_cons_zero, List.set_cons_succ, i64_w, i32_w]
      rfl
     exact norm_ (by simp only [putAll, Act.put, List.setIfInBounds_toArray, List.set_cons_zero, List.set_cons_succ]) (hCont (.slice Ao12 t311.length co12, v316, gb318) _ ⟨hHeld, (rr_ HO317.out), (by (with_reducible repeat (first | refine blk_drewN ?_ _ | refine blk_drew ?_ | refine blk_alloc ?_ _)); exact BK309.out), (by (with_reducible repeat (first | refine blk_drewN ?_ _ | refine blk_drew ?_ | refine blk_alloc ?_ _)); exact BK310.out), (by (with_reducible repeat (first | refine blk_drewN ?_ _ | refine blk_drew ?_ | refine blk_alloc ?_ _)); exact BK318.out), GW318.out, GE318.out, NB309_318.out, NB318_309.out, NB310_318.out, NB318_310.out, (by repeat (first | (with_reducible first | exact HB.out | apply below_alloc | apply pw_below_drewN | apply below_drew1 | refine below_set ?_ GE309.out | refine below_set ?_ GE310.out | refine below_set ?_ GE318.out) | exact HB.out))⟩)
   rintro ⟨v312, v316, gb318⟩ w14 ⟨hS_, h0_, h1_, h2_, h3_, h4_, h5_, h6_, h7_, h8_, h9_, h10_⟩
   have n0_ : Aside0 (Kd.R (Kd.int .u32) 80 w14 w.heap.size (fun _ => True) v316 t315) := ⟨h0_⟩
   have n1_ : Aside0 (w14.heap[gb309]? = some (.cells #[.bool a0_0, .int .u64 a0_1, .int .i64 a0_2] 24 (0, 0))) := ⟨h1_⟩
   have n2_ : Aside0 (w14.heap[gb310]? = some (.cells #[.bool false, .slice none 0 0, .int .i64 0] 43 (0, 0))) := ⟨h2_⟩
   have n3_ : Aside0 (w14.heap[gb318]? = some (.cells #[.bool false, .slice none 0 0] 32 (0, 0))) := ⟨h3_⟩
   have n4_ : Aside0 (w.heap.size ≤ gb318) := ⟨h4_⟩
   have n5_ : Aside0 (w.heap.size ≤ gb318) := ⟨h5_⟩
   have n6_ : Aside0 (gb309 ≠ gb318) := ⟨h6_⟩
   have n7_ : Aside0 (gb318 ≠ gb309) := ⟨h7_⟩
   have n8_ : Aside0 (gb310 ≠ gb318) := ⟨h8_⟩
   have n9_ : Aside0 (gb318 ≠ gb310) := ⟨h9_⟩
   have n10_ : Aside0 (Below w.heap.size w w14) := ⟨h10_⟩
   clear BK309
   clear BK310
   clear HB
   clear h0_ h1_ h2_ h3_ h4_ h5_ h6_ h7_ h8_ h9_ h10_
   have HO317 := n0_
   have BK309 := n1_
   have BK310 := n2_
   have BK318 := n3_
   have GW318 := n4_
   have GE318 := n5_
   have NB309_318 := n6_
   have NB318_309 := n7_
   have NB310_318 := n8_
   have NB318_310 := n9_
   have HB := n10_
   clear n0_ n1_ n2_ n3_ n4_ n5_ n6_ n7_ n8_ n9_ n10_
   have hHeld : w14.cell? ⟨gb309, 0, none⟩ = some (.bool a0_0) ∧ w14.cell? ⟨gb309, 1, none⟩ = some (.int .u64 a0_1) ∧ w14.cell? ⟨gb309, 2, none⟩ = some (.int .i64 a0_2) := hS_
   obtain ⟨Ao16, co16, eo16⟩ := Kd.R_slice HO317.out
   (first | subst eo16 | (injection eo16 with f1_ f2_ f3_; have f4_ := f1_.symm; have f5_ := f3_.symm; clear f1_ f2_ f3_; subst f4_; subst f5_))
   refine norm_ (a' := ?_) ?_ ?_
   rotate_left
   ·simp only [putAll, Act.put, List.setIfInBounds_toArray, List.set_cons_zero, List.set_cons_succ]
    rfl
   refine one_ (i := 7) (N := none) #[true, true, true, true, true, true, true, true] rfl rfl (one_of HT_.out kr_) (by decide) (fun K hK => ?_)
   have hs15 : w14.cell? ⟨gb318, 0, none⟩ = some (.bool false) := (blk_cell BK318.out 0).trans rfl
   have hfs15 := blk_frozen BK318.out 0
   have hns15_0 := NB309_318.out
   have hns15_1 := NB310_318.out
   have hms15_0 := NB318_309.out
   have hms15_1 := NB318_310.out
   have hs17 : w14.cell? ⟨gb318, 1, none⟩ = some (.slice none 0 0) := (blk_cell BK318.out 1).trans rfl
   have hfs17 := blk_frozen BK318.out 1
   have hns17_0 := NB309_318.out
   have hns17_1 := NB310_318.out
   have hms17_0 := NB318_309.out
   have hms17_1 := NB318_310.out
   refine skip_ (w1 := ?_) (by rfl) rfl ?_ ?_
   rotate_left
   ·go_simp
    rfl
   refine hK.out _ _ ⟨((cell_far (p := ⟨gb318, _, none⟩) NB309_318.out _).trans (((cell_far (p := ⟨gb318, _, none⟩) NB309_318.out _).trans (hHeld.1)))), ((cell_far (p := ⟨gb318, _, none⟩) NB309_318.out _).trans (((cell_far (p := ⟨gb318, _, none⟩) NB309_318.out _).trans (hHeld.2.1)))), ((cell_far (p := ⟨gb318, _, none⟩) NB309_318.out _).trans (((cell_far (p := ⟨gb318, _, none⟩) NB309_318.out _).trans (hHeld.2.2))))⟩ (fun hHeld => ?_)
   clear hK K
   refine done_ (done_of HT_.out kr_) ?_
   try go_wp2
   have n0_ : Aside0 (Kd.R (Kd.int .u32) 80 ((w14.setCell ⟨gb318, 0, none⟩ (.bool t314)).setCell ⟨gb318, 1, none⟩ (.slice Ao16 t315.length co16)) w.heap.size (fun _ => True) (.slice Ao16 t315.length co16) t315) := ⟨by (with_reducible repeat (first | apply Kd.R_alloc | apply Kd.R_drewN | apply Kd.R_drew)); exact Kd.R_mono (Kd.R_far (p := ⟨gb318, 1, none⟩) (Kd.R_far (p := ⟨gb318, 0, none⟩) (Kd.R_types HO317.out BK318.out (by decide)) (fun _ hk => hk.2) (.bool t314)) (fun _ hk => hk.2) (.slice Ao16 t315.length co16)) (fun _ hk => trivial)⟩
   have n1_ : Aside0 (((w14.setCell ⟨gb318, 0, none⟩ (.bool t314)).setCell ⟨gb318, 1, none⟩ (.slice Ao16 t315.length co16)).heap[gb309]? = some (.cells #[.bool a0_0, .int .u64 a0_1, .int .i64 a0_2] 24 (0, 0))) := ⟨by (with_reducible repeat (first | refine blk_drewN ?_ _ | refine blk_drew ?_ | refine blk_alloc ?_ _)); refine blk_far ?_ NB309_318.out _; (with_reducible repeat (first | refine blk_drewN ?_ _ | refine blk_drew ?_ | refine blk_alloc ?_ _)); refine blk_far ?_ NB309_318.out _; (with_reducible repeat (first | refine blk_drewN ?_ _ | refine blk_drew ?_ | refine blk_alloc ?_ _)); exact BK309.out⟩
   have n2_ : Aside0 (((w14.setCell ⟨gb318, 0, none⟩ (.bool t314)).setCell ⟨gb318, 1, none⟩ (.slice Ao16 t315.length co16)).heap[gb310]? = some (.cells #[.bool false, .slice none 0 0, .int .i64 0] 43 (0, 0))) := ⟨by (with_reducible repeat (first | refine blk_drewN ?_ _ | refine blk_drew ?_ | refine blk_alloc ?_ _)); refine blk_far ?_ NB310_318.out _; (with_reducible repeat (first | refine blk_drewN ?_ _ | refine blk_drew ?_ | refine blk_alloc ?_ _)); refine blk_far ?_ NB310_318.out _; (with_reducible repeat (first | refine blk_drewN ?_ _ | refine blk_drew ?_ | refine blk_alloc ?_ _)); exact BK310.out⟩
   have n3_ : Aside0 (((w14.setCell ⟨gb318, 0, none⟩ (.bool t314)).setCell ⟨gb318, 1, none⟩ (.slice Ao16 t315.length co16)).heap[gb318]? = some (.cells #[.bool t314, .slice Ao16 t315.length co16] 32 (0, 0))) := ⟨by (with_reducible repeat (first | refine blk_drewN ?_ _ | refine blk_drew ?_ | refine blk_alloc ?_ _)); refine blk_put (cs := #[.bool t314, .slice none 0 0]) ?_ 1 _ rfl; (with_reducible repeat (first | refine blk_drewN ?_ _ | refine blk_drew ?_ | refine blk_alloc ?_ _)); refine blk_put (cs := #[.bool false, .slice none 0 0]) ?_ 0 _ rfl; (with_reducible repeat (first | refine blk_drewN ?_ _ | refine blk_drew ?_ | refine blk_alloc ?_ _)); exact BK318.out⟩
   have n4_ : Aside0 (Below w.heap.size w ((w14.setCell ⟨gb318, 0, none⟩ (.bool t314)).setCell ⟨gb318, 1, none⟩ (.slice Ao16 t315.length co16))) := ⟨by repeat (first | (with_reducible first | exact HB.out | apply below_alloc | apply pw_below_drewN | apply below_drew1 | refine below_set ?_ GE309.out | refine below_set ?_ GE310.out | refine below_set ?_ GE318.out) | exact HB.out)⟩
   (try clear HO317)
   (try clear BK309)
   (try clear BK310)
   (try clear BK318)
   (try clear HB)
   generalize ((w14.setCell ⟨gb318, 0, none⟩ (.bool t314)).setCell ⟨gb318, 1, none⟩ (.slice Ao16 t315.length co16)) = w18 at n0_ n1_ n2_ n3_ n4_ ⊢
   have HO317 := n0_
   have BK309 := n1_
   have BK310 := n2_
   have BK318 := n3_
   have HB := n4_
   clear n0_ n1_ n2_ n3_ n4_
   have n0_ := Aside0.mk (Kd.R_drew HO317.out)
   have n1_ := Aside0.mk (blk_drew BK309.out)
   have n2_ := Aside0.mk (blk_drew BK310.out)
   have n3_ := Aside0.mk (blk_drew BK318.out)
   have n4_ := Aside0.mk (below_drew1 HB.out)
   clear HO317
   clear BK309
   clear BK310
   clear BK318
   clear HB
   have HO317 := n0_
   have BK309 := n1_
   have BK310 := n2_
   have BK318 := n3_
   have HB := n4_
   clear n0_ n1_ n2_ n3_ n4_
   refine start_ (n := 21) (S := fun w' => w'.cell? ⟨gb318, 0, none⟩ = some (.bool t314) ∧ w'.cell? ⟨gb318, 1, none⟩ = some (.slice Ao16 t315.length co16) ∧ w'.cell? ⟨gb309, 0, none⟩ = some (.bool a0_0) ∧ w'.cell? ⟨gb309, 1, none⟩ = some (.int .u64 a0_1) ∧ w'.cell? ⟨gb309, 2, none⟩ = some (.int .i64 a0_2)) (ds := []) #[false, false, false, false, false, false, false, false, false, false, false, false, false, false, false, false, false, false, false, false, false] kr_ rfl rfl ⟨(blk_cell BK318.out 0).trans rfl, (blk_cell BK318.out 1).trans rfl, (blk_cell BK309.out 0).trans rfl, (blk_cell BK309.out 1).trans rfl, (blk_cell BK309.out 2).trans rfl⟩ (fun hHeld => ?_); refine with_tabW spec_OfFix.tab2 spec_OfFix.bits2 (fun HT_ HW_ => ?_)
   generalize w18.drew = w19 at HO317 BK309 BK310 BK318 HB hHeld ⊢
   refine pure_ (i := 1) (N := some 12) (v := ?_) (a' := ?_) #[false, true, false, false, false, false, false, false, false, false, false, false, false, false, false, false, false, false, false, false, false] rfl rfl (any_of HT_.out kr_) (fun _ _ _ h => h) (Or.inl ⟨by rfl, ?_⟩) ?_ ?_
   rotate_left
   ·intro w'
    go_simp
    with_reducible rfl
   rotate_left
   ·simp only [Act.put, List.setIfInBounds_toArray, List.set_cons_zero, List.set_cons_succ, i64_w, i32_w]
    rfl
   refine pure_ (i := 5) (N := some 16) (v := ?_) (a' := ?_) #[false, true, false, false, false, true, false, false, false, false, false, false, false, false, false, false, false, false, false, false, false] rfl rfl (any_of HT_.out kr_) (fun _ _ _ h => h) (Or.inl ⟨by rfl, ?_⟩) ?_ ?_
   rotate_left
   ·intro w'
    go_simp
    with_reducible rfl
   rotate_left
   ·simp only [Act.put, List.setIfInBounds_toArray, List.set_cons_zero, List.set_cons_succ, i64_w, i32_w]
    rfl
   refine take_ (i := 0) (N := some 11) (v := ?_) (a' := ?_) #[true, true, false, false, false, true, false, false, false, false, false, false, false, false, false, false, false, false, false, false, false] rfl rfl (take_ofW HT_.out HW_.out kr_) (fun _ _ _ h => h) (Or.inl ⟨by rfl, ?_⟩) hHeld ?_ ?_
   rotate_left
   ·rintro w' ⟨s0, s1, s2, s3, s4⟩
    go_simp
    with_reducible rfl
   rotate_left
   ·simp only [Act.put, List.setIfInBounds_toArray, List.set_cons_zero, List.set_cons_succ, i64_w, i32_w]
    rfl
   refine take_ (i := 2) (N := some 13) (v := ?_) (a' := ?_) #[true, true, true, false, false, true, false, false, false, false, false, false, false, false, false, false, false, false, false, false, false] rfl rfl (take_ofW HT_.out HW_.out kr_) (fun _ _ _ h => h) (Or.inl ⟨by rfl, ?_⟩) hHeld ?_ ?_
   rotate_left
   ·rintro w' ⟨s0, s1, s2, s3, s4⟩
    go_simp
    with_reducible rfl
   rotate_left
   ·simp only [Act.put, List.setIfInBounds_toArray, List.set_cons_zero, List.set_cons_succ, i64_w, i32_w]
    rfl
   refine pure_ (i := 3) (N := some 14) (v := ?_) (a' := ?_) #[true, true, true, true, false, true, false, false, false, false, false, false, false, false, false, false, false, false, false, false, false] rfl rfl (any_of HT_.out kr_) (fun _ _ _ h => h) (Or.inl ⟨by rfl, ?_⟩) ?_ ?_
   rotate_left
   ·intro w'
    go_simp
    with_reducible rfl
   rotate_left
   ·simp only [Act.put, List.setIfInBounds_toArray, List.set_cons_zero, List.set_cons_succ, i64_w, i32_w]
    rfl
   refine pure_ (i := 4) (N := some 15) (v := ?_) (a' := ?_) #[true, true, true, true, true, true, false, false, false, false, false, false, false, false, false, false, false, false, false, false, false] rfl rfl (any_of HT_.out kr_) (fun _ _ _ h => h) (Or.inl ⟨by rfl, ?_⟩) ?_ ?_
   rotate_left
   ·intro w'
    go_simp
    with_reducible rfl
   rotate_left
   ·simp only [Act.put, List.setIfInBounds_toArray, List.set_cons_zero, List.set_cons_succ, i64_w, i32_w]
    rfl
   refine take_ (i := 6) (N := some 17) (v := ?_) (a' := ?_) #[true, true, true, true, true, true, true, false, false, false, false, false, false, false, false, false, false, false, false, false, false] rfl rfl (take_ofW HT_.out HW_.out kr_) (fun _ _ _ h => h) (Or.inl ⟨by rfl, ?_⟩) hHeld ?_ ?_
   rotate_left
   ·rintro w' ⟨s0, s1, s2, s3, s4⟩
    go_simp
    with_reducible rfl
   rotate_left
   ·simp only [Act.put, List.setIfInBounds_toArray, List.set_cons_zero, List.set_cons_succ, i64_w, i32_w]
    rfl
   refine one_ (i := 7) (N := some 18) #[true, true, true, true, true, true, true, true, false, false, false, false, false, false, false, false, false, false, false, false, false] rfl rfl (one_of HT_.out kr_) (by decide) (fun K hK => ?_)
   refine goes_ Tryz.func37 kr_ rfl #[.slice Ao16 t315.length co16] (by rfl) rfl rfl lm_ ?_
   with_reducible refine (spec_Nat_Digits.calls k _ _ t315 t319 _ ?side1 ?side2 A4.out).mono ?_
   (case side1 => exact cr_ (Kd.R_reads' HO317.out).2.2)
   (case side2 => exact (Kd.R_reads' HO317.out).2.1)
   rintro e w20 ⟨rfl, hb⟩
   refine ⟨_, rfl, ?_⟩
   have n0_ := Aside0.mk (Kd.R_below (rr_ HO317.out) hb)
   have n1_ := Aside0.mk (blk_below (g := gb309) (o := .cells #[.bool a0_0, .int .u64 a0_1, .int .i64 a0_2] 24 (0, 0)) (by (with_reducible repeat (first | refine blk_drewN ?_ _ | refine blk_drew ?_ | refine blk_alloc ?_ _)); exact BK309.out) hb)
   have n2_ := Aside0.mk (blk_below (g := gb310) (o := .cells #[.bool false, .slice none 0 0, .int .i64 0] 43 (0, 0)) (by (with_reducible repeat (first | refine blk_drewN ?_ _ | refine blk_drew ?_ | refine blk_alloc ?_ _)); exact BK310.out) hb)
   have n3_ := Aside0.mk (blk_below (g := gb318) (o := .cells #[.bool t314, .slice Ao16 t315.length co16] 32 (0, 0)) (by (with_reducible repeat (first | refine blk_drewN ?_ _ | refine blk_drew ?_ | refine blk_alloc ?_ _)); exact BK318.out) hb)
   have n4_ := Aside0.mk (below_step (by repeat (first | (with_reducible first | exact HB.out | apply below_alloc | apply pw_below_drewN | apply below_drew1 | refine below_set ?_ GE309.out | refine below_set ?_ GE310.out | refine below_set ?_ GE318.out) | exact HB.out)) hb)
   clear HO317
   clear BK309
   clear BK310
   clear BK318
   clear HB
   have HO317 := n0_
   have BK309 := n1_
   have BK310 := n2_
   have BK318 := n3_
   have HB := n4_
   clear n0_ n1_ n2_ n3_ n4_
   (try clear hb)
   (try clear hb2)
   (try clear hk)
   (try clear hi)
   refine hK.out _ _ ⟨(blk_cell BK318.out 0).trans rfl, (blk_cell BK318.out 1).trans rfl, (blk_cell BK309.out 0).trans rfl, (blk_cell BK309.out 1).trans rfl, (blk_cell BK309.out 2).trans rfl⟩ (fun hHeld => ?_)
   clear hK K
   refine norm_ (a' := ?_) ?_ ?_
   rotate_left
   ·show Act.put _ (some 18) _ = _
    simp only [Act.put, List.setIfInBounds_toArray, List.set_cons_zero, List.set_cons_succ, i64_w, i32_w]
    rfl
   refine pure_ (i := 8) (N := some 19) (v := ?_) (a' := ?_) #[true, true, true, true, true, true, true, true, true, false, false, false, false, false, false, false, false, false, false, false, false] rfl rfl (any_of HT_.out kr_) (fun _ _ _ h => h) (Or.inl ⟨by rfl, ?_⟩) ?_ ?_
   rotate_left
   ·intro w'
    go_simp
    with_reducible rfl
   rotate_left
   ·simp only [Act.put, List.setIfInBounds_toArray, List.set_cons_zero, List.set_cons_succ, i64_w, i32_w]
    rfl
   refine pure_ (i := 9) (N := some 20) (v := ?_) (a' := ?_) #[true, true, true, true, true, true, true, true, true, true, false, false, false, false, false, false, false, false, false, false, false] rfl rfl (any_of HT_.out kr_) (fun _ _ _ h => h) (Or.inl ⟨by rfl, ?_⟩) ?_ ?_
   rotate_left
   ·intro w'
    go_simp
    with_reducible rfl
   rotate_left
   ·simp only [Act.put, List.setIfInBounds_toArray, List.set_cons_zero, List.set_cons_succ, i64_w, i32_w]
    rfl
   refine pure_ (i := 10) (N := some 21) (v := ?_) (a' := ?_) #[true, true, true, true, true, true, true, true, true, true, true, false, false, false, false, false, false, false, false, false, false] rfl rfl (any_of HT_.out kr_) (fun _ _ _ h => h) (Or.inl ⟨by rfl, ?_⟩) ?_ ?_
   rotate_left
   ·intro w'
    go_simp
    with_reducible rfl
   rotate_left
   ·simp only [Act.put, List.setIfInBounds_toArray, List.set_cons_zero, List.set_cons_succ, i64_w, i32_w]
    rfl
   refine take_ (i := 11) (N := some 22) (v := ?_) (a' := ?_) #[true, true, true, true, true, true, true, true, true, true, true, true, false, false, false, false, false, false, false, false, false] rfl rfl (take_ofW HT_.out HW_.out kr_) (fun _ _ _ h => h) (Or.inl ⟨by rfl, ?_⟩) hHeld ?_ ?_
   rotate_left
   ·rintro w' ⟨s0, s1, s2, s3, s4⟩
    go_simp
    with_reducible rfl
   rotate_left
   ·simp only [Act.put, List.setIfInBounds_toArray, List.set_cons_zero, List.set_cons_succ, i64_w, i32_w]
    rfl
   refine pure_ (i := 12) (N := some 23) (v := ?_) (a' := ?_) #[true, true, true, true, true, true, true, true, true, true, true, true, true, false, false, false, false, false, false, false, false] rfl rfl (any_of HT_.out kr_) (fun _ _ _ h => h) (Or.inl ⟨by rfl, ?_⟩) ?_ ?_
   rotate_left
   ·intro w'
    go_simp
    with_reducible rfl
   rotate_left
   ·simp only [Act.put, List.setIfInBounds_toArray, List.set_cons_zero, List.set_cons_succ, i64_w, i32_w]
    rfl
   refine pure_ (i := 13) (N := some 24) (v := ?_) (a' := ?_) #[true, true, true, true, true, true, true, true, true, true, true, true, true, true, false, false, false, false, false, false, false] rfl rfl (any_of HT_.out kr_) (fun _ _ _ h => h) (Or.inl ⟨by rfl, ?_⟩) ?_ ?_
   rotate_left
   ·intro w'
    go_simp
    with_reducible rfl
   rotate_left
   ·simp only [Act.put, List.setIfInBounds_toArray, List.set_cons_zero, List.set_cons_succ, i64_w, i32_w]
    rfl
   refine pure_ (i := 14) (N := some 25) (v := ?_) (a' := ?_) #[true, true, true, true, true, true, true, true, true, true, true, true, true, true, true, false, false, false, false, false, false] rfl rfl (any_of HT_.out kr_) (fun _ _ _ h => h) (Or.inl ⟨by rfl, ?_⟩) ?_ ?_
   rotate_left
   ·intro w'
    go_simp
    with_reducible rfl
   rotate_left
   ·simp only [Act.put, List.setIfInBounds_toArray, List.set_cons_zero, List.set_cons_succ, i64_w, i32_w]
    rfl
   refine pure_ (i := 15) (N := some 26) (v := ?_) (a' := ?_) #[true, true, true, true, true, true, true, true, true, true, true, true, true, true, true, true, false, false, false, false, false] rfl rfl (any_of HT_.out kr_) (fun _ _ _ h => h) (Or.inl ⟨by rfl, ?_⟩) ?_ ?_
   rotate_left
   ·intro w'
    go_simp
    with_reducible rfl
   rotate_left
   ·simp only [Act.put, List.setIfInBounds_toArray, List.set_cons_zero, List.set_cons_succ, i64_w, i32_w]
    rfl
   refine take_ (i := 16) (N := some 27) (v := ?_) (a' := ?_) #[true, true, true, true, true, true, true, true, true, true, true, true, true, true, true, true, true, false, false, false, false] rfl rfl (take_ofW HT_.out HW_.out kr_) (fun _ _ _ h => h) (Or.inl ⟨by rfl, ?_⟩) hHeld ?_ ?_
   rotate_left
   ·rintro w' ⟨s0, s1, s2, s3, s4⟩
    go_simp
    with_reducible rfl
   rotate_left
   ·simp only [Act.put, List.setIfInBounds_toArray, List.set_cons_zero, List.set_cons_succ, i64_w, i32_w]
    rfl
   refine pure_ (i := 17) (N := some 28) (v := ?_) (a' := ?_) #[true, true, true, true, true, true, true, true, true, true, true, true, true, true, true, true, true, true, false, false, false] rfl rfl (any_of HT_.out kr_) (fun _ _ _ h => h) (Or.inl ⟨by rfl, ?_⟩) ?_ ?_
   rotate_left
   ·intro w'
    go_simp
    with_reducible rfl
   rotate_left
   ·simp only [Act.put, List.setIfInBounds_toArray, List.set_cons_zero, List.set_cons_succ, i64_w, i32_w]
    rfl
   refine pure_ (i := 18) (N := some 29) (v := ?_) (a' := ?_) #[true, true, true, true, true, true, true, true, true, true, true, true, true, true, true, true, true, true, true, false, false] rfl rfl (any_of HT_.out kr_) (fun _ _ _ h => h) (Or.inl ⟨by rfl, ?_⟩) ?_ ?_
   rotate_left
   ·intro w'
    go_simp
    with_reducible rfl
   rotate_left
   ·simp only [Act.put, List.setIfInBounds_toArray, List.set_cons_zero, List.set_cons_succ, i64_w, i32_w]
    rfl
   refine one_ (i := 19) (N := none) #[true, true, true, true, true, true, true, true, true, true, true, true, true, true, true, true, true, true, true, true, false] rfl rfl (one_of HT_.out kr_) (by decide) (fun K hK => ?_)
   have hs21 : w20.cell? ⟨gb310, 0, none⟩ = some (.bool false) := (blk_cell BK310.out 0).trans rfl
   have hfs21 := blk_frozen BK310.out 0
   have hns21_0 := NB309_310.out
   have hns21_2 := NB318_310.out
   have hms21_0 := NB310_309.out
   have hms21_2 := NB310_318.out
   have hs22 : w20.cell? ⟨gb310, 1, none⟩ = some (.slice none 0 0) := (blk_cell BK310.out 1).trans rfl
   have hfs22 := blk_frozen BK310.out 1
   have hns22_0 := NB309_310.out
   have hns22_2 := NB318_310.out
   have hms22_0 := NB310_309.out
   have hms22_2 := NB310_318.out
   have hs23 : w20.cell? ⟨gb310, 2, none⟩ = some (.int .i64 0) := (blk_cell BK310.out 2).trans rfl
   have hfs23 := blk_frozen BK310.out 2
   have hns23_0 := NB309_310.out
   have hns23_2 := NB318_310.out
   have hms23_0 := NB310_309.out
   have hms23_2 := NB310_318.out
   refine skip_ (w1 := ?_) (by rfl) rfl ?_ ?_
   rotate_left
   ·go_simp
    rfl
   refine hK.out _ _ ⟨((cell_far (p := ⟨gb310, _, none⟩) NB318_310.out _).trans (((cell_far (p := ⟨gb310, _, none⟩) NB318_310.out _).trans (((cell_far (p := ⟨gb310, _, none⟩) NB318_310.out _).trans (hHeld.1)))))), ((cell_far (p := ⟨gb310, _, none⟩) NB318_310.out _).trans (((cell_far (p := ⟨gb310, _, none⟩) NB318_310.out _).trans (((cell_far (p := ⟨gb310, _, none⟩) NB318_310.out _).trans (hHeld.2.1)))))), ((cell_far (p := ⟨gb310, _, none⟩) NB309_310.out _).trans (((cell_far (p := ⟨gb310, _, none⟩) NB309_310.out _).trans (((cell_far (p := ⟨gb310, _, none⟩) NB309_310.out _).trans (hHeld.2.2.1)))))), ((cell_far (p := ⟨gb310, _, none⟩) NB309_310.out _).trans (((cell_far (p := ⟨gb310, _, none⟩) NB309_310.out _).trans (((cell_far (p := ⟨gb310, _, none⟩) NB309_310.out _).trans (hHeld.2.2.2.1)))))), ((cell_far (p := ⟨gb310, _, none⟩) NB309_310.out _).trans (((cell_far (p := ⟨gb310, _, none⟩) NB309_310.out _).trans (((cell_far (p := ⟨gb310, _, none⟩) NB309_310.out _).trans (hHeld.2.2.2.2))))))⟩ (fun hHeld => ?_)
   clear hK K
   refine pure_ (i := 20) (N := some 3) (v := ?_) (a' := ?_) #[true, true, true, true, true, true, true, true, true, true, true, true, true, true, true, true, true, true, true, true, true] rfl rfl (any_of HT_.out kr_) (fun _ _ _ h => h) (Or.inl ⟨by rfl, ?_⟩) ?_ ?_
   rotate_left
   ·intro w'
    go_simp
    with_reducible rfl
   rotate_left
   ·simp only [Act.put, List.setIfInBounds_toArray, List.set_cons_zero, List.set_cons_succ, i64_w, i32_w]
    rfl
   refine done_ (done_of HT_.out kr_) ?_
   try go_wp2
   refine bodyPost_ret (results_ct rfl _ _ gb310 43 #[.bool t314, .slice Ao16 t315.length co16, .int .i64 (wrap64 (-a0_2))] (0, 0) _ rfl (by (with_reducible repeat (first | refine blk_drewN ?_ _ | refine blk_drew ?_ | refine blk_alloc ?_ _)); refine blk_put (cs := #[.bool t314, .slice Ao16 t315.length co16, .int .i64 0]) ?_ 2 _ rfl; (with_reducible repeat (first | refine blk_drewN ?_ _ | refine blk_drew ?_ | refine blk_alloc ?_ _)); refine blk_put (cs := #[.bool t314, .slice none 0 0, .int .i64 0]) ?_ 1 _ rfl; (with_reducible repeat (first | refine blk_drewN ?_ _ | refine blk_drew ?_ | refine blk_alloc ?_ _)); refine blk_put (cs := #[.bool false, .slice none 0 0, .int .i64 0]) ?_ 0 _ rfl; (with_reducible repeat (first | refine blk_drewN ?_ _ | refine blk_drew ?_ | refine blk_alloc ?_ _)); exact BK310.out) Tryz.underlying43 rfl kr_) rfl ?_
   exact ⟨_, by first | rfl | (simp [errW_none, errW_some] <;> rfl) | (simp [*, errW_none, errW_some] <;> rfl), by (with_reducible repeat (first | apply Kd.R_alloc | apply Kd.R_drewN | apply Kd.R_drew)); exact Kd.R_mono (Kd.R_far (p := ⟨gb310, 2, none⟩) (Kd.R_far (p := ⟨gb310, 1, none⟩) (Kd.R_far (p := ⟨gb310, 0, none⟩) (Kd.R_types HO317.out BK310.out (by decide)) (fun _ hk => hk.2) (.bool t314)) (fun _ hk => hk.2) (.slice Ao16 t315.length co16)) (fun _ hk => hk.2) (.int .i64 (wrap64 (-a0_2)))) (fun _ hk => trivial), by repeat (first | (with_reducible first | exact HB.out | apply below_alloc | apply pw_below_drewN | apply below_drew1 | refine below_set ?_ GE309.out | refine below_set ?_ GE310.out | refine below_set ?_ GE318.out) | exact HB.out)⟩
  ·rw [if_neg c6] at H
   have c6b0 : decide (0 ≤ a0_2) = false := decide_eq_false c6
   clear c6
   simp only [Option.some.injEq, Prod.mk.injEq] at H
   obtain ⟨rfl, rfl, rfl, rfl⟩ := H
   go_enter Tryz.func21, Tryz.ntmps21
   try go_wp2_with (first | ((with_reducible refine gate_dst (N := 1) rfl ?_); refine box_event ?hg (N := 1) ?hd (cs := #[.bool a0_0, .int .u64 a0_1, .int .i64 a0_2]) (t := 24) ?hr ?_; (case hd => rfl); (case hg => rfl); (case hr => first | (go_simp; done) | (go_simp; rfl)); intro gb309 hg w24 hbox hb; have n0_ := Aside0.mk (below_step bel_ hb); have n1_ := Aside0.mk (hbox); have n2_ := Aside0.mk ((by rw [hg]; exact (below_size bel_) : w.heap.size ≤ gb309)); have n3_ := Aside0.mk ((by rw [hg]; exact (below_size bel_) : w.heap.size ≤ gb309)); clear HB; have HB := n0_; have BK309 := n1_; have GW309 := n2_; have GE309 := n3_; clear n0_ n1_ n2_ n3_; clear hb hbox hg) | ((with_reducible refine gate_dst (N := 2) rfl ?_); refine box_event ?hg (N := 2) ?hd (cs := #[.bool false, .slice none 0 0, .int .i64 0]) (t := 43) ?hr ?_; (case hd => rfl); (case hg => rfl); (case hr => first | (go_simp; done) | (go_simp; rfl)); intro gb310 hg w25 hbox hb; have n0_ := Aside0.mk (blk_below (g := gb309) (o := .cells #[.bool a0_0, .int .u64 a0_1, .int .i64 a0_2] 24 (0, 0)) (by (with_reducible repeat (first | refine blk_drewN ?_ _ | refine blk_drew ?_ | refine blk_alloc ?_ _)); exact BK309.out) hb); have n1_ := Aside0.mk (below_step (by repeat (first | (with_reducible first | exact HB.out | apply below_alloc | apply pw_below_drewN | apply below_drew1 | refine below_set ?_ GE309.out) | exact HB.out)) hb); have n2_ := Aside0.mk (hbox); have n3_ := Aside0.mk ((by rw [hg]; exact (below_size (by repeat (first | (with_reducible first | exact HB.out | apply below_alloc | apply pw_below_drewN | apply below_drew1 | refine below_set ?_ GE309.out) | exact HB.out))) : w.heap.size ≤ gb310)); have n4_ := Aside0.mk ((by rw [hg]; exact (below_size (by repeat (first | (with_reducible first | exact HB.out | apply below_alloc | apply pw_below_drewN | apply below_drew1 | refine below_set ?_ GE309.out) | exact HB.out))) : w.heap.size ≤ gb310)); have n5_ := Aside0.mk ((by rw [hg]; exact Nat.ne_of_lt (blk_lt (g := gb309) (o := .cells #[.bool a0_0, .int .u64 a0_1, .int .i64 a0_2] 24 (0, 0)) (by (with_reducible repeat (first | refine blk_drewN ?_ _ | refine blk_drew ?_ | refine blk_alloc ?_ _)); exact BK309.out)) : gb309 ≠ gb310)); have n6_ := Aside0.mk ((by rw [hg]; exact Nat.ne_of_gt (blk_lt (g := gb309) (o := .cells #[.bool a0_0, .int .u64 a0_1, .int .i64 a0_2] 24 (0, 0)) (by (with_reducible repeat (first | refine blk_drewN ?_ _ | refine blk_drew ?_ | refine blk_alloc ?_ _)); exact BK309.out)) : gb310 ≠ gb309)); clear BK309; clear HB; have BK309 := n0_; have HB := n1_; have BK310 := n2_; have GW310 := n3_; have GE310 := n4_; have NB309_310 := n5_; have NB310_309 := n6_; clear n0_ n1_ n2_ n3_ n4_ n5_ n6_; clear hb hbox hg))
   have n0_ := Aside0.mk (blk_drew BK309.out)
   have n1_ := Aside0.mk (blk_drew BK310.out)
   have n2_ := Aside0.mk (below_drew1 HB.out)
   clear BK309
   clear BK310
   clear HB
   have BK309 := n0_
   have BK310 := n1_
   have HB := n2_
   clear n0_ n1_ n2_
   refine start_ (n := 8) (S := fun w' => w'.cell? ⟨gb309, 0, none⟩ = some (.bool a0_0) ∧ w'.cell? ⟨gb309, 1, none⟩ = some (.int .u64 a0_1) ∧ w'.cell? ⟨gb309, 2, none⟩ = some (.int .i64 a0_2)) (ds := []) #[false, false, false, false, false, false, false, false] kr_ rfl rfl ⟨(blk_cell BK309.out 0).trans rfl, (blk_cell BK309.out 1).trans rfl, (blk_cell BK309.out 2).trans rfl⟩ (fun hHeld => ?_); refine with_tabW spec_OfFix.tab1 spec_OfFix.bits1 (fun HT_ HW_ => ?_)
   generalize w25.drew = w26 at BK309 BK310 HB hHeld ⊢
   refine pure_ (i := 0) (N := some 5) (v := ?_) (a' := ?_) #[true, false, false, false, false, false, false, false] rfl rfl (any_of HT_.out kr_) (fun _ _ _ h => h) (Or.inl ⟨by rfl, ?_⟩) ?_ ?_
   rotate_left
   ·intro w'
    go_simp
    with_reducible rfl
   rotate_left
   ·simp only [Act.put, List.setIfInBounds_toArray, List.set_cons_zero, List.set_cons_succ, i64_w, i32_w]
    rfl
   refine pure_ (i := 2) (N := some 7) (v := ?_) (a' := ?_) #[true, false, true, false, false, false, false, false] rfl rfl (any_of HT_.out kr_) (fun _ _ _ h => h) (Or.inl ⟨by rfl, ?_⟩) ?_ ?_
   rotate_left
   ·intro w'
    go_simp
    with_reducible rfl
   rotate_left
   ·simp only [Act.put, List.setIfInBounds_toArray, List.set_cons_zero, List.set_cons_succ, i64_w, i32_w]
    rfl
   refine take_ (i := 1) (N := some 6) (v := ?_) (a' := ?_) #[true, true, true, false, false, false, false, false] rfl rfl (take_ofW HT_.out HW_.out kr_) (fun _ _ _ h => h) (Or.inl ⟨by rfl, ?_⟩) hHeld ?_ ?_
   rotate_left
   ·rintro w' ⟨s0, s1, s2⟩
    go_simp
    with_reducible rfl
   rotate_left
   ·simp only [Act.put, List.setIfInBounds_toArray, List.set_cons_zero, List.set_cons_succ, i64_w, i32_w]
    rfl
   refine take_ (i := 3) (N := some 8) (v := ?_) (a' := ?_) #[true, true, true, true, false, false, false, false] rfl rfl (take_ofW HT_.out HW_.out kr_) (fun _ _ _ h => h) (Or.inl ⟨by rfl, ?_⟩) hHeld ?_ ?_
   rotate_left
   ·rintro w' ⟨s0, s1, s2⟩
    go_simp
    with_reducible rfl
   rotate_left
   ·simp only [Act.put, List.setIfInBounds_toArray, List.set_cons_zero, List.set_cons_succ, i64_w, i32_w]
    rfl
   refine join_ (σ := Value × Value × Nat) 1 #[true, true, true, true, true, true, true, false] (fun s_ => [(9, s_.1), (10, .agg #[.bool t314, s_.2.1]), (4, .pointer (some ⟨s_.2.2, 0, none⟩))]) (fun s_ w' => (w'.cell? ⟨gb309, 0, none⟩ = some (.bool a0_0) ∧ w'.cell? ⟨gb309, 1, none⟩ = some (.int .u64 a0_1) ∧ w'.cell? ⟨gb309, 2, none⟩ = some (.int .i64 a0_2)) ∧ (Kd.R (Kd.int .u32) 80 w' w.heap.size (fun _ => True) s_.2.1 t315) ∧ (w'.heap[gb309]? = some (.cells #[.bool a0_0, .int .u64 a0_1, .int .i64 a0_2] 24 (0, 0))) ∧ (w'.heap[gb310]? = some (.cells #[.bool false, .slice none 0 0, .int .i64 0] 43 (0, 0))) ∧ (w'.heap[s_.2.2]? = some (.cells #[.bool false, .slice none 0 0] 32 (0, 0))) ∧ (w.heap.size ≤ s_.2.2) ∧ (w.heap.size ≤ s_.2.2) ∧ (gb309 ≠ s_.2.2) ∧ (s_.2.2 ≠ gb309) ∧ (gb310 ≠ s_.2.2) ∧ (s_.2.2 ≠ gb310) ∧ (Below w.heap.size w w')) ?_ ?_
   rotate_left
   ·intro hCont
    refine two_ (i := 4) (j := 6) (Ni := some 9) (Nj := some 4) #[true, true, true, true, true, false, false, false] #[true, true, true, true, false, false, true, false] rfl rfl rfl rfl (two_of HT_.out kr_) (by decide) (by decide) (fun K hK => ?_) (fun K hK => ?_)
    ·skip
     refine goes_ Tryz.func52 kr_ rfl #[.int .u64 a0_1] (by rfl) rfl rfl lm_ ?_
     with_reducible refine (spec_NatFrom.calls k a0_1 t311 _ A2.out).mono ?_
     rintro e w27 ⟨v312, rfl, ho0, hb⟩
     refine ⟨_, rfl, ?_⟩
     have n0_ := Aside0.mk (Kd.R_lower ho0 (below_size (by repeat (first | (with_reducible first | exact HB.out | apply below_alloc | apply pw_below_drewN | apply below_drew1 | refine below_set ?_ GE309.out | refine below_set ?_ GE310.out) | exact HB.out))))
     have n1_ := Aside0.mk (blk_below (g := gb309) (o := .cells #[.bool a0_0, .int .u64 a0_1, .int .i64 a0_2] 24 (0, 0)) (by (with_reducible repeat (first | refine blk_drewN ?_ _ | refine blk_drew ?_ | refine blk_alloc ?_ _)); exact BK309.out) hb)
     have n2_ := Aside0.mk (blk_below (g := gb310) (o := .cells #[.bool false, .slice none 0 0, .int .i64 0] 43 (0, 0)) (by (with_reducible repeat (first | refine blk_drewN ?_ _ | refine blk_drew ?_ | refine blk_alloc ?_ _)); exact BK310.out) hb)
     have n3_ := Aside0.mk (below_step (by repeat (first | (with_reducible first | exact HB.out | apply below_alloc | apply pw_below_drewN | apply below_drew1 | refine below_set ?_ GE309.out | refine below_set ?_ GE310.out) | exact HB.out)) hb)
     clear BK309
     clear BK310
     clear HB
     have HO313 := n0_
     have BK309 := n1_
     have BK310 := n2_
     have HB := n3_
     clear n0_ n1_ n2_ n3_
     (try clear hb)
     (try clear hb2)
     (try clear hk)
     (try clear hi)
     (try clear ho0)
     obtain ⟨Ao28, co28, eo28⟩ := Kd.R_slice HO313.out
     (first | subst eo28 | (injection eo28 with f1_ f2_ f3_; have f4_ := f1_.symm; have f5_ := f3_.symm; clear f1_ f2_ f3_; subst f4_; subst f5_))
     refine hK.out _ _ ⟨(blk_cell BK309.out 0).trans rfl, (blk_cell BK309.out 1).trans rfl, (blk_cell BK309.out 2).trans rfl⟩ (fun hHeld => ?_)
     clear hK K
     refine norm_ (a' := ?_) ?_ ?_
     rotate_left
     ·show Act.put _ (some 9) _ = _
      simp only [Act.put, List.setIfInBounds_toArray, List.set_cons_zero, List.set_cons_succ, i64_w, i32_w]
      rfl
     refine two_ (i := 5) (j := 6) (Ni := some 10) (Nj := some 4) #[true, true, true, true, true, true, false, false] #[true, true, true, true, true, false, true, false] rfl rfl rfl rfl (two_of HT_.out kr_) (by decide) (by decide) (fun K hK => ?_) (fun K hK => ?_)
     ·skip
      refine goes_ Tryz.func39 kr_ rfl #[.bool a0_0, .slice Ao28 t311.length co28] (by rfl) rfl rfl lm_ ?_
      with_reducible refine (spec_wholeOf.calls a0_0 (fun k_ => some k_ = (.slice Ao28 t311.length co28 : Value).ownBlock) (.slice Ao28 t311.length co28) t311 t314 t315 w _ ?side1 ?side2 A3.out).mono ?_
      (case side1 => repeat (first | (with_reducible first | exact HB.out | apply below_alloc | apply pw_below_drewN | apply below_drew1 | refine below_set ?_ GE309.out | refine below_set ?_ GE310.out) | exact HB.out))
      (case side2 => exact Kd.R_tight rfl HO313.out)
      rintro e w29 ⟨v316, rfl, ho0, hb, hkp⟩
      refine ⟨_, rfl, ?_⟩
      have n0_ := Aside0.mk (blk_kept (by (with_reducible repeat (first | refine blk_drewN ?_ _ | refine blk_drew ?_ | refine blk_alloc ?_ _)); exact BK309.out) hkp (fun hs_ => (fun e_ => (Kd.R_ne HO313.out BK309.out (by decide)) e_) hs_))
      have n1_ := Aside0.mk (blk_kept (by (with_reducible repeat (first | refine blk_drewN ?_ _ | refine blk_drew ?_ | refine blk_alloc ?_ _)); exact BK310.out) hkp (fun hs_ => (fun e_ => (Kd.R_ne HO313.out BK310.out (by decide)) e_) hs_))
      have n2_ := Aside0.mk (Kd.R_mono (ok' := fun k_ => True) ho0 (fun k_ hk_ => trivial))
      have n3_ := Aside0.mk (hb)
      clear BK309
      clear BK310
      clear HB
      clear HO313
      have BK309 := n0_
      have BK310 := n1_
      have HO317 := n2_
      have HB := n3_
      clear n0_ n1_ n2_ n3_
      (try clear hb)
      (try clear hkp)
      (try clear ho0)
      refine hK.out _ _ ⟨(blk_cell BK309.out 0).trans rfl, (blk_cell BK309.out 1).trans rfl, (blk_cell BK309.out 2).trans rfl⟩ (fun hHeld => ?_)
      clear hK K
      refine norm_ (a' := ?_) ?_ ?_
      rotate_left
      ·show Act.put _ (some 10) _ = _
       simp only [Act.put, List.setIfInBounds_toArray, List.set_cons_zero, List.set_cons_succ, i64_w, i32_w]
       rfl
      refine one_ (i := 6) (N := some 4) #[true, true, true, true, true, true, true, false] rfl rfl (one_of HT_.out kr_) (by decide) (fun K hK => ?_)
      refine box_step ?hg (N := 4) ?hd (cs := #[.bool false, .slice none 0 0]) (t := 32) ?hr ?_; (case hd => rfl); (case hg => rfl); (case hr => first | (go_simp; done) | (go_simp; rfl))
      intro gb318 hg w30 hbox hb
      have n0_ := Aside0.mk (Kd.R_below (rr_ HO317.out) hb)
      have n1_ := Aside0.mk (blk_below (g := gb309) (o := .cells #[.bool a0_0, .int .u64 a0_1, .int .i64 a0_2] 24 (0, 0)) (by (with_reducible repeat (first | refine blk_drewN ?_ _ | refine blk_drew ?_ | refine blk_alloc ?_ _)); exact BK309.out) hb)
      have n2_ := Aside0.mk (blk_below (g := gb310) (o := .cells #[.bool false, .slice none 0 0, .int .i64 0] 43 (0, 0)) (by (with_reducible repeat (first | refine blk_drewN ?_ _ | refine blk_drew ?_ | refine blk_alloc ?_ _)); exact BK310.out) hb)
      have n3_ := Aside0.mk (below_step (by repeat (first | (with_reducible first | exact HB.out | apply below_alloc | apply pw_below_drewN | apply below_drew1 | refine below_set ?_ GE309.out | refine below_set ?_ GE310.out) | exact HB.out)) hb)
      have n4_ := Aside0.mk (hbox)
      have n5_ := Aside0.mk ((by rw [hg]; exact (below_size (by repeat (first | (with_reducible first | exact HB.out | apply below_alloc | apply pw_below_drewN | apply below_drew1 | refine below_set ?_ GE309.out | refine below_set ?_ GE310.out) | exact HB.out))) : w.heap.size ≤ gb318))
      have n6_ := Aside0.mk ((by rw [hg]; exact (below_size (by repeat (first | (with_reducible first | exact HB.out | apply below_alloc | apply pw_below_drewN | apply below_drew1 | refine below_set ?_ GE309.out | refine below_set ?_ GE310.out) | exact HB.out))) : w.heap.size ≤ gb318))
      have n7_ := Aside0.mk ((by rw [hg]; exact Nat.ne_of_lt (blk_lt (g := gb309) (o := .cells #[.bool a0_0, .int .u64 a0_1, .int .i64 a0_2] 24 (0, 0)) (by (with_reducible repeat (first | refine blk_drewN ?_ _ | refine blk_drew ?_ | refine blk_alloc ?_ _)); exact BK309.out)) : gb309 ≠ gb318))
      have n8_ := Aside0.mk ((by rw [hg]; exact Nat.ne_of_gt (blk_lt (g := gb309) (o := .cells #[.bool a0_0, .int .u64 a0_1, .int .i64 a0_2] 24 (0, 0)) (by (with_reducible repeat (first | refine blk_drewN ?_ _ | refine blk_drew ?_ | refine blk_alloc ?_ _)); exact BK309.out)) : gb318 ≠ gb309))
      have n9_ := Aside0.mk ((by rw [hg]; exact Nat.ne_of_lt (blk_lt (g := gb310) (o := .cells #[.bool false, .slice none 0 0, .int .i64 0] 43 (0, 0)) (by (with_reducible repeat (first | refine blk_drewN ?_ _ | refine blk_drew ?_ | refine blk_alloc ?_ _)); exact BK310.out)) : gb310 ≠ gb318))
      have n10_ := Aside0.mk ((by rw [hg]; exact Nat.ne_of_gt (blk_lt (g := gb310) (o := .cells #[.bool false, .slice none 0 0, .int .i64 0] 43 (0, 0)) (by (with_reducible repeat (first | refine blk_drewN ?_ _ | refine blk_drew ?_ | refine blk_alloc ?_ _)); exact BK310.out)) : gb318 ≠ gb310))
      clear HO317
      clear BK309
      clear BK310
      clear HB
      have HO317 := n0_
      have BK309 := n1_
      have BK310 := n2_
      have HB := n3_
      have BK318 := n4_
      have GW318 := n5_
      have GE318 := n6_
      have NB309_318 := n7_
      have NB318_309 := n8_
      have NB310_318 := n9_
      have NB318_310 := n10_
      clear n0_ n1_ n2_ n3_ n4_ n5_ n6_ n7_ n8_ n9_ n10_
      clear hb hbox hg
      refine hK.out _ _ ⟨(blk_cell BK309.out 0).trans rfl, (blk_cell BK309.out 1).trans rfl, (blk_cell BK309.out 2).trans rfl⟩ (fun hHeld => ?_)
      clear hK K
      refine norm_ (a' := ?_) ?_ ?_
      rotate_left
      ·show Act.put _ (some 4) _ = _
       simp only [Act.put, List.setIfInBounds_toArray, List.set_cons_zero, List.set_cons_succ, i64_w, i32_w]
       rfl
      exact norm_ (by simp only [putAll, Act.put, List.setIfInBounds_toArray, List.set_cons_zero, List.set_cons_succ]) (hCont (.slice Ao28 t311.length co28, v316, gb318) _ ⟨hHeld, (rr_ HO317.out), (by (with_reducible repeat (first | refine blk_drewN ?_ _ | refine blk_drew ?_ | refine blk_alloc ?_ _)); exact BK309.out), (by (with_reducible repeat (first | refine blk_drewN ?_ _ | refine blk_drew ?_ | refine blk_alloc ?_ _)); exact BK310.out), (by (with_reducible repeat (first | refine blk_drewN ?_ _ | refine blk_drew ?_ | refine blk_alloc ?_ _)); exact BK318.out), GW318.out, GE318.out, NB309_318.out, NB318_309.out, NB310_318.out, NB318_310.out, (by repeat (first | (with_reducible first | exact HB.out | apply below_alloc | apply pw_below_drewN | apply below_drew1 | refine below_set ?_ GE309.out | refine below_set ?_ GE310.out | refine below_set ?_ GE318.out) | exact HB.out))⟩)
     ·skip
      refine box_step ?hg (N := 4) ?hd (cs := #[.bool false, .slice none 0 0]) (t := 32) ?hr ?_; (case hd => rfl); (case hg => rfl); (case hr => first | (go_simp; done) | (go_simp; rfl))
      intro gb318 hg w28 hbox hb
      have n0_ := Aside0.mk (Kd.R_below (rr_ HO313.out) hb)
      have n1_ := Aside0.mk (blk_below (g := gb309) (o := .cells #[.bool a0_0, .int .u64 a0_1, .int .i64 a0_2] 24 (0, 0)) (by (with_reducible repeat (first | refine blk_drewN ?_ _ | refine blk_drew ?_ | refine blk_alloc ?_ _)); exact BK309.out) hb)
      have n2_ := Aside0.mk (blk_below (g := gb310) (o := .cells #[.bool false, .slice none 0 0, .int .i64 0] 43 (0, 0)) (by (with_reducible repeat (first | refine blk_drewN ?_ _ | refine blk_drew ?_ | refine blk_alloc ?_ _)); exact BK310.out) hb)
      have n3_ := Aside0.mk (below_step (by repeat (first | (with_reducible first | exact HB.out | apply below_alloc | apply pw_below_drewN | apply below_drew1 | refine below_set ?_ GE309.out | refine below_set ?_ GE310.out) | exact HB.out)) hb)
      have n4_ := Aside0.mk (hbox)
      have n5_ := Aside0.mk ((by rw [hg]; exact (below_size (by repeat (first | (with_reducible first | exact HB.out | apply below_alloc | apply pw_below_drewN | apply below_drew1 | refine below_set ?_ GE309.out | refine below_set ?_ GE310.out) | exact HB.out))) : w.heap.size ≤ gb318))
      have n6_ := Aside0.mk ((by rw [hg]; exact (below_size (by repeat (first | (with_reducible first | exact HB.out | apply below_alloc | apply pw_below_drewN | apply below_drew1 | refine below_set ?_ GE309.out | refine below_set ?_ GE310.out) | exact HB.out))) : w.heap.size ≤ gb318))
      have n7_ := Aside0.mk ((by rw [hg]; exact Nat.ne_of_lt (blk_lt (g := gb309) (o := .cells #[.bool a0_0, .int .u64 a0_1, .int .i64 a0_2] 24 (0, 0)) (by (with_reducible repeat (first | refine blk_drewN ?_ _ | refine blk_drew ?_ | refine blk_alloc ?_ _)); exact BK309.out)) : gb309 ≠ gb318))
      have n8_ := Aside0.mk ((by rw [hg]; exact Nat.ne_of_gt (blk_lt (g := gb309) (o := .cells #[.bool a0_0, .int .u64 a0_1, .int .i64 a0_2] 24 (0, 0)) (by (with_reducible repeat (first | refine blk_drewN ?_ _ | refine blk_drew ?_ | refine blk_alloc ?_ _)); exact BK309.out)) : gb318 ≠ gb309))
      have n9_ := Aside0.mk ((by rw [hg]; exact Nat.ne_of_lt (blk_lt (g := gb310) (o := .cells #[.bool false, .slice none 0 0, .int .i64 0] 43 (0, 0)) (by (with_reducible repeat (first | refine blk_drewN ?_ _ | refine blk_drew ?_ | refine blk_alloc ?_ _)); exact BK310.out)) : gb310 ≠ gb318))
      have n10_ := Aside0.mk ((by rw [hg]; exact Nat.ne_of_gt (blk_lt (g := gb310) (o := .cells #[.bool false, .slice none 0 0, .int .i64 0] 43 (0, 0)) (by (with_reducible repeat (first | refine blk_drewN ?_ _ | refine blk_drew ?_ | refine blk_alloc ?_ _)); exact BK310.out)) : gb318 ≠ gb310))
      clear HO313
      clear BK309
      clear BK310
      clear HB
      have HO313 := n0_
      have BK309 := n1_
      have BK310 := n2_
      have HB := n3_
      have BK318 := n4_
      have GW318 := n5_
      have GE318 := n6_
      have NB309_318 := n7_
      have NB318_309 := n8_
      have NB310_318 := n9_
      have NB318_310 := n10_
      clear n0_ n1_ n2_ n3_ n4_ n5_ n6_ n7_ n8_ n9_ n10_
      clear hb hbox hg
      obtain ⟨Ao29, co29, eo29⟩ := Kd.R_slice HO313.out
      (first | subst eo29 | (injection eo29 with f1_ f2_ f3_; have f4_ := f1_.symm; have f5_ := f3_.symm; clear f1_ f2_ f3_; subst f4_; subst f5_))
      refine hK.out _ _ ⟨(blk_cell BK309.out 0).trans rfl, (blk_cell BK309.out 1).trans rfl, (blk_cell BK309.out 2).trans rfl⟩ (fun hHeld => ?_)
      clear hK K
      refine norm_ (a' := ?_) ?_ ?_
      rotate_left
      ·show Act.put _ (some 4) _ = _
       simp only [Act.put, List.setIfInBounds_toArray, List.set_cons_zero, List.set_cons_succ, i64_w, i32_w]
       rfl
      refine one_ (i := 5) (N := some 10) #[true, true, true, true, true, true, true, false] rfl rfl (one_of HT_.out kr_) (by decide) (fun K hK => ?_)
      refine goes_ Tryz.func39 kr_ rfl #[.bool a0_0, .slice Ao29 t311.length co29] (by rfl) rfl rfl lm_ ?_
      with_reducible refine (spec_wholeOf.calls a0_0 (fun k_ => some k_ = (.slice Ao29 t311.length co29 : Value).ownBlock) (.slice Ao29 t311.length co29) t311 t314 t315 w _ ?side1 ?side2 A3.out).mono ?_
      (case side1 => repeat (first | (with_reducible first | exact HB.out | apply below_alloc | apply pw_below_drewN | apply below_drew1 | refine below_set ?_ GE309.out | refine below_set ?_ GE310.out | refine below_set ?_ GE318.out) | exact HB.out))
      (case side2 => exact Kd.R_tight rfl HO313.out)
      rintro e w30 ⟨v316, rfl, ho0, hb, hkp⟩
      refine ⟨_, rfl, ?_⟩
      have n0_ := Aside0.mk (blk_kept (by (with_reducible repeat (first | refine blk_drewN ?_ _ | refine blk_drew ?_ | refine blk_alloc ?_ _)); exact BK309.out) hkp (fun hs_ => (fun e_ => (Kd.R_ne HO313.out BK309.out (by decide)) e_) hs_))
      have n1_ := Aside0.mk (blk_kept (by (with_reducible repeat (first | refine blk_drewN ?_ _ | refine blk_drew ?_ | refine blk_alloc ?_ _)); exact BK310.out) hkp (fun hs_ => (fun e_ => (Kd.R_ne HO313.out BK310.out (by decide)) e_) hs_))
      have n2_ := Aside0.mk (blk_kept (by (with_reducible repeat (first | refine blk_drewN ?_ _ | refine blk_drew ?_ | refine blk_alloc ?_ _)); exact BK318.out) hkp (fun hs_ => (fun e_ => (Kd.R_ne HO313.out BK318.out (by decide)) e_) hs_))
      have n3_ := Aside0.mk (Kd.R_mono (ok' := fun k_ => True) ho0 (fun k_ hk_ => trivial))
      have n4_ := Aside0.mk (hb)
      clear BK309
      clear BK310
      clear BK318
      clear HB
      clear HO313
      have BK309 := n0_
      have BK310 := n1_
      have BK318 := n2_
      have HO317 := n3_
      have HB := n4_
      clear n0_ n1_ n2_ n3_ n4_
      (try clear hb)
      (try clear hkp)
      (try clear ho0)
      refine hK.out _ _ ⟨(blk_cell BK309.out 0).trans rfl, (blk_cell BK309.out 1).trans rfl, (blk_cell BK309.out 2).trans rfl⟩ (fun hHeld => ?_)
      clear hK K
      refine norm_ (a' := ?_) ?_ ?_
      rotate_left
      ·show Act.put _ (some 10) _ = _
       simp only [Act.put, List.setIfInBounds_toArray, List.set_cons_zero, List.set_cons_succ, i64_w, i32_w]
       rfl
      exact norm_ (by simp only [putAll, Act.put, List.setIfInBounds_toArray, List.set_cons_zero, List.set_cons_succ]) (hCont (.slice Ao29 t311.length co29, v316, gb318) _ ⟨hHeld, (rr_ HO317.out), (by (with_reducible repeat (first | refine blk_drewN ?_ _ | refine blk_drew ?_ | refine blk_alloc ?_ _)); exact BK309.out), (by (with_reducible repeat (first | refine blk_drewN ?_ _ | refine blk_drew ?_ | refine blk_alloc ?_ _)); exact BK310.out), (by (with_reducible repeat (first | refine blk_drewN ?_ _ | refine blk_drew ?_ | refine blk_alloc ?_ _)); exact BK318.out), GW318.out, GE318.out, NB309_318.out, NB318_309.out, NB310_318.out, NB318_310.out, (by repeat (first | (with_reducible first | exact HB.out | apply below_alloc | apply pw_below_drewN | apply below_drew1 | refine below_set ?_ GE309.out | refine below_set ?_ GE310.out | refine below_set ?_ GE318.out) | exact HB.out))⟩)
    ·skip
     refine box_step ?hg (N := 4) ?hd (cs := #[.bool false, .slice none 0 0]) (t := 32) ?hr ?_; (case hd => rfl); (case hg => rfl); (case hr => first | (go_simp; done) | (go_simp; rfl))
     intro gb318 hg w27 hbox hb
     have n0_ := Aside0.mk (blk_below (g := gb309) (o := .cells #[.bool a0_0, .int .u64 a0_1, .int .i64 a0_2] 24 (0, 0)) (by (with_reducible repeat (first | refine blk_drewN ?_ _ | refine blk_drew ?_ | refine blk_alloc ?_ _)); exact BK309.out) hb)
     have n1_ := Aside0.mk (blk_below (g := gb310) (o := .cells #[.bool false, .slice none 0 0, .int .i64 0] 43 (0, 0)) (by (with_reducible repeat (first | refine blk_drewN ?_ _ | refine blk_drew ?_ | refine blk_alloc ?_ _)); exact BK310.out) hb)
     have n2_ := Aside0.mk (below_step (by repeat (first | (with_reducible first | exact HB.out | apply below_alloc | apply pw_below_drewN | apply below_drew1 | refine below_set ?_ GE309.out | refine below_set ?_ GE310.out) | exact HB.out)) hb)
     have n3_ := Aside0.mk (hbox)
     have n4_ := Aside0.mk ((by rw [hg]; exact (below_size (by repeat (first | (with_reducible first | exact HB.out | apply below_alloc | apply pw_below_drewN | apply below_drew1 | refine below_set ?_ GE309.out | refine below_set ?_ GE310.out) | exact HB.out))) : w.heap.size ≤ gb318))
     have n5_ := Aside0.mk ((by rw [hg]; exact (below_size (by repeat (first | (with_reducible first | exact HB.out | apply below_alloc | apply pw_below_drewN | apply below_drew1 | refine below_set ?_ GE309.out | refine below_set ?_ GE310.out) | exact HB.out))) : w.heap.size ≤ gb318))
     have n6_ := Aside0.mk ((by rw [hg]; exact Nat.ne_of_lt (blk_lt (g := gb309) (o := .cells #[.bool a0_0, .int .u64 a0_1, .int .i64 a0_2] 24 (0, 0)) (by (with_reducible repeat (first | refine blk_drewN ?_ _ | refine blk_drew ?_ | refine blk_alloc ?_ _)); exact BK309.out)) : gb309 ≠ gb318))
     have n7_ := Aside0.mk ((by rw [hg]; exact Nat.ne_of_gt (blk_lt (g := gb309) (o := .cells #[.bool a0_0, .int .u64 a0_1, .int .i64 a0_2] 24 (0, 0)) (by (with_reducible repeat (first | refine blk_drewN ?_ _ | refine blk_drew ?_ | refine blk_alloc ?_ _)); exact BK309.out)) : gb318 ≠ gb309))
     have n8_ := Aside0.mk ((by rw [hg]; exact Nat.ne_of_lt (blk_lt (g := gb310) (o := .cells #[.bool false, .slice none 0 0, .int .i64 0] 43 (0, 0)) (by (with_reducible repeat (first | refine blk_drewN ?_ _ | refine blk_drew ?_ | refine blk_alloc ?_ _)); exact BK310.out)) : gb310 ≠ gb318))
     have n9_ := Aside0.mk ((by rw [hg]; exact Nat.ne_of_gt (blk_lt (g := gb310) (o := .cells #[.bool false, .slice none 0 0, .int .i64 0] 43 (0, 0)) (by (with_reducible repeat (first | refine blk_drewN ?_ _ | refine blk_drew ?_ | refine blk_alloc ?_ _)); exact BK310.out)) : gb318 ≠ gb310))
     clear BK309
     clear BK310
     clear HB
     have BK309 := n0_
     have BK310 := n1_
     have HB := n2_
     have BK318 := n3_
     have GW318 := n4_
     have GE318 := n5_
     have NB309_318 := n6_
     have NB318_309 := n7_
     have NB310_318 := n8_
     have NB318_310 := n9_
     clear n0_ n1_ n2_ n3_ n4_ n5_ n6_ n7_ n8_ n9_
     clear hb hbox hg
     refine hK.out _ _ ⟨(blk_cell BK309.out 0).trans rfl, (blk_cell BK309.out 1).trans rfl, (blk_cell BK309.out 2).trans rfl⟩ (fun hHeld => ?_)
     clear hK K
     refine norm_ (a' := ?_) ?_ ?_
     rotate_left
     ·show Act.put _ (some 4) _ = _
      simp only [Act.put, List.setIfInBounds_toArray, List.set_cons_zero, List.set_cons_succ, i64_w, i32_w]
      rfl
     refine one_ (i := 4) (N := some 9) #[true, true, true, true, true, false, true, false] rfl rfl (one_of HT_.out kr_) (by decide) (fun K hK => ?_)
     refine goes_ Tryz.func52 kr_ rfl #[.int .u64 a0_1] (by rfl) rfl rfl lm_ ?_
     with_reducible refine (spec_NatFrom.calls k a0_1 t311 _ A2.out).mono ?_
     rintro e w28 ⟨v312, rfl, ho0, hb⟩
     refine ⟨_, rfl, ?_⟩
     have n0_ := Aside0.mk (Kd.R_lower ho0 (below_size (by repeat (first | (with_reducible first | exact HB.out | apply below_alloc | apply pw_below_drewN | apply below_drew1 | refine below_set ?_ GE309.out | refine below_set ?_ GE310.out | refine below_set ?_ GE318.out) | exact HB.out))))
     have n1_ := Aside0.mk (blk_below (g := gb309) (o := .cells #[.bool a0_0, .int .u64 a0_1, .int .i64 a0_2] 24 (0, 0)) (by (with_reducible repeat (first | refine blk_drewN ?_ _ | refine blk_drew ?_ | refine blk_alloc ?_ _)); exact BK309.out) hb)
     have n2_ := Aside0.mk (blk_below (g := gb310) (o := .cells #[.bool false, .slice none 0 0, .int .i64 0] 43 (0, 0)) (by (with_reducible repeat (first | refine blk_drewN ?_ _ | refine blk_drew ?_ | refine blk_alloc ?_ _)); exact BK310.out) hb)
     have n3_ := Aside0.mk (blk_below (g := gb318) (o := .cells #[.bool false, .slice none 0 0] 32 (0, 0)) (by (with_reducible repeat (first | refine blk_drewN ?_ _ | refine blk_drew ?_ | refine blk_alloc ?_ _)); exact BK318.out) hb)
     have n4_ := Aside0.mk (below_step (by repeat (first | (with_reducible first | exact HB.out | apply below_alloc | apply pw_below_drewN | apply below_drew1 | refine below_set ?_ GE309.out | refine below_set ?_ GE310.out | refine below_set ?_ GE318.out) | exact HB.out)) hb)
     clear BK309
     clear BK310
     clear BK318
     clear HB
     have HO313 := n0_
     have BK309 := n1_
     have BK310 := n2_
     have BK318 := n3_
     have HB := n4_
     clear n0_ n1_ n2_ n3_ n4_
     (try clear hb)
     (try clear hb2)
     (try clear hk)
     (try clear hi)
     (try clear ho0)
     obtain ⟨Ao29, co29, eo29⟩ := Kd.R_slice HO313.out
     (first | subst eo29 | (injection eo29 with f1_ f2_ f3_; have f4_ := f1_.symm; have f5_ := f3_.symm; clear f1_ f2_ f3_; subst f4_; subst f5_))
     refine hK.out _ _ ⟨(blk_cell BK309.out 0).trans rfl, (blk_cell BK309.out 1).trans rfl, (blk_cell BK309.out 2).trans rfl⟩ (fun hHeld => ?_)
     clear hK K
     refine norm_ (a' := ?_) ?_ ?_
     rotate_left
     ·show Act.put _ (some 9) _ = _
      simp only [Act.put, List.setIfInBounds_toArray, List.set_cons_zero, List.set_cons_succ, i64_w, i32_w]
      rfl
     refine one_ (i := 5) (N := some 10) #[true, true, true, true, true, true, true, false] rfl rfl (one_of HT_.out kr_) (by decide) (fun K hK => ?_)
     refine goes_ Tryz.func39 kr_ rfl #[.bool a0_0, .slice Ao29 t311.length co29] (by rfl) rfl rfl lm_ ?_
     with_reducible refine (spec_wholeOf.calls a0_0 (fun k_ => some k_ = (.slice Ao29 t311.length co29 : Value).ownBlock) (.slice Ao29 t311.length co29) t311 t314 t315 w _ ?side1 ?side2 A3.out).mono ?_
     (case side1 => repeat (first | (with_reducible first | exact HB.out | apply below_alloc | apply pw_below_drewN | apply below_drew1 | refine below_set ?_ GE309.out | refine below_set ?_ GE310.out | refine below_set ?_ GE318.out) | exact HB.out))
     (case side2 => exact Kd.R_tight rfl HO313.out)
     rintro e w30 ⟨v316, rfl, ho0, hb, hkp⟩
     refine ⟨_, rfl, ?_⟩
     have n0_ := Aside0.mk (blk_kept (by (with_reducible repeat (first | refine blk_drewN ?_ _ | refine blk_drew ?_ | refine blk_alloc ?_ _)); exact BK309.out) hkp (fun hs_ => (fun e_ => (Kd.R_ne HO313.out BK309.out (by decide)) e_) hs_))
     have n1_ := Aside0.mk (blk_kept (by (with_reducible repeat (first | refine blk_drewN ?_ _ | refine blk_drew ?_ | refine blk_alloc ?_ _)); exact BK310.out) hkp (fun hs_ => (fun e_ => (Kd.R_ne HO313.out BK310.out (by decide)) e_) hs_))
     have n2_ := Aside0.mk (blk_kept (by (with_reducible repeat (first | refine blk_drewN ?_ _ | refine blk_drew ?_ | refine blk_alloc ?_ _)); exact BK318.out) hkp (fun hs_ => (fun e_ => (Kd.R_ne HO313.out BK318.out (by decide)) e_) hs_))
     have n3_ := Aside0.mk (Kd.R_mono (ok' := fun k_ => True) ho0 (fun k_ hk_ => trivial))
     have n4_ := Aside0.mk (hb)
     clear BK309
     clear BK310
     clear BK318
     clear HB
     clear HO313
     have BK309 := n0_
     have BK310 := n1_
     have BK318 := n2_
     have HO317 := n3_
     have HB := n4_
     clear n0_ n1_ n2_ n3_ n4_
     (try clear hb)
     (try clear hkp)
     (try clear ho0)
     refine hK.out _ _ ⟨(blk_cell BK309.out 0).trans rfl, (blk_cell BK309.out 1).trans rfl, (blk_cell BK309.out 2).trans rfl⟩ (fun hHeld => ?_)
     clear hK K
     refine norm_ (a' := ?_) ?_ ?_
     rotate_left
     ·show Act.put _ (some 10) _ = _
      simp only [Act.put, List.setIfInBounds_toArray, List.set_cons_zero, List.set_cons_succ, i64_w, i32_w]
      rfl
     exact norm_ (by simp only [putAll, Act.put, List.setIfInBounds_toArray, List.set_cons_zero, List.set_cons_succ]) (hCont (.slice Ao29 t311.length co29, v316, gb318) _ ⟨hHeld, (rr_ HO317.out), (by (with_reducible repeat (first | refine blk_drewN ?_ _ | refine blk_drew ?_ | refine blk_alloc ?_ _)); exact BK309.out), (by (with_reducible repeat (first | refine blk_drewN ?_ _ | refine blk_drew ?_ | refine blk_alloc ?_ _)); exact BK310.out), (by (with_reducible repeat (first | refine blk_drewN ?_ _ | refine blk_drew ?_ | refine blk_alloc ?_ _)); exact BK318.out), GW318.out, GE318.out, NB309_318.out, NB318_309.out, NB310_318.out, NB318_310.out, (by repeat (first | (with_reducible first | exact HB.out | apply below_alloc | apply pw_below_drewN | apply below_drew1 | refine below_set ?_ GE309.out | refine below_set ?_ GE310.out | refine below_set ?_ GE318.out) | exact HB.out))⟩)
   rintro ⟨v312, v316, gb318⟩ w31 ⟨hS_, h0_, h1_, h2_, h3_, h4_, h5_, h6_, h7_, h8_, h9_, h10_⟩
   have n0_ : Aside0 (Kd.R (Kd.int .u32) 80 w31 w.heap.size (fun _ => True) v316 t315) := ⟨h0_⟩
   have n1_ : Aside0 (w31.heap[gb309]? = some (.cells #[.bool a0_0, .int .u64 a0_1, .int .i64 a0_2] 24 (0, 0))) := ⟨h1_⟩
   have n2_ : Aside0 (w31.heap[gb310]? = some (.cells #[.bool false, .slice none 0 0, .int .i64 0] 43 (0, 0))) := ⟨h2_⟩
   have n3_ : Aside0 (w31.heap[gb318]? = some (.cells #[.bool false, .slice none 0 0] 32 (0, 0))) := ⟨h3_⟩
   have n4_ : Aside0 (w.heap.size ≤ gb318) := ⟨h4_⟩
   have n5_ : Aside0 (w.heap.size ≤ gb318) := ⟨h5_⟩
   have n6_ : Aside0 (gb309 ≠ gb318) := ⟨h6_⟩
   have n7_ : Aside0 (gb318 ≠ gb309) := ⟨h7_⟩
   have n8_ : Aside0 (gb310 ≠ gb318) := ⟨h8_⟩
   have n9_ : Aside0 (gb318 ≠ gb310) := ⟨h9_⟩
   have n10_ : Aside0 (Below w.heap.size w w31) := ⟨h10_⟩
   clear BK309
   clear BK310
   clear HB
   clear h0_ h1_ h2_ h3_ h4_ h5_ h6_ h7_ h8_ h9_ h10_
   have HO317 := n0_
   have BK309 := n1_
   have BK310 := n2_
   have BK318 := n3_
   have GW318 := n4_
   have GE318 := n5_
   have NB309_318 := n6_
   have NB318_309 := n7_
   have NB310_318 := n8_
   have NB318_310 := n9_
   have HB := n10_
   clear n0_ n1_ n2_ n3_ n4_ n5_ n6_ n7_ n8_ n9_ n10_
   have hHeld : w31.cell? ⟨gb309, 0, none⟩ = some (.bool a0_0) ∧ w31.cell? ⟨gb309, 1, none⟩ = some (.int .u64 a0_1) ∧ w31.cell? ⟨gb309, 2, none⟩ = some (.int .i64 a0_2) := hS_
   obtain ⟨Ao33, co33, eo33⟩ := Kd.R_slice HO317.out
   (first | subst eo33 | (injection eo33 with f1_ f2_ f3_; have f4_ := f1_.symm; have f5_ := f3_.symm; clear f1_ f2_ f3_; subst f4_; subst f5_))
   refine norm_ (a' := ?_) ?_ ?_
   rotate_left
   ·simp only [putAll, Act.put, List.setIfInBounds_toArray, List.set_cons_zero, List.set_cons_succ]
    rfl
   refine one_ (i := 7) (N := none) #[true, true, true, true, true, true, true, true] rfl rfl (one_of HT_.out kr_) (by decide) (fun K hK => ?_)
   have hs32 : w31.cell? ⟨gb318, 0, none⟩ = some (.bool false) := (blk_cell BK318.out 0).trans rfl
   have hfs32 := blk_frozen BK318.out 0
   have hns32_0 := NB309_318.out
   have hns32_1 := NB310_318.out
   have hms32_0 := NB318_309.out
   have hms32_1 := NB318_310.out
   have hs34 : w31.cell? ⟨gb318, 1, none⟩ = some (.slice none 0 0) := (blk_cell BK318.out 1).trans rfl
   have hfs34 := blk_frozen BK318.out 1
   have hns34_0 := NB309_318.out
   have hns34_1 := NB310_318.out
   have hms34_0 := NB318_309.out
   have hms34_1 := NB318_310.out
   refine skip_ (w1 := ?_) (by rfl) rfl ?_ ?_
   rotate_left
   ·go_simp
    rfl
   refine hK.out _ _ ⟨((cell_far (p := ⟨gb318, _, none⟩) NB309_318.out _).trans (((cell_far (p := ⟨gb318, _, none⟩) NB309_318.out _).trans (hHeld.1)))), ((cell_far (p := ⟨gb318, _, none⟩) NB309_318.out _).trans (((cell_far (p := ⟨gb318, _, none⟩) NB309_318.out _).trans (hHeld.2.1)))), ((cell_far (p := ⟨gb318, _, none⟩) NB309_318.out _).trans (((cell_far (p := ⟨gb318, _, none⟩) NB309_318.out _).trans (hHeld.2.2))))⟩ (fun hHeld => ?_)
   clear hK K
   refine done_ (done_of HT_.out kr_) ?_
   try go_wp2
   have n0_ : Aside0 (Kd.R (Kd.int .u32) 80 ((w31.setCell ⟨gb318, 0, none⟩ (.bool t314)).setCell ⟨gb318, 1, none⟩ (.slice Ao33 t315.length co33)) w.heap.size (fun _ => True) (.slice Ao33 t315.length co33) t315) := ⟨by (with_reducible repeat (first | apply Kd.R_alloc | apply Kd.R_drewN | apply Kd.R_drew)); exact Kd.R_mono (Kd.R_far (p := ⟨gb318, 1, none⟩) (Kd.R_far (p := ⟨gb318, 0, none⟩) (Kd.R_types HO317.out BK318.out (by decide)) (fun _ hk => hk.2) (.bool t314)) (fun _ hk => hk.2) (.slice Ao33 t315.length co33)) (fun _ hk => trivial)⟩
   have n1_ : Aside0 (((w31.setCell ⟨gb318, 0, none⟩ (.bool t314)).setCell ⟨gb318, 1, none⟩ (.slice Ao33 t315.length co33)).heap[gb309]? = some (.cells #[.bool a0_0, .int .u64 a0_1, .int .i64 a0_2] 24 (0, 0))) := ⟨by (with_reducible repeat (first | refine blk_drewN ?_ _ | refine blk_drew ?_ | refine blk_alloc ?_ _)); refine blk_far ?_ NB309_318.out _; (with_reducible repeat (first | refine blk_drewN ?_ _ | refine blk_drew ?_ | refine blk_alloc ?_ _)); refine blk_far ?_ NB309_318.out _; (with_reducible repeat (first | refine blk_drewN ?_ _ | refine blk_drew ?_ | refine blk_alloc ?_ _)); exact BK309.out⟩
   have n2_ : Aside0 (((w31.setCell ⟨gb318, 0, none⟩ (.bool t314)).setCell ⟨gb318, 1, none⟩ (.slice Ao33 t315.length co33)).heap[gb310]? = some (.cells #[.bool false, .slice none 0 0, .int .i64 0] 43 (0, 0))) := ⟨by (with_reducible repeat (first | refine blk_drewN ?_ _ | refine blk_drew ?_ | refine blk_alloc ?_ _)); refine blk_far ?_ NB310_318.out _; (with_reducible repeat (first | refine blk_drewN ?_ _ | refine blk_drew ?_ | refine blk_alloc ?_ _)); refine blk_far ?_ NB310_318.out _; (with_reducible repeat (first | refine blk_drewN ?_ _ | refine blk_drew ?_ | refine blk_alloc ?_ _)); exact BK310.out⟩
   have n3_ : Aside0 (((w31.setCell ⟨gb318, 0, none⟩ (.bool t314)).setCell ⟨gb318, 1, none⟩ (.slice Ao33 t315.length co33)).heap[gb318]? = some (.cells #[.bool t314, .slice Ao33 t315.length co33] 32 (0, 0))) := ⟨by (with_reducible repeat (first | refine blk_drewN ?_ _ | refine blk_drew ?_ | refine blk_alloc ?_ _)); refine blk_put (cs := #[.bool t314, .slice none 0 0]) ?_ 1 _ rfl; (with_reducible repeat (first | refine blk_drewN ?_ _ | refine blk_drew ?_ | refine blk_alloc ?_ _)); refine blk_put (cs := #[.bool false, .slice none 0 0]) ?_ 0 _ rfl; (with_reducible repeat (first | refine blk_drewN ?_ _ | refine blk_drew ?_ | refine blk_alloc ?_ _)); exact BK318.out⟩
   have n4_ : Aside0 (Below w.heap.size w ((w31.setCell ⟨gb318, 0, none⟩ (.bool t314)).setCell ⟨gb318, 1, none⟩ (.slice Ao33 t315.length co33))) := ⟨by repeat (first | (with_reducible first | exact HB.out | apply below_alloc | apply pw_below_drewN | apply below_drew1 | refine below_set ?_ GE309.out | refine below_set ?_ GE310.out | refine below_set ?_ GE318.out) | exact HB.out)⟩
   (try clear HO317)
   (try clear BK309)
   (try clear BK310)
   (try clear BK318)
   (try clear HB)
   generalize ((w31.setCell ⟨gb318, 0, none⟩ (.bool t314)).setCell ⟨gb318, 1, none⟩ (.slice Ao33 t315.length co33)) = w35 at n0_ n1_ n2_ n3_ n4_ ⊢
   have HO317 := n0_
   have BK309 := n1_
   have BK310 := n2_
   have BK318 := n3_
   have HB := n4_
   clear n0_ n1_ n2_ n3_ n4_
   have n0_ := Aside0.mk (Kd.R_drew HO317.out)
   have n1_ := Aside0.mk (blk_drew BK309.out)
   have n2_ := Aside0.mk (blk_drew BK310.out)
   have n3_ := Aside0.mk (blk_drew BK318.out)
   have n4_ := Aside0.mk (below_drew1 HB.out)
   clear HO317
   clear BK309
   clear BK310
   clear BK318
   clear HB
   have HO317 := n0_
   have BK309 := n1_
   have BK310 := n2_
   have BK318 := n3_
   have HB := n4_
   clear n0_ n1_ n2_ n3_ n4_
   refine start_ (n := 21) (S := fun w' => w'.cell? ⟨gb318, 0, none⟩ = some (.bool t314) ∧ w'.cell? ⟨gb318, 1, none⟩ = some (.slice Ao33 t315.length co33) ∧ w'.cell? ⟨gb309, 0, none⟩ = some (.bool a0_0) ∧ w'.cell? ⟨gb309, 1, none⟩ = some (.int .u64 a0_1) ∧ w'.cell? ⟨gb309, 2, none⟩ = some (.int .i64 a0_2)) (ds := []) #[false, false, false, false, false, false, false, false, false, false, false, false, false, false, false, false, false, false, false, false, false] kr_ rfl rfl ⟨(blk_cell BK318.out 0).trans rfl, (blk_cell BK318.out 1).trans rfl, (blk_cell BK309.out 0).trans rfl, (blk_cell BK309.out 1).trans rfl, (blk_cell BK309.out 2).trans rfl⟩ (fun hHeld => ?_); refine with_tabW spec_OfFix.tab2 spec_OfFix.bits2 (fun HT_ HW_ => ?_)
   generalize w35.drew = w36 at HO317 BK309 BK310 BK318 HB hHeld ⊢
   refine pure_ (i := 1) (N := some 12) (v := ?_) (a' := ?_) #[false, true, false, false, false, false, false, false, false, false, false, false, false, false, false, false, false, false, false, false, false] rfl rfl (any_of HT_.out kr_) (fun _ _ _ h => h) (Or.inl ⟨by rfl, ?_⟩) ?_ ?_
   rotate_left
   ·intro w'
    go_simp
    with_reducible rfl
   rotate_left
   ·simp only [Act.put, List.setIfInBounds_toArray, List.set_cons_zero, List.set_cons_succ, i64_w, i32_w]
    rfl
   refine pure_ (i := 5) (N := some 16) (v := ?_) (a' := ?_) #[false, true, false, false, false, true, false, false, false, false, false, false, false, false, false, false, false, false, false, false, false] rfl rfl (any_of HT_.out kr_) (fun _ _ _ h => h) (Or.inl ⟨by rfl, ?_⟩) ?_ ?_
   rotate_left
   ·intro w'
    go_simp
    with_reducible rfl
   rotate_left
   ·simp only [Act.put, List.setIfInBounds_toArray, List.set_cons_zero, List.set_cons_succ, i64_w, i32_w]
    rfl
   refine take_ (i := 0) (N := some 11) (v := ?_) (a' := ?_) #[true, true, false, false, false, true, false, false, false, false, false, false, false, false, false, false, false, false, false, false, false] rfl rfl (take_ofW HT_.out HW_.out kr_) (fun _ _ _ h => h) (Or.inl ⟨by rfl, ?_⟩) hHeld ?_ ?_
   rotate_left
   ·rintro w' ⟨s0, s1, s2, s3, s4⟩
    go_simp
    with_reducible rfl
   rotate_left
   ·simp only [Act.put, List.setIfInBounds_toArray, List.set_cons_zero, List.set_cons_succ, i64_w, i32_w]
    rfl
   refine take_ (i := 2) (N := some 13) (v := ?_) (a' := ?_) #[true, true, true, false, false, true, false, false, false, false, false, false, false, false, false, false, false, false, false, false, false] rfl rfl (take_ofW HT_.out HW_.out kr_) (fun _ _ _ h => h) (Or.inl ⟨by rfl, ?_⟩) hHeld ?_ ?_
   rotate_left
   ·rintro w' ⟨s0, s1, s2, s3, s4⟩
    go_simp
    with_reducible rfl
   rotate_left
   ·simp only [Act.put, List.setIfInBounds_toArray, List.set_cons_zero, List.set_cons_succ, i64_w, i32_w]
    rfl
   refine pure_ (i := 3) (N := some 14) (v := ?_) (a' := ?_) #[true, true, true, true, false, true, false, false, false, false, false, false, false, false, false, false, false, false, false, false, false] rfl rfl (any_of HT_.out kr_) (fun _ _ _ h => h) (Or.inl ⟨by rfl, ?_⟩) ?_ ?_
   rotate_left
   ·intro w'
    go_simp
    with_reducible rfl
   rotate_left
   ·simp only [Act.put, List.setIfInBounds_toArray, List.set_cons_zero, List.set_cons_succ, i64_w, i32_w]
    rfl
   refine pure_ (i := 4) (N := some 15) (v := ?_) (a' := ?_) #[true, true, true, true, true, true, false, false, false, false, false, false, false, false, false, false, false, false, false, false, false] rfl rfl (any_of HT_.out kr_) (fun _ _ _ h => h) (Or.inl ⟨by rfl, ?_⟩) ?_ ?_
   rotate_left
   ·intro w'
    go_simp
    with_reducible rfl
   rotate_left
   ·simp only [Act.put, List.setIfInBounds_toArray, List.set_cons_zero, List.set_cons_succ, i64_w, i32_w]
    rfl
   refine take_ (i := 6) (N := some 17) (v := ?_) (a' := ?_) #[true, true, true, true, true, true, true, false, false, false, false, false, false, false, false, false, false, false, false, false, false] rfl rfl (take_ofW HT_.out HW_.out kr_) (fun _ _ _ h => h) (Or.inl ⟨by rfl, ?_⟩) hHeld ?_ ?_
   rotate_left
   ·rintro w' ⟨s0, s1, s2, s3, s4⟩
    go_simp
    with_reducible rfl
   rotate_left
   ·simp only [Act.put, List.setIfInBounds_toArray, List.set_cons_zero, List.set_cons_succ, i64_w, i32_w]
    rfl
   refine one_ (i := 7) (N := some 18) #[true, true, true, true, true, true, true, true, false, false, false, false, false, false, false, false, false, false, false, false, false] rfl rfl (one_of HT_.out kr_) (by decide) (fun K hK => ?_)
   refine goes_ Tryz.func37 kr_ rfl #[.slice Ao33 t315.length co33] (by rfl) rfl rfl lm_ ?_
   with_reducible refine (spec_Nat_Digits.calls k _ _ t315 t319 _ ?side1 ?side2 A4.out).mono ?_
   (case side1 => exact cr_ (Kd.R_reads' HO317.out).2.2)
   (case side2 => exact (Kd.R_reads' HO317.out).2.1)
   rintro e w37 ⟨rfl, hb⟩
   refine ⟨_, rfl, ?_⟩
   have n0_ := Aside0.mk (Kd.R_below (rr_ HO317.out) hb)
   have n1_ := Aside0.mk (blk_below (g := gb309) (o := .cells #[.bool a0_0, .int .u64 a0_1, .int .i64 a0_2] 24 (0, 0)) (by (with_reducible repeat (first | refine blk_drewN ?_ _ | refine blk_drew ?_ | refine blk_alloc ?_ _)); exact BK309.out) hb)
   have n2_ := Aside0.mk (blk_below (g := gb310) (o := .cells #[.bool false, .slice none 0 0, .int .i64 0] 43 (0, 0)) (by (with_reducible repeat (first | refine blk_drewN ?_ _ | refine blk_drew ?_ | refine blk_alloc ?_ _)); exact BK310.out) hb)
   have n3_ := Aside0.mk (blk_below (g := gb318) (o := .cells #[.bool t314, .slice Ao33 t315.length co33] 32 (0, 0)) (by (with_reducible repeat (first | refine blk_drewN ?_ _ | refine blk_drew ?_ | refine blk_alloc ?_ _)); exact BK318.out) hb)
   have n4_ := Aside0.mk (below_step (by repeat (first | (with_reducible first | exact HB.out | apply below_alloc | apply pw_below_drewN | apply below_drew1 | refine below_set ?_ GE309.out | refine below_set ?_ GE310.out | refine below_set ?_ GE318.out) | exact HB.out)) hb)
   clear HO317
   clear BK309
   clear BK310
   clear BK318
   clear HB
   have HO317 := n0_
   have BK309 := n1_
   have BK310 := n2_
   have BK318 := n3_
   have HB := n4_
   clear n0_ n1_ n2_ n3_ n4_
   (try clear hb)
   (try clear hb2)
   (try clear hk)
   (try clear hi)
   refine hK.out _ _ ⟨(blk_cell BK318.out 0).trans rfl, (blk_cell BK318.out 1).trans rfl, (blk_cell BK309.out 0).trans rfl, (blk_cell BK309.out 1).trans rfl, (blk_cell BK309.out 2).trans rfl⟩ (fun hHeld => ?_)
   clear hK K
   refine norm_ (a' := ?_) ?_ ?_
   rotate_left
   ·show Act.put _ (some 18) _ = _
    simp only [Act.put, List.setIfInBounds_toArray, List.set_cons_zero, List.set_cons_succ, i64_w, i32_w]
    rfl
   refine pure_ (i := 8) (N := some 19) (v := ?_) (a' := ?_) #[true, true, true, true, true, true, true, true, true, false, false, false, false, false, false, false, false, false, false, false, false] rfl rfl (any_of HT_.out kr_) (fun _ _ _ h => h) (Or.inl ⟨by rfl, ?_⟩) ?_ ?_
   rotate_left
   ·intro w'
    go_simp
    with_reducible rfl
   rotate_left
   ·simp only [Act.put, List.setIfInBounds_toArray, List.set_cons_zero, List.set_cons_succ, i64_w, i32_w]
    rfl
   refine pure_ (i := 9) (N := some 20) (v := ?_) (a' := ?_) #[true, true, true, true, true, true, true, true, true, true, false, false, false, false, false, false, false, false, false, false, false] rfl rfl (any_of HT_.out kr_) (fun _ _ _ h => h) (Or.inl ⟨by rfl, ?_⟩) ?_ ?_
   rotate_left
   ·intro w'
    go_simp
    with_reducible rfl
   rotate_left
   ·simp only [Act.put, List.setIfInBounds_toArray, List.set_cons_zero, List.set_cons_succ, i64_w, i32_w]
    rfl
   refine pure_ (i := 10) (N := some 21) (v := ?_) (a' := ?_) #[true, true, true, true, true, true, true, true, true, true, true, false, false, false, false, false, false, false, false, false, false] rfl rfl (any_of HT_.out kr_) (fun _ _ _ h => h) (Or.inl ⟨by rfl, ?_⟩) ?_ ?_
   rotate_left
   ·intro w'
    go_simp
    with_reducible rfl
   rotate_left
   ·simp only [Act.put, List.setIfInBounds_toArray, List.set_cons_zero, List.set_cons_succ, i64_w, i32_w]
    rfl
   refine take_ (i := 11) (N := some 22) (v := ?_) (a' := ?_) #[true, true, true, true, true, true, true, true, true, true, true, true, false, false, false, false, false, false, false, false, false] rfl rfl (take_ofW HT_.out HW_.out kr_) (fun _ _ _ h => h) (Or.inl ⟨by rfl, ?_⟩) hHeld ?_ ?_
   rotate_left
   ·rintro w' ⟨s0, s1, s2, s3, s4⟩
    go_simp
    with_reducible rfl
   rotate_left
   ·simp only [Act.put, List.setIfInBounds_toArray, List.set_cons_zero, List.set_cons_succ, i64_w, i32_w]
    rfl
   refine pure_ (i := 12) (N := some 23) (v := ?_) (a' := ?_) #[true, true, true, true, true, true, true, true, true, true, true, true, true, false, false, false, false, false, false, false, false] rfl rfl (any_of HT_.out kr_) (fun _ _ _ h => h) (Or.inl ⟨by rfl, ?_⟩) ?_ ?_
   rotate_left
   ·intro w'
    go_simp
    with_reducible rfl
   rotate_left
   ·simp only [Act.put, List.setIfInBounds_toArray, List.set_cons_zero, List.set_cons_succ, i64_w, i32_w]
    rfl
   refine pure_ (i := 13) (N := some 24) (v := ?_) (a' := ?_) #[true, true, true, true, true, true, true, true, true, true, true, true, true, true, false, false, false, false, false, false, false] rfl rfl (any_of HT_.out kr_) (fun _ _ _ h => h) (Or.inl ⟨by rfl, ?_⟩) ?_ ?_
   rotate_left
   ·intro w'
    go_simp
    with_reducible rfl
   rotate_left
   ·simp only [Act.put, List.setIfInBounds_toArray, List.set_cons_zero, List.set_cons_succ, i64_w, i32_w]
    rfl
   refine pure_ (i := 14) (N := some 25) (v := ?_) (a' := ?_) #[true, true, true, true, true, true, true, true, true, true, true, true, true, true, true, false, false, false, false, false, false] rfl rfl (any_of HT_.out kr_) (fun _ _ _ h => h) (Or.inl ⟨by rfl, ?_⟩) ?_ ?_
   rotate_left
   ·intro w'
    go_simp
    with_reducible rfl
   rotate_left
   ·simp only [Act.put, List.setIfInBounds_toArray, List.set_cons_zero, List.set_cons_succ, i64_w, i32_w]
    rfl
   refine pure_ (i := 15) (N := some 26) (v := undef) (a' := ?_) #[true, true, true, true, true, true, true, true, true, true, true, true, true, true, true, true, false, false, false, false, false] rfl rfl (any_of HT_.out kr_) (fun _ _ _ h => h) (Or.inr ⟨by rfl, rfl⟩) ?_ ?_
   rotate_left
   ·simp only [Act.put, List.setIfInBounds_toArray, List.set_cons_zero, List.set_cons_succ, i64_w, i32_w]
    rfl
   refine pure_ (i := 16) (N := some 27) (v := undef) (a' := ?_) #[true, true, true, true, true, true, true, true, true, true, true, true, true, true, true, true, true, false, false, false, false] rfl rfl (any_of HT_.out kr_) (fun _ _ _ h => h) (Or.inr ⟨by rfl, rfl⟩) ?_ ?_
   rotate_left
   ·simp only [Act.put, List.setIfInBounds_toArray, List.set_cons_zero, List.set_cons_succ, i64_w, i32_w]
    rfl
   refine pure_ (i := 17) (N := some 28) (v := undef) (a' := ?_) #[true, true, true, true, true, true, true, true, true, true, true, true, true, true, true, true, true, true, false, false, false] rfl rfl (any_of HT_.out kr_) (fun _ _ _ h => h) (Or.inr ⟨by rfl, rfl⟩) ?_ ?_
   rotate_left
   ·simp only [Act.put, List.setIfInBounds_toArray, List.set_cons_zero, List.set_cons_succ, i64_w, i32_w]
    rfl
   refine pure_ (i := 18) (N := some 29) (v := ?_) (a' := ?_) #[true, true, true, true, true, true, true, true, true, true, true, true, true, true, true, true, true, true, true, false, false] rfl rfl (any_of HT_.out kr_) (fun _ _ _ h => h) (Or.inl ⟨by rfl, ?_⟩) ?_ ?_
   rotate_left
   ·intro w'
    go_simp
    with_reducible rfl
   rotate_left
   ·simp only [Act.put, List.setIfInBounds_toArray, List.set_cons_zero, List.set_cons_succ, i64_w, i32_w]
    rfl
   refine one_ (i := 19) (N := none) #[true, true, true, true, true, true, true, true, true, true, true, true, true, true, true, true, true, true, true, true, false] rfl rfl (one_of HT_.out kr_) (by decide) (fun K hK => ?_)
   have hs38 : w37.cell? ⟨gb310, 0, none⟩ = some (.bool false) := (blk_cell BK310.out 0).trans rfl
   have hfs38 := blk_frozen BK310.out 0
   have hns38_0 := NB309_310.out
   have hns38_2 := NB318_310.out
   have hms38_0 := NB310_309.out
   have hms38_2 := NB310_318.out
   have hs39 : w37.cell? ⟨gb310, 1, none⟩ = some (.slice none 0 0) := (blk_cell BK310.out 1).trans rfl
   have hfs39 := blk_frozen BK310.out 1
   have hns39_0 := NB309_310.out
   have hns39_2 := NB318_310.out
   have hms39_0 := NB310_309.out
   have hms39_2 := NB310_318.out
   have hs40 : w37.cell? ⟨gb310, 2, none⟩ = some (.int .i64 0) := (blk_cell BK310.out 2).trans rfl
   have hfs40 := blk_frozen BK310.out 2
   have hns40_0 := NB309_310.out
   have hns40_2 := NB318_310.out
   have hms40_0 := NB310_309.out
   have hms40_2 := NB310_318.out
   refine skip_ (w1 := ?_) (by rfl) rfl ?_ ?_
   rotate_left
   ·go_simp
    rfl
   refine hK.out _ _ ⟨((cell_far (p := ⟨gb310, _, none⟩) NB318_310.out _).trans (((cell_far (p := ⟨gb310, _, none⟩) NB318_310.out _).trans (((cell_far (p := ⟨gb310, _, none⟩) NB318_310.out _).trans (hHeld.1)))))), ((cell_far (p := ⟨gb310, _, none⟩) NB318_310.out _).trans (((cell_far (p := ⟨gb310, _, none⟩) NB318_310.out _).trans (((cell_far (p := ⟨gb310, _, none⟩) NB318_310.out _).trans (hHeld.2.1)))))), ((cell_far (p := ⟨gb310, _, none⟩) NB309_310.out _).trans (((cell_far (p := ⟨gb310, _, none⟩) NB309_310.out _).trans (((cell_far (p := ⟨gb310, _, none⟩) NB309_310.out _).trans (hHeld.2.2.1)))))), ((cell_far (p := ⟨gb310, _, none⟩) NB309_310.out _).trans (((cell_far (p := ⟨gb310, _, none⟩) NB309_310.out _).trans (((cell_far (p := ⟨gb310, _, none⟩) NB309_310.out _).trans (hHeld.2.2.2.1)))))), ((cell_far (p := ⟨gb310, _, none⟩) NB309_310.out _).trans (((cell_far (p := ⟨gb310, _, none⟩) NB309_310.out _).trans (((cell_far (p := ⟨gb310, _, none⟩) NB309_310.out _).trans (hHeld.2.2.2.2))))))⟩ (fun hHeld => ?_)
   clear hK K
   refine pure_ (i := 20) (N := some 3) (v := ?_) (a' := ?_) #[true, true, true, true, true, true, true, true, true, true, true, true, true, true, true, true, true, true, true, true, true] rfl rfl (any_of HT_.out kr_) (fun _ _ _ h => h) (Or.inl ⟨by rfl, ?_⟩) ?_ ?_
   rotate_left
   ·intro w'
    go_simp
    with_reducible rfl
   rotate_left
   ·simp only [Act.put, List.setIfInBounds_toArray, List.set_cons_zero, List.set_cons_succ, i64_w, i32_w]
    rfl
   refine done_ (done_of HT_.out kr_) ?_
   try go_wp2
   refine bodyPost_ret (results_ct rfl _ _ gb310 43 #[.bool t314, .slice Ao33 t315.length co33, .int .i64 (wrap64 (-a0_2))] (0, 0) _ rfl (by (with_reducible repeat (first | refine blk_drewN ?_ _ | refine blk_drew ?_ | refine blk_alloc ?_ _)); refine blk_put (cs := #[.bool t314, .slice Ao33 t315.length co33, .int .i64 0]) ?_ 2 _ rfl; (with_reducible repeat (first | refine blk_drewN ?_ _ | refine blk_drew ?_ | refine blk_alloc ?_ _)); refine blk_put (cs := #[.bool t314, .slice none 0 0, .int .i64 0]) ?_ 1 _ rfl; (with_reducible repeat (first | refine blk_drewN ?_ _ | refine blk_drew ?_ | refine blk_alloc ?_ _)); refine blk_put (cs := #[.bool false, .slice none 0 0, .int .i64 0]) ?_ 0 _ rfl; (with_reducible repeat (first | refine blk_drewN ?_ _ | refine blk_drew ?_ | refine blk_alloc ?_ _)); exact BK310.out) Tryz.underlying43 rfl kr_) rfl ?_
   exact ⟨_, by first | rfl | (simp [errW_none, errW_some] <;> rfl) | (simp [*, errW_none, errW_some] <;> rfl), by (with_reducible repeat (first | apply Kd.R_alloc | apply Kd.R_drewN | apply Kd.R_drew)); exact Kd.R_mono (Kd.R_far (p := ⟨gb310, 2, none⟩) (Kd.R_far (p := ⟨gb310, 1, none⟩) (Kd.R_far (p := ⟨gb310, 0, none⟩) (Kd.R_types HO317.out BK310.out (by decide)) (fun _ hk => hk.2) (.bool t314)) (fun _ hk => hk.2) (.slice Ao33 t315.length co33)) (fun _ hk => hk.2) (.int .i64 (wrap64 (-a0_2)))) (fun _ hk => trivial), by repeat (first | (with_reducible first | exact HB.out | apply below_alloc | apply pw_below_drewN | apply below_drew1 | refine below_set ?_ GE309.out | refine below_set ?_ GE310.out | refine below_set ?_ GE318.out) | exact HB.out)⟩
 ·rw [if_neg c5] at H
  have c5b0 : decide (t319 ≤ 19) = false := decide_eq_false c5
  clear c5
  simp only [Option.some.injEq, Prod.mk.injEq] at H
  obtain ⟨rfl, rfl, rfl, rfl⟩ := H
  go_enter Tryz.func21, Tryz.ntmps21
  try go_wp2_with (first | ((with_reducible refine gate_dst (N := 1) rfl ?_); refine box_event ?hg (N := 1) ?hd (cs := #[.bool a0_0, .int .u64 a0_1, .int .i64 a0_2]) (t := 24) ?hr ?_; (case hd => rfl); (case hg => rfl); (case hr => first | (go_simp; done) | (go_simp; rfl)); intro gb309 hg w41 hbox hb; have n0_ := Aside0.mk (below_step bel_ hb); have n1_ := Aside0.mk (hbox); have n2_ := Aside0.mk ((by rw [hg]; exact (below_size bel_) : w.heap.size ≤ gb309)); have n3_ := Aside0.mk ((by rw [hg]; exact (below_size bel_) : w.heap.size ≤ gb309)); clear HB; have HB := n0_; have BK309 := n1_; have GW309 := n2_; have GE309 := n3_; clear n0_ n1_ n2_ n3_; clear hb hbox hg) | ((with_reducible refine gate_dst (N := 2) rfl ?_); refine box_event ?hg (N := 2) ?hd (cs := #[.bool false, .slice none 0 0, .int .i64 0]) (t := 43) ?hr ?_; (case hd => rfl); (case hg => rfl); (case hr => first | (go_simp; done) | (go_simp; rfl)); intro gb310 hg w42 hbox hb; have n0_ := Aside0.mk (blk_below (g := gb309) (o := .cells #[.bool a0_0, .int .u64 a0_1, .int .i64 a0_2] 24 (0, 0)) (by (with_reducible repeat (first | refine blk_drewN ?_ _ | refine blk_drew ?_ | refine blk_alloc ?_ _)); exact BK309.out) hb); have n1_ := Aside0.mk (below_step (by repeat (first | (with_reducible first | exact HB.out | apply below_alloc | apply pw_below_drewN | apply below_drew1 | refine below_set ?_ GE309.out) | exact HB.out)) hb); have n2_ := Aside0.mk (hbox); have n3_ := Aside0.mk ((by rw [hg]; exact (below_size (by repeat (first | (with_reducible first | exact HB.out | apply below_alloc | apply pw_below_drewN | apply below_drew1 | refine below_set ?_ GE309.out) | exact HB.out))) : w.heap.size ≤ gb310)); have n4_ := Aside0.mk ((by rw [hg]; exact (below_size (by repeat (first | (with_reducible first | exact HB.out | apply below_alloc | apply pw_below_drewN | apply below_drew1 | refine below_set ?_ GE309.out) | exact HB.out))) : w.heap.size ≤ gb310)); have n5_ := Aside0.mk ((by rw [hg]; exact Nat.ne_of_lt (blk_lt (g := gb309) (o := .cells #[.bool a0_0, .int .u64 a0_1, .int .i64 a0_2] 24 (0, 0)) (by (with_reducible repeat (first | refine blk_drewN ?_ _ | refine blk_drew ?_ | refine blk_alloc ?_ _)); exact BK309.out)) : gb309 ≠ gb310)); have n6_ := Aside0.mk ((by rw [hg]; exact Nat.ne_of_gt (blk_lt (g := gb309) (o := .cells #[.bool a0_0, .int .u64 a0_1, .int .i64 a0_2] 24 (0, 0)) (by (with_reducible repeat (first | refine blk_drewN ?_ _ | refine blk_drew ?_ | refine blk_alloc ?_ _)); exact BK309.out)) : gb310 ≠ gb309)); clear BK309; clear HB; have BK309 := n0_; have HB := n1_; have BK310 := n2_; have GW310 := n3_; have GE310 := n4_; have NB309_310 := n5_; have NB310_309 := n6_; clear n0_ n1_ n2_ n3_ n4_ n5_ n6_; clear hb hbox hg))
  have n0_ := Aside0.mk (blk_drew BK309.out)
  have n1_ := Aside0.mk (blk_drew BK310.out)
  have n2_ := Aside0.mk (below_drew1 HB.out)
  clear BK309
  clear BK310
  clear HB
  have BK309 := n0_
  have BK310 := n1_
  have HB := n2_
  clear n0_ n1_ n2_
  refine start_ (n := 8) (S := fun w' => w'.cell? ⟨gb309, 0, none⟩ = some (.bool a0_0) ∧ w'.cell? ⟨gb309, 1, none⟩ = some (.int .u64 a0_1) ∧ w'.cell? ⟨gb309, 2, none⟩ = some (.int .i64 a0_2)) (ds := []) #[false, false, false, false, false, false, false, false] kr_ rfl rfl ⟨(blk_cell BK309.out 0).trans rfl, (blk_cell BK309.out 1).trans rfl, (blk_cell BK309.out 2).trans rfl⟩ (fun hHeld => ?_); refine with_tabW spec_OfFix.tab1 spec_OfFix.bits1 (fun HT_ HW_ => ?_)
  generalize w42.drew = w43 at BK309 BK310 HB hHeld ⊢
  refine pure_ (i := 0) (N := some 5) (v := ?_) (a' := ?_) #[true, false, false, false, false, false, false, false] rfl rfl (any_of HT_.out kr_) (fun _ _ _ h => h) (Or.inl ⟨by rfl, ?_⟩) ?_ ?_
  rotate_left
  ·intro w'
   go_simp
   with_reducible rfl
  rotate_left
  ·simp only [Act.put, List.setIfInBounds_toArray, List.set_cons_zero, List.set_cons_succ, i64_w, i32_w]
   rfl
  refine pure_ (i := 2) (N := some 7) (v := ?_) (a' := ?_) #[true, false, true, false, false, false, false, false] rfl rfl (any_of HT_.out kr_) (fun _ _ _ h => h) (Or.inl ⟨by rfl, ?_⟩) ?_ ?_
  rotate_left
  ·intro w'
   go_simp
   with_reducible rfl
  rotate_left
  ·simp only [Act.put, List.setIfInBounds_toArray, List.set_cons_zero, List.set_cons_succ, i64_w, i32_w]
   rfl
  refine take_ (i := 1) (N := some 6) (v := ?_) (a' := ?_) #[true, true, true, false, false, false, false, false] rfl rfl (take_ofW HT_.out HW_.out kr_) (fun _ _ _ h => h) (Or.inl ⟨by rfl, ?_⟩) hHeld ?_ ?_
  rotate_left
  ·rintro w' ⟨s0, s1, s2⟩
   go_simp
   with_reducible rfl
  rotate_left
  ·simp only [Act.put, List.setIfInBounds_toArray, List.set_cons_zero, List.set_cons_succ, i64_w, i32_w]
   rfl
  refine take_ (i := 3) (N := some 8) (v := ?_) (a' := ?_) #[true, true, true, true, false, false, false, false] rfl rfl (take_ofW HT_.out HW_.out kr_) (fun _ _ _ h => h) (Or.inl ⟨by rfl, ?_⟩) hHeld ?_ ?_
  rotate_left
  ·rintro w' ⟨s0, s1, s2⟩
   go_simp
   with_reducible rfl
  rotate_left
  ·simp only [Act.put, List.setIfInBounds_toArray, List.set_cons_zero, List.set_cons_succ, i64_w, i32_w]
   rfl
  refine join_ (σ := Value × Value × Nat) 1 #[true, true, true, true, true, true, true, false] (fun s_ => [(9, s_.1), (10, .agg #[.bool t314, s_.2.1]), (4, .pointer (some ⟨s_.2.2, 0, none⟩))]) (fun s_ w' => (w'.cell? ⟨gb309, 0, none⟩ = some (.bool a0_0) ∧ w'.cell? ⟨gb309, 1, none⟩ = some (.int .u64 a0_1) ∧ w'.cell? ⟨gb309, 2, none⟩ = some (.int .i64 a0_2)) ∧ (Kd.R (Kd.int .u32) 80 w' w.heap.size (fun _ => True) s_.2.1 t315) ∧ (w'.heap[gb309]? = some (.cells #[.bool a0_0, .int .u64 a0_1, .int .i64 a0_2] 24 (0, 0))) ∧ (w'.heap[gb310]? = some (.cells #[.bool false, .slice none 0 0, .int .i64 0] 43 (0, 0))) ∧ (w'.heap[s_.2.2]? = some (.cells #[.bool false, .slice none 0 0] 32 (0, 0))) ∧ (w.heap.size ≤ s_.2.2) ∧ (w.heap.size ≤ s_.2.2) ∧ (gb309 ≠ s_.2.2) ∧ (s_.2.2 ≠ gb309) ∧ (gb310 ≠ s_.2.2) ∧ (s_.2.2 ≠ gb310) ∧ (Below w.heap.size w w')) ?_ ?_
  rotate_left
  ·intro hCont
   refine two_ (i := 4) (j := 6) (Ni := some 9) (Nj := some 4) #[true, true, true, true, true, false, false, false] #[true, true, true, true, false, false, true, false] rfl rfl rfl rfl (two_of HT_.out kr_) (by decide) (by decide) (fun K hK => ?_) (fun K hK => ?_)
   ·skip
    refine goes_ Tryz.func52 kr_ rfl #[.int .u64 a0_1] (by rfl) rfl rfl lm_ ?_
    with_reducible refine (spec_NatFrom.calls k a0_1 t311 _ A2.out).mono ?_
    rintro e w44 ⟨v312, rfl, ho0, hb⟩
    refine ⟨_, rfl, ?_⟩
    have n0_ := Aside0.mk (Kd.R_lower ho0 (below_size (by repeat (first | (with_reducible first | exact HB.out | apply below_alloc | apply pw_below_drewN | apply below_drew1 | refine below_set ?_ GE309.out | refine below_set ?_ GE310.out) | exact HB.out))))
    have n1_ := Aside0.mk (blk_below (g := gb309) (o := .cells #[.bool a0_0, .int .u64 a0_1, .int .i64 a0_2] 24 (0, 0)) (by (with_reducible repeat (first | refine blk_drewN ?_ _ | refine blk_drew ?_ | refine blk_alloc ?_ _)); exact BK309.out) hb)
    have n2_ := Aside0.mk (blk_below (g := gb310) (o := .cells #[.bool false, .slice none 0 0, .int .i64 0] 43 (0, 0)) (by (with_reducible repeat (first | refine blk_drewN ?_ _ | refine blk_drew ?_ | refine blk_alloc ?_ _)); exact BK310.out) hb)
    have n3_ := Aside0.mk (below_step (by repeat (first | (with_reducible first | exact HB.out | apply below_alloc | apply pw_below_drewN | apply below_drew1 | refine below_set ?_ GE309.out | refine below_set ?_ GE310.out) | exact HB.out)) hb)
    clear BK309
    clear BK310
    clear HB
    have HO313 := n0_
    have BK309 := n1_
    have BK310 := n2_
    have HB := n3_
    clear n0_ n1_ n2_ n3_
    (try clear hb)
    (try clear hb2)
    (try clear hk)
    (try clear hi)
    (try clear ho0)
    obtain ⟨Ao45, co45, eo45⟩ := Kd.R_slice HO313.out
    (first | subst eo45 | (injection eo45 with f1_ f2_ f3_; have f4_ := f1_.symm; have f5_ := f3_.symm; clear f1_ f2_ f3_; subst f4_; subst f5_))
    refine hK.out _ _ ⟨(blk_cell BK309.out 0).trans rfl, (blk_cell BK309.out 1).trans rfl, (blk_cell BK309.out 2).trans rfl⟩ (fun hHeld => ?_)
    clear hK K
    refine norm_ (a' := ?_) ?_ ?_
    rotate_left
    ·show Act.put _ (some 9) _ = _
     simp only [Act.put, List.setIfInBounds_toArray, List.set_cons_zero, List.set_cons_succ, i64_w, i32_w]
     rfl
    refine two_ (i := 5) (j := 6) (Ni := some 10) (Nj := some 4) #[true, true, true, true, true, true, false, false] #[true, true, true, true, true, false, true, false] rfl rfl rfl rfl (two_of HT_.out kr_) (by decide) (by decide) (fun K hK => ?_) (fun K hK => ?_)
    ·skip
     refine goes_ Tryz.func39 kr_ rfl #[.bool a0_0, .slice Ao45 t311.length co45] (by rfl) rfl rfl lm_ ?_
     with_reducible refine (spec_wholeOf.calls a0_0 (fun k_ => some k_ = (.slice Ao45 t311.length co45 : Value).ownBlock) (.slice Ao45 t311.length co45) t311 t314 t315 w _ ?side1 ?side2 A3.out).mono ?_
     (case side1 => repeat (first | (with_reducible first | exact HB.out | apply below_alloc | apply pw_below_drewN | apply below_drew1 | refine below_set ?_ GE309.out | refine below_set ?_ GE310.out) | exact HB.out))
     (case side2 => exact Kd.R_tight rfl HO313.out)
     rintro e w46 ⟨v316, rfl, ho0, hb, hkp⟩
     refine ⟨_, rfl, ?_⟩
     have n0_ := Aside0.mk (blk_kept (by (with_reducible repeat (first | refine blk_drewN ?_ _ | refine blk_drew ?_ | refine blk_alloc ?_ _)); exact BK309.out) hkp (fun hs_ => (fun e_ => (Kd.R_ne HO313.out BK309.out (by decide)) e_) hs_))
     have n1_ := Aside0.mk (blk_kept (by (with_reducible repeat (first | refine blk_drewN ?_ _ | refine blk_drew ?_ | refine blk_alloc ?_ _)); exact BK310.out) hkp (fun hs_ => (fun e_ => (Kd.R_ne HO313.out BK310.out (by decide)) e_) hs_))
     have n2_ := Aside0.mk (Kd.R_mono (ok' := fun k_ => True) ho0 (fun k_ hk_ => trivial))
     have n3_ := Aside0.mk (hb)
     clear BK309
     clear BK310
     clear HB
     clear HO313
     have BK309 := n0_
     have BK310 := n1_
     have HO317 := n2_
     have HB := n3_
     clear n0_ n1_ n2_ n3_
     (try clear hb)
     (try clear hkp)
     (try clear ho0)
     refine hK.out _ _ ⟨(blk_cell BK309.out 0).trans rfl, (blk_cell BK309.out 1).trans rfl, (blk_cell BK309.out 2).trans rfl⟩ (fun hHeld => ?_)
     clear hK K
     refine norm_ (a' := ?_) ?_ ?_
     rotate_left
     ·show Act.put _ (some 10) _ = _
      simp only [Act.put, List.setIfInBounds_toArray, List.set_cons_zero, List.set_cons_succ, i64_w, i32_w]
      rfl
     refine one_ (i := 6) (N := some 4) #[true, true, true, true, true, true, true, false] rfl rfl (one_of HT_.out kr_) (by decide) (fun K hK => ?_)
     refine box_step ?hg (N := 4) ?hd (cs := #[.bool false, .slice none 0 0]) (t := 32) ?hr ?_; (case hd => rfl); (case hg => rfl); (case hr => first | (go_simp; done) | (go_simp; rfl))
     intro gb318 hg w47 hbox hb
     have n0_ := Aside0.mk (Kd.R_below (rr_ HO317.out) hb)
     have n1_ := Aside0.mk (blk_below (g := gb309) (o := .cells #[.bool a0_0, .int .u64 a0_1, .int .i64 a0_2] 24 (0, 0)) (by (with_reducible repeat (first | refine blk_drewN ?_ _ | refine blk_drew ?_ | refine blk_alloc ?_ _)); exact BK309.out) hb)
     have n2_ := Aside0.mk (blk_below (g := gb310) (o := .cells #[.bool false, .slice none 0 0, .int .i64 0] 43 (0, 0)) (by (with_reducible repeat (first | refine blk_drewN ?_ _ | refine blk_drew ?_ | refine blk_alloc ?_ _)); exact BK310.out) hb)
     have n3_ := Aside0.mk (below_step (by repeat (first | (with_reducible first | exact HB.out | apply below_alloc | apply pw_below_drewN | apply below_drew1 | refine below_set ?_ GE309.out | refine below_set ?_ GE310.out) | exact HB.out)) hb)
     have n4_ := Aside0.mk (hbox)
     have n5_ := Aside0.mk ((by rw [hg]; exact (below_size (by repeat (first | (with_reducible first | exact HB.out | apply below_alloc | apply pw_below_drewN | apply below_drew1 | refine below_set ?_ GE309.out | refine below_set ?_ GE310.out) | exact HB.out))) : w.heap.size ≤ gb318))
     have n6_ := Aside0.mk ((by rw [hg]; exact (below_size (by repeat (first | (with_reducible first | exact HB.out | apply below_alloc | apply pw_below_drewN | apply below_drew1 | refine below_set ?_ GE309.out | refine below_set ?_ GE310.out) | exact HB.out))) : w.heap.size ≤ gb318))
     have n7_ := Aside0.mk ((by rw [hg]; exact Nat.ne_of_lt (blk_lt (g := gb309) (o := .cells #[.bool a0_0, .int .u64 a0_1, .int .i64 a0_2] 24 (0, 0)) (by (with_reducible repeat (first | refine blk_drewN ?_ _ | refine blk_drew ?_ | refine blk_alloc ?_ _)); exact BK309.out)) : gb309 ≠ gb318))
     have n8_ := Aside0.mk ((by rw [hg]; exact Nat.ne_of_gt (blk_lt (g := gb309) (o := .cells #[.bool a0_0, .int .u64 a0_1, .int .i64 a0_2] 24 (0, 0)) (by (with_reducible repeat (first | refine blk_drewN ?_ _ | refine blk_drew ?_ | refine blk_alloc ?_ _)); exact BK309.out)) : gb318 ≠ gb309))
     have n9_ := Aside0.mk ((by rw [hg]; exact Nat.ne_of_lt (blk_lt (g := gb310) (o := .cells #[.bool false, .slice none 0 0, .int .i64 0] 43 (0, 0)) (by (with_reducible repeat (first | refine blk_drewN ?_ _ | refine blk_drew ?_ | refine blk_alloc ?_ _)); exact BK310.out)) : gb310 ≠ gb318))
     have n10_ := Aside0.mk ((by rw [hg]; exact Nat.ne_of_gt (blk_lt (g := gb310) (o := .cells #[.bool false, .slice none 0 0, .int .i64 0] 43 (0, 0)) (by (with_reducible repeat (first | refine blk_drewN ?_ _ | refine blk_drew ?_ | refine blk_alloc ?_ _)); exact BK310.out)) : gb318 ≠ gb310))
     clear HO317
     clear BK309
     clear BK310
     clear HB
     have HO317 := n0_
     have BK309 := n1_
     have BK310 := n2_
     have HB := n3_
     have BK318 := n4_
     have GW318 := n5_
     have GE318 := n6_
     have NB309_318 := n7_
     have NB318_309 := n8_
     have NB310_318 := n9_
     have NB318_310 := n10_
     clear n0_ n1_ n2_ n3_ n4_ n5_ n6_ n7_ n8_ n9_ n10_
     clear hb hbox hg
     refine hK.out _ _ ⟨(blk_cell BK309.out 0).trans rfl, (blk_cell BK309.out 1).trans rfl, (blk_cell BK309.out 2).trans rfl⟩ (fun hHeld => ?_)
     clear hK K
     refine norm_ (a' := ?_) ?_ ?_
     rotate_left
     ·show Act.put _ (some 4) _ = _
      simp only [Act.put, List.setIfInBounds_toArray, List.set_cons_zero, List.set_cons_succ, i64_w, i32_w]
      rfl
     exact norm_ (by simp only [putAll, Act.put, List.setIfInBounds_toArray, List.set_cons_zero, List.set_cons_succ]) (hCont (.slice Ao45 t311.length co45, v316, gb318) _ ⟨hHeld, (rr_ HO317.out), (by (with_reducible repeat (first | refine blk_drewN ?_ _ | refine blk_drew ?_ | refine blk_alloc ?_ _)); exact BK309.out), (by (with_reducible repeat (first | refine blk_drewN ?_ _ | refine blk_drew ?_ | refine blk_alloc ?_ _)); exact BK310.out), (by (with_reducible repeat (first | refine blk_drewN ?_ _ | refine blk_drew ?_ | refine blk_alloc ?_ _)); exact BK318.out), GW318.out, GE318.out, NB309_318.out, NB318_309.out, NB310_318.out, NB318_310.out, (by repeat (first | (with_reducible first | exact HB.out | apply below_alloc | apply pw_below_drewN | apply below_drew1 | refine below_set ?_ GE309.out | refine below_set ?_ GE310.out | refine below_set ?_ GE318.out) | exact HB.out))⟩)
    ·skip
     refine box_step ?hg (N := 4) ?hd (cs := #[.bool false, .slice none 0 0]) (t := 32) ?hr ?_; (case hd => rfl); (case hg => rfl); (case hr => first | (go_simp; done) | (go_simp; rfl))
     intro gb318 hg w45 hbox hb
     have n0_ := Aside0.mk (Kd.R_below (rr_ HO313.out) hb)
     have n1_ := Aside0.mk (blk_below (g := gb309) (o := .cells #[.bool a0_0, .int .u64 a0_1, .int .i64 a0_2] 24 (0, 0)) (by (with_reducible repeat (first | refine blk_drewN ?_ _ | refine blk_drew ?_ | refine blk_alloc ?_ _)); exact BK309.out) hb)
     have n2_ := Aside0.mk (blk_below (g := gb310) (o := .cells #[.bool false, .slice none 0 0, .int .i64 0] 43 (0, 0)) (by (with_reducible repeat (first | refine blk_drewN ?_ _ | refine blk_drew ?_ | refine blk_alloc ?_ _)); exact BK310.out) hb)
     have n3_ := Aside0.mk (below_step (by repeat (first | (with_reducible first | exact HB.out | apply below_alloc | apply pw_below_drewN | apply below_drew1 | refine below_set ?_ GE309.out | refine below_set ?_ GE310.out) | exact HB.out)) hb)
     have n4_ := Aside0.mk (hbox)
     have n5_ := Aside0.mk ((by rw [hg]; exact (below_size (by repeat (first | (with_reducible first | exact HB.out | apply below_alloc | apply pw_below_drewN | apply below_drew1 | refine below_set ?_ GE309.out | refine below_set ?_ GE310.out) | exact HB.out))) : w.heap.size ≤ gb318))
     have n6_ := Aside0.mk ((by rw [hg]; exact (below_size (by repeat (first | (with_reducible first | exact HB.out | apply below_alloc | apply pw_below_drewN | apply below_drew1 | refine below_set ?_ GE309.out | refine below_set ?_ GE310.out) | exact HB.out))) : w.heap.size ≤ gb318))
     have n7_ := Aside0.mk ((by rw [hg]; exact Nat.ne_of_lt (blk_lt (g := gb309) (o := .cells #[.bool a0_0, .int .u64 a0_1, .int .i64 a0_2] 24 (0, 0)) (by (with_reducible repeat (first | refine blk_drewN ?_ _ | refine blk_drew ?_ | refine blk_alloc ?_ _)); exact BK309.out)) : gb309 ≠ gb318))
     have n8_ := Aside0.mk ((by rw [hg]; exact Nat.ne_of_gt (blk_lt (g := gb309) (o := .cells #[.bool a0_0, .int .u64 a0_1, .int .i64 a0_2] 24 (0, 0)) (by (with_reducible repeat (first | refine blk_drewN ?_ _ | refine blk_drew ?_ | refine blk_alloc ?_ _)); exact BK309.out)) : gb318 ≠ gb309))
     have n9_ := Aside0.mk ((by rw [hg]; exact Nat.ne_of_lt (blk_lt (g := gb310) (o := .cells #[.bool false, .slice none 0 0, .int .i64 0] 43 (0, 0)) (by (with_reducible repeat (first | refine blk_drewN ?_ _ | refine blk_drew ?_ | refine blk_alloc ?_ _)); exact BK310.out)) : gb310 ≠ gb318))
     have n10_ := Aside0.mk ((by rw [hg]; exact Nat.ne_of_gt (blk_lt (g := gb310) (o := .cells #[.bool false, .slice none 0 0, .int .i64 0] 43 (0, 0)) (by (with_reducible repeat (first | refine blk_drewN ?_ _ | refine blk_drew ?_ | refine blk_alloc ?_ _)); exact BK310.out)) : gb318 ≠ gb310))
     clear HO313
     clear BK309
     clear BK310
     clear HB
     have HO313 := n0_
     have BK309 := n1_
     have BK310 := n2_
     have HB := n3_
     have BK318 := n4_
     have GW318 := n5_
     have GE318 := n6_
     have NB309_318 := n7_
     have NB318_309 := n8_
     have NB310_318 := n9_
     have NB318_310 := n10_
     clear n0_ n1_ n2_ n3_ n4_ n5_ n6_ n7_ n8_ n9_ n10_
     clear hb hbox hg
     obtain ⟨Ao46, co46, eo46⟩ := Kd.R_slice HO313.out
     (first | subst eo46 | (injection eo46 with f1_ f2_ f3_; have f4_ := f1_.symm; have f5_ := f3_.symm; clear f1_ f2_ f3_; subst f4_; subst f5_))
     refine hK.out _ _ ⟨(blk_cell BK309.out 0).trans rfl, (blk_cell BK309.out 1).trans rfl, (blk_cell BK309.out 2).trans rfl⟩ (fun hHeld => ?_)
     clear hK K
     refine norm_ (a' := ?_) ?_ ?_
     rotate_left
     ·show Act.put _ (some 4) _ = _
      simp only [Act.put, List.setIfInBounds_toArray, List.set_cons_zero, List.set_cons_succ, i64_w, i32_w]
      rfl
     refine one_ (i := 5) (N := some 10) #[true, true, true, true, true, true, true, false] rfl rfl (one_of HT_.out kr_) (by decide) (fun K hK => ?_)
     refine goes_ Tryz.func39 kr_ rfl #[.bool a0_0, .slice Ao46 t311.length co46] (by rfl) rfl rfl lm_ ?_
     with_reducible refine (spec_wholeOf.calls a0_0 (fun k_ => some k_ = (.slice Ao46 t311.length co46 : Value).ownBlock) (.slice Ao46 t311.length co46) t311 t314 t315 w _ ?side1 ?side2 A3.out).mono ?_
     (case side1 => repeat (first | (with_reducible first | exact HB.out | apply below_alloc | apply pw_below_drewN | apply below_drew1 | refine below_set ?_ GE309.out | refine below_set ?_ GE310.out | refine below_set ?_ GE318.out) | exact HB.out))
     (case side2 => exact Kd.R_tight rfl HO313.out)
     rintro e w47 ⟨v316, rfl, ho0, hb, hkp⟩
     refine ⟨_, rfl, ?_⟩
     have n0_ := Aside0.mk (blk_kept (by (with_reducible repeat (first | refine blk_drewN ?_ _ | refine blk_drew ?_ | refine blk_alloc ?_ _)); exact BK309.out) hkp (fun hs_ => (fun e_ => (Kd.R_ne HO313.out BK309.out (by decide)) e_) hs_))
     have n1_ := Aside0.mk (blk_kept (by (with_reducible repeat (first | refine blk_drewN ?_ _ | refine blk_drew ?_ | refine blk_alloc ?_ _)); exact BK310.out) hkp (fun hs_ => (fun e_ => (Kd.R_ne HO313.out BK310.out (by decide)) e_) hs_))
     have n2_ := Aside0.mk (blk_kept (by (with_reducible repeat (first | refine blk_drewN ?_ _ | refine blk_drew ?_ | refine blk_alloc ?_ _)); exact BK318.out) hkp (fun hs_ => (fun e_ => (Kd.R_ne HO313.out BK318.out (by decide)) e_) hs_))
     have n3_ := Aside0.mk (Kd.R_mono (ok' := fun k_ => True) ho0 (fun k_ hk_ => trivial))
     have n4_ := Aside0.mk (hb)
     clear BK309
     clear BK310
     clear BK318
     clear HB
     clear HO313
     have BK309 := n0_
     have BK310 := n1_
     have BK318 := n2_
     have HO317 := n3_
     have HB := n4_
     clear n0_ n1_ n2_ n3_ n4_
     (try clear hb)
     (try clear hkp)
     (try clear ho0)
     refine hK.out _ _ ⟨(blk_cell BK309.out 0).trans rfl, (blk_cell BK309.out 1).trans rfl, (blk_cell BK309.out 2).trans rfl⟩ (fun hHeld => ?_)
     clear hK K
     refine norm_ (a' := ?_) ?_ ?_
     rotate_left
     ·show Act.put _ (some 10) _ = _
      simp only [Act.put, List.setIfInBounds_toArray, List.set_cons_zero, List.set_cons_succ, i64_w, i32_w]
      rfl
     exact norm_ (by simp only [putAll, Act.put, List.setIfInBounds_toArray, List.set_cons_zero, List.set_cons_succ]) (hCont (.slice Ao46 t311.length co46, v316, gb318) _ ⟨hHeld, (rr_ HO317.out), (by (with_reducible repeat (first | refine blk_drewN ?_ _ | refine blk_drew ?_ | refine blk_alloc ?_ _)); exact BK309.out), (by (with_reducible repeat (first | refine blk_drewN ?_ _ | refine blk_drew ?_ | refine blk_alloc ?_ _)); exact BK310.out), (by (with_reducible repeat (first | refine blk_drewN ?_ _ | refine blk_drew ?_ | refine blk_alloc ?_ _)); exact BK318.out), GW318.out, GE318.out, NB309_318.out, NB318_309.out, NB310_318.out, NB318_310.out, (by repeat (first | (with_reducible first | exact HB.out | apply below_alloc | apply pw_below_drewN | apply below_drew1 | refine below_set ?_ GE309.out | refine below_set ?_ GE310.out | refine below_set ?_ GE318.out) | exact HB.out))⟩)
   ·skip
    refine box_step ?hg (N := 4) ?hd (cs := #[.bool false, .slice none 0 0]) (t := 32) ?hr ?_; (case hd => rfl); (case hg => rfl); (case hr => first | (go_simp; done) | (go_simp; rfl))
    intro gb318 hg w44 hbox hb
    have n0_ := Aside0.mk (blk_below (g := gb309) (o := .cells #[.bool a0_0, .int .u64 a0_1, .int .i64 a0_2] 24 (0, 0)) (by (with_reducible repeat (first | refine blk_drewN ?_ _ | refine blk_drew ?_ | refine blk_alloc ?_ _)); exact BK309.out) hb)
    have n1_ := Aside0.mk (blk_below (g := gb310) (o := .cells #[.bool false, .slice none 0 0, .int .i64 0] 43 (0, 0)) (by (with_reducible repeat (first | refine blk_drewN ?_ _ | refine blk_drew ?_ | refine blk_alloc ?_ _)); exact BK310.out) hb)
    have n2_ := Aside0.mk (below_step (by repeat (first | (with_reducible first | exact HB.out | apply below_alloc | apply pw_below_drewN | apply below_drew1 | refine below_set ?_ GE309.out | refine below_set ?_ GE310.out) | exact HB.out)) hb)
    have n3_ := Aside0.mk (hbox)
    have n4_ := Aside0.mk ((by rw [hg]; exact (below_size (by repeat (first | (with_reducible first | exact HB.out | apply below_alloc | apply pw_below_drewN | apply below_drew1 | refine below_set ?_ GE309.out | refine below_set ?_ GE310.out) | exact HB.out))) : w.heap.size ≤ gb318))
    have n5_ := Aside0.mk ((by rw [hg]; exact (below_size (by repeat (first | (with_reducible first | exact HB.out | apply below_alloc | apply pw_below_drewN | apply below_drew1 | refine below_set ?_ GE309.out | refine below_set ?_ GE310.out) | exact HB.out))) : w.heap.size ≤ gb318))
    have n6_ := Aside0.mk ((by rw [hg]; exact Nat.ne_of_lt (blk_lt (g := gb309) (o := .cells #[.bool a0_0, .int .u64 a0_1, .int .i64 a0_2] 24 (0, 0)) (by (with_reducible repeat (first | refine blk_drewN ?_ _ | refine blk_drew ?_ | refine blk_alloc ?_ _)); exact BK309.out)) : gb309 ≠ gb318))
    have n7_ := Aside0.mk ((by rw [hg]; exact Nat.ne_of_gt (blk_lt (g := gb309) (o := .cells #[.bool a0_0, .int .u64 a0_1, .int .i64 a0_2] 24 (0, 0)) (by (with_reducible repeat (first | refine blk_drewN ?_ _ | refine blk_drew ?_ | refine blk_alloc ?_ _)); exact BK309.out)) : gb318 ≠ gb309))
    have n8_ := Aside0.mk ((by rw [hg]; exact Nat.ne_of_lt (blk_lt (g := gb310) (o := .cells #[.bool false, .slice none 0 0, .int .i64 0] 43 (0, 0)) (by (with_reducible repeat (first | refine blk_drewN ?_ _ | refine blk_drew ?_ | refine blk_alloc ?_ _)); exact BK310.out)) : gb310 ≠ gb318))
    have n9_ := Aside0.mk ((by rw [hg]; exact Nat.ne_of_gt (blk_lt (g := gb310) (o := .cells #[.bool false, .slice none 0 0, .int .i64 0] 43 (0, 0)) (by (with_reducible repeat (first | refine blk_drewN ?_ _ | refine blk_drew ?_ | refine blk_alloc ?_ _)); exact BK310.out)) : gb318 ≠ gb310))
    clear BK309
    clear BK310
    clear HB
    have BK309 := n0_
    have BK310 := n1_
    have HB := n2_
    have BK318 := n3_
    have GW318 := n4_
    have GE318 := n5_
    have NB309_318 := n6_
    have NB318_309 := n7_
    have NB310_318 := n8_
    have NB318_310 := n9_
    clear n0_ n1_ n2_ n3_ n4_ n5_ n6_ n7_ n8_ n9_
    clear hb hbox hg
    refine hK.out _ _ ⟨(blk_cell BK309.out 0).trans rfl, (blk_cell BK309.out 1).trans rfl, (blk_cell BK309.out 2).trans rfl⟩ (fun hHeld => ?_)
    clear hK K
    refine norm_ (a' := ?_) ?_ ?_
    rotate_left
    ·show Act.put _ (some 4) _ = _
     simp only [Act.put, List.setIfInBounds_toArray, List.set_cons_zero, List.set_cons_succ, i64_w, i32_w]
     rfl
    refine one_ (i := 4) (N := some 9) #[true, true, true, true, true, false, true, false] rfl rfl (one_of HT_.out kr_) (by decide) (fun K hK => ?_)
    refine goes_ Tryz.func52 kr_ rfl #[.int .u64 a0_1] (by rfl) rfl rfl lm_ ?_
    with_reducible refine (spec_NatFrom.calls k a0_1 t311 _ A2.out).mono ?_
    rintro e w45 ⟨v312, rfl, ho0, hb⟩
    refine ⟨_, rfl, ?_⟩
    have n0_ := Aside0.mk (Kd.R_lower ho0 (below_size (by repeat (first | (with_reducible first | exact HB.out | apply below_alloc | apply pw_below_drewN | apply below_drew1 | refine below_set ?_ GE309.out | refine below_set ?_ GE310.out | refine below_set ?_ GE318.out) | exact HB.out))))
    have n1_ := Aside0.mk (blk_below (g := gb309) (o := .cells #[.bool a0_0, .int .u64 a0_1, .int .i64 a0_2] 24 (0, 0)) (by (with_reducible repeat (first | refine blk_drewN ?_ _ | refine blk_drew ?_ | refine blk_alloc ?_ _)); exact BK309.out) hb)
    have n2_ := Aside0.mk (blk_below (g := gb310) (o := .cells #[.bool false, .slice none 0 0, .int .i64 0] 43 (0, 0)) (by (with_reducible repeat (first | refine blk_drewN ?_ _ | refine blk_drew ?_ | refine blk_alloc ?_ _)); exact BK310.out) hb)
    have n3_ := Aside0.mk (blk_below (g := gb318) (o := .cells #[.bool false, .slice none 0 0] 32 (0, 0)) (by (with_reducible repeat (first | refine blk_drewN ?_ _ | refine blk_drew ?_ | refine blk_alloc ?_ _)); exact BK318.out) hb)
    have n4_ := Aside0.mk (below_step (by repeat (first | (with_reducible first | exact HB.out | apply below_alloc | apply pw_below_drewN | apply below_drew1 | refine below_set ?_ GE309.out | refine below_set ?_ GE310.out | refine below_set ?_ GE318.out) | exact HB.out)) hb)
    clear BK309
    clear BK310
    clear BK318
    clear HB
    have HO313 := n0_
    have BK309 := n1_
    have BK310 := n2_
    have BK318 := n3_
    have HB := n4_
    clear n0_ n1_ n2_ n3_ n4_
    (try clear hb)
    (try clear hb2)
    (try clear hk)
    (try clear hi)
    (try clear ho0)
    obtain ⟨Ao46, co46, eo46⟩ := Kd.R_slice HO313.out
    (first | subst eo46 | (injection eo46 with f1_ f2_ f3_; have f4_ := f1_.symm; have f5_ := f3_.symm; clear f1_ f2_ f3_; subst f4_; subst f5_))
    refine hK.out _ _ ⟨(blk_cell BK309.out 0).trans rfl, (blk_cell BK309.out 1).trans rfl, (blk_cell BK309.out 2).trans rfl⟩ (fun hHeld => ?_)
    clear hK K
    refine norm_ (a' := ?_) ?_ ?_
    rotate_left
    ·show Act.put _ (some 9) _ = _
     simp only [Act.put, List.setIfInBounds_toArray, List.set_cons_zero, List.set_cons_succ, i64_w, i32_w]
     rfl
    refine one_ (i := 5) (N := some 10) #[true, true, true, true, true, true, true, false] rfl rfl (one_of HT_.out kr_) (by decide) (fun K hK => ?_)
    refine goes_ Tryz.func39 kr_ rfl #[.bool a0_0, .slice Ao46 t311.length co46] (by rfl) rfl rfl lm_ ?_
    with_reducible refine (spec_wholeOf.calls a0_0 (fun k_ => some k_ = (.slice Ao46 t311.length co46 : Value).ownBlock) (.slice Ao46 t311.length co46) t311 t314 t315 w _ ?side1 ?side2 A3.out).mono ?_
    (case side1 => repeat (first | (with_reducible first | exact HB.out | apply below_alloc | apply pw_below_drewN | apply below_drew1 | refine below_set ?_ GE309.out | refine below_set ?_ GE310.out | refine below_set ?_ GE318.out) | exact HB.out))
    (case side2 => exact Kd.R_tight rfl HO313.out)
    rintro e w47 ⟨v316, rfl, ho0, hb, hkp⟩
    refine ⟨_, rfl, ?_⟩
    have n0_ := Aside0.mk (blk_kept (by (with_reducible repeat (first | refine blk_drewN ?_ _ | refine blk_drew ?_ | refine blk_alloc ?_ _)); exact BK309.out) hkp (fun hs_ => (fun e_ => (Kd.R_ne HO313.out BK309.out (by decide)) e_) hs_))
    have n1_ := Aside0.mk (blk_kept (by (with_reducible repeat (first | refine blk_drewN ?_ _ | refine blk_drew ?_ | refine blk_alloc ?_ _)); exact BK310.out) hkp (fun hs_ => (fun e_ => (Kd.R_ne HO313.out BK310.out (by decide)) e_) hs_))
    have n2_ := Aside0.mk (blk_kept (by (with_reducible repeat (first | refine blk_drewN ?_ _ | refine blk_drew ?_ | refine blk_alloc ?_ _)); exact BK318.out) hkp (fun hs_ => (fun e_ => (Kd.R_ne HO313.out BK318.out (by decide)) e_) hs_))
    have n3_ := Aside0.mk (Kd.R_mono (ok' := fun k_ => True) ho0 (fun k_ hk_ => trivial))
    have n4_ := Aside0.mk (hb)
    clear BK309
    clear BK310
    clear BK318
    clear HB
    clear HO313
    have BK309 := n0_
    have BK310 := n1_
    have BK318 := n2_
    have HO317 := n3_
    have HB := n4_
    clear n0_ n1_ n2_ n3_ n4_
    (try clear hb)
    (try clear hkp)
    (try clear ho0)
    refine hK.out _ _ ⟨(blk_cell BK309.out 0).trans rfl, (blk_cell BK309.out 1).trans rfl, (blk_cell BK309.out 2).trans rfl⟩ (fun hHeld => ?_)
    clear hK K
    refine norm_ (a' := ?_) ?_ ?_
    rotate_left
    ·show Act.put _ (some 10) _ = _
     simp only [Act.put, List.setIfInBounds_toArray, List.set_cons_zero, List.set_cons_succ, i64_w, i32_w]
     rfl
    exact norm_ (by simp only [putAll, Act.put, List.setIfInBounds_toArray, List.set_cons_zero, List.set_cons_succ]) (hCont (.slice Ao46 t311.length co46, v316, gb318) _ ⟨hHeld, (rr_ HO317.out), (by (with_reducible repeat (first | refine blk_drewN ?_ _ | refine blk_drew ?_ | refine blk_alloc ?_ _)); exact BK309.out), (by (with_reducible repeat (first | refine blk_drewN ?_ _ | refine blk_drew ?_ | refine blk_alloc ?_ _)); exact BK310.out), (by (with_reducible repeat (first | refine blk_drewN ?_ _ | refine blk_drew ?_ | refine blk_alloc ?_ _)); exact BK318.out), GW318.out, GE318.out, NB309_318.out, NB318_309.out, NB310_318.out, NB318_310.out, (by repeat (first | (with_reducible first | exact HB.out | apply below_alloc | apply pw_below_drewN | apply below_drew1 | refine below_set ?_ GE309.out | refine below_set ?_ GE310.out | refine below_set ?_ GE318.out) | exact HB.out))⟩)
  rintro ⟨v312, v316, gb318⟩ w48 ⟨hS_, h0_, h1_, h2_, h3_, h4_, h5_, h6_, h7_, h8_, h9_, h10_⟩
  have n0_ : Aside0 (Kd.R (Kd.int .u32) 80 w48 w.heap.size (fun _ => True) v316 t315) := ⟨h0_⟩
  have n1_ : Aside0 (w48.heap[gb309]? = some (.cells #[.bool a0_0, .int .u64 a0_1, .int .i64 a0_2] 24 (0, 0))) := ⟨h1_⟩
  have n2_ : Aside0 (w48.heap[gb310]? = some (.cells #[.bool false, .slice none 0 0, .int .i64 0] 43 (0, 0))) := ⟨h2_⟩
  have n3_ : Aside0 (w48.heap[gb318]? = some (.cells #[.bool false, .slice none 0 0] 32 (0, 0))) := ⟨h3_⟩
  have n4_ : Aside0 (w.heap.size ≤ gb318) := ⟨h4_⟩
  have n5_ : Aside0 (w.heap.size ≤ gb318) := ⟨h5_⟩
  have n6_ : Aside0 (gb309 ≠ gb318) := ⟨h6_⟩
  have n7_ : Aside0 (gb318 ≠ gb309) := ⟨h7_⟩
  have n8_ : Aside0 (gb310 ≠ gb318) := ⟨h8_⟩
  have n9_ : Aside0 (gb318 ≠ gb310) := ⟨h9_⟩
  have n10_ : Aside0 (Below w.heap.size w w48) := ⟨h10_⟩
  clear BK309
  clear BK310
  clear HB
  clear h0_ h1_ h2_ h3_ h4_ h5_ h6_ h7_ h8_ h9_ h10_
  have HO317 := n0_
  have BK309 := n1_
  have BK310 := n2_
  have BK318 := n3_
  have GW318 := n4_
  have GE318 := n5_
  have NB309_318 := n6_
  have NB318_309 := n7_
  have NB310_318 := n8_
  have NB318_310 := n9_
  have HB := n10_
  clear n0_ n1_ n2_ n3_ n4_ n5_ n6_ n7_ n8_ n9_ n10_
  have hHeld : w48.cell? ⟨gb309, 0, none⟩ = some (.bool a0_0) ∧ w48.cell? ⟨gb309, 1, none⟩ = some (.int .u64 a0_1) ∧ w48.cell? ⟨gb309, 2, none⟩ = some (.int .i64 a0_2) := hS_
  obtain ⟨Ao50, co50, eo50⟩ := Kd.R_slice HO317.out
  (first | subst eo50 | (injection eo50 with f1_ f2_ f3_; have f4_ := f1_.symm; have f5_ := f3_.symm; clear f1_ f2_ f3_; subst f4_; subst f5_))
  refine norm_ (a' := ?_) ?_ ?_
  rotate_left
  ·simp only [putAll, Act.put, List.setIfInBounds_toArray, List.set_cons_zero, List.set_cons_succ]
   rfl
  refine one_ (i := 7) (N := none) #[true, true, true, true, true, true, true, true] rfl rfl (one_of HT_.out kr_) (by decide) (fun K hK => ?_)
  have hs49 : w48.cell? ⟨gb318, 0, none⟩ = some (.bool false) := (blk_cell BK318.out 0).trans rfl
  have hfs49 := blk_frozen BK318.out 0
  have hns49_0 := NB309_318.out
  have hns49_1 := NB310_318.out
  have hms49_0 := NB318_309.out
  have hms49_1 := NB318_310.out
  have hs51 : w48.cell? ⟨gb318, 1, none⟩ = some (.slice none 0 0) := (blk_cell BK318.out 1).trans rfl
  have hfs51 := blk_frozen BK318.out 1
  have hns51_0 := NB309_318.out
  have hns51_1 := NB310_318.out
  have hms51_0 := NB318_309.out
  have hms51_1 := NB318_310.out
  refine skip_ (w1 := ?_) (by rfl) rfl ?_ ?_
  rotate_left
  ·go_simp
   rfl
  refine hK.out _ _ ⟨((cell_far (p := ⟨gb318, _, none⟩) NB309_318.out _).trans (((cell_far (p := ⟨gb318, _, none⟩) NB309_318.out _).trans (hHeld.1)))), ((cell_far (p := ⟨gb318, _, none⟩) NB309_318.out _).trans (((cell_far (p := ⟨gb318, _, none⟩) NB309_318.out _).trans (hHeld.2.1)))), ((cell_far (p := ⟨gb318, _, none⟩) NB309_318.out _).trans (((cell_far (p := ⟨gb318, _, none⟩) NB309_318.out _).trans (hHeld.2.2))))⟩ (fun hHeld => ?_)
  clear hK K
  refine done_ (done_of HT_.out kr_) ?_
  try go_wp2
  have n0_ : Aside0 (Kd.R (Kd.int .u32) 80 ((w48.setCell ⟨gb318, 0, none⟩ (.bool t314)).setCell ⟨gb318, 1, none⟩ (.slice Ao50 t315.length co50)) w.heap.size (fun _ => True) (.slice Ao50 t315.length co50) t315) := ⟨by (with_reducible repeat (first | apply Kd.R_alloc | apply Kd.R_drewN | apply Kd.R_drew)); exact Kd.R_mono (Kd.R_far (p := ⟨gb318, 1, none⟩) (Kd.R_far (p := ⟨gb318, 0, none⟩) (Kd.R_types HO317.out BK318.out (by decide)) (fun _ hk => hk.2) (.bool t314)) (fun _ hk => hk.2) (.slice Ao50 t315.length co50)) (fun _ hk => trivial)⟩
  have n1_ : Aside0 (((w48.setCell ⟨gb318, 0, none⟩ (.bool t314)).setCell ⟨gb318, 1, none⟩ (.slice Ao50 t315.length co50)).heap[gb309]? = some (.cells #[.bool a0_0, .int .u64 a0_1, .int .i64 a0_2] 24 (0, 0))) := ⟨by (with_reducible repeat (first | refine blk_drewN ?_ _ | refine blk_drew ?_ | refine blk_alloc ?_ _)); refine blk_far ?_ NB309_318.out _; (with_reducible repeat (first | refine blk_drewN ?_ _ | refine blk_drew ?_ | refine blk_alloc ?_ _)); refine blk_far ?_ NB309_318.out _; (with_reducible repeat (first | refine blk_drewN ?_ _ | refine blk_drew ?_ | refine blk_alloc ?_ _)); exact BK309.out⟩
  have n2_ : Aside0 (((w48.setCell ⟨gb318, 0, none⟩ (.bool t314)).setCell ⟨gb318, 1, none⟩ (.slice Ao50 t315.length co50)).heap[gb310]? = some (.cells #[.bool false, .slice none 0 0, .int .i64 0] 43 (0, 0))) := ⟨by (with_reducible repeat (first | refine blk_drewN ?_ _ | refine blk_drew ?_ | refine blk_alloc ?_ _)); refine blk_far ?_ NB310_318.out _; (with_reducible repeat (first | refine blk_drewN ?_ _ | refine blk_drew ?_ | refine blk_alloc ?_ _)); refine blk_far ?_ NB310_318.out _; (with_reducible repeat (first | refine blk_drewN ?_ _ | refine blk_drew ?_ | refine blk_alloc ?_ _)); exact BK310.out⟩
  have n3_ : Aside0 (((w48.setCell ⟨gb318, 0, none⟩ (.bool t314)).setCell ⟨gb318, 1, none⟩ (.slice Ao50 t315.length co50)).heap[gb318]? = some (.cells #[.bool t314, .slice Ao50 t315.length co50] 32 (0, 0))) := ⟨by (with_reducible repeat (first | refine blk_drewN ?_ _ | refine blk_drew ?_ | refine blk_alloc ?_ _)); refine blk_put (cs := #[.bool t314, .slice none 0 0]) ?_ 1 _ rfl; (with_reducible repeat (first | refine blk_drewN ?_ _ | refine blk_drew ?_ | refine blk_alloc ?_ _)); refine blk_put (cs := #[.bool false, .slice none 0 0]) ?_ 0 _ rfl; (with_reducible repeat (first | refine blk_drewN ?_ _ | refine blk_drew ?_ | refine blk_alloc ?_ _)); exact BK318.out⟩
  have n4_ : Aside0 (Below w.heap.size w ((w48.setCell ⟨gb318, 0, none⟩ (.bool t314)).setCell ⟨gb318, 1, none⟩ (.slice Ao50 t315.length co50))) := ⟨by repeat (first | (with_reducible first | exact HB.out | apply below_alloc | apply pw_below_drewN | apply below_drew1 | refine below_set ?_ GE309.out | refine below_set ?_ GE310.out | refine below_set ?_ GE318.out) | exact HB.out)⟩
  (try clear HO317)
  (try clear BK309)
  (try clear BK310)
  (try clear BK318)
  (try clear HB)
  generalize ((w48.setCell ⟨gb318, 0, none⟩ (.bool t314)).setCell ⟨gb318, 1, none⟩ (.slice Ao50 t315.length co50)) = w52 at n0_ n1_ n2_ n3_ n4_ ⊢
  have HO317 := n0_
  have BK309 := n1_
  have BK310 := n2_
  have BK318 := n3_
  have HB := n4_
  clear n0_ n1_ n2_ n3_ n4_
  have n0_ := Aside0.mk (Kd.R_drew HO317.out)
  have n1_ := Aside0.mk (blk_drew BK309.out)
  have n2_ := Aside0.mk (blk_drew BK310.out)
  have n3_ := Aside0.mk (blk_drew BK318.out)
  have n4_ := Aside0.mk (below_drew1 HB.out)
  clear HO317
  clear BK309
  clear BK310
  clear BK318
  clear HB
  have HO317 := n0_
  have BK309 := n1_
  have BK310 := n2_
  have BK318 := n3_
  have HB := n4_
  clear n0_ n1_ n2_ n3_ n4_
  refine start_ (n := 21) (S := fun w' => w'.cell? ⟨gb318, 0, none⟩ = some (.bool t314) ∧ w'.cell? ⟨gb318, 1, none⟩ = some (.slice Ao50 t315.length co50) ∧ w'.cell? ⟨gb309, 0, none⟩ = some (.bool a0_0) ∧ w'.cell? ⟨gb309, 1, none⟩ = some (.int .u64 a0_1) ∧ w'.cell? ⟨gb309, 2, none⟩ = some (.int .i64 a0_2)) (ds := []) #[false, false, false, false, false, false, false, false, false, false, false, false, false, false, false, false, false, false, false, false, false] kr_ rfl rfl ⟨(blk_cell BK318.out 0).trans rfl, (blk_cell BK318.out 1).trans rfl, (blk_cell BK309.out 0).trans rfl, (blk_cell BK309.out 1).trans rfl, (blk_cell BK309.out 2).trans rfl⟩ (fun hHeld => ?_); refine with_tabW spec_OfFix.tab2 spec_OfFix.bits2 (fun HT_ HW_ => ?_)
  generalize w52.drew = w53 at HO317 BK309 BK310 BK318 HB hHeld ⊢
  refine pure_ (i := 1) (N := some 12) (v := ?_) (a' := ?_) #[false, true, false, false, false, false, false, false, false, false, false, false, false, false, false, false, false, false, false, false, false] rfl rfl (any_of HT_.out kr_) (fun _ _ _ h => h) (Or.inl ⟨by rfl, ?_⟩) ?_ ?_
  rotate_left
  ·intro w'
   go_simp
   with_reducible rfl
  rotate_left
  ·simp only [Act.put, List.setIfInBounds_toArray, List.set_cons_zero, List.set_cons_succ, i64_w, i32_w]
   rfl
  refine pure_ (i := 5) (N := some 16) (v := ?_) (a' := ?_) #[false, true, false, false, false, true, false, false, false, false, false, false, false, false, false, false, false, false, false, false, false] rfl rfl (any_of HT_.out kr_) (fun _ _ _ h => h) (Or.inl ⟨by rfl, ?_⟩) ?_ ?_
  rotate_left
  ·intro w'
   go_simp
   with_reducible rfl
  rotate_left
  ·simp only [Act.put, List.setIfInBounds_toArray, List.set_cons_zero, List.set_cons_succ, i64_w, i32_w]
   rfl
  refine take_ (i := 0) (N := some 11) (v := ?_) (a' := ?_) #[true, true, false, false, false, true, false, false, false, false, false, false, false, false, false, false, false, false, false, false, false] rfl rfl (take_ofW HT_.out HW_.out kr_) (fun _ _ _ h => h) (Or.inl ⟨by rfl, ?_⟩) hHeld ?_ ?_
  rotate_left
  ·rintro w' ⟨s0, s1, s2, s3, s4⟩
   go_simp
   with_reducible rfl
  rotate_left
  ·simp only [Act.put, List.setIfInBounds_toArray, List.set_cons_zero, List.set_cons_succ, i64_w, i32_w]
   rfl
  refine take_ (i := 2) (N := some 13) (v := ?_) (a' := ?_) #[true, true, true, false, false, true, false, false, false, false, false, false, false, false, false, false, false, false, false, false, false] rfl rfl (take_ofW HT_.out HW_.out kr_) (fun _ _ _ h => h) (Or.inl ⟨by rfl, ?_⟩) hHeld ?_ ?_
  rotate_left
  ·rintro w' ⟨s0, s1, s2, s3, s4⟩
   go_simp
   with_reducible rfl
  rotate_left
  ·simp only [Act.put, List.setIfInBounds_toArray, List.set_cons_zero, List.set_cons_succ, i64_w, i32_w]
   rfl
  refine pure_ (i := 3) (N := some 14) (v := ?_) (a' := ?_) #[true, true, true, true, false, true, false, false, false, false, false, false, false, false, false, false, false, false, false, false, false] rfl rfl (any_of HT_.out kr_) (fun _ _ _ h => h) (Or.inl ⟨by rfl, ?_⟩) ?_ ?_
  rotate_left
  ·intro w'
   go_simp
   with_reducible rfl
  rotate_left
  ·simp only [Act.put, List.setIfInBounds_toArray, List.set_cons_zero, List.set_cons_succ, i64_w, i32_w]
   rfl
  refine pure_ (i := 4) (N := some 15) (v := ?_) (a' := ?_) #[true, true, true, true, true, true, false, false, false, false, false, false, false, false, false, false, false, false, false, false, false] rfl rfl (any_of HT_.out kr_) (fun _ _ _ h => h) (Or.inl ⟨by rfl, ?_⟩) ?_ ?_
  rotate_left
  ·intro w'
   go_simp
   with_reducible rfl
  rotate_left
  ·simp only [Act.put, List.setIfInBounds_toArray, List.set_cons_zero, List.set_cons_succ, i64_w, i32_w]
   rfl
  refine take_ (i := 6) (N := some 17) (v := ?_) (a' := ?_) #[true, true, true, true, true, true, true, false, false, false, false, false, false, false, false, false, false, false, false, false, false] rfl rfl (take_ofW HT_.out HW_.out kr_) (fun _ _ _ h => h) (Or.inl ⟨by rfl, ?_⟩) hHeld ?_ ?_
  rotate_left
  ·rintro w' ⟨s0, s1, s2, s3, s4⟩
   go_simp
   with_reducible rfl
  rotate_left
  ·simp only [Act.put, List.setIfInBounds_toArray, List.set_cons_zero, List.set_cons_succ, i64_w, i32_w]
   rfl
  refine one_ (i := 7) (N := some 18) #[true, true, true, true, true, true, true, true, false, false, false, false, false, false, false, false, false, false, false, false, false] rfl rfl (one_of HT_.out kr_) (by decide) (fun K hK => ?_)
  refine goes_ Tryz.func37 kr_ rfl #[.slice Ao50 t315.length co50] (by rfl) rfl rfl lm_ ?_
  with_reducible refine (spec_Nat_Digits.calls k _ _ t315 t319 _ ?side1 ?side2 A4.out).mono ?_
  (case side1 => exact cr_ (Kd.R_reads' HO317.out).2.2)
  (case side2 => exact (Kd.R_reads' HO317.out).2.1)
  rintro e w54 ⟨rfl, hb⟩
  refine ⟨_, rfl, ?_⟩
  have n0_ := Aside0.mk (Kd.R_below (rr_ HO317.out) hb)
  have n1_ := Aside0.mk (blk_below (g := gb309) (o := .cells #[.bool a0_0, .int .u64 a0_1, .int .i64 a0_2] 24 (0, 0)) (by (with_reducible repeat (first | refine blk_drewN ?_ _ | refine blk_drew ?_ | refine blk_alloc ?_ _)); exact BK309.out) hb)
  have n2_ := Aside0.mk (blk_below (g := gb310) (o := .cells #[.bool false, .slice none 0 0, .int .i64 0] 43 (0, 0)) (by (with_reducible repeat (first | refine blk_drewN ?_ _ | refine blk_drew ?_ | refine blk_alloc ?_ _)); exact BK310.out) hb)
  have n3_ := Aside0.mk (blk_below (g := gb318) (o := .cells #[.bool t314, .slice Ao50 t315.length co50] 32 (0, 0)) (by (with_reducible repeat (first | refine blk_drewN ?_ _ | refine blk_drew ?_ | refine blk_alloc ?_ _)); exact BK318.out) hb)
  have n4_ := Aside0.mk (below_step (by repeat (first | (with_reducible first | exact HB.out | apply below_alloc | apply pw_below_drewN | apply below_drew1 | refine below_set ?_ GE309.out | refine below_set ?_ GE310.out | refine below_set ?_ GE318.out) | exact HB.out)) hb)
  clear HO317
  clear BK309
  clear BK310
  clear BK318
  clear HB
  have HO317 := n0_
  have BK309 := n1_
  have BK310 := n2_
  have BK318 := n3_
  have HB := n4_
  clear n0_ n1_ n2_ n3_ n4_
  (try clear hb)
  (try clear hb2)
  (try clear hk)
  (try clear hi)
  refine hK.out _ _ ⟨(blk_cell BK318.out 0).trans rfl, (blk_cell BK318.out 1).trans rfl, (blk_cell BK309.out 0).trans rfl, (blk_cell BK309.out 1).trans rfl, (blk_cell BK309.out 2).trans rfl⟩ (fun hHeld => ?_)
  clear hK K
  refine norm_ (a' := ?_) ?_ ?_
  rotate_left
  ·show Act.put _ (some 18) _ = _
   simp only [Act.put, List.setIfInBounds_toArray, List.set_cons_zero, List.set_cons_succ, i64_w, i32_w]
   rfl
  refine pure_ (i := 8) (N := some 19) (v := ?_) (a' := ?_) #[true, true, true, true, true, true, true, true, true, false, false, false, false, false, false, false, false, false, false, false, false] rfl rfl (any_of HT_.out kr_) (fun _ _ _ h => h) (Or.inl ⟨by rfl, ?_⟩) ?_ ?_
  rotate_left
  ·intro w'
   go_simp
   with_reducible rfl
  rotate_left
  ·simp only [Act.put, List.setIfInBounds_toArray, List.set_cons_zero, List.set_cons_succ, i64_w, i32_w]
   rfl
  refine pure_ (i := 9) (N := some 20) (v := ?_) (a' := ?_) #[true, true, true, true, true, true, true, true, true, true, false, false, false, false, false, false, false, false, false, false, false] rfl rfl (any_of HT_.out kr_) (fun _ _ _ h => h) (Or.inl ⟨by rfl, ?_⟩) ?_ ?_
  rotate_left
  ·intro w'
   go_simp
   with_reducible rfl
  rotate_left
  ·simp only [Act.put, List.setIfInBounds_toArray, List.set_cons_zero, List.set_cons_succ, i64_w, i32_w]
   rfl
  refine pure_ (i := 10) (N := some 21) (v := undef) (a' := ?_) #[true, true, true, true, true, true, true, true, true, true, true, false, false, false, false, false, false, false, false, false, false] rfl rfl (any_of HT_.out kr_) (fun _ _ _ h => h) (Or.inr ⟨by rfl, rfl⟩) ?_ ?_
  rotate_left
  ·simp only [Act.put, List.setIfInBounds_toArray, List.set_cons_zero, List.set_cons_succ, i64_w, i32_w]
   rfl
  refine pure_ (i := 11) (N := some 22) (v := undef) (a' := ?_) #[true, true, true, true, true, true, true, true, true, true, true, true, false, false, false, false, false, false, false, false, false] rfl rfl (any_of HT_.out kr_) (fun _ _ _ h => h) (Or.inr ⟨by rfl, rfl⟩) ?_ ?_
  rotate_left
  ·simp only [Act.put, List.setIfInBounds_toArray, List.set_cons_zero, List.set_cons_succ, i64_w, i32_w]
   rfl
  refine pure_ (i := 12) (N := some 23) (v := undef) (a' := ?_) #[true, true, true, true, true, true, true, true, true, true, true, true, true, false, false, false, false, false, false, false, false] rfl rfl (any_of HT_.out kr_) (fun _ _ _ h => h) (Or.inr ⟨by rfl, rfl⟩) ?_ ?_
  rotate_left
  ·simp only [Act.put, List.setIfInBounds_toArray, List.set_cons_zero, List.set_cons_succ, i64_w, i32_w]
   rfl
  refine pure_ (i := 13) (N := some 24) (v := ?_) (a' := ?_) #[true, true, true, true, true, true, true, true, true, true, true, true, true, true, false, false, false, false, false, false, false] rfl rfl (any_of HT_.out kr_) (fun _ _ _ h => h) (Or.inl ⟨by rfl, ?_⟩) ?_ ?_
  rotate_left
  ·intro w'
   go_simp
   with_reducible rfl
  rotate_left
  ·simp only [Act.put, List.setIfInBounds_toArray, List.set_cons_zero, List.set_cons_succ, i64_w, i32_w]
   rfl
  refine pure_ (i := 14) (N := some 25) (v := ?_) (a' := ?_) #[true, true, true, true, true, true, true, true, true, true, true, true, true, true, true, false, false, false, false, false, false] rfl rfl (any_of HT_.out kr_) (fun _ _ _ h => h) (Or.inl ⟨by rfl, ?_⟩) ?_ ?_
  rotate_left
  ·intro w'
   go_simp
   with_reducible rfl
  rotate_left
  ·simp only [Act.put, List.setIfInBounds_toArray, List.set_cons_zero, List.set_cons_succ, i64_w, i32_w]
   rfl
  refine pure_ (i := 15) (N := some 26) (v := undef) (a' := ?_) #[true, true, true, true, true, true, true, true, true, true, true, true, true, true, true, true, false, false, false, false, false] rfl rfl (any_of HT_.out kr_) (fun _ _ _ h => h) (Or.inr ⟨by rfl, rfl⟩) ?_ ?_
  rotate_left
  ·simp only [Act.put, List.setIfInBounds_toArray, List.set_cons_zero, List.set_cons_succ, i64_w, i32_w]
   rfl
  refine pure_ (i := 16) (N := some 27) (v := undef) (a' := ?_) #[true, true, true, true, true, true, true, true, true, true, true, true, true, true, true, true, true, false, false, false, false] rfl rfl (any_of HT_.out kr_) (fun _ _ _ h => h) (Or.inr ⟨by rfl, rfl⟩) ?_ ?_
  rotate_left
  ·simp only [Act.put, List.setIfInBounds_toArray, List.set_cons_zero, List.set_cons_succ, i64_w, i32_w]
   rfl
  refine pure_ (i := 17) (N := some 28) (v := undef) (a' := ?_) #[true, true, true, true, true, true, true, true, true, true, true, true, true, true, true, true, true, true, false, false, false] rfl rfl (any_of HT_.out kr_) (fun _ _ _ h => h) (Or.inr ⟨by rfl, rfl⟩) ?_ ?_
  rotate_left
  ·simp only [Act.put, List.setIfInBounds_toArray, List.set_cons_zero, List.set_cons_succ, i64_w, i32_w]
   rfl
  refine pure_ (i := 18) (N := some 29) (v := ?_) (a' := ?_) #[true, true, true, true, true, true, true, true, true, true, true, true, true, true, true, true, true, true, true, false, false] rfl rfl (any_of HT_.out kr_) (fun _ _ _ h => h) (Or.inl ⟨by rfl, ?_⟩) ?_ ?_
  rotate_left
  ·intro w'
   go_simp
   with_reducible rfl
  rotate_left
  ·simp only [Act.put, List.setIfInBounds_toArray, List.set_cons_zero, List.set_cons_succ, i64_w, i32_w]
   rfl
  refine one_ (i := 19) (N := none) #[true, true, true, true, true, true, true, true, true, true, true, true, true, true, true, true, true, true, true, true, false] rfl rfl (one_of HT_.out kr_) (by decide) (fun K hK => ?_)
  have hs55 : w54.cell? ⟨gb310, 0, none⟩ = some (.bool false) := (blk_cell BK310.out 0).trans rfl
  have hfs55 := blk_frozen BK310.out 0
  have hns55_0 := NB309_310.out
  have hns55_2 := NB318_310.out
  have hms55_0 := NB310_309.out
  have hms55_2 := NB310_318.out
  have hs56 : w54.cell? ⟨gb310, 1, none⟩ = some (.slice none 0 0) := (blk_cell BK310.out 1).trans rfl
  have hfs56 := blk_frozen BK310.out 1
  have hns56_0 := NB309_310.out
  have hns56_2 := NB318_310.out
  have hms56_0 := NB310_309.out
  have hms56_2 := NB310_318.out
  have hs57 : w54.cell? ⟨gb310, 2, none⟩ = some (.int .i64 0) := (blk_cell BK310.out 2).trans rfl
  have hfs57 := blk_frozen BK310.out 2
  have hns57_0 := NB309_310.out
  have hns57_2 := NB318_310.out
  have hms57_0 := NB310_309.out
  have hms57_2 := NB310_318.out
  refine skip_ (w1 := ?_) (by rfl) rfl ?_ ?_
  rotate_left
  ·go_simp
   rfl
  refine hK.out _ _ ⟨((cell_far (p := ⟨gb310, _, none⟩) NB318_310.out _).trans (((cell_far (p := ⟨gb310, _, none⟩) NB318_310.out _).trans (((cell_far (p := ⟨gb310, _, none⟩) NB318_310.out _).trans (hHeld.1)))))), ((cell_far (p := ⟨gb310, _, none⟩) NB318_310.out _).trans (((cell_far (p := ⟨gb310, _, none⟩) NB318_310.out _).trans (((cell_far (p := ⟨gb310, _, none⟩) NB318_310.out _).trans (hHeld.2.1)))))), ((cell_far (p := ⟨gb310, _, none⟩) NB309_310.out _).trans (((cell_far (p := ⟨gb310, _, none⟩) NB309_310.out _).trans (((cell_far (p := ⟨gb310, _, none⟩) NB309_310.out _).trans (hHeld.2.2.1)))))), ((cell_far (p := ⟨gb310, _, none⟩) NB309_310.out _).trans (((cell_far (p := ⟨gb310, _, none⟩) NB309_310.out _).trans (((cell_far (p := ⟨gb310, _, none⟩) NB309_310.out _).trans (hHeld.2.2.2.1)))))), ((cell_far (p := ⟨gb310, _, none⟩) NB309_310.out _).trans (((cell_far (p := ⟨gb310, _, none⟩) NB309_310.out _).trans (((cell_far (p := ⟨gb310, _, none⟩) NB309_310.out _).trans (hHeld.2.2.2.2))))))⟩ (fun hHeld => ?_)
  clear hK K
  refine pure_ (i := 20) (N := some 3) (v := ?_) (a' := ?_) #[true, true, true, true, true, true, true, true, true, true, true, true, true, true, true, true, true, true, true, true, true] rfl rfl (any_of HT_.out kr_) (fun _ _ _ h => h) (Or.inl ⟨by rfl, ?_⟩) ?_ ?_
  rotate_left
  ·intro w'
   go_simp
   with_reducible rfl
  rotate_left
  ·simp only [Act.put, List.setIfInBounds_toArray, List.set_cons_zero, List.set_cons_succ, i64_w, i32_w]
   rfl
  refine done_ (done_of HT_.out kr_) ?_
  try go_wp2
  refine bodyPost_ret (results_ct rfl _ _ gb310 43 #[.bool t314, .slice Ao50 t315.length co50, .int .i64 (wrap64 (-a0_2))] (0, 0) _ rfl (by (with_reducible repeat (first | refine blk_drewN ?_ _ | refine blk_drew ?_ | refine blk_alloc ?_ _)); refine blk_put (cs := #[.bool t314, .slice Ao50 t315.length co50, .int .i64 0]) ?_ 2 _ rfl; (with_reducible repeat (first | refine blk_drewN ?_ _ | refine blk_drew ?_ | refine blk_alloc ?_ _)); refine blk_put (cs := #[.bool t314, .slice none 0 0, .int .i64 0]) ?_ 1 _ rfl; (with_reducible repeat (first | refine blk_drewN ?_ _ | refine blk_drew ?_ | refine blk_alloc ?_ _)); refine blk_put (cs := #[.bool false, .slice none 0 0, .int .i64 0]) ?_ 0 _ rfl; (with_reducible repeat (first | refine blk_drewN ?_ _ | refine blk_drew ?_ | refine blk_alloc ?_ _)); exact BK310.out) Tryz.underlying43 rfl kr_) rfl ?_
  exact ⟨_, by first | rfl | (simp [errW_none, errW_some] <;> rfl) | (simp [*, errW_none, errW_some] <;> rfl), by (with_reducible repeat (first | apply Kd.R_alloc | apply Kd.R_drewN | apply Kd.R_drew)); exact Kd.R_mono (Kd.R_far (p := ⟨gb310, 2, none⟩) (Kd.R_far (p := ⟨gb310, 1, none⟩) (Kd.R_far (p := ⟨gb310, 0, none⟩) (Kd.R_types HO317.out BK310.out (by decide)) (fun _ hk => hk.2) (.bool t314)) (fun _ hk => hk.2) (.slice Ao50 t315.length co50)) (fun _ hk => hk.2) (.int .i64 (wrap64 (-a0_2)))) (fun _ hk => trivial), by repeat (first | (with_reducible first | exact HB.out | apply below_alloc | apply pw_below_drewN | apply below_drew1 | refine below_set ?_ GE309.out | refine below_set ?_ GE310.out | refine below_set ?_ GE318.out) | exact HB.out)⟩
end Go.Proofs.YtlbjjhecgceiaaaGreatDoor.PFnFixSubExact
