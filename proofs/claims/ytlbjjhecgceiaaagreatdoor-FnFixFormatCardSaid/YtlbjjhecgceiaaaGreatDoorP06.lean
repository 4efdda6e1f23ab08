/- Part 6 of the proof. -/
import Derived.Test.YtlbjjhecgceiaaaGreatDoorP05
namespace Go.Proofs.YtlbjjhecgceiaaaGreatDoor.PFnFixSubExact
open Go.RowKit Go.Proofs.YtlbjjhecgceiaaaGreatDoorW.PrintWords Go.Proofs.YtlbjjhecgceiaaaGreatDoorW.PrintLast Go.Proofs.YtlbjjhecgceiaaaGreatDoorW.PrintMore
attribute [local go_sem] max2_int min2_int max_two min_two max_three min_three max_four min_four
set_option linter.unusedVariables false
set_option linter.unusedSimpArgs false
def spec_NatSub.l0 : Nat → List Int → List Int → Int → List Int → Int → Int → Option (List Int)
 | 0, _, _, _, _, _, _ => none
 | k + 1, x1, x5, x6, x10, x11, x12 => if x12 < x11 then (if 0 ≤ x12 then (if x12 < (x10.length : Int) then (if x12 < (x1.length : Int) then (if (rd x10 x12) < ((x6 + (rd x1 x12)) % 4294967296) then (if x5.length < 35184372088832 then (spec_NatSub.l0 k x1 (x5 ++ [((rd x10 x12) + 1000000000 - (x6 + (rd x1 x12))) % 4294967296]) 1 x10 x11 (wrap64 (x12 + 1))) else (none)) else (if x5.length < 35184372088832 then (spec_NatSub.l0 k x1 (x5 ++ [((rd x10 x12) - (x6 + (rd x1 x12))) % 4294967296]) 0 x10 x11 (wrap64 (x12 + 1))) else (none))) else (if (rd x10 x12) < x6 then (if x5.length < 35184372088832 then (spec_NatSub.l0 k x1 (x5 ++ [((rd x10 x12) + 1000000000 - x6) % 4294967296]) 1 x10 x11 (wrap64 (x12 + 1))) else (none)) else (if x5.length < 35184372088832 then (spec_NatSub.l0 k x1 (x5 ++ [((rd x10 x12) - x6) % 4294967296]) 0 x10 x11 (wrap64 (x12 + 1))) else (none)))) else (none)) else (none)) else ((spec_natTrim.f k x5).bind fun t267 => (some t267))
def spec_NatSub.f (k : Nat) (l0 : List Int) (l1 : List Int) : Option (List Int) := spec_NatSub.l0 k l1 ([] : List Int) 0 l0 (l0.length : Int) 0
set_option maxHeartbeats 8000000 in
set_option maxRecDepth 100000 in
theorem spec_NatSub.calls (k : Nat) (A0 : Option Addr) (c0 : Nat) (l0 : List Int) (A1 : Option Addr) (c1 : Nat) (l1 : List Int) (r : List Int) (w : World) (hr0 : Kd.C (Kd.int .u32) w A0 l0.length l0) (hc0 : l0.length ≤ c0) (hr1 : Kd.C (Kd.int .u32) w A1 l1.length l1) (hc1 : l1.length ≤ c1) (h : spec_NatSub.f k l0 l1 = some r) :
  Calls Tryz.prog 71 #[.slice A0 l0.length c0, .slice A1 l1.length c1] w fun e w' => ∃ v0_ : Value, e = .returned (v0_) ∧ Kd.V (Kd.int .u32) 80 w' w.heap.size (fun k_ => (w.heap.size ≤ k_)) v0_ r ∧ Below w.heap.size w w' := by
 have HR0 := Aside0.mk hr0
 have HC0 := Aside0.mk hc0
 clear hr0 hc0
 have HR1 := Aside0.mk hr1
 have HC1 := Aside0.mk hc1
 clear hr1 hc1
 have HB := Aside0.mk (Below.refl w.heap.size w)
 have H : (spec_NatSub.l0 k l1 ([] : List Int) 0 l0 (l0.length : Int) 0) = some r := h
 clear h
 have H' := Aside0.mk H
 clear H
 go_enter Tryz.func71, Tryz.ntmps71
 go_wp2
 go_loopg [5, 6, 12] k (fun kq v5 v6 v12 w' => ∃ (x5_1 : List Int) (x6_1 : Int) (x12_1 : Int), v6 = .int .u32 x6_1 ∧ v12 = .int .i64 x12_1 ∧ Aside0 (spec_NatSub.l0 kq l1 x5_1 x6_1 l0 (l0.length : Int) x12_1 = some r) ∧ Aside0 (kq ≤ k) ∧ Aside0 (Kd.R (Kd.int .u32) 80 w' w.heap.size (fun k_ => (w.heap.size ≤ k_)) v5 x5_1) ∧ Aside0 (Below w.heap.size w w'))
 case atStart => exact ⟨(([] : List Int)), (0), (0), sd_, sd_, H', ⟨Nat.le_refl _⟩, ⟨by first | exact Kd.R_nil _ _ _ _ _ | exact Kd.N_nil _ _ _ _ _ | exact Kd.V_nil _ _ _ _ _ | exact Kd.Q_nil _ _ _ _ _ | exact Kd.S_nil _ _ _ _ _⟩, ⟨bel_⟩⟩
 case round =>
  clear H'
  try clear c1
  try clear p2
  obtain ⟨x5_1, x6_1, x12_1, rfl, rfl, HA, HK1, HO_5, HB⟩ := hrel
  cases gk with
  | zero => exact absurd HA.out (by simp [spec_NatSub.l0])
  | succ k1 =>
   have H := HA.out
   clear HA
   simp only [spec_NatSub.l0] at H
   by_cases c3 : x12_1 < (l0.length : Int)
   ·rw [if_pos c3] at H
    have c3b0 : decide (x12_1 < (l0.length : Int)) = true := decide_eq_true c3
    clear c3
    by_cases c4 : 0 ≤ x12_1
    ·rw [if_pos c4] at H
     have c4b0 : decide (0 ≤ x12_1) = true := decide_eq_true c4
     clear c4
     by_cases c5 : x12_1 < (l0.length : Int)
     ·rw [if_pos c5] at H
      have c5b0 : decide (x12_1 < (l0.length : Int)) = true := decide_eq_true c5
      clear c5
      by_cases c6 : x12_1 < (l1.length : Int)
      ·rw [if_pos c6] at H
       have c6b0 : decide (x12_1 < (l1.length : Int)) = true := decide_eq_true c6
       clear c6
       by_cases c7 : (rd l0 x12_1) < ((x6_1 + (rd l1 x12_1)) % 4294967296)
       ·rw [if_pos c7] at H
        have c7b0 : decide ((rd l0 x12_1) < ((x6_1 + (rd l1 x12_1)) % 4294967296)) = true := decide_eq_true c7
        clear c7
        by_cases c8 : x5_1.length < 35184372088832
        ·rw [if_pos c8] at H
         have LMc8 := Aside0.mk c8
         clear c8
         obtain ⟨y272, hy272⟩ : ∃ y_ : List Int, y_ = (x5_1 ++ [((rd l0 x12_1) + 1000000000 - (x6_1 + (rd l1 x12_1))) % 4294967296]) := ⟨_, rfl⟩
         replace H : (spec_NatSub.l0 k1 l1 y272 1 l0 (l0.length : Int) (wrap64 (x12_1 + 1))) = some r := fo_ hy272 H
         have Ny272 := Aside0.mk hy272
         clear hy272
         have H' := Aside0.mk H
         clear H
         have p270 : 0 ≤ (x12_1 : Int) := ode_
         have q270 : x12_1 < (l0.length : Int) := ode_
         obtain ⟨ad270, e270, hx270_0⟩ := Kd.at_int HR0.out x12_1 p270 q270
         cases e270
         replace hx270_0 := (HB.out.cell (World.block_lt_of_cell? w _ hx270_0)).trans hx270_0
         replace p270 := eq_true p270
         replace q270 := eq_true q270
         have p271 : 0 ≤ (x12_1 : Int) := ode_
         have q271 : x12_1 < (l1.length : Int) := ode_
         obtain ⟨ad271, e271, hx271_0⟩ := Kd.at_int HR1.out x12_1 p271 q271
         cases e271
         replace hx271_0 := (HB.out.cell (World.block_lt_of_cell? w _ hx271_0)).trans hx271_0
         replace p271 := eq_true p271
         replace q271 := eq_true q271
         go_wp2_with (first | ((with_reducible refine gate_builtin (b := .append) (xs := #[.tmp 33, .tmp 37]) rfl ?_); at_builtin; refine Kd.R_append (Kd.int .u32) (w0 := w) w.heap.size rfl (.tmp 33) (.tmp 37) 30 80 (.int .u32 0) 4 rfl Tryz.underlying30 info80 rfl (by decide) (by omega) u5 x5_1 (((rd l0 x12_1) + 1000000000 - (x6_1 + (rd l1 x12_1))) % 4294967296) [.int .u32 (((rd l0 x12_1) + 1000000000 - (x6_1 + (rd l1 x12_1))) % 4294967296)] (fun k_ => (w.heap.size ≤ k_)) (fun _ => False) rfl rfl ?aP (fun _ hk => hk.elim) ?aF ?aO ?aB ?aS ?aL ?_; (case aP => exact rfl); (case aB => exact bel_); (case aF => exact (fun k_ hk => (Nat.le_trans (below_size bel_) hk))); (case aO => exact (rr_ HO_5.out)); (case aS => exact (below_size bel_)); (case aL => have := LMc8.out; omega); intro v273 w9 ho hb hg hat; rw [← Ny272.out] at ho; have n0_ := Aside0.mk (hb); have n1_ := Aside0.mk (ho); clear HB; clear HO_5; have HB := n0_; have HO274 := n1_; clear n0_ n1_; clear ho hb hg hat))
         go_roundg k1
         case measure => have := HK1.out; omega
         case rel => exact ⟨(y272), (1), (wrap64 (x12_1 + 1)), sd_, sd_, H', ⟨by have := HK1.out; omega⟩, ⟨by (with_reducible repeat (first | apply Kd.R_alloc | apply Kd.R_drewN | apply Kd.R_drew)); exact HO274.out⟩, ⟨bel_⟩⟩
        ·rw [if_neg c8] at H
         exact absurd H (by simp)
       ·rw [if_neg c7] at H
        have c7b0 : decide ((rd l0 x12_1) < ((x6_1 + (rd l1 x12_1)) % 4294967296)) = false := decide_eq_false c7
        clear c7
        by_cases c10 : x5_1.length < 35184372088832
        ·rw [if_pos c10] at H
         have LMc10 := Aside0.mk c10
         clear c10
         obtain ⟨y275, hy275⟩ : ∃ y_ : List Int, y_ = (x5_1 ++ [((rd l0 x12_1) - (x6_1 + (rd l1 x12_1))) % 4294967296]) := ⟨_, rfl⟩
         replace H : (spec_NatSub.l0 k1 l1 y275 0 l0 (l0.length : Int) (wrap64 (x12_1 + 1))) = some r := fo_ hy275 H
         have Ny275 := Aside0.mk hy275
         clear hy275
         have H' := Aside0.mk H
         clear H
         have p270 : 0 ≤ (x12_1 : Int) := ode_
         have q270 : x12_1 < (l0.length : Int) := ode_
         obtain ⟨ad270, e270, hx270_0⟩ := Kd.at_int HR0.out x12_1 p270 q270
         cases e270
         replace hx270_0 := (HB.out.cell (World.block_lt_of_cell? w _ hx270_0)).trans hx270_0
         replace p270 := eq_true p270
         replace q270 := eq_true q270
         have p271 : 0 ≤ (x12_1 : Int) := ode_
         have q271 : x12_1 < (l1.length : Int) := ode_
         obtain ⟨ad271, e271, hx271_0⟩ := Kd.at_int HR1.out x12_1 p271 q271
         cases e271
         replace hx271_0 := (HB.out.cell (World.block_lt_of_cell? w _ hx271_0)).trans hx271_0
         replace p271 := eq_true p271
         replace q271 := eq_true q271
         go_wp2_with (first | ((with_reducible refine gate_builtin (b := .append) (xs := #[.tmp 33, .tmp 37]) rfl ?_); at_builtin; refine Kd.R_append (Kd.int .u32) (w0 := w) w.heap.size rfl (.tmp 33) (.tmp 37) 30 80 (.int .u32 0) 4 rfl Tryz.underlying30 info80 rfl (by decide) (by omega) u5 x5_1 (((rd l0 x12_1) - (x6_1 + (rd l1 x12_1))) % 4294967296) [.int .u32 (((rd l0 x12_1) - (x6_1 + (rd l1 x12_1))) % 4294967296)] (fun k_ => (w.heap.size ≤ k_)) (fun _ => False) rfl rfl ?aP (fun _ hk => hk.elim) ?aF ?aO ?aB ?aS ?aL ?_; (case aP => exact rfl); (case aB => exact bel_); (case aF => exact (fun k_ hk => (Nat.le_trans (below_size bel_) hk))); (case aO => exact (rr_ HO_5.out)); (case aS => exact (below_size bel_)); (case aL => have := LMc10.out; omega); intro v276 w11 ho hb hg hat; rw [← Ny275.out] at ho; have n0_ := Aside0.mk (hb); have n1_ := Aside0.mk (ho); clear HB; clear HO_5; have HB := n0_; have HO277 := n1_; clear n0_ n1_; clear ho hb hg hat))
         go_roundg k1
         case measure => have := HK1.out; omega
         case rel => exact ⟨(y275), (0), (wrap64 (x12_1 + 1)), sd_, sd_, H', ⟨by have := HK1.out; omega⟩, ⟨by (with_reducible repeat (first | apply Kd.R_alloc | apply Kd.R_drewN | apply Kd.R_drew)); exact HO277.out⟩, ⟨bel_⟩⟩
        ·rw [if_neg c10] at H
         exact absurd H (by simp)
      ·rw [if_neg c6] at H
       have c6b0 : decide (x12_1 < (l1.length : Int)) = false := decide_eq_false c6
       clear c6
       by_cases c12 : (rd l0 x12_1) < x6_1
       ·rw [if_pos c12] at H
        have c12b0 : decide ((rd l0 x12_1) < x6_1) = true := decide_eq_true c12
        clear c12
        by_cases c13 : x5_1.length < 35184372088832
        ·rw [if_pos c13] at H
         have LMc13 := Aside0.mk c13
         clear c13
         obtain ⟨y278, hy278⟩ : ∃ y_ : List Int, y_ = (x5_1 ++ [((rd l0 x12_1) + 1000000000 - x6_1) % 4294967296]) := ⟨_, rfl⟩
         replace H : (spec_NatSub.l0 k1 l1 y278 1 l0 (l0.length : Int) (wrap64 (x12_1 + 1))) = some r := fo_ hy278 H
         have Ny278 := Aside0.mk hy278
         clear hy278
         have H' := Aside0.mk H
         clear H
         have p270 : 0 ≤ (x12_1 : Int) := ode_
         have q270 : x12_1 < (l0.length : Int) := ode_
         obtain ⟨ad270, e270, hx270_0⟩ := Kd.at_int HR0.out x12_1 p270 q270
         cases e270
         replace hx270_0 := (HB.out.cell (World.block_lt_of_cell? w _ hx270_0)).trans hx270_0
         replace p270 := eq_true p270
         replace q270 := eq_true q270
         go_wp2_with (first | ((with_reducible refine gate_builtin (b := .append) (xs := #[.tmp 33, .tmp 37]) rfl ?_); at_builtin; refine Kd.R_append (Kd.int .u32) (w0 := w) w.heap.size rfl (.tmp 33) (.tmp 37) 30 80 (.int .u32 0) 4 rfl Tryz.underlying30 info80 rfl (by decide) (by omega) u5 x5_1 (((rd l0 x12_1) + 1000000000 - x6_1) % 4294967296) [.int .u32 (((rd l0 x12_1) + 1000000000 - x6_1) % 4294967296)] (fun k_ => (w.heap.size ≤ k_)) (fun _ => False) rfl rfl ?aP (fun _ hk => hk.elim) ?aF ?aO ?aB ?aS ?aL ?_; (case aP => exact rfl); (case aB => exact bel_); (case aF => exact (fun k_ hk => (Nat.le_trans (below_size bel_) hk))); (case aO => exact (rr_ HO_5.out)); (case aS => exact (below_size bel_)); (case aL => have := LMc13.out; omega); intro v279 w14 ho hb hg hat; rw [← Ny278.out] at ho; have n0_ := Aside0.mk (hb); have n1_ := Aside0.mk (ho); clear HB; clear HO_5; have HB := n0_; have HO280 := n1_; clear n0_ n1_; clear ho hb hg hat))
         go_roundg k1
         case measure => have := HK1.out; omega
         case rel => exact ⟨(y278), (1), (wrap64 (x12_1 + 1)), sd_, sd_, H', ⟨by have := HK1.out; omega⟩, ⟨by (with_reducible repeat (first | apply Kd.R_alloc | apply Kd.R_drewN | apply Kd.R_drew)); exact HO280.out⟩, ⟨bel_⟩⟩
        ·rw [if_neg c13] at H
         exact absurd H (by simp)
       ·rw [if_neg c12] at H
        have c12b0 : decide ((rd l0 x12_1) < x6_1) = false := decide_eq_false c12
        clear c12
        by_cases c15 : x5_1.length < 35184372088832
        ·rw [if_pos c15] at H
         have LMc15 := Aside0.mk c15
         clear c15
         obtain ⟨y281, hy281⟩ : ∃ y_ : List Int, y_ = (x5_1 ++ [((rd l0 x12_1) - x6_1) % 4294967296]) := ⟨_, rfl⟩
         replace H : (spec_NatSub.l0 k1 l1 y281 0 l0 (l0.length : Int) (wrap64 (x12_1 + 1))) = some r := fo_ hy281 H
         have Ny281 := Aside0.mk hy281
         clear hy281
         have H' := Aside0.mk H
         clear H
         have p270 : 0 ≤ (x12_1 : Int) := ode_
         have q270 : x12_1 < (l0.length : Int) := ode_
         obtain ⟨ad270, e270, hx270_0⟩ := Kd.at_int HR0.out x12_1 p270 q270
         cases e270
         replace hx270_0 := (HB.out.cell (World.block_lt_of_cell? w _ hx270_0)).trans hx270_0
         replace p270 := eq_true p270
         replace q270 := eq_true q270
         go_wp2_with (first | ((with_reducible refine gate_builtin (b := .append) (xs := #[.tmp 33, .tmp 37]) rfl ?_); at_builtin; refine Kd.R_append (Kd.int .u32) (w0 := w) w.heap.size rfl (.tmp 33) (.tmp 37) 30 80 (.int .u32 0) 4 rfl Tryz.underlying30 info80 rfl (by decide) (by omega) u5 x5_1 (((rd l0 x12_1) - x6_1) % 4294967296) [.int .u32 (((rd l0 x12_1) - x6_1) % 4294967296)] (fun k_ => (w.heap.size ≤ k_)) (fun _ => False) rfl rfl ?aP (fun _ hk => hk.elim) ?aF ?aO ?aB ?aS ?aL ?_; (case aP => exact rfl); (case aB => exact bel_); (case aF => exact (fun k_ hk => (Nat.le_trans (below_size bel_) hk))); (case aO => exact (rr_ HO_5.out)); (case aS => exact (below_size bel_)); (case aL => have := LMc15.out; omega); intro v282 w16 ho hb hg hat; rw [← Ny281.out] at ho; have n0_ := Aside0.mk (hb); have n1_ := Aside0.mk (ho); clear HB; clear HO_5; have HB := n0_; have HO283 := n1_; clear n0_ n1_; clear ho hb hg hat))
         go_roundg k1
         case measure => have := HK1.out; omega
         case rel => exact ⟨(y281), (0), (wrap64 (x12_1 + 1)), sd_, sd_, H', ⟨by have := HK1.out; omega⟩, ⟨by (with_reducible repeat (first | apply Kd.R_alloc | apply Kd.R_drewN | apply Kd.R_drew)); exact HO283.out⟩, ⟨bel_⟩⟩
        ·rw [if_neg c15] at H
         exact absurd H (by simp)
     ·rw [if_neg c5] at H
      exact absurd H (by simp)
    ·rw [if_neg c4] at H
     exact absurd H (by simp)
   ·rw [if_neg c3] at H
    have c3b0 : decide (x12_1 < (l0.length : Int)) = false := decide_eq_false c3
    clear c3
    replace H := Option.bind_eq_some_iff.mp H
    obtain ⟨t267, A170, H⟩ := H
    replace H : (some t267) = some r := H
    have A17 := Aside0.mk A170
    clear A170
    obtain rfl := Option.some.inj H
    obtain ⟨Ao18, co18, eo18⟩ := Kd.R_slice HO_5.out
    subst eo18
    go_wp2_with (first | ((with_reducible refine gate_callee (f := 69) rfl ?_); refine goesL_ (some 41) rfl rfl Tryz.func69 kr_ rfl #[.slice Ao18 x5_1.length co18] rfl lm_ ?_; (with_reducible refine (spec_natTrim.calls k1 (fun k_ => some k_ = (.slice Ao18 x5_1.length co18 : Value).ownBlock) _ _ x5_1 t267 _ ?side1 A17.out).mono ?_); (case side1 => exact Kd.R_V (Kd.R_tight rfl (HO_5.out))); rintro e w19 ⟨v268, rfl, ho0, hb⟩; refine ⟨_, rfl, ?_⟩; have n0_ := Aside0.mk (Kd.R_below (rr_ HO_5.out) hb); have n1_ := Aside0.mk (Kd.V_lower (Kd.V_mono (ok' := fun k_ => (w.heap.size ≤ k_)) ho0 (fun k_ hk_ => Or.elim hk_ (fun hs_ => ((HO_5.out).1 k_ hs_.symm)) (fun hn_ => (Nat.le_trans (below_size bel_) hn_)))) (below_size bel_)); have n2_ := Aside0.mk (below_step bel_ hb); clear HO_5; clear HB; have HO_5 := n0_; have HO269 := n1_; have HB := n2_; clear n0_ n1_ n2_; (try clear hb); (try clear hb2); (try clear hk); (try clear hi); (try clear ho0)))
    go_ret
    exact ⟨_, by first | rfl | (simp [errW_none, errW_some] <;> rfl) | (simp [*, errW_none, errW_some] <;> rfl), by (with_reducible repeat (first | apply Kd.V_alloc | apply Kd.V_drewN | apply Kd.V_drew)); exact HO269.out, bel_⟩
def spec_natShort.l0 : Nat → List Int → Int → List Int → Int → Int → Option (List Int × Int)
 | 0, _, _, _, _, _ => none
 | k + 1, x0, x1, x6, x7, x8 => if x8 ≥ 0 then (if 0 ≤ x8 then (if x8 < (x0.length : Int) then (if (IntKind.u64.wrap (x1)) = 0 then (none) else (if x8 < (x6.length : Int) then (spec_natShort.l0 k x0 x1 (x6.set (x8 : Int).toNat ((IntKind.u64.wrap (Int.tdiv (IntKind.u64.wrap ((IntKind.u64.wrap (x7 * 1000000000)) + (IntKind.u64.wrap (rd x0 x8)))) (IntKind.u64.wrap (x1)))) % 4294967296)) (Int.tmod (IntKind.u64.wrap ((IntKind.u64.wrap (x7 * 1000000000)) + (IntKind.u64.wrap (rd x0 x8)))) (IntKind.u64.wrap (x1))) (wrap64 (x8 - 1))) else (none))) else (none)) else (none)) else ((spec_natTrim.f k x6).bind fun t253 => (some (t253, (x7) % 4294967296)))
def spec_natShort.f (k : Nat) (l0 : List Int) (a1 : Int) : Option (List Int × Int) := if 0 ≤ (l0.length : Int) then (if ((l0.length : Int) : Int).toNat ≤ 70368744177664 then (spec_natShort.l0 k l0 a1 (List.replicate ((l0.length : Int) : Int).toNat 0) 0 (wrap64 ((l0.length : Int) - 1))) else (none)) else (none)
set_option maxHeartbeats 8000000 in
set_option maxRecDepth 100000 in
theorem spec_natShort.calls (k : Nat) (A0 : Option Addr) (c0 : Nat) (l0 : List Int) (a1 : Int) (r1 : List Int) (r2 : Int) (w : World) (hr0 : Kd.C (Kd.int .u32) w A0 l0.length l0) (hc0 : l0.length ≤ c0) (h : spec_natShort.f k l0 a1 = some (r1, r2)) :
  Calls Tryz.prog 38 #[.slice A0 l0.length c0, .int .u32 a1] w fun e w' => ∃ v0_ : Value, e = .returned (.tuple #[v0_, .int .u32 r2]) ∧ Kd.V (Kd.int .u32) 80 w' w.heap.size (fun k_ => (w.heap.size ≤ k_)) v0_ r1 ∧ Below w.heap.size w w' := by
 have HR0 := Aside0.mk hr0
 have HC0 := Aside0.mk hc0
 clear hr0 hc0
 have HB := Aside0.mk (Below.refl w.heap.size w)
 have H : (if 0 ≤ (l0.length : Int) then (if ((l0.length : Int) : Int).toNat ≤ 70368744177664 then (spec_natShort.l0 k l0 a1 (List.replicate ((l0.length : Int) : Int).toNat 0) 0 (wrap64 ((l0.length : Int) - 1))) else (none)) else (none)) = some (r1, r2) := h
 clear h
 by_cases c3 : 0 ≤ (l0.length : Int)
 ·rw [if_pos c3] at H
  have c3b0 := eq_true c3
  have c3b1 : decide (0 ≤ (l0.length : Int)) = true := decide_eq_true c3
  clear c3
  by_cases c4 : ((l0.length : Int) : Int).toNat ≤ 70368744177664
  ·rw [if_pos c4] at H
   have c4b0 := eq_true c4
   have c4b1 : decide (((l0.length : Int) : Int).toNat ≤ 70368744177664) = true := decide_eq_true c4
   clear c4
   obtain ⟨y248, hy248⟩ : ∃ y_ : List Int, y_ = (List.replicate ((l0.length : Int) : Int).toNat 0) := ⟨_, rfl⟩
   replace H : (spec_natShort.l0 k l0 a1 y248 0 (wrap64 ((l0.length : Int) - 1))) = some (r1, r2) := fo_ hy248 H
   have Ny248 := Aside0.mk hy248
   clear hy248
   have H' := Aside0.mk H
   clear H
   go_enter Tryz.func38, Tryz.ntmps38
   go_wp2_with (first | ((with_reducible refine gate_dst (N := 11) rfl ?_); refine Kd.R_make (Kd.int .u32) _ 80 rfl (N := 11) rfl 30 _ _ rfl (l0.length : Int) rfl rfl Tryz.underlying30 (.int .u32 0) 4 info80 rfl (by decide) (by omega) 0 (ok := fun _ => True) (okp := fun _ => True) rfl (fun _ hk => hk) trivial ode_ (Nat.le_trans (Nat.mul_le_mul_right _ (ode_ : (l0.length : Int).toNat ≤ 70368744177664)) (by omega)) (Below.refl _ _) (Nat.le_refl _) ?_; intro v249 w5 ho6 hb hg_ hnew_; clear hg_ hnew_; (first | rw [← Ny248.out] at ho6 | (simp only [Int.reduceToNat] at ho6; rw [← Ny248.out] at ho6)); have n0_ := Aside0.mk (Kd.R_lower (Kd.R_newM (M := fun k_ => (w.heap.size ≤ k_)) ho6 (below_size bel_) (fun k_ h_ => h_)) (below_size bel_)); have n1_ := Aside0.mk (below_step bel_ hb); clear HB; have HO250 := n0_; have HB := n1_; clear n0_ n1_; clear hb ho6))
   go_loopg [7, 8] k (fun kq v7 v8 w' => ∃ (x6_1 : List Int) (x7_1 : Int) (x8_1 : Int), v7 = .int .u64 x7_1 ∧ v8 = .int .i64 x8_1 ∧ Aside0 (spec_natShort.l0 kq l0 a1 x6_1 x7_1 x8_1 = some (r1, r2)) ∧ Aside0 (kq ≤ k) ∧ Aside0 (Kd.R (Kd.int .u32) 80 w' w.heap.size (fun k_ => (w.heap.size ≤ k_)) v249 x6_1) ∧ Aside0 (Below w.heap.size w w'))
   case atStart => exact ⟨(y248), (0), (wrap64 ((l0.length : Int) - 1)), sd_, sd_, H', ⟨Nat.le_refl _⟩, ⟨by (with_reducible repeat (first | apply Kd.R_alloc | apply Kd.R_drewN | apply Kd.R_drew)); exact Kd.R_mono HO250.out (fun _ hk => hk.1)⟩, ⟨bel_⟩⟩
   case round =>
    clear H'
    try clear p2
    try clear c3
    try clear c3b0
    try clear c3b1
    try clear c4
    try clear c4b0
    try clear c4b1
    try clear p6
    obtain ⟨x6_1, x7_1, x8_1, rfl, rfl, HA, HK1, HO_6, HB⟩ := hrel
    cases gk with
    | zero => exact absurd HA.out (by simp [spec_natShort.l0])
    | succ k1 =>
     have H := HA.out
     clear HA
     simp only [spec_natShort.l0] at H
     by_cases c7 : x8_1 ≥ 0
     ·rw [if_pos c7] at H
      have c7b0 : decide (0 ≤ x8_1) = true := decide_eq_true c7
      clear c7
      by_cases c8 : 0 ≤ x8_1
      ·rw [if_pos c8] at H
       have c8b0 : decide (0 ≤ x8_1) = true := decide_eq_true c8
       clear c8
       by_cases c9 : x8_1 < (l0.length : Int)
       ·rw [if_pos c9] at H
        have c9b0 : decide (x8_1 < (l0.length : Int)) = true := decide_eq_true c9
        clear c9
        by_cases c10 : (IntKind.u64.wrap (a1)) = 0
        ·rw [if_pos c10] at H
         exact absurd H (by simp)
        ·rw [if_neg c10] at H
         have c10b0 : ((IntKind.u64.wrap (a1)) == 0) = false := beq_eq_false_iff_ne.mpr c10
         have c10b1 : ((IntKind.u64.wrap (a1)) != 0) = true := bne_iff_ne.mpr c10
         by_cases c11 : x8_1 < (x6_1.length : Int)
         ·rw [if_pos c11] at H
          have c11b0 : decide (x8_1 < (x6_1.length : Int)) = true := decide_eq_true c11
          clear c11
          obtain ⟨y252, hy252⟩ : ∃ y_ : List Int, y_ = (x6_1.set (x8_1 : Int).toNat ((IntKind.u64.wrap (Int.tdiv (IntKind.u64.wrap ((IntKind.u64.wrap (x7_1 * 1000000000)) + (IntKind.u64.wrap (rd l0 x8_1)))) (IntKind.u64.wrap (a1)))) % 4294967296)) := ⟨_, rfl⟩
          replace H : (spec_natShort.l0 k1 l0 a1 y252 (Int.tmod (IntKind.u64.wrap ((IntKind.u64.wrap (x7_1 * 1000000000)) + (IntKind.u64.wrap (rd l0 x8_1)))) (IntKind.u64.wrap (a1))) (wrap64 (x8_1 - 1))) = some (r1, r2) := fo_ hy252 H
          have Ny252 := Aside0.mk hy252
          clear hy252
          have H' := Aside0.mk H
          clear H
          have p251 : 0 ≤ (x8_1 : Int) := ode_
          have q251 : x8_1 < (l0.length : Int) := ode_
          obtain ⟨ad251, e251, hx251_0⟩ := Kd.at_int HR0.out x8_1 p251 q251
          cases e251
          replace hx251_0 := (HB.out.cell (World.block_lt_of_cell? w _ hx251_0)).trans hx251_0
          replace p251 := eq_true p251
          replace q251 := eq_true q251
          have p12 : 0 ≤ (x8_1 : Int) := ode_
          have q12 : (x8_1 : Int) < ((x6_1.length : Int) : Int) := ode_
          obtain ⟨go12, co12, eo12, gb12, gl12, cl12, HG12⟩ := Kd.R_form HO_6.out (by omega)
          (first | cases eo12 | (injection eo12 with ea_ en_ ec_; (first | subst ea_ | (injection ea_ with ea_; subst ea_)); subst ec_; clear en_))
          have GB12 := Aside0.mk gb12
          have GG12 := Aside0.mk HG12
          clear gb12 gl12 HG12
          obtain ⟨hx12_0, hf12_0⟩ := Kd.R_celln 0 HO_6.out (x8_1 : Int) p12 q12
          replace p12 := eq_true p12
          replace q12 := eq_true q12
          have HP13 := Kd.R_putg HO_6.out (x8_1 : Int) ((IntKind.u64.wrap (Int.tdiv (IntKind.u64.wrap ((IntKind.u64.wrap (x7_1 * 1000000000)) + (IntKind.u64.wrap (rd l0 x8_1)))) (IntKind.u64.wrap (a1)))) % 4294967296)
          go_wp2_with (first | ((with_reducible refine gate_store (t := 80) (p := 34) rfl ?_); refine store_event (t := 80) (p := 34) (v := ?vo_w14) (w1 := (wr.setCell ⟨go12, (x8_1 : Int).toNat, none⟩ (.int .u32 ((IntKind.u64.wrap (Int.tdiv (IntKind.u64.wrap ((IntKind.u64.wrap (x7_1 * 1000000000)) + (IntKind.u64.wrap (rd l0 x8_1)))) (IntKind.u64.wrap (a1)))) % 4294967296)))) ?hg ?ho ?hn ?hr ?_; (case ho => rfl); (case hg => rfl); (case hn => rfl); (case hr => first | (go_simp; done) | (go_simp; rfl)); intro w14 hw; have hg : wr.grownBy w14 (some go12) := (by rw [hw]; exact HP13.2); have hp_ : Kd.R (Kd.int .u32) 80 w14 w.heap.size (fun k_ => (w.heap.size ≤ k_)) (.slice (some ⟨go12, 0, none⟩) x6_1.length co12) y252 := (by rw [hw, Ny252.out]; exact HP13.1); clear HP13; have n0_ := Aside0.mk (hp_); have n1_ := Aside0.mk ((by rw [hw]; exact below_set (HB.out) GB12.out : Below w.heap.size w w14)); clear HO_6; clear HB; have HO_6 := n0_; have HB := n1_; clear n0_ n1_; clear hg hw hp_))
          go_roundg k1
          case measure => have := HK1.out; omega
          case rel => exact ⟨(y252), (Int.tmod (IntKind.u64.wrap ((IntKind.u64.wrap (x7_1 * 1000000000)) + (IntKind.u64.wrap (rd l0 x8_1)))) (IntKind.u64.wrap (a1))), (wrap64 (x8_1 - 1)), sd_, sd_, H', ⟨by have := HK1.out; omega⟩, ⟨by (with_reducible repeat (first | apply Kd.R_alloc | apply Kd.R_drewN | apply Kd.R_drew)); exact HO_6.out⟩, ⟨bel_⟩⟩
         ·rw [if_neg c11] at H
          exact absurd H (by simp)
       ·rw [if_neg c9] at H
        exact absurd H (by simp)
      ·rw [if_neg c8] at H
       exact absurd H (by simp)
     ·rw [if_neg c7] at H
      have c7b0 : decide (0 ≤ x8_1) = false := decide_eq_false c7
      clear c7
      replace H := Option.bind_eq_some_iff.mp H
      obtain ⟨t253, A150, H⟩ := H
      replace H : (some (t253, (x7_1) % 4294967296)) = some (r1, r2) := H
      have A15 := Aside0.mk A150
      clear A150
      simp only [Option.some.injEq, Prod.mk.injEq] at H
      obtain ⟨rfl, rfl⟩ := H
      obtain ⟨Ao16, co16, eo16⟩ := Kd.R_slice HO_6.out
      subst eo16
      go_wp2_with (first | ((with_reducible refine gate_callee (f := 69) rfl ?_); refine goesL_ (some 40) rfl rfl Tryz.func69 kr_ rfl #[.slice Ao16 x6_1.length co16] rfl lm_ ?_; (with_reducible refine (spec_natTrim.calls k1 (fun k_ => some k_ = (.slice Ao16 x6_1.length co16 : Value).ownBlock) _ _ x6_1 t253 _ ?side1 A15.out).mono ?_); (case side1 => exact Kd.R_V (Kd.R_tight rfl (HO_6.out))); rintro e w17 ⟨v254, rfl, ho0, hb⟩; refine ⟨_, rfl, ?_⟩; have n0_ := Aside0.mk (Kd.R_below (rr_ HO_6.out) hb); have n1_ := Aside0.mk (Kd.V_lower (Kd.V_mono (ok' := fun k_ => (w.heap.size ≤ k_)) ho0 (fun k_ hk_ => Or.elim hk_ (fun hs_ => ((HO_6.out).1 k_ hs_.symm)) (fun hn_ => (Nat.le_trans (below_size bel_) hn_)))) (below_size bel_)); have n2_ := Aside0.mk (below_step bel_ hb); clear HO_6; clear HB; have HO_6 := n0_; have HO255 := n1_; have HB := n2_; clear n0_ n1_ n2_; (try clear hb); (try clear hb2); (try clear hk); (try clear hi); (try clear ho0)))
      go_ret2
      exact ⟨_, by first | rfl | (simp [errW_none, errW_some] <;> rfl) | (simp [*, errW_none, errW_some] <;> rfl), by (with_reducible repeat (first | apply Kd.V_alloc | apply Kd.V_drewN | apply Kd.V_drew)); exact HO255.out, bel_⟩
  ·rw [if_neg c4] at H
   exact absurd H (by simp)
 ·rw [if_neg c3] at H
  exact absurd H (by simp)
def spec_natGuess.f (l0 : List Int) (l1 : List Int) : Option (Int) := if (l0.length : Int) < (l1.length : Int) then (some 0) else (if 0 ≤ (wrap64 ((l1.length : Int) - 1)) then (if (wrap64 ((l1.length : Int) - 1)) < (l0.length : Int) then (if (l0.length : Int) > (l1.length : Int) then (if 0 ≤ (l1.length : Int) then (if (l1.length : Int) < (l0.length : Int) then (if (wrap64 ((l1.length : Int) - 1)) < (l1.length : Int) then (if (IntKind.u64.wrap (rd l1 (wrap64 ((l1.length : Int) - 1)))) = 0 then (none) else (some (mn (IntKind.u64.wrap (Int.tdiv (IntKind.u64.wrap ((IntKind.u64.wrap (rd l0 (wrap64 ((l1.length : Int) - 1)))) + (IntKind.u64.wrap ((IntKind.u64.wrap (rd l0 (l1.length : Int))) * 1000000000)))) (IntKind.u64.wrap (rd l1 (wrap64 ((l1.length : Int) - 1)))))) 999999999))) else (none)) else (none)) else (none)) else (if (wrap64 ((l1.length : Int) - 1)) < (l1.length : Int) then (if (IntKind.u64.wrap (rd l1 (wrap64 ((l1.length : Int) - 1)))) = 0 then (none) else (some (mn (IntKind.u64.wrap (Int.tdiv (IntKind.u64.wrap (rd l0 (wrap64 ((l1.length : Int) - 1)))) (IntKind.u64.wrap (rd l1 (wrap64 ((l1.length : Int) - 1)))))) 999999999))) else (none))) else (none)) else (none))
set_option maxHeartbeats 8000000 in
set_option maxRecDepth 100000 in
theorem spec_natGuess.calls (A0 : Option Addr) (c0 : Nat) (l0 : List Int) (A1 : Option Addr) (c1 : Nat) (l1 : List Int) (r : Int) (w : World) (hr0 : Kd.C (Kd.int .u32) w A0 l0.length l0) (hc0 : l0.length ≤ c0) (hr1 : Kd.C (Kd.int .u32) w A1 l1.length l1) (hc1 : l1.length ≤ c1) (h : spec_natGuess.f l0 l1 = some r) :
  Calls Tryz.prog 70 #[.slice A0 l0.length c0, .slice A1 l1.length c1] w fun e w' => e = .returned (.int .u64 r) ∧ Below w.heap.size w w' := by
 have HR0 := Aside0.mk hr0
 have HC0 := Aside0.mk hc0
 clear hr0 hc0
 have HR1 := Aside0.mk hr1
 have HC1 := Aside0.mk hc1
 clear hr1 hc1
 have HB := Aside0.mk (Below.refl w.heap.size w)
 have H : (if (l0.length : Int) < (l1.length : Int) then (some 0) else (if 0 ≤ (wrap64 ((l1.length : Int) - 1)) then (if (wrap64 ((l1.length : Int) - 1)) < (l0.length : Int) then (if (l0.length : Int) > (l1.length : Int) then (if 0 ≤ (l1.length : Int) then (if (l1.length : Int) < (l0.length : Int) then (if (wrap64 ((l1.length : Int) - 1)) < (l1.length : Int) then (if (IntKind.u64.wrap (rd l1 (wrap64 ((l1.length : Int) - 1)))) = 0 then (none) else (some (mn (IntKind.u64.wrap (Int.tdiv (IntKind.u64.wrap ((IntKind.u64.wrap (rd l0 (wrap64 ((l1.length : Int) - 1)))) + (IntKind.u64.wrap ((IntKind.u64.wrap (rd l0 (l1.length : Int))) * 1000000000)))) (IntKind.u64.wrap (rd l1 (wrap64 ((l1.length : Int) - 1)))))) 999999999))) else (none)) else (none)) else (none)) else (if (wrap64 ((l1.length : Int) - 1)) < (l1.length : Int) then (if (IntKind.u64.wrap (rd l1 (wrap64 ((l1.length : Int) - 1)))) = 0 then (none) else (some (mn (IntKind.u64.wrap (Int.tdiv (IntKind.u64.wrap (rd l0 (wrap64 ((l1.length : Int) - 1)))) (IntKind.u64.wrap (rd l1 (wrap64 ((l1.length : Int) - 1)))))) 999999999))) else (none))) else (none)) else (none))) = some r := h
 clear h
 by_cases c3 : (l0.length : Int) < (l1.length : Int)
 ·rw [if_pos c3] at H
  have c3b0 : decide ((l0.length : Int) < (l1.length : Int)) = true := decide_eq_true c3
  have c3b1 : decide (l0.length < l1.length) = true := decide_eq_true (Int.ofNat_lt.mp c3)
  clear c3
  obtain rfl := Option.some.inj H
  go_enter Tryz.func70, Tryz.ntmps70
  go_wp2
  go_ret
  exact ⟨by first | rfl | (simp [errW_none, errW_some] <;> rfl) | (simp [*, errW_none, errW_some] <;> rfl), bel_⟩
 ·rw [if_neg c3] at H
  have c3b0 : decide ((l0.length : Int) < (l1.length : Int)) = false := decide_eq_false c3
  have c3b1 : decide (l0.length < l1.length) = false := decide_eq_false (fun h => c3 (Int.ofNat_lt.mpr h))
  clear c3
  obtain ⟨ji4, hji4⟩ : ∃ j_ : Int, (wrap64 ((l1.length : Int) - 1)) = j_ := ⟨_, rfl⟩
  replace H : (if 0 ≤ (ji4) then (if (ji4) < (l0.length : Int) then (if (l0.length : Int) > (l1.length : Int) then (if 0 ≤ (l1.length : Int) then (if (l1.length : Int) < (l0.length : Int) then (if (ji4) < (l1.length : Int) then (if (IntKind.u64.wrap (rd l1 (ji4))) = 0 then (none) else (some (mn (IntKind.u64.wrap (Int.tdiv (IntKind.u64.wrap ((IntKind.u64.wrap (rd l0 (ji4))) + (IntKind.u64.wrap ((IntKind.u64.wrap (rd l0 (l1.length : Int))) * 1000000000)))) (IntKind.u64.wrap (rd l1 (ji4))))) 999999999))) else (none)) else (none)) else (none)) else (if (ji4) < (l1.length : Int) then (if (IntKind.u64.wrap (rd l1 (ji4))) = 0 then (none) else (some (mn (IntKind.u64.wrap (Int.tdiv (IntKind.u64.wrap (rd l0 (ji4))) (IntKind.u64.wrap (rd l1 (ji4))))) 999999999))) else (none))) else (none)) else (none)) = some r := by first | (rw [hji4] at H; exact H) | (simp only [hji4] at H ⊢; exact H)
  have hji4w : (IntKind.i64.wrap ((l1.length : Int) - 1)) = ji4 := (i64_w _).trans hji4
  by_cases c5 : 0 ≤ (ji4)
  ·rw [if_pos c5] at H
   have c5b0 : decide (0 ≤ (ji4)) = true := decide_eq_true c5
   clear c5
   by_cases c6 : (ji4) < (l0.length : Int)
   ·rw [if_pos c6] at H
    have c6b0 : decide ((ji4) < (l0.length : Int)) = true := decide_eq_true c6
    clear c6
    by_cases c7 : (l0.length : Int) > (l1.length : Int)
    ·rw [if_pos c7] at H
     have c7b0 : decide ((l1.length : Int) < (l0.length : Int)) = true := decide_eq_true c7
     have c7b1 : decide (l1.length < l0.length) = true := decide_eq_true (Int.ofNat_lt.mp c7)
     clear c7
     by_cases c8 : 0 ≤ (l1.length : Int)
     ·rw [if_pos c8] at H
      have c8b0 : decide (0 ≤ (l1.length : Int)) = true := decide_eq_true c8
      have c8b1 : decide (0 ≤ l1.length) = true := decide_eq_true (by omega)
      clear c8
      by_cases c9 : (l1.length : Int) < (l0.length : Int)
      ·rw [if_pos c9] at H
       have c9b0 : decide ((l1.length : Int) < (l0.length : Int)) = true := decide_eq_true c9
       have c9b1 : decide (l1.length < l0.length) = true := decide_eq_true (Int.ofNat_lt.mp c9)
       clear c9
       by_cases c10 : (ji4) < (l1.length : Int)
       ·rw [if_pos c10] at H
        have c10b0 : decide ((ji4) < (l1.length : Int)) = true := decide_eq_true c10
        clear c10
        by_cases c11 : (IntKind.u64.wrap (rd l1 (ji4))) = 0
        ·rw [if_pos c11] at H
         exact absurd H (by simp)
        ·rw [if_neg c11] at H
         have c11b0 : ((IntKind.u64.wrap (rd l1 (ji4))) == 0) = false := beq_eq_false_iff_ne.mpr c11
         have c11b1 : ((IntKind.u64.wrap (rd l1 (ji4))) != 0) = true := bne_iff_ne.mpr c11
         obtain ⟨ji12, hji12⟩ : ∃ j_ : Int, (mn (IntKind.u64.wrap (Int.tdiv (IntKind.u64.wrap ((IntKind.u64.wrap (rd l0 (ji4))) + (IntKind.u64.wrap ((IntKind.u64.wrap (rd l0 (l1.length : Int))) * 1000000000)))) (IntKind.u64.wrap (rd l1 (ji4))))) 999999999) = j_ := ⟨_, rfl⟩
         replace H : (some ji12) = some r := by first | (rw [hji12] at H; exact H) | (simp only [hji12] at H ⊢; exact H)
         have hji12_ : (if 999999999 < (IntKind.u64.wrap (Int.tdiv (IntKind.u64.wrap ((IntKind.u64.wrap (rd l0 (ji4))) + (IntKind.u64.wrap ((IntKind.u64.wrap (rd l0 (l1.length : Int))) * 1000000000)))) (IntKind.u64.wrap (rd l1 (ji4))))) then 999999999 else (IntKind.u64.wrap (Int.tdiv (IntKind.u64.wrap ((IntKind.u64.wrap (rd l0 (ji4))) + (IntKind.u64.wrap ((IntKind.u64.wrap (rd l0 (l1.length : Int))) * 1000000000)))) (IntKind.u64.wrap (rd l1 (ji4)))))) = ji12 := hji12
         obtain rfl := Option.some.inj H
         have p263 : 0 ≤ ((ji4) : Int) := ode_
         have q263 : (ji4) < (l0.length : Int) := ode_
         obtain ⟨ad263, e263, hx263_0⟩ := Kd.at_int HR0.out (ji4) p263 q263
         cases e263
         replace p263 := eq_true p263
         replace q263 := eq_true q263
         have p264 : 0 ≤ ((l1.length : Int) : Int) := ode_
         have q264 : (l1.length : Int) < (l0.length : Int) := ode_
         obtain ⟨ad264, e264, hx264_0⟩ := Kd.at_int HR0.out (l1.length : Int) p264 q264
         obtain rfl : ad263 = ad264 := (by injection e264)
         (try simp only [Go.IntWalk.toNatUp] at hx264_0)
         replace p264 := eq_true p264
         replace q264 := eq_true q264
         have p265 : 0 ≤ ((ji4) : Int) := ode_
         have q265 : (ji4) < (l1.length : Int) := ode_
         obtain ⟨ad265, e265, hx265_0⟩ := Kd.at_int HR1.out (ji4) p265 q265
         cases e265
         replace p265 := eq_true p265
         replace q265 := eq_true q265
         go_enter Tryz.func70, Tryz.ntmps70
         go_wp2
         go_ret
         exact ⟨by first | rfl | (simp [errW_none, errW_some] <;> rfl) | (simp only [← hji4, ← hji12]; first | rfl | (simp [errW_none, errW_some] <;> rfl)) | (simp [*, errW_none, errW_some] <;> rfl), bel_⟩
       ·rw [if_neg c10] at H
        exact absurd H (by simp)
      ·rw [if_neg c9] at H
       exact absurd H (by simp)
     ·rw [if_neg c8] at H
      exact absurd H (by simp)
    ·rw [if_neg c7] at H
     have c7b0 : decide ((l1.length : Int) < (l0.length : Int)) = false := decide_eq_false c7
     have c7b1 : decide (l1.length < l0.length) = false := decide_eq_false (fun h => c7 (Int.ofNat_lt.mpr h))
     clear c7
     by_cases c13 : (ji4) < (l1.length : Int)
     ·rw [if_pos c13] at H
      have c13b0 : decide ((ji4) < (l1.length : Int)) = true := decide_eq_true c13
      clear c13
      by_cases c14 : (IntKind.u64.wrap (rd l1 (ji4))) = 0
      ·rw [if_pos c14] at H
       exact absurd H (by simp)
      ·rw [if_neg c14] at H
       have c14b0 : ((IntKind.u64.wrap (rd l1 (ji4))) == 0) = false := beq_eq_false_iff_ne.mpr c14
       have c14b1 : ((IntKind.u64.wrap (rd l1 (ji4))) != 0) = true := bne_iff_ne.mpr c14
       obtain ⟨ji15, hji15⟩ : ∃ j_ : Int, (mn (IntKind.u64.wrap (Int.tdiv (IntKind.u64.wrap (rd l0 (ji4))) (IntKind.u64.wrap (rd l1 (ji4))))) 999999999) = j_ := ⟨_, rfl⟩
       replace H : (some ji15) = some r := by first | (rw [hji15] at H; exact H) | (simp only [hji15] at H ⊢; exact H)
       have hji15_ : (if 999999999 < (IntKind.u64.wrap (Int.tdiv (IntKind.u64.wrap (rd l0 (ji4))) (IntKind.u64.wrap (rd l1 (ji4))))) then 999999999 else (IntKind.u64.wrap (Int.tdiv (IntKind.u64.wrap (rd l0 (ji4))) (IntKind.u64.wrap (rd l1 (ji4)))))) = ji15 := hji15
       obtain rfl := Option.some.inj H
       have p263 : 0 ≤ ((ji4) : Int) := ode_
       have q263 : (ji4) < (l0.length : Int) := ode_
       obtain ⟨ad263, e263, hx263_0⟩ := Kd.at_int HR0.out (ji4) p263 q263
       cases e263
       replace p263 := eq_true p263
       replace q263 := eq_true q263
       have p266 : 0 ≤ ((ji4) : Int) := ode_
       have q266 : (ji4) < (l1.length : Int) := ode_
       obtain ⟨ad266, e266, hx266_0⟩ := Kd.at_int HR1.out (ji4) p266 q266
       cases e266
       replace p266 := eq_true p266
       replace q266 := eq_true q266
       go_enter Tryz.func70, Tryz.ntmps70
       go_wp2
       go_ret
       exact ⟨by first | rfl | (simp [errW_none, errW_some] <;> rfl) | (simp only [← hji4, ← hji15]; first | rfl | (simp [errW_none, errW_some] <;> rfl)) | (simp [*, errW_none, errW_some] <;> rfl), bel_⟩
     ·rw [if_neg c13] at H
      exact absurd H (by simp)
   ·rw [if_neg c6] at H
    exact absurd H (by simp)
  ·rw [if_neg c5] at H
   exact absurd H (by simp)
attribute [local go_sem] max2_int min2_int max_two min_two max_three min_three max_four min_four
set_option linter.unusedVariables false
set_option linter.unusedSimpArgs false
mutual
def spec_NatAdd.l0 : Nat → List Int → List Int → List Int → Int → Int → Option (List Int)
 | 0, _, _, _, _, _ => none
 | k + 1, x0, x1, x5, x6, x7 => if x7 < (x0.length : Int) then (spec_NatAdd.j1 k x0 x1 x5 x6 x7 true) else (if x7 < (x1.length : Int) then (spec_NatAdd.j1 k x0 x1 x5 x6 x7 true) else (spec_NatAdd.j1 k x0 x1 x5 x6 x7 (decide (x6 > 0))))
def spec_NatAdd.j1 : Nat → List Int → List Int → List Int → Int → Int → Bool → Option (List Int)
 | 0, _, _, _, _, _, _ => none
 | k + 1, x0, x1, x5, x6, x7, x21 => if x21 = true then (if x7 < (x0.length : Int) then (if 0 ≤ x7 then (if x7 < (x1.length : Int) then (if x5.length < 35184372088832 then (spec_NatAdd.l0 k x0 x1 (x5 ++ [((x6 + (rd x0 x7) + (rd x1 x7)) % 4294967296) % 1000000000]) (((x6 + (rd x0 x7) + (rd x1 x7)) % 4294967296) / 1000000000) (wrap64 (x7 + 1))) else (none)) else (if x5.length < 35184372088832 then (spec_NatAdd.l0 k x0 x1 (x5 ++ [((x6 + (rd x0 x7)) % 4294967296) % 1000000000]) (((x6 + (rd x0 x7)) % 4294967296) / 1000000000) (wrap64 (x7 + 1))) else (none))) else (none)) else (if x7 < (x1.length : Int) then (if 0 ≤ x7 then (if x5.length < 35184372088832 then (spec_NatAdd.l0 k x0 x1 (x5 ++ [((x6 + (rd x1 x7)) % 4294967296) % 1000000000]) (((x6 + (rd x1 x7)) % 4294967296) / 1000000000) (wrap64 (x7 + 1))) else (none)) else (none)) else (if x5.length < 35184372088832 then (spec_NatAdd.l0 k x0 x1 (x5 ++ [Int.tmod x6 1000000000]) ((Int.tdiv x6 1000000000) % 4294967296) (wrap64 (x7 + 1))) else (none)))) else (some x5)
end
def spec_NatAdd.f (k : Nat) (l0 : List Int) (l1 : List Int) : Option (List Int) := spec_NatAdd.l0 k l0 l1 ([] : List Int) 0 0
set_option maxHeartbeats 8000000 in
set_option maxRecDepth 100000 in
theorem spec_NatAdd.calls (k : Nat) (A0 : Option Addr) (c0 : Nat) (l0 : List Int) (A1 : Option Addr) (c1 : Nat) (l1 : List Int) (r : List Int) (w : World) (hr0 : Kd.C (Kd.int .u32) w A0 l0.length l0) (hc0 : l0.length ≤ c0) (hr1 : Kd.C (Kd.int .u32) w A1 l1.length l1) (hc1 : l1.length ≤ c1) (h : spec_NatAdd.f k l0 l1 = some r) :
  Calls Tryz.prog 46 #[.slice A0 l0.length c0, .slice A1 l1.length c1] w fun e w' => ∃ v0_ : Value, e = .returned (v0_) ∧ Kd.R (Kd.int .u32) 80 w' w.heap.size (fun _ => True) v0_ r ∧ Below w.heap.size w w' := by
 have HR0 := Aside0.mk hr0
 have HC0 := Aside0.mk hc0
 clear hr0 hc0
 have HR1 := Aside0.mk hr1
 have HC1 := Aside0.mk hc1
 clear hr1 hc1
 have HB := Aside0.mk (Below.refl w.heap.size w)
 have H : (spec_NatAdd.l0 k l0 l1 ([] : List Int) 0 0) = some r := h
 clear h
 have H' := Aside0.mk H
 clear H
 go_enter Tryz.func46, Tryz.ntmps46
 go_wp2
 go_loopg [5, 6, 7] k (fun kq v5 v6 v7 w' => ∃ (x5_1 : List Int) (x6_1 : Int) (x7_1 : Int), v6 = .int .u32 x6_1 ∧ v7 = .int .i64 x7_1 ∧ Aside0 (spec_NatAdd.l0 kq l0 l1 x5_1 x6_1 x7_1 = some r) ∧ Aside0 (kq ≤ k) ∧ Aside0 (Kd.R (Kd.int .u32) 80 w' w.heap.size (fun _ => True) v5 x5_1) ∧ Aside0 (Below w.heap.size w w'))
 case atStart => exact ⟨(([] : List Int)), (0), (0), sd_, sd_, H', ⟨Nat.le_refl _⟩, ⟨by first | exact Kd.R_nil _ _ _ _ _ | exact Kd.N_nil _ _ _ _ _ | exact Kd.V_nil _ _ _ _ _ | exact Kd.Q_nil _ _ _ _ _ | exact Kd.S_nil _ _ _ _ _⟩, ⟨bel_⟩⟩
 case round =>
  clear H'
  try clear c1
  try clear p2
  obtain ⟨x5_1, x6_1, x7_1, rfl, rfl, HA, HK1, HO_5, HB⟩ := hrel
  cases gk with
  | zero => exact absurd HA.out (by simp [spec_NatAdd.l0])
  | succ k1 =>
   have H := HA.out
   clear HA
   simp only [spec_NatAdd.l0] at H
   have HC3 := Aside0.mk H
   clear H
   go_upto_region 4 with (fail)
   go_cut [21] (fun v21 wc => ∃ (kq : Nat) (x21_2 : Bool), v21 = .bool x21_2 ∧ Aside0 (spec_NatAdd.j1 kq l0 l1 x5_1 x6_1 x7_1 x21_2 = some r) ∧ Aside0 (kq ≤ k1) ∧ Aside0 (Kd.R (Kd.int .u32) 80 wc w.heap.size (fun _ => True) u5 x5_1) ∧ Aside0 (Below w.heap.size w wc))
   case first =>
    have H := HC3.out
    clear HC3
    by_cases c4 : x7_1 < (l0.length : Int)
    ·rw [if_pos c4] at H
     have c4b0 : decide (x7_1 < (l0.length : Int)) = true := decide_eq_true c4
     clear c4
     (first | rw [c4b0] | (simp only [i64_w, i32_w]; rw [c4b0]) | skip)
     have H' := Aside0.mk H
     clear H
     go_wp2
     go_meet
     case rel => exact ⟨_, (true), sd_, H', ⟨by have := HK1.out; first | omega | exact Nat.le_refl _⟩, ⟨by (with_reducible repeat (first | apply Kd.R_alloc | apply Kd.R_drewN | apply Kd.R_drew)); exact HO_5.out⟩, ⟨bel_⟩⟩
    ·rw [if_neg c4] at H
     have c4b0 : decide (x7_1 < (l0.length : Int)) = false := decide_eq_false c4
     clear c4
     (first | rw [c4b0] | (simp only [i64_w, i32_w]; rw [c4b0]) | skip)
     by_cases c5 : x7_1 < (l1.length : Int)
     ·rw [if_pos c5] at H
      have c5b0 : decide (x7_1 < (l1.length : Int)) = true := decide_eq_true c5
      clear c5
      have H' := Aside0.mk H
      clear H
      go_wp2
      go_meet
      case rel => exact ⟨_, (true), sd_, H', ⟨by have := HK1.out; first | omega | exact Nat.le_refl _⟩, ⟨by (with_reducible repeat (first | apply Kd.R_alloc | apply Kd.R_drewN | apply Kd.R_drew)); exact HO_5.out⟩, ⟨bel_⟩⟩
     ·rw [if_neg c5] at H
      have c5b0 : decide (x7_1 < (l1.length : Int)) = false := decide_eq_false c5
      clear c5
      have H' := Aside0.mk H
      clear H
      go_wp2
      go_meet
      case rel => exact ⟨_, (decide (x6_1 > 0)), sd_, H', ⟨by have := HK1.out; first | omega | exact Nat.le_refl _⟩, ⟨by (with_reducible repeat (first | apply Kd.R_alloc | apply Kd.R_drewN | apply Kd.R_drew)); exact HO_5.out⟩, ⟨bel_⟩⟩
   case rest =>
    clear HC3
    try clear c1
    try clear p2
    try clear c4
    try clear c4b0
    try clear c5
    try clear c5b0
    try clear p2
    obtain ⟨kq, x21_2, rfl, HA, HJ2, HO_5, HB⟩ := hcut
    cases kq with
    | zero => exact absurd HA.out (by simp [spec_NatAdd.j1])
    | succ kj2 =>
     have H := HA.out
     clear HA
     simp only [spec_NatAdd.j1] at H
     by_cases c6 : x21_2 = true
     ·subst c6
      have H1 : (if x7_1 < (l0.length : Int) then (if 0 ≤ x7_1 then (if x7_1 < (l1.length : Int) then (if x5_1.length < 35184372088832 then (spec_NatAdd.l0 kj2 l0 l1 (x5_1 ++ [((x6_1 + (rd l0 x7_1) + (rd l1 x7_1)) % 4294967296) % 1000000000]) (((x6_1 + (rd l0 x7_1) + (rd l1 x7_1)) % 4294967296) / 1000000000) (wrap64 (x7_1 + 1))) else (none)) else (if x5_1.length < 35184372088832 then (spec_NatAdd.l0 kj2 l0 l1 (x5_1 ++ [((x6_1 + (rd l0 x7_1)) % 4294967296) % 1000000000]) (((x6_1 + (rd l0 x7_1)) % 4294967296) / 1000000000) (wrap64 (x7_1 + 1))) else (none))) else (none)) else (if x7_1 < (l1.length : Int) then (if 0 ≤ x7_1 then (if x5_1.length < 35184372088832 then (spec_NatAdd.l0 kj2 l0 l1 (x5_1 ++ [((x6_1 + (rd l1 x7_1)) % 4294967296) % 1000000000]) (((x6_1 + (rd l1 x7_1)) % 4294967296) / 1000000000) (wrap64 (x7_1 + 1))) else (none)) else (none)) else (if x5_1.length < 35184372088832 then (spec_NatAdd.l0 kj2 l0 l1 (x5_1 ++ [Int.tmod x6_1 1000000000]) ((Int.tdiv x6_1 1000000000) % 4294967296) (wrap64 (x7_1 + 1))) else (none)))) = some r := by rw [if_pos rfl] at H; exact H
      clear H
      have H := H1
      clear H1
      by_cases c7 : x7_1 < (l0.length : Int)
      ·rw [if_pos c7] at H
       have c7b0 : decide (x7_1 < (l0.length : Int)) = true := decide_eq_true c7
       clear c7
       by_cases c8 : 0 ≤ x7_1
       ·rw [if_pos c8] at H
        have c8b0 : decide (0 ≤ x7_1) = true := decide_eq_true c8
        clear c8
        by_cases c9 : x7_1 < (l1.length : Int)
        ·rw [if_pos c9] at H
         have c9b0 : decide (x7_1 < (l1.length : Int)) = true := decide_eq_true c9
         clear c9
         by_cases c10 : x5_1.length < 35184372088832
         ·rw [if_pos c10] at H
          have LMc10 := Aside0.mk c10
          clear c10
          obtain ⟨y347, hy347⟩ : ∃ y_ : List Int, y_ = (x5_1 ++ [((x6_1 + (rd l0 x7_1) + (rd l1 x7_1)) % 4294967296) % 1000000000]) := ⟨_, rfl⟩
          replace H : (spec_NatAdd.l0 kj2 l0 l1 y347 (((x6_1 + (rd l0 x7_1) + (rd l1 x7_1)) % 4294967296) / 1000000000) (wrap64 (x7_1 + 1))) = some r := fo_ hy347 H
          have Ny347 := Aside0.mk hy347
          clear hy347
          have H' := Aside0.mk H
          clear H
          have p345 : 0 ≤ (x7_1 : Int) := ode_
          have q345 : x7_1 < (l0.length : Int) := ode_
          obtain ⟨ad345, e345, hx345_0⟩ := Kd.at_int HR0.out x7_1 p345 q345
          cases e345
          replace hx345_0 := (HB.out.cell (World.block_lt_of_cell? w _ hx345_0)).trans hx345_0
          replace p345 := eq_true p345
          replace q345 := eq_true q345
          have p346 : 0 ≤ (x7_1 : Int) := ode_
          have q346 : x7_1 < (l1.length : Int) := ode_
          obtain ⟨ad346, e346, hx346_0⟩ := Kd.at_int HR1.out x7_1 p346 q346
          cases e346
          replace hx346_0 := (HB.out.cell (World.block_lt_of_cell? w _ hx346_0)).trans hx346_0
          replace p346 := eq_true p346
          replace q346 := eq_true q346
          go_wp2_with (first | ((with_reducible refine gate_builtin (b := .append) (xs := #[.tmp 44, .tmp 47]) rfl ?_); (try (refine gate_guard (by rfl) ?_; dsimp only)); at_builtin; refine Kd.R_append (Kd.int .u32) (w0 := w) w.heap.size rfl (.tmp 44) (.tmp 47) 30 80 (.int .u32 0) 4 rfl Tryz.underlying30 info80 rfl (by decide) (by omega) u5 x5_1 (((x6_1 + (rd l0 x7_1) + (rd l1 x7_1)) % 4294967296) % 1000000000) [.int .u32 (((x6_1 + (rd l0 x7_1) + (rd l1 x7_1)) % 4294967296) % 1000000000)] (fun _ => True) (fun _ => False) rfl rfl ?aP (fun _ hk => hk.elim) ?aF ?aO ?aB ?aS ?aL ?_; (case aP => exact rfl); (case aB => exact bel_); (case aF => exact (fun _ _ => trivial)); (case aO => exact (rr_ HO_5.out)); (case aS => exact (below_size bel_)); (case aL => have := LMc10.out; omega); intro v348 w11 ho hb hg hat; rw [← Ny347.out] at ho; have n0_ := Aside0.mk (hb); have n1_ := Aside0.mk (ho); clear HB; clear HO_5; have HB := n0_; have HO349 := n1_; clear n0_ n1_; clear ho hb hg hat))
          go_roundg kj2
          case measure => have := HK1.out; have := HJ2.out; omega
          case rel => exact ⟨(y347), (((x6_1 + (rd l0 x7_1) + (rd l1 x7_1)) % 4294967296) / 1000000000), (wrap64 (x7_1 + 1)), sd_, sd_, H', ⟨by have := HK1.out; have := HJ2.out; omega⟩, ⟨by (with_reducible repeat (first | apply Kd.R_alloc | apply Kd.R_drewN | apply Kd.R_drew)); exact HO349.out⟩, ⟨bel_⟩⟩
         ·rw [if_neg c10] at H
          exact absurd H (by simp)
        ·rw [if_neg c9] at H
         have c9b0 : decide (x7_1 < (l1.length : Int)) = false := decide_eq_false c9
         clear c9
         by_cases c12 : x5_1.length < 35184372088832
         ·rw [if_pos c12] at H
          have LMc12 := Aside0.mk c12
          clear c12
          obtain ⟨y350, hy350⟩ : ∃ y_ : List Int, y_ = (x5_1 ++ [((x6_1 + (rd l0 x7_1)) % 4294967296) % 1000000000]) := ⟨_, rfl⟩
          replace H : (spec_NatAdd.l0 kj2 l0 l1 y350 (((x6_1 + (rd l0 x7_1)) % 4294967296) / 1000000000) (wrap64 (x7_1 + 1))) = some r := fo_ hy350 H
          have Ny350 := Aside0.mk hy350
          clear hy350
          have H' := Aside0.mk H
          clear H
          have p345 : 0 ≤ (x7_1 : Int) := ode_
          have q345 : x7_1 < (l0.length : Int) := ode_
          obtain ⟨ad345, e345, hx345_0⟩ := Kd.at_int HR0.out x7_1 p345 q345
          cases e345
          replace hx345_0 := (HB.out.cell (World.block_lt_of_cell? w _ hx345_0)).trans hx345_0
          replace p345 := eq_true p345
          replace q345 := eq_true q345
          go_wp2_with (first | ((with_reducible refine gate_builtin (b := .append) (xs := #[.tmp 44, .tmp 47]) rfl ?_); (try (refine gate_guard (by rfl) ?_; dsimp only)); at_builtin; refine Kd.R_append (Kd.int .u32) (w0 := w) w.heap.size rfl (.tmp 44) (.tmp 47) 30 80 (.int .u32 0) 4 rfl Tryz.underlying30 info80 rfl (by decide) (by omega) u5 x5_1 (((x6_1 + (rd l0 x7_1)) % 4294967296) % 1000000000) [.int .u32 (((x6_1 + (rd l0 x7_1)) % 4294967296) % 1000000000)] (fun _ => True) (fun _ => False) rfl rfl ?aP (fun _ hk => hk.elim) ?aF ?aO ?aB ?aS ?aL ?_; (case aP => exact rfl); (case aB => exact bel_); (case aF => exact (fun _ _ => trivial)); (case aO => exact (rr_ HO_5.out)); (case aS => exact (below_size bel_)); (case aL => have := LMc12.out; omega); intro v351 w13 ho hb hg hat; rw [← Ny350.out] at ho; have n0_ := Aside0.mk (hb); have n1_ := Aside0.mk (ho); clear HB; clear HO_5; have HB := n0_; have HO352 := n1_; clear n0_ n1_; clear ho hb hg hat))
          go_roundg kj2
          case measure => have := HK1.out; have := HJ2.out; omega
          case rel => exact ⟨(y350), (((x6_1 + (rd l0 x7_1)) % 4294967296) / 1000000000), (wrap64 (x7_1 + 1)), sd_, sd_, H', ⟨by have := HK1.out; have := HJ2.out; omega⟩, ⟨by (with_reducible repeat (first | apply Kd.R_alloc | apply Kd.R_drewN | apply Kd.R_drew)); exact HO352.out⟩, ⟨bel_⟩⟩
         ·rw [if_neg c12] at H
          exact absurd H (by simp)
       ·rw [if_neg c8] at H
        exact absurd H (by simp)
      ·rw [if_neg c7] at H
       have c7b0 : decide (x7_1 < (l0.length : Int)) = false := decide_eq_false c7
       clear c7
       by_cases c14 : x7_1 < (l1.length : Int)
       ·rw [if_pos c14] at H
        have c14b0 : decide (x7_1 < (l1.length : Int)) = true := decide_eq_true c14
        clear c14
        by_cases c15 : 0 ≤ x7_1
        ·rw [if_pos c15] at H
         have c15b0 : decide (0 ≤ x7_1) = true := decide_eq_true c15
         clear c15
         by_cases c16 : x5_1.length < 35184372088832
         ·rw [if_pos c16] at H
          have LMc16 := Aside0.mk c16
          clear c16
          obtain ⟨y354, hy354⟩ : ∃ y_ : List Int, y_ = (x5_1 ++ [((x6_1 + (rd l1 x7_1)) % 4294967296) % 1000000000]) := ⟨_, rfl⟩
          replace H : (spec_NatAdd.l0 kj2 l0 l1 y354 (((x6_1 + (rd l1 x7_1)) % 4294967296) / 1000000000) (wrap64 (x7_1 + 1))) = some r := fo_ hy354 H
          have Ny354 := Aside0.mk hy354
          clear hy354
          have H' := Aside0.mk H
          clear H
          have p353 : 0 ≤ (x7_1 : Int) := ode_
          have q353 : x7_1 < (l1.length : Int) := ode_
          obtain ⟨ad353, e353, hx353_0⟩ := Kd.at_int HR1.out x7_1 p353 q353
          cases e353
          replace hx353_0 := (HB.out.cell (World.block_lt_of_cell? w _ hx353_0)).trans hx353_0
          replace p353 := eq_true p353
          replace q353 := eq_true q353
          go_wp2_with (first | ((with_reducible refine gate_builtin (b := .append) (xs := #[.tmp 44, .tmp 47]) rfl ?_); (try (refine gate_guard (by rfl) ?_; dsimp only)); at_builtin; refine Kd.R_append (Kd.int .u32) (w0 := w) w.heap.size rfl (.tmp 44) (.tmp 47) 30 80 (.int .u32 0) 4 rfl Tryz.underlying30 info80 rfl (by decide) (by omega) u5 x5_1 (((x6_1 + (rd l1 x7_1)) % 4294967296) % 1000000000) [.int .u32 (((x6_1 + (rd l1 x7_1)) % 4294967296) % 1000000000)] (fun _ => True) (fun _ => False) rfl rfl ?aP (fun _ hk => hk.elim) ?aF ?aO ?aB ?aS ?aL ?_; (case aP => exact rfl); (case aB => exact bel_); (case aF => exact (fun _ _ => trivial)); (case aO => exact (rr_ HO_5.out)); (case aS => exact (below_size bel_)); (case aL => have := LMc16.out; omega); intro v355 w17 ho hb hg hat; rw [← Ny354.out] at ho; have n0_ := Aside0.mk (hb); have n1_ := Aside0.mk (ho); clear HB; clear HO_5; have HB := n0_; have HO356 := n1_; clear n0_ n1_; clear ho hb hg hat))
          go_roundg kj2
          case measure => have := HK1.out; have := HJ2.out; omega
          case rel => exact ⟨(y354), (((x6_1 + (rd l1 x7_1)) % 4294967296) / 1000000000), (wrap64 (x7_1 + 1)), sd_, sd_, H', ⟨by have := HK1.out; have := HJ2.out; omega⟩, ⟨by (with_reducible repeat (first | apply Kd.R_alloc | apply Kd.R_drewN | apply Kd.R_drew)); exact HO356.out⟩, ⟨bel_⟩⟩
         ·rw [if_neg c16] at H
          exact absurd H (by simp)
        ·rw [if_neg c15] at H
         exact absurd H (by simp)
       ·rw [if_neg c14] at H
        have c14b0 : decide (x7_1 < (l1.length : Int)) = false := decide_eq_false c14
        clear c14
        by_cases c18 : x5_1.length < 35184372088832
        ·rw [if_pos c18] at H
         have LMc18 := Aside0.mk c18
         clear c18
         obtain ⟨y357, hy357⟩ : ∃ y_ : List Int, y_ = (x5_1 ++ [Int.tmod x6_1 1000000000]) := ⟨_, rfl⟩
         replace H : (spec_NatAdd.l0 kj2 l0 l1 y357 ((Int.tdiv x6_1 1000000000) % 4294967296) (wrap64 (x7_1 + 1))) = some r := fo_ hy357 H
         have Ny357 := Aside0.mk hy357
         clear hy357
         have H' := Aside0.mk H
         clear H
         go_wp2_with (first | ((with_reducible refine gate_builtin (b := .append) (xs := #[.tmp 44, .tmp 47]) rfl ?_); (try (refine gate_guard (by rfl) ?_; dsimp only)); at_builtin; refine Kd.R_append (Kd.int .u32) (w0 := w) w.heap.size rfl (.tmp 44) (.tmp 47) 30 80 (.int .u32 0) 4 rfl Tryz.underlying30 info80 rfl (by decide) (by omega) u5 x5_1 (Int.tmod x6_1 1000000000) [.int .u32 (Int.tmod x6_1 1000000000)] (fun _ => True) (fun _ => False) rfl rfl ?aP (fun _ hk => hk.elim) ?aF ?aO ?aB ?aS ?aL ?_; (case aP => exact rfl); (case aB => exact bel_); (case aF => exact (fun _ _ => trivial)); (case aO => exact (rr_ HO_5.out)); (case aS => exact (below_size bel_)); (case aL => have := LMc18.out; omega); intro v358 w19 ho hb hg hat; rw [← Ny357.out] at ho; have n0_ := Aside0.mk (hb); have n1_ := Aside0.mk (ho); clear HB; clear HO_5; have HB := n0_; have HO359 := n1_; clear n0_ n1_; clear ho hb hg hat))
         go_roundg kj2
         case measure => have := HK1.out; have := HJ2.out; omega
         case rel => exact ⟨(y357), ((Int.tdiv x6_1 1000000000) % 4294967296), (wrap64 (x7_1 + 1)), sd_, sd_, H', ⟨by have := HK1.out; have := HJ2.out; omega⟩, ⟨by (with_reducible repeat (first | apply Kd.R_alloc | apply Kd.R_drewN | apply Kd.R_drew)); exact HO359.out⟩, ⟨bel_⟩⟩
        ·rw [if_neg c18] at H
         exact absurd H (by simp)
     ·replace c6 := Bool.eq_false_iff.mpr c6
      subst c6
      have H1 : (some x5_1) = some r := by rw [if_neg (show ¬ (false = true) by decide)] at H; exact H
      clear H
      have H := H1
      clear H1
      obtain rfl := Option.some.inj H
      go_wp2
      go_ret
      exact ⟨_, by first | rfl | (simp [errW_none, errW_some] <;> rfl) | (simp [*, errW_none, errW_some] <;> rfl), by (with_reducible repeat (first | apply Kd.R_alloc | apply Kd.R_drewN | apply Kd.R_drew)); exact HO_5.out, bel_⟩
end Go.Proofs.YtlbjjhecgceiaaaGreatDoor.PFnFixSubExact
