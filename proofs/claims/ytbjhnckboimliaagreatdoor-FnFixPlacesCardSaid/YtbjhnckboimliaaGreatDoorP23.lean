/- Part 23 of the proof. -/
import Derived.JoinedOf
import GoSem.ClaimSeven
import GoSem.ClaimGoes
import GoSem.ClaimLaidByText
import Derived.Test.YtbjhnckboimliaaGreatDoorP22
namespace Go.Proofs.YtbjhnckboimliaaGreatDoor
open Go
set_option maxRecDepth 100000
theorem and2l {a b : Bool} (ha : a = true) (hb : b = true) : (a && b) = true := by rw [ha, hb]; rfl
set_option maxHeartbeats 4000000 in
theorem row_closedl : joinedFacts Tryz.prog 4 Tryz.f4 Rows.fnFixPlacesSpec Rows.fnFixPlacesRow = true := by
 unfold joinedFacts
 repeat' (with_reducible refine and2l ?_ ?_)
 all_goals (as_aux_lemma => kernel_rfl)
theorem row_funcl : Tryz.prog.funcNamed "given.example/pub-alexandrine/laws.FnFixPlaces" = some 4 := by kernel_rfl
theorem row_wfl : Rows.fnFixPlacesRow.wfByText (OpenSpec.ofChange Rows.fnFixPlacesSpec) = true := by kernel_rfl
theorem row_looksl : false = Tryz.prog.looks [] := by kernel_rfl
theorem row_standl : ([24, 24].all fun u => !Tryz.prog.wantsStandIn u) = true := by kernel_rfl
theorem row_goesl : false = Rows.fnFixPlacesRow.goesBy Tryz.prog := by kernel_rfl
end Go.Proofs.YtbjhnckboimliaaGreatDoor
namespace Go.Proofs.YtbjhnckboimliaaGreatDoor
set_option linter.unusedVariables false
theorem from19_places {E F : Nat} (hE : Pow19 E F) {c s R k t : Nat} (h : from19 E 2 c s 0 = some (k, t)) (hR : room E (rnd c s) 19 = some R) : t = min s R := by
 by_cases h1 : 19 + s < digs c + 0
 ·unfold from19 at h; rw [if_pos h1] at h; cases h
 ·obtain ⟨N, hN⟩ : ∃ N, N = min 19 (19 + s - digs c) := ⟨_, rfl⟩
  have hN1 : N ≤ 19 := by omega
  have hN2 : N + digs c ≤ 19 + s := by omega
  have hN2' : digs c + N ≤ 19 + s := by omega
  have hN3 : N = 19 ∨ N + digs c = 19 + s := by omega
  obtain ⟨r1, r2⟩ := room_val hE (c := c) (s := s) (by omega) hN
  clear hN
  have cut_ : step19 c s 0 = (rnd c s N, N) → N ≤ s → t = min s R := by
   intro hst hNs
   by_cases hlt : rnd c s N < E
   ·have hf : from19 E 2 c s 0 = some (rnd c s N, N) := by
     unfold from19; rw [if_neg h1, hst, if_neg (by show ¬ E ≤ rnd c s N; omega)]
    rw [hf] at h
    rw [r1 hlt] at hR
    cases h; cases hR
    omega
   ·obtain ⟨he, hr⟩ := r2 hlt
    have hf : from19 E 2 c s 0 = if N = 0 then none else some (F, N - 1) := by
     have h2 := from19_top hE (t := N) (m := 0) (f := 0) (by omega) (by omega)
     rw [← h2]
     conv => lhs; unfold from19
     rw [if_neg h1, hst, if_pos (by show E ≤ rnd c s N; omega)]
     show from19 E 1 (rnd c s N) N 0 = _
     rw [he]
    rw [hf] at h
    rcases hr with ⟨h0, hr⟩ | ⟨n, h0, hr, h18⟩
    ·rw [if_pos h0] at h; cases h
    ·rw [if_neg (by omega)] at h
     rw [hr] at hR
     cases h; cases hR
     omega
  clear r2
  by_cases b : digs c ≤ s ∧ 19 < s
  ·refine cut_ ?_ (by omega)
   have : N = 19 := by omega
   subst this
   unfold step19; rw [if_neg (by omega), if_pos b, rnd_cut (by omega)]
  ·by_cases d : s < digs c ∧ 19 < digs c
   ·refine cut_ ?_ (by omega)
    have e1 : N = 19 + s - digs c := by omega
    unfold step19; rw [if_neg (by omega), if_neg b, if_pos d, rnd_cut (by omega)]
    rw [show s - N = digs c - 19 by omega, e1]
   ·have hst : step19 c s 0 = (c, s) := by unfold step19; rw [if_neg (by omega), if_neg b, if_neg d]
    have hcE : c < E := by have := digs_le.1 (Nat.le_refl (digs c)); rw [← hE.p]; exact Nat.lt_of_lt_of_le this (pow_le' (by omega))
    have hf : from19 E 2 c s 0 = some (c, s) := by unfold from19; rw [if_neg h1, hst, if_neg (by show ¬ E ≤ c; omega)]
    rw [hf] at h
    have hsN : s ≤ N := by omega
    have hx := exact_lt hE (c := c) (s := s) (n := N) hN2' hsN
    rw [r1 (by rw [rnd_exact hsN]; exact hx)] at hR
    cases h; cases hR
    omega
end Go.Proofs.YtbjhnckboimliaaGreatDoor
namespace Go.Proofs.YtbjhnckboimliaaGreatDoor
open Go.RowKit
set_option linter.unusedVariables false
set_option linter.unusedSimpArgs false
set_option maxRecDepth 20000
theorem rheI_zero {Y : Int} (h : 0 < Y) : rheI 0 Y = 0 := by
 unfold rheI
 rw [Int.zero_emod, Int.zero_ediv]
 exact if_neg (by omega)
theorem fint_rsh_any (x : Int) (n : Nat) (hx : Fi x) (hn1 : 1 ≤ n) (hn : n ≤ 19) (w : World) (ht : Tab w) :
  Calls Tryz.prog 120 #[.int .u64 x, .int .i64 n] w (fun e w' => e = .returned (.int .u64 (rheI x (10 ^ n))) ∧ w = w') := by
 by_cases h : x = 0
 ·subst h
  rw [rheI_zero (p10_pos n)]
  have hb0 : ((0 : Int) == 0) = true := rfl
  go_enter Tryz.func120, Tryz.ntmps120
  go_wp2_with fail
  go_ret
  exact ⟨rfl, rfl⟩
 ·exact fint_rsh_pos x n hx h hn1 hn w ht
def fromFint2 (c : Int) (s m : Nat) : Option (Int × Nat) := if 19 < s then some (rheI c (10 ^ (s - 19)), 19) else fromFint c s m
theorem rheI_fi {c : Int} {k : Nat} (hc : Fi c) (hk : 1 ≤ k) : Fi (rheI c (10 ^ k)) := by
 obtain ⟨h0, h1⟩ := hc
 obtain ⟨j, rfl⟩ : ∃ j, k = j + 1 := ⟨k - 1, by omega⟩
 have hp := p10_pos j
 have e : (10 : Int) ^ (j + 1) = 10 * 10 ^ j := by rw [Int.pow_succ, Int.mul_comm]
 generalize (10 : Int) ^ j = P at *
 rw [e]
 have hq0 : 0 ≤ c / (10 * P) := Int.ediv_nonneg h0 (by omega)
 have hq1 : c / (10 * P) ≤ c / 10 := by
  rw [← Int.ediv_ediv_of_nonneg (by omega : (0 : Int) ≤ 10)]
  exact Int.ediv_le_self _ (Int.ediv_nonneg h0 (by omega))
 unfold rheI
 split
 ·exact ⟨by omega, by omega⟩
 ·exact ⟨by omega, by omega⟩
set_option maxHeartbeats 1000000 in
theorem newFromFint_all (neg : Bool) (c : Int) (s m : Nat) (hc : Fi c) (hs : s ≤ 38) (hm : m ≤ 19) (w : World) (he : EnvD w) :
  Calls Tryz.prog 97 #[.bool neg, .int .u64 c, .int .i64 s, .int .i64 m] w (PDec w neg (fromFint2 c s m)) := by
 unfold fromFint2
 by_cases h : 19 < s
 ·rw [if_pos h]
  have hlt : ¬ (s : Int) < (m : Int) := by omega
  have h19 : (19 : Int) < (s : Int) := by omega
  have hw : IntKind.i64.wrap ((s : Int) - 19) = ((s - 19 : Nat) : Int) := by rw [show (s : Int) - 19 = ((s - 19 : Nat) : Int) by omega]; exact IntWalk.i64_in _ (by omega)
  have hfi := rheI_fi (k := s - 19) hc (by omega)
  obtain ⟨HC0, HD, hB0⟩ := box1 w #[.bool false, .int .i8 0, .int .u64 0] 55
  have HZ := hid hB0
  have HR := hid (fint_rsh_any c (s - 19) hc (by omega) (by omega) _ (he.kept HC0.out).env.tab)
  obtain ⟨nb, hnb⟩ : ∃ nb, (neg && rheI c (10 ^ (s - 19)) != 0) = nb := ⟨_, rfl⟩
  have HNS := hid (fun w => newSafe_flat neg nb (rheI c (10 ^ (s - 19))) 19 hfi (by omega) hnb w)
  have HNB := hid hnb
  generalize rheI c (10 ^ (s - 19)) = R at *
  obtain ⟨q0, q1⟩ := hfi
  generalize s - 19 = j at *
  have e19 : ((19 : Nat) : Int) = 19 := rfl
  rw [e19] at HNS
  clear hc hs hm he hnb hB0 HD h e19
  go_enter Tryz.func97, Tryz.ntmps97
  go_wp2_with (first | (go_at_call 120; refine HR.out.mono ?_; intro e w' h; obtain ⟨he1, he2⟩ := h; subst he1; subst he2) | (go_at_call 85; refine (HNS.out _).mono ?_; intro e w1 h; obtain ⟨he3, hc1⟩ := h; subst he3; have HK := hid hc1; clear hc1; obtain ⟨k0, k1, k2, f0, f1, f2⟩ := cell3 (kept_heap HK.out HZ.out)))
  refine bodyPost_ret (v := .tuple #[.agg #[.bool nb, .int .i8 19, .int .u64 R], .nilIface]) (dec_result rfl _ _ w.heap.size _ _ _ _ _ rfl rfl (store3 (kept_heap HK.out HZ.out) _ _ _)) rfl ⟨chg3 (HC0.out.trans HK.out sb_) (Nat.le_refl _) _ _ _, ?_⟩
  show _ = Ending.returned (.tuple #[decV (neg && R != 0) R 19, .nilIface])
  rw [HNB.out]
  rfl
 ·rw [if_neg h]
  exact newFromFint_any neg c s m hc (by omega) hm w he
theorem fromFint2_from19 {c s m : Nat} (hc : c < 10 ^ 19) (hm : m ≤ 19) {k : Int} {t : Nat} (h : fromFint2 (c : Int) s m = some (k, t)) : ∃ k' : Nat, k = k' ∧ from19 (10 ^ 19) 2 c s m = some (k', t) := by
 unfold fromFint2 at h
 by_cases h1 : 19 < s
 ·rw [if_pos h1] at h
  simp only [Option.some.injEq, Prod.mk.injEq] at h
  obtain ⟨rfl, rfl⟩ := h
  have hd : digs c ≤ 19 := digs_le.2 hc
  have e : rheI (c : Int) (10 ^ (s - 19)) = ((rhe c (10 ^ (s - 19)) : Nat) : Int) := by rw [← pow_cast, rheI_nat]
  have e1 : (10 : Nat) ^ 19 = 10000000000000000000 := by decide
  have hf := rheI_fi (c := (c : Int)) (k := s - 19) ⟨by omega, by omega⟩ (by omega)
  rw [e] at hf
  refine ⟨_, e, from19_one (by omega) (by unfold step19; rw [if_neg (by omega), if_pos ⟨by omega, h1⟩]) ?_⟩
  have h2 := hf.2
  omega
 ·rw [if_neg h1] at h
  exact fromFint_from19 hc (by omega) hm h
def PFE (w : World) (neg : Bool) (C S m : Nat) (e : Ending) (w' : World) : Prop :=
 Chg (fun _ => False) w w' ∧ ((∃ t v, e = .returned (.tuple #[decV false 0 0, .iface t v])) ∨ ∃ k t : Nat, from19 (10 ^ 19) 2 C S m = some (k, t) ∧ e = .returned (.tuple #[decV (neg && (k : Int) != 0) k t, .nilIface]))
theorem PFE.none {w w' : World} {neg n2 : Bool} {C S m : Nat} {e : Ending} (h : PDec w n2 none e w') : PFE w neg C S m e w' := ⟨h.1, .inl h.2⟩
theorem PFE.of {w w' : World} {neg : Bool} {C S m : Nat} {e : Ending} (hC : C < 10 ^ 19) (hm : m ≤ 19) (h : PDec w neg (fromFint2 (C : Int) S m) e w') : PFE w neg C S m e w' := by
 cases hf : fromFint2 (C : Int) S m with
 | none => rw [hf] at h; exact .none h
 | some kt =>
  obtain ⟨k, t⟩ := kt
  obtain ⟨k', rfl, h2⟩ := fromFint2_from19 hC hm hf
  rw [hf] at h
  exact ⟨h.1, .inr ⟨k', t, h2, h.2⟩⟩
theorem addExact_lives (w : World) (he : EnvD w) : Calls Tryz.prog 62 #[.agg #[.bool false, .int .i8 (1 : Nat), .int .u64 ((15 : Nat) : Int)], .agg #[.bool false, .int .i8 (0 : Nat), .int .u64 ((2 : Nat) : Int)], .int .i64 (0 : Nat)] w
  (fun e w' => e = .returned (.tuple #[.agg #[.bool false, .int .i8 (1 : Nat), .int .u64 35], .nilIface]) ∧ Chg (fun _ => False) w w') := by
 refine addExact_ok false false 15 2 1 0 0 (by omega) w 35 1 false (hid ?_)
 have he3 : EnvD _ := he.kept ((((Chg.refl (fun _ => False) w).alloc (.cells #[.bool false, .int .i8 (1 : Nat), .int .u64 ((15 : Nat) : Int)] 55)).alloc (.cells #[.bool false, .int .i8 (0 : Nat), .int .u64 ((2 : Nat) : Int)] 55)).alloc (.cells #[.bool false, .int .i8 0, .int .u64 0] 55))
 refine (addFint_gt_same false false ((15 : Nat) : Int) ((2 : Nat) : Int) 1 0 0 ⟨by decide, by decide⟩ ⟨by decide, by decide⟩ (by omega) (by omega) (by omega) _ he3 (by omega) 20 (by decide) (by decide) rfl 35 (by decide) (by decide)).mono (fun e w' h => ?_)
 have hf : fromFint 35 1 0 = some (35, 1) := by decide
 unfold PDec at h
 rw [hf] at h
 exact ⟨h.2, h.1⟩
set_option maxHeartbeats 2000000 in
theorem Add_lives2 (w : World) (he : EnvD w) : Calls Tryz.prog 40 #[.agg #[.bool false, .int .i8 (1 : Nat), .int .u64 ((15 : Nat) : Int)], .agg #[.bool false, .int .i8 (0 : Nat), .int .u64 ((2 : Nat) : Int)]] w
  (fun e w' => e = .returned (.tuple #[.agg #[.bool false, .int .i8 (1 : Nat), .int .u64 35], .nilIface]) ∧ Chg (fun _ => False) w w') := by
 have HA := hid (fun w1 (he : EnvD w1) => addExact_lives w1 he)
 have HE := hid he
 obtain ⟨DC, hDC⟩ : ∃ v : Int, ((15 : Nat) : Int) = v := ⟨_, rfl⟩
 obtain ⟨EC, hEC⟩ : ∃ v : Int, ((2 : Nat) : Int) = v := ⟨_, rfl⟩
 obtain ⟨ds, hds⟩ : ∃ v : Int, ((1 : Nat) : Int) = v := ⟨_, rfl⟩
 obtain ⟨es, hes⟩ : ∃ v : Int, ((0 : Nat) : Int) = v := ⟨_, rfl⟩
 have hz : ((0 : Nat) : Int) = 0 := rfl
 rw [hDC, hEC, hds, hz] at HA
 rw [hz] at hes
 rw [hDC, hEC, hds]
 rw [hz]
 clear he hDC hEC hds hes hz
 obtain ⟨HC0, HD, hB0, hB1, hB2⟩ := box3 w #[.bool false, .int .i8 ds, .int .u64 DC] 55 #[.bool false, .int .i8 0, .int .u64 EC] 55 #[.bool false, .int .i8 0, .int .u64 0] 55
 have HZ := hid hB2
 obtain ⟨d0, d1, d2, _, _, _⟩ := cell3 hB0
 obtain ⟨e0, e1, e2, _, _, _⟩ := cell3 hB1
 clear hB0 hB1 hB2 HD
 go_enter Tryz.func40, Tryz.ntmps40
 go_wp2_with (go_at_call 62; refine (HA.out _ (HE.out.kept HC0.out)).mono ?_; intro e w1 h; obtain ⟨he, hc⟩ := h; subst he; have hk := hc; clear hc; obtain ⟨k0, k1, k2, f0, f1, f2⟩ := cell3 (kept_heap hk HZ.out))
 exact bodyPost_ret (v := .tuple #[.agg #[.bool false, .int .i8 ds, .int .u64 35], .nilIface]) (dec_result rfl _ _ (w.heap.size + 1 + 1) _ _ _ _ 55 rfl rfl (store3 (kept_heap hk HZ.out) _ _ _)) rfl ⟨rfl, chg3 (HC0.out.trans hk sb_) (by omega) _ _ _⟩
theorem FixAdd_lives2 (w : World) (he : EnvD w) :
  Calls Tryz.prog 16 #[.agg #[.bool false, .int .u64 15, .int .i64 1], .agg #[.bool false, .int .u64 2, .int .i64 0]] w (PV w (.tuple #[.agg #[.bool false, .int .u64 35, .int .i64 1], .int .i64 0])) :=
 FixAdd_ok false false false false 15 2 1 0 (by decide) (by decide) (by omega) (by omega) rfl rfl w he false 35 1 (by omega) (fun w1 he1 => Add_lives2 w1 he1)
theorem gvLives_any2 (w : World) (he : EnvD w) : Calls Tryz.prog 13 #[] w (PV w (.bool true)) := by
 have HF := hid (FixAdd_lives2 w he)
 clear he
 go_enter Tryz.func13, Tryz.ntmps13
 go_wp2_with (go_at_call 16; refine HF.out.mono ?_; intro e w1 h; obtain ⟨he, hc⟩ := h; subst he; have hk := hc; clear hc)
 go_ret
 exact ⟨rfl, hk.alloc _⟩
theorem Scale_as (neg : Bool) (c : Int) (s : Nat) (S : Int) (hs : s ≤ 19) (hS : (s : Int) = S) (w : World) :
  Calls Tryz.prog 66 #[.agg #[.bool neg, .int .i8 s, .int .u64 c]] w (fun e w' => e = .returned (.int .i64 S) ∧ Chg (fun _ => False) w w') := by
 subst hS
 exact Scale_any neg c s hs w
theorem nat_bne (k : Nat) : ((k : Int) != 0) = (k != 0) := by
 by_cases h : k = 0
 ·subst h; rfl
 ·rw [bne_iff_ne.2 h, bne_iff_ne.2 (by omega : (k : Int) ≠ 0)]
def PX (P : Bool → Option (Nat × Nat) → Prop) (w : World) (e : Ending) (w' : World) : Prop := ∃ sg o, P sg o ∧ PDecN w sg o e w'
theorem PX.op {P : Bool → Option (Nat × Nat) → Prop} {w w' : World} {e : Ending} (h : PX P w e w') :
  ∃ (a : Bool) (b c : Int) (v : Value), e = .returned (.tuple #[.agg #[.bool a, .int .i8 b, .int .u64 c], v]) ∧ Chg (fun _ => False) w w' ∧ PX P w (.returned (.tuple #[.agg #[.bool a, .int .i8 b, .int .u64 c], v])) w' := by
 obtain ⟨sg, o, h1, h2⟩ := h
 obtain ⟨a, b, c, v, h3, h4, h5⟩ := h2.op
 exact ⟨a, b, c, v, h3, h4, sg, o, h1, h5⟩
theorem PX.move {P : Bool → Option (Nat × Nat) → Prop} {w w1 w' w'' : World} {e : Ending} (h : PX P w1 e w'') (c : Chg (fun _ => False) w w') : PX P w e w' := by
 obtain ⟨sg, o, h1, h2⟩ := h
 exact ⟨sg, o, h1, h2.move c⟩
theorem bx3 (w : World) (dn : Bool) (ds : Nat) (dc : Int) (en : Bool) (es : Nat) (ec : Int) :
  Hid (∀ a, Chg (fun _ => False) (((w.alloc (.cells #[.bool dn, .int .i8 ds, .int .u64 dc] 55)).alloc (.cells #[.bool en, .int .i8 es, .int .u64 ec] 55)).alloc (.cells #[.bool false, .int .i8 0, .int .u64 0] 55)) a →
   a.cell? ⟨w.heap.size, 0, none⟩ = some (.bool dn) ∧ a.cell? ⟨w.heap.size, 1, none⟩ = some (.int .i8 ds) ∧ a.cell? ⟨w.heap.size, 2, none⟩ = some (.int .u64 dc) ∧
   a.cell? ⟨w.heap.size + 1, 0, none⟩ = some (.bool en) ∧ a.cell? ⟨w.heap.size + 1, 1, none⟩ = some (.int .i8 es) ∧ a.cell? ⟨w.heap.size + 1, 2, none⟩ = some (.int .u64 ec) ∧
   a.cell? ⟨w.heap.size + 1 + 1, 0, none⟩ = some (.bool false) ∧ a.cell? ⟨w.heap.size + 1 + 1, 1, none⟩ = some (.int .i8 0) ∧ a.cell? ⟨w.heap.size + 1 + 1, 2, none⟩ = some (.int .u64 0) ∧
   a.frozen? ⟨w.heap.size + 1 + 1, 0, none⟩ = false ∧ a.frozen? ⟨w.heap.size + 1 + 1, 1, none⟩ = false ∧ a.frozen? ⟨w.heap.size + 1 + 1, 2, none⟩ = false) ∧
  Hid (∀ a, Chg (fun _ => False) (((w.alloc (.cells #[.bool dn, .int .i8 ds, .int .u64 dc] 55)).alloc (.cells #[.bool en, .int .i8 es, .int .u64 ec] 55)).alloc (.cells #[.bool false, .int .i8 0, .int .u64 0] 55)) a → a.heap[w.heap.size + 1 + 1]? = some (.cells #[.bool false, .int .i8 0, .int .u64 0] 55 (0, 0))) ∧
  Hid (Chg (fun _ => False) w (((w.alloc (.cells #[.bool dn, .int .i8 ds, .int .u64 dc] 55)).alloc (.cells #[.bool en, .int .i8 es, .int .u64 ec] 55)).alloc (.cells #[.bool false, .int .i8 0, .int .u64 0] 55))) ∧ Chg (fun _ => False) (((w.alloc (.cells #[.bool dn, .int .i8 ds, .int .u64 dc] 55)).alloc (.cells #[.bool en, .int .i8 es, .int .u64 ec] 55)).alloc (.cells #[.bool false, .int .i8 0, .int .u64 0] 55)) (((w.alloc (.cells #[.bool dn, .int .i8 ds, .int .u64 dc] 55)).alloc (.cells #[.bool en, .int .i8 es, .int .u64 ec] 55)).alloc (.cells #[.bool false, .int .i8 0, .int .u64 0] 55)) :=
 ⟨fun a h => ((Bx.start w dn ds dc en es ec).kept h).facts, fun a h => ((Bx.start w dn ds dc en es ec).kept h).h2, start3 w _ _ _, Chg.refl _ _⟩
set_option maxHeartbeats 4000000 in
theorem mulFint_gen (dn en nn : Bool) (dc ec ds es m : Nat) (hdc : dc < 10 ^ 19) (hec : ec < 10 ^ 19) (hds : ds ≤ 19) (hes : es ≤ 19) (hnn : (!(dn == en)) = nn) (P : Bool → Option (Nat × Nat) → Prop) (w : World) (he : EnvD w)
  (HN : dc * ec < 10 ^ 19 → ∀ w1, EnvD w1 → Calls Tryz.prog 97 #[.bool nn, .int .u64 ((dc * ec : Nat) : Int), .int .i64 ((ds + es : Nat) : Int), .int .i64 m] w1 (PX P w1)) (HI : P false none) :
  Calls Tryz.prog 91 #[.agg #[.bool dn, .int .i8 ds, .int .u64 (dc : Int)], .agg #[.bool en, .int .i8 es, .int .u64 (ec : Int)], .int .i64 m] w (PX P w) := by
 have hmu := fun w => fint_mul (dc : Int) (ec : Int) (fiN hdc) (fiN hec).wd w
 have hc : (dc : Int) * (ec : Int) = ((dc * ec : Nat) : Int) := (Int.natCast_mul dc ec).symm
 rw [hc] at hmu
 obtain ⟨S, hS⟩ : ∃ S, ds + es = S := ⟨_, rfl⟩
 have hws : IntKind.i64.wrap ((ds : Int) + (es : Int)) = (S : Int) := by rw [show (ds : Int) + (es : Int) = (S : Int) by omega]; exact IntWalk.i64_in _ (by omega)
 rw [hS] at HN
 generalize dc * ec = X at *
 have HSD := hid (fun w => Scale_any dn (dc : Int) ds hds w)
 have HSE := hid (fun w => Scale_any en (ec : Int) es hes w)
 have HND := hid (fun w => IsNeg_any dn (dc : Int) ds w)
 have HNE := hid (fun w => IsNeg_any en (ec : Int) es w)
 obtain ⟨HB, HBX, HC0, hk⟩ := bx3 w dn ds (dc : Int) en es (ec : Int)
 have HT := hid (fun w1 h => (he.kept HC0.out).kept (w' := w1) h)
 obtain ⟨t, v, HOV⟩ : ∃ t v, Hid (∀ w1, Chg (fun _ => False) (((w.alloc (.cells #[.bool dn, .int .i8 ds, .int .u64 (dc : Int)] 55)).alloc (.cells #[.bool en, .int .i8 es, .int .u64 (ec : Int)] 55)).alloc (.cells #[.bool false, .int .i8 0, .int .u64 0] 55)) w1 → w1.cell? ⟨0, 0, none⟩ = some (.iface t v)) := by
  obtain ⟨t, v, h⟩ := (he.kept HC0.out).ovf
  exact ⟨t, v, hid (fun w1 hc => cell_kept h hc (fun h => h))⟩
 obtain ⟨d0, d1, d2, e0, e1, e2, r0, r1, r2, q0, q1, q2⟩ := HB.out _ (hk)
 have ov := HOV.out _ hk
 have HPN := hid HI
 by_cases hX : X < 10 ^ 19
 ·have hXM := fiN_iff.2 hX
  simp only [if_pos hXM, decide_eq_true hXM] at hmu
  have hf := HN hX
  have hx1 : (0 : Int) ≤ (X : Int) := by omega
  obtain ⟨XI, hXI⟩ : ∃ v : Int, (X : Int) = v := ⟨_, rfl⟩
  rw [hXI] at hmu hf hXM hx1
  have HMU := hid hmu
  have HF := hid hf
  clear hmu hf HN HI hX hXI he hS hds hes hdc hec hc
  go_enter Tryz.func91, Tryz.ntmps91
  go_wp2_with (first | (go_at_call 66; (first | refine (HSD.out _).mono ?_ | refine (HSE.out _).mono ?_); intro e w1 h; obtain ⟨he1, hc1⟩ := h; subst he1; replace hk := hk.trans hc1 sb_; clear hc1; clear d0 d1 d2 e0 e1 e2 r0 r1 r2 q0 q1 q2 ov; obtain ⟨d0, d1, d2, e0, e1, e2, r0, r1, r2, q0, q1, q2⟩ := HB.out _ (hk); have ov := HOV.out _ hk) | (go_at_call 64; (first | refine (HND.out _).mono ?_ | refine (HNE.out _).mono ?_); intro e w1 h; obtain ⟨he1, hc1⟩ := h; subst he1; replace hk := hk.trans hc1 sb_; clear hc1; clear d0 d1 d2 e0 e1 e2 r0 r1 r2 q0 q1 q2 ov; obtain ⟨d0, d1, d2, e0, e1, e2, r0, r1, r2, q0, q1, q2⟩ := HB.out _ (hk); have ov := HOV.out _ hk) | (go_at_call 108; refine (HMU.out _).mono ?_; intro e w2 h; obtain ⟨he1, he2⟩ := h; subst he1; subst he2) | (go_at_call 97; refine (HF.out _ (HT.out _ hk)).mono ?_; intro e w1 h; obtain ⟨na, nb, nc, nv, he1, hc1, hp⟩ := h.op; subst he1; replace hk := hk.trans hc1 sb_; clear h hc1; clear d0 d1 d2 e0 e1 e2 r0 r1 r2 q0 q1 q2 ov; obtain ⟨d0, d1, d2, e0, e1, e2, r0, r1, r2, q0, q1, q2⟩ := HB.out _ (hk); have ov := HOV.out _ hk; have HP := hid hp; clear hp))
  exact bodyPost_ret (v := .tuple #[.agg #[.bool na, .int .i8 nb, .int .u64 nc], nv]) (dec_result rfl _ _ (w.heap.size + 1 + 1) _ _ _ _ 55 rfl rfl (store3 (HBX.out _ hk) _ _ _)) rfl (HP.out.move (chg3 (HC0.out.trans hk sb_) (by omega) _ _ _))
 ·have hXM : ¬ (X : Int) ≤ 9999999999999999999 := fun h => hX (fiN_iff.1 h)
  simp only [if_neg hXM, decide_eq_false hXM] at hmu
  have HMU := hid hmu
  clear hmu HN HI hX hXM he hS hds hes hdc hec hc
  go_enter Tryz.func91, Tryz.ntmps91
  go_wp2_with (first | (go_at_call 66; (first | refine (HSD.out _).mono ?_ | refine (HSE.out _).mono ?_); intro e w1 h; obtain ⟨he1, hc1⟩ := h; subst he1; replace hk := hk.trans hc1 sb_; clear hc1; clear d0 d1 d2 e0 e1 e2 r0 r1 r2 q0 q1 q2 ov; obtain ⟨d0, d1, d2, e0, e1, e2, r0, r1, r2, q0, q1, q2⟩ := HB.out _ (hk); have ov := HOV.out _ hk) | (go_at_call 64; (first | refine (HND.out _).mono ?_ | refine (HNE.out _).mono ?_); intro e w1 h; obtain ⟨he1, hc1⟩ := h; subst he1; replace hk := hk.trans hc1 sb_; clear hc1; clear d0 d1 d2 e0 e1 e2 r0 r1 r2 q0 q1 q2 ov; obtain ⟨d0, d1, d2, e0, e1, e2, r0, r1, r2, q0, q1, q2⟩ := HB.out _ (hk); have ov := HOV.out _ hk) | (go_at_call 108; refine (HMU.out _).mono ?_; intro e w2 h; obtain ⟨he1, he2⟩ := h; subst he1; subst he2))
  go_region
  all_goals (go_wp2_with fail; exact bodyPost_ret (v := .tuple #[.agg #[.bool false, .int .i8 0, .int .u64 0], .iface t v]) (dec_result rfl _ _ (w.heap.size + 1 + 1) _ _ _ _ 55 rfl rfl (store3 (HBX.out _ hk) _ _ _)) rfl ⟨false, none, HPN.out, (chg3 (HC0.out.trans hk sb_) (by omega) _ _ _).drew, t, v, rfl⟩)
theorem two_mul {w0 w2 : World} {p q : Nat} {a b : Nat} (h : Two w0 w2 p q (a : Int) (b : Int)) (ha : digs a ≤ 80) (hb : digs b ≤ 80) :
  Calls Tryz.prog 109 #[.pointer (some ⟨p, 0, none⟩), .pointer (some ⟨p, 0, none⟩), .pointer (some ⟨q, 0, none⟩)] w2 (fun e w3 => e = .returned (.tuple #[]) ∧ Two w0 w3 p q ((a * b : Nat) : Int) (b : Int)) := by
 obtain ⟨bp, bq, h1, h2, _⟩ := h.ex
 rw [Int.natCast_mul]
 exact (bint_mul_same p q bp bq (a : Int) (b : Int) w2 h1 h2 h.ne (digs_bp ha) (digs_bp hb) h.env.env.kar).mono (fun e w3 k => ⟨k.1, h.step h1 k⟩)
theorem digs_two {a b : Nat} (ha : a < 10 ^ 19) (hb : b < 10 ^ 19) : digs (a * b) ≤ 80 := by
 refine digs_le.2 (Nat.lt_of_lt_of_le (Nat.mul_lt_mul_of_lt_of_lt ha hb) ?_)
 rw [← Nat.pow_add]
 exact Nat.pow_le_pow_right (by omega) (by omega)
set_option maxHeartbeats 4000000 in
theorem mulBint_any (dn en nn : Bool) (dc ec ds es m : Nat) (hdc : dc < 10 ^ 19) (hec : ec < 10 ^ 19) (hds : ds ≤ 19) (hes : es ≤ 19) (hm : m ≤ 19) (hnn : (!(dn == en)) = nn) (w : World) (he : EnvD w) :
  Calls Tryz.prog 92 #[.agg #[.bool dn, .int .i8 ds, .int .u64 (dc : Int)], .agg #[.bool en, .int .i8 es, .int .u64 (ec : Int)], .int .i64 m] w (PDecN w nn (from19 (10 ^ 19) 2 (dc * ec) (ds + es) m)) := by
 have hdd := digs_le.2 hdc
 have hde := digs_le.2 hec
 have HWD := hid (fiN hdc).wd
 have HWE := hid (fiN hec).wd
 obtain ⟨S, hS⟩ : ∃ k, ds + es = k := ⟨_, rfl⟩
 have hw1 : IntKind.i64.wrap ((ds : Int) + (es : Int)) = (S : Int) := by rw [show (ds : Int) + (es : Int) = (S : Int) by omega]; exact IntWalk.i64_in _ (by omega)
 have hS38 : S ≤ 57 := by omega
 rw [hS]
 have hCd := digs_two hdc hec
 have HQ := hid (fun w0 w2 p q (h : Two w0 w2 p q (dc : Int) (ec : Int)) => two_mul h (Nat.le_trans hdd (by omega)) (Nat.le_trans hde (by omega)))
 generalize dc * ec = C at *
 have HF := hid (fun w0 w2 p q y (h : Two w0 w2 p q (C : Int) y) => two_nfb (s := S) nn h hCd hS38 hm)
 generalize from19 (10 ^ 19) 2 C S m = o at *
 have HSD := hid (fun w => Scale_any dn (dc : Int) ds hds w)
 have HSE := hid (fun w => Scale_any en (ec : Int) es hes w)
 have HND := hid (fun w => IsNeg_any dn (dc : Int) ds w)
 have HNE := hid (fun w => IsNeg_any en (ec : Int) es w)
 obtain ⟨HB, HBX, HC0, hk⟩ := bx3 w dn ds (dc : Int) en es (ec : Int)
 have HE0 := hid (he.kept HC0.out)
 obtain ⟨d0, d1, d2, e0, e1, e2, r0, r1, r2, q0, q1, q2⟩ := HB.out _ (hk)
 clear hCd hdd hde hdc hec hes hds hS hS38 he
 go_enter_defers Tryz.func92, Tryz.ntmps92
 go_wp2_with (first | (go_at_call 98; refine (getBint_any _).mono ?_; intro e w1 h; obtain ⟨q, he1, hi2, hs2, hc2⟩ := h; subst he1; have HT := hid (Two.start HIP.out hsp hcp hi2 hs2 hc2 HE0.out); replace hk := hk.trans hc2 sb_; clear hi2 hs2 hc2; clear d0 d1 d2 e0 e1 e2 r0 r1 r2 q0 q1 q2; obtain ⟨d0, d1, d2, e0, e1, e2, r0, r1, r2, q0, q1, q2⟩ := HB.out _ (hk)) | (go_at_call 98; refine (getBint_any _).mono ?_; intro e w1 h; obtain ⟨p, he1, hip, hsp, hcp⟩ := h; subst he1; have HIP := hid hip; clear hip; replace hk := hk.trans hcp sb_; clear d0 d1 d2 e0 e1 e2 r0 r1 r2 q0 q1 q2; obtain ⟨d0, d1, d2, e0, e1, e2, r0, r1, r2, q0, q1, q2⟩ := HB.out _ (hk)) | (go_at_call 66; (first | refine (HSD.out _).mono ?_ | refine (HSE.out _).mono ?_); intro e w1 h; obtain ⟨he1, hc1⟩ := h; subst he1; have HT := hid (HT.out.same hc1); replace hk := hk.trans hc1 sb_; clear hc1; clear d0 d1 d2 e0 e1 e2 r0 r1 r2 q0 q1 q2; obtain ⟨d0, d1, d2, e0, e1, e2, r0, r1, r2, q0, q1, q2⟩ := HB.out _ (hk)) | (go_at_call 64; (first | refine (HND.out _).mono ?_ | refine (HNE.out _).mono ?_); intro e w1 h; obtain ⟨he1, hc1⟩ := h; subst he1; have HT := hid (HT.out.same hc1); replace hk := hk.trans hc1 sb_; clear hc1; clear d0 d1 d2 e0 e1 e2 r0 r1 r2 q0 q1 q2; obtain ⟨d0, d1, d2, e0, e1, e2, r0, r1, r2, q0, q1, q2⟩ := HB.out _ (hk)) | (go_at_call 100; (first | refine (two_setFint HT.out HWD.out).mono ?_ | refine (two_setFint' HT.out HWE.out).mono ?_); intro e w1 h; obtain ⟨he1, h⟩ := h; subst he1; have HT := hid h; clear h; replace hk := HT.out.chg; clear d0 d1 d2 e0 e1 e2 r0 r1 r2 q0 q1 q2; obtain ⟨d0, d1, d2, e0, e1, e2, r0, r1, r2, q0, q1, q2⟩ := HB.out _ (hk)) | (go_at_call 109; refine (HQ.out _ _ _ _ HT.out).mono ?_; intro e w1 h; obtain ⟨he1, h⟩ := h; subst he1; have HT := hid h; clear h; replace hk := HT.out.chg; clear d0 d1 d2 e0 e1 e2 r0 r1 r2 q0 q1 q2; obtain ⟨d0, d1, d2, e0, e1, e2, r0, r1, r2, q0, q1, q2⟩ := HB.out _ (hk)) | (go_at_call 105; refine (HF.out _ _ _ _ _ HT.out).mono ?_; intro e w1 h; obtain ⟨na, nb, nc, nv, he1, hc1, hp⟩ := h.op; subst he1; replace hk := hc1; clear h hc1; clear d0 d1 d2 e0 e1 e2 r0 r1 r2 q0 q1 q2; obtain ⟨d0, d1, d2, e0, e1, e2, r0, r1, r2, q0, q1, q2⟩ := HB.out _ (hk); have HP := hid hp; clear hp))
 refine leaves_cons (f := 99) (args := #[.pointer (some ⟨q, 0, none⟩)]) (by simp) (by simp [go_sem]) ?_
 refine (putBint_d _ .returning _).mono ?_
 rintro e u' w'' ⟨rfl, rfl, rfl⟩
 refine leaves_cons (f := 99) (args := #[.pointer (some ⟨p, 0, none⟩)]) (by simp [settle]) (by simp [go_sem]) ?_
 refine (putBint_d _ .returning _).mono ?_
 rintro e u' w'' ⟨rfl, rfl, rfl⟩
 exact ⟨.tuple #[.agg #[.bool na, .int .i8 nb, .int .u64 nc], nv], dec_result rfl _ _ (w.heap.size + 1 + 1) _ _ _ _ 55 rfl rfl (store3 (HBX.out _ hk) _ _ _), HP.out.move (chg3 (HC0.out.trans hk sb_) (by omega) _ _ _)⟩
set_option maxHeartbeats 16000000 in
theorem mulEx_in (dn en : Bool) (dc ec ds es : Nat) (m : Nat) (hm : m ≤ 19) (hdc : dc < 10 ^ 19) (hec : ec < 10 ^ 19) (hds : ds ≤ 19) (hes : es ≤ 19) (P P1 : Bool → Option (Nat × Nat) → Prop) (w : World) (he : EnvD w)
  (hP1 : ∀ sg k t, P1 sg (some (k, t)) → P sg (some (k, t)))
  (hFI : ∀ w1, EnvD w1 → Calls Tryz.prog 91 #[.agg #[.bool dn, .int .i8 ds, .int .u64 (dc : Int)], .agg #[.bool en, .int .i8 es, .int .u64 (ec : Int)], .int .i64 m] w1 (PX P1 w1)) (hBI : ∀ w1, EnvD w1 → Calls Tryz.prog 92 #[.agg #[.bool dn, .int .i8 ds, .int .u64 (dc : Int)], .agg #[.bool en, .int .i8 es, .int .u64 (ec : Int)], .int .i64 m] w1 (PX P w1)) :
  Calls Tryz.prog 73 #[.agg #[.bool dn, .int .i8 ds, .int .u64 (dc : Int)], .agg #[.bool en, .int .i8 es, .int .u64 (ec : Int)], .int .i64 m] w (PX P w) := by
 obtain ⟨DC, hDC⟩ : ∃ v : Int, (dc : Int) = v := ⟨_, rfl⟩
 obtain ⟨EC, hEC⟩ : ∃ v : Int, (ec : Int) = v := ⟨_, rfl⟩
 obtain ⟨DS, hDS⟩ : ∃ v : Int, (ds : Int) = v := ⟨_, rfl⟩
 obtain ⟨ES, hES⟩ : ∃ v : Int, (es : Int) = v := ⟨_, rfl⟩
 have HSD := hid (fun w => Scale_as dn DC ds DS hds hDS w)
 have HSE := hid (fun w => Scale_as en EC es ES hes hES w)
 rw [hDC, hEC] at hFI hBI
 rw [hDC, hEC]
 have hb1 : decide ((m : Int) < 0) = false := decide_eq_false (by omega)
 have hb2 : decide ((19 : Int) < (m : Int)) = false := decide_eq_false (by omega)
 obtain ⟨HB, HBX, HC0, hk⟩ := bx3 w dn ds DC en es EC
 have HSS := hid (fun w' (h : Chg (fun _ => False) (((w.alloc (.cells #[.bool dn, .int .i8 ds, .int .u64 DC] 55)).alloc (.cells #[.bool en, .int .i8 es, .int .u64 EC] 55)).alloc (.cells #[.bool false, .int .i8 0, .int .u64 0] 55)) w') => (show w'.cell? ⟨w.heap.size, 0, none⟩ = some (.bool dn) ∧ w'.cell? ⟨w.heap.size, 1, none⟩ = some (.int .i8 ds) ∧ w'.cell? ⟨w.heap.size, 2, none⟩ = some (.int .u64 DC) ∧ w'.cell? ⟨w.heap.size + 1, 0, none⟩ = some (.bool en) ∧ w'.cell? ⟨w.heap.size + 1, 1, none⟩ = some (.int .i8 es) ∧ w'.cell? ⟨w.heap.size + 1, 2, none⟩ = some (.int .u64 EC) from ⟨(HB.out _ h).1, (HB.out _ h).2.1, (HB.out _ h).2.2.1, (HB.out _ h).2.2.2.1, (HB.out _ h).2.2.2.2.1, (HB.out _ h).2.2.2.2.2.1⟩))
 have HE0 := hid (he.kept HC0.out)
 have HFIX := hid hFI
 have HBI := hid hBI
 have HP1 := hid hP1
 obtain ⟨d0, d1, d2, e0, e1, e2, r0, r1, r2, q0, q1, q2⟩ := HB.out _ (hk)
 clear he hFI hBI hP1 hm hdc hds hec hes hDC hDS hEC hES
 go_enter Tryz.func73, Tryz.ntmps73
 go_upto_region 3 with fail
 go_cut [8, 9] (fun a b wx => ∃ g : Nat, a = .pointer (some ⟨g, 0, none⟩) ∧ ((b = .nilIface ∧ ∃ sg k t, Hid (P sg (some (k, t))) ∧ Hid (Var3 (((w.alloc (.cells #[.bool dn, .int .i8 ds, .int .u64 DC] 55)).alloc (.cells #[.bool en, .int .i8 es, .int .u64 EC] 55)).alloc (.cells #[.bool false, .int .i8 0, .int .u64 0] 55)) wx g (.bool (sg && (k : Int) != 0)) (.int .i8 (t : Int)) (.int .u64 (k : Int)))) ∨ ((∃ et ev, b = .iface et ev) ∧ Hid (Var3 (((w.alloc (.cells #[.bool dn, .int .i8 ds, .int .u64 DC] 55)).alloc (.cells #[.bool en, .int .i8 es, .int .u64 EC] 55)).alloc (.cells #[.bool false, .int .i8 0, .int .u64 0] 55)) wx g (.bool false) (.int .i8 0) (.int .u64 0)))))
 case first =>
  go_wp2_with fail
  go_at_call 91
  refine (HFIX.out _ (HE0.out.kept hk)).mono ?_
  intro e w1 h
  obtain ⟨sg, o, hp, hc, ho⟩ := h
  have HK := hid (hk.trans hc sb_)
  have HPP := hid hp
  clear hc hp hk d0 d1 d2 e0 e1 e2 r0 r1 r2 q0 q1 q2
  cases o with
  | none =>
   obtain ⟨et, ev, he1⟩ := ho
   have he2 : e = .returned (.tuple #[.agg #[.bool false, .int .i8 0, .int .u64 0], .iface et ev]) := he1
   clear he1
   subst he2
   go_wp2_with fail
   go_meet
   exact ⟨w1.heap.size, rfl, .inr ⟨⟨_, _, rfl⟩, Var3.mk' HK.out _ _ _⟩⟩
  | some kt =>
   obtain ⟨k, t⟩ := kt
   have he2 : e = .returned (.tuple #[.agg #[.bool (sg && (k : Int) != 0), .int .i8 t, .int .u64 (k : Int)], .nilIface]) := ho
   clear ho
   have HQ := hid (HP1.out _ _ _ HPP.out)
   obtain ⟨nb, hnb⟩ : ∃ b, (sg && (k : Int) != 0) = b := ⟨_, rfl⟩
   have HNB := hid hnb
   rw [hnb] at he2
   subst he2
   clear hnb
   go_wp2_with fail
   go_meet
   exact ⟨w1.heap.size, rfl, .inl ⟨rfl, sg, k, t, HQ, by rw [HNB.out]; exact Var3.mk' HK.out _ _ _⟩⟩
 case rest =>
  obtain ⟨g, g1, hcut⟩ := hcut
  subst g1
  clear hk d0 d1 d2 e0 e1 e2 r0 r1 r2 q0 q1 q2
  go_upto_region 4 with fail
  go_cut [26] (fun c wx => (c = .bool false ∧ ∃ sg k t, Hid (P sg (some (k, t))) ∧ Hid (Var3 (((w.alloc (.cells #[.bool dn, .int .i8 ds, .int .u64 DC] 55)).alloc (.cells #[.bool en, .int .i8 es, .int .u64 EC] 55)).alloc (.cells #[.bool false, .int .i8 0, .int .u64 0] 55)) wx g (.bool (sg && (k : Int) != 0)) (.int .i8 (t : Int)) (.int .u64 (k : Int)))) ∨ (c = .bool true ∧ Hid (Var3 (((w.alloc (.cells #[.bool dn, .int .i8 ds, .int .u64 DC] 55)).alloc (.cells #[.bool en, .int .i8 es, .int .u64 EC] 55)).alloc (.cells #[.bool false, .int .i8 0, .int .u64 0] 55)) wx g (.bool false) (.int .i8 0) (.int .u64 0))))
  case first =>
   rcases hcut with ⟨he2, sg, k, t, hp, hv⟩ | ⟨⟨et, ev, he2⟩, hv⟩
   ·subst he2
    go_wp2_with fail
    go_meet
    exact .inl ⟨rfl, sg, k, t, hp, hv⟩
   ·subst he2
    go_wp2_with fail
    go_meet
    exact .inr ⟨rfl, hv⟩
  case rest =>
  go_upto_if 26 with fail
  go_cut [9] (fun b wx => ∃ sg k t, Hid (P sg (some (k, t))) ∧ Hid (Var3 (((w.alloc (.cells #[.bool dn, .int .i8 ds, .int .u64 DC] 55)).alloc (.cells #[.bool en, .int .i8 es, .int .u64 EC] 55)).alloc (.cells #[.bool false, .int .i8 0, .int .u64 0] 55)) wx g (.bool (sg && (k : Int) != 0)) (.int .i8 (t : Int)) (.int .u64 (k : Int))))
  case first =>
   rcases hcut with ⟨he2, sg, k, t, hp, hv⟩ | ⟨he2, hv⟩
   ·subst he2
    go_wp2_with fail
    go_meet
    exact ⟨sg, k, t, hp, hv⟩
   ·subst he2
    have HV := hid hv.out
    clear hv
    obtain ⟨d0, d1, d2, e0, e1, e2, r0, r1, r2, q0, q1, q2⟩ := HB.out _ (HV.out.1)
    obtain ⟨k0, k1, k2, l0, l1, l2⟩ := cell3 HV.out.2.2
    go_wp2_with fail
    go_at_call 92
    refine (HBI.out _ (HE0.out.kept HV.out.1)).mono ?_
    intro e w1 h
    obtain ⟨sg, o, hp, hc, ho⟩ := h
    have HPP := hid hp
    have HV2 := hid (HV.out.kept hc)
    have HCC := hid hc
    clear hp hc d0 d1 d2 e0 e1 e2 r0 r1 r2 q0 q1 q2 k0 k1 k2 l0 l1 l2
    obtain ⟨d0, d1, d2, e0, e1, e2, r0, r1, r2, q0, q1, q2⟩ := HB.out _ (HV2.out.1)
    obtain ⟨k0, k1, k2, l0, l1, l2⟩ := cell3 HV2.out.2.2
    cases o with
    | none =>
     obtain ⟨et2, ev2, he1⟩ := ho
     have he2 : e = .returned (.tuple #[.agg #[.bool false, .int .i8 0, .int .u64 0], .iface et2 ev2]) := he1
     clear he1
     subst he2
     have HV3 := hid (HV2.out.set (Chg.refl _ _) (.bool false) (.int .i8 0) (.int .u64 0))
     go_wp2_with (go_at_call 76; refine (errorsNew_any _ _).mono ?_; intro e w3 h; obtain ⟨⟨t3, v3, he3⟩, hc3⟩ := h; subst he3; have HV4 := hid (HV3.out.kept hc3); clear hc3; clear d0 d1 d2 e0 e1 e2 r0 r1 r2 q0 q1 q2; obtain ⟨d0, d1, d2, e0, e1, e2, r0, r1, r2, q0, q1, q2⟩ := HB.out _ (HV4.out.1))
     exact bodyPost_ret (v := .tuple #[.agg #[.bool false, .int .i8 0, .int .u64 0], .iface t3 v3]) (dec_result rfl _ _ (w.heap.size + 1 + 1) _ _ _ _ 55 rfl rfl (store3 (HBX.out _ (HV4.out.1)) _ _ _)) rfl ⟨sg, none, HPP.out, chg3 (HC0.out.trans (HV4.out.1) sb_) (by omega) _ _ _, t3, v3, rfl⟩
    | some kt =>
     obtain ⟨k, t⟩ := kt
     have he2 : e = .returned (.tuple #[.agg #[.bool (sg && (k : Int) != 0), .int .i8 t, .int .u64 (k : Int)], .nilIface]) := ho
     clear ho
     obtain ⟨nb, hnb⟩ : ∃ b, (sg && (k : Int) != 0) = b := ⟨_, rfl⟩
     have HNB := hid hnb
     rw [hnb] at he2
     subst he2
     clear hnb
     go_wp2_with fail
     go_meet
     exact ⟨sg, k, t, HPP, by rw [HNB.out]; exact HV.out.set HCC.out _ _ _⟩
  case rest =>
   obtain ⟨sg, k, t, hp, hv⟩ := hcut
   obtain ⟨nb, hnb⟩ : ∃ b, (sg && (k : Int) != 0) = b := ⟨_, rfl⟩
   rw [hnb] at hv
   have HNB := hid hnb
   obtain ⟨K, hK⟩ : ∃ v : Int, (k : Int) = v := ⟨_, rfl⟩
   rw [hK] at hv
   have HKK := hid hK
   have HV := hid hv.out
   have HPP := hid hp.out
   clear hp hv hnb hK
   obtain ⟨d0, d1, d2, e0, e1, e2, r0, r1, r2, q0, q1, q2⟩ := HB.out _ (HV.out.1)
   obtain ⟨k0, k1, k2, l0, l1, l2⟩ := cell3 HV.out.2.2
   go_wp2_with fail
   refine bodyPost_ret (v := .tuple #[.agg #[.bool nb, .int .i8 (t : Int), .int .u64 K], .nilIface]) (dec_result rfl _ _ (w.heap.size + 1 + 1) _ _ _ _ 55 rfl rfl (store3 (HBX.out _ HV.out.1) _ _ _)) rfl ⟨sg, some (k, t), HPP.out, chg3 (HC0.out.trans HV.out.1 sb_) (by omega) _ _ _, ?_⟩
   show _ = Ending.returned (.tuple #[decV (sg && (k : Int) != 0) (k : Int) t, .nilIface])
   rw [HNB.out, HKK.out]
   rfl
end Go.Proofs.YtbjhnckboimliaaGreatDoor
