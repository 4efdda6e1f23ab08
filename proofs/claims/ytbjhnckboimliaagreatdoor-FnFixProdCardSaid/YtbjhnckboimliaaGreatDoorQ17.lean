/- Part 17 of the proof. -/
import Derived.Test.YtbjhnckboimliaaGreatDoorQ16
namespace Go.Proofs.YtbjhnckboimliaaGreatDoor
open Go.RowKit
set_option linter.unusedVariables false
set_option linter.unusedSimpArgs false
set_option maxRecDepth 20000
theorem PDecB.flat {w w' : World} {p : Nat} {bo : Option Nat} {neg : Bool} {o : Option (Nat × Nat)} {e : Ending} (h : PDecB w p bo neg o e w') :
  ∃ (nb : Bool) (s8 c64 : Int) (ev : Value), e = .returned (.tuple #[.agg #[.bool nb, .int .i8 s8, .int .u64 c64], ev]) ∧ Chg (fun k => k = p ∨ bo = some k) w w' ∧
   ∀ (w0 w2 : World) (p0 : Nat) (bo0 : Option Nat), Chg (fun k => k = p0 ∨ bo0 = some k) w0 w2 → PDecB w0 p0 bo0 neg o (.returned (.tuple #[.agg #[.bool nb, .int .i8 s8, .int .u64 c64], ev])) w2 := by
 obtain ⟨hc, ho⟩ := h
 cases o with
 | none =>
  obtain ⟨t, v, he⟩ := ho
  exact ⟨false, _, _, _, he, hc, fun w0 w2 p0 bo0 h => ⟨h, t, v, rfl⟩⟩
 | some cs =>
  obtain ⟨c, s⟩ := cs
  exact ⟨_, _, _, _, ho, hc, fun w0 w2 p0 bo0 h => ⟨h, rfl⟩⟩
theorem nfb_top (neg : Bool) (p : Nat) (bo : Option Nat) (t m : Nat) (w : World) (hp : IntAt w p bo (((10 ^ 19 : Nat)) : Int)) (he : EnvD w) (ht : t ≤ 19) (hm : m ≤ t) :
  Calls Tryz.prog 105 #[.bool neg, .pointer (some ⟨p, 0, none⟩), .int .i64 t, .int .i64 m] w (PDecB w p bo neg (if t = m then none else some (10 ^ 18, t - 1))) := by
 have hd : digs (10 ^ 19) = 20 := digs19 pow19
 by_cases e : t = m
 ·rw [if_pos e]
  exact nfb_none neg p bo (10 ^ 19) t m w hp he (by rw [hd]; omega) (by omega) (by omega) (by rw [hd]; omega)
 ·rw [if_neg e]
  have hr : rhe (10 ^ 19) (10 ^ (digs (10 ^ 19) - 19)) = 10 ^ 18 := by rw [hd]; exact rhe19 pow19
  have h := nfb_cut neg p bo (10 ^ 19) t m w hp he (by rw [hd]; omega) (by omega) (by omega) (by rw [hd]; omega) (by omega) (by rw [hd]; omega) (by rw [hr]; exact pow19.lt)
  rw [hr, hd] at h
  rw [show t - 1 = 19 + t - 20 by omega]
  exact h
theorem mid_top {w0 w3 : World} {p : Nat} {bo : Option Nat} {neg : Bool} {c1 t m : Nat} (h : Mid w0 w3 p bo (c1 : Int)) (hc : c1 = 10 ^ 19) (ht : t ≤ 19) (hm : m ≤ t) :
  Calls Tryz.prog 105 #[.bool neg, .pointer (some ⟨p, 0, none⟩), .int .i64 t, .int .i64 m] w3 (fun e w4 => ∃ (nb : Bool) (s8 c64 : Int) (ev : Value), e = .returned (.tuple #[.agg #[.bool nb, .int .i8 s8, .int .u64 c64], ev]) ∧ Chg (fun k => k = p ∨ bo = some k) w0 w4 ∧
   ∀ (wa w2 : World) (p0 : Nat) (bo0 : Option Nat), Chg (fun k => k = p0 ∨ bo0 = some k) wa w2 → PDecB wa p0 bo0 neg (if t = m then none else some (10 ^ 18, t - 1)) (.returned (.tuple #[.agg #[.bool nb, .int .i8 s8, .int .u64 c64], ev])) w2) := by
 obtain ⟨b2, h1, h2⟩ := h.int
 subst hc
 refine (nfb_top neg p b2 t m w3 h1 h.env ht hm).mono (fun e w4 k => ?_)
 obtain ⟨nb, s8, c64, ev, k1, k2, k3⟩ := k.flat
 refine ⟨nb, s8, c64, ev, k1, h.chg.trans k2 (fun i hi hh => ?_), k3⟩
 rcases hh with hh | hh
 ·exact .inl hh
 ·rcases h2 with e | ⟨c, e, hc⟩
  ·exact .inr (e ▸ hh)
  ·rw [hh] at e; simp only [Option.some.injEq] at e; omega
set_option maxHeartbeats 1000000 in
theorem nfb_rsh2 (neg : Bool) (p : Nat) (bo : Option Nat) (c s m : Nat) (w : World) (hp : IntAt w p bo (c : Int)) (he : EnvD w) (hc : digs c ≤ 80) (hs : s ≤ 57) (hm : m ≤ 19) (h1 : ¬ 19 + s < digs c + m) (ha : ¬ s < m) (hb : digs c ≤ s ∧ 19 < s) (hlt : (rhe c (10 ^ (s - 19))) = 10 ^ 19) :
  Calls Tryz.prog 105 #[.bool neg, .pointer (some ⟨p, 0, none⟩), .int .i64 s, .int .i64 m] w (PDecB w p bo neg (if 19 = m then none else some (10 ^ 18, 19 - 1))) := by
 have hpr := mid_prec (mid_start hp he) hc
 have HPR := hid hpr
 have HW := hid (fun w1 (h : Chg (fun k => k = p ∨ bo = some k) (w.alloc (.cells #[.bool false, .int .i8 0, .int .u64 0] 55)) w1) => cell_z hp h)
 obtain ⟨c1, hc1e⟩ : ∃ c1, (rhe c (10 ^ (s - 19))) = c1 := ⟨_, rfl⟩
 rw [hc1e] at hlt
 have hb19 : decide ((10 : Int) ^ 19 ≤ (c1 : Int)) = true := decide_eq_true (by have := pow_cast 19; rw [hlt]; omega)
 have HREC := hid (fun w3 (h : Mid (w.alloc (.cells #[.bool false, .int .i8 0, .int .u64 0] 55)) w3 p bo (c1 : Int)) => mid_top (neg := neg) (t := 19) (m := m) h hlt (by omega) (by omega))
 have HCHG : Hid (∀ w2, Chg (fun k => k = p ∨ bo = some k) (w.alloc (.cells #[.bool false, .int .i8 0, .int .u64 0] 55)) w2 → ∀ (a b d : Value), Chg (fun k => k = p ∨ bo = some k) w (((w2.setCell ⟨w.heap.size, 0, none⟩ a).setCell ⟨w.heap.size, 1, none⟩ b).setCell ⟨w.heap.size, 2, none⟩ d)) := fun w2 h a b d => by
  have hch : Chg (fun k => k = p ∨ bo = some k) w (w.alloc (.cells #[.bool false, .int .i8 0, .int .u64 0] 55)) := (Chg.refl _ w).alloc _
  have h2 := hch.trans h sb_
  exact Chg.setCell (p := ⟨w.heap.size, 2, none⟩) (Chg.setCell (p := ⟨w.heap.size, 1, none⟩) (Chg.setCell (p := ⟨w.heap.size, 0, none⟩) h2 (fun h => by simp only at h; omega) _) (fun h => by simp only at h; omega) _) (fun h => by simp only at h; omega) _
 generalize (if 19 = m then (none : Option (Nat × Nat)) else some (10 ^ 18, 19 - 1)) = oo at *
 have hlt1 : ¬ (s : Int) < (m : Int) := by omega
 have hd3 : (digs c : Int) ≤ (s : Int) := by omega
 have hd5 : (19 : Int) < (s : Int) := by omega
 have hsub : IntKind.i64.wrap ((s : Int) - 19) = ((s - 19 : Nat) : Int) := by rw [show (s : Int) - 19 = ((s - 19 : Nat) : Int) by omega]; exact IntWalk.i64_in _ (by omega)
 have hw1 : IntKind.i64.wrap ((digs c : Int) - (s : Int)) = (digs c : Int) - (s : Int) := IntWalk.i64_in _ (by omega)
 have hw2 : IntKind.i64.wrap (19 - (m : Int)) = 19 - (m : Int) := IntWalk.i64_in _ (by omega)
 obtain ⟨A, hA⟩ : ∃ A, (digs c : Int) - (s : Int) = A := ⟨_, rfl⟩
 obtain ⟨B, hB⟩ : ∃ B, 19 - (m : Int) = B := ⟨_, rfl⟩
 have hgt : ¬ B < A := by omega
 replace hw1 : IntKind.i64.wrap ((digs c : Int) - (s : Int)) = A := by rw [hw1, hA]
 replace hw2 : IntKind.i64.wrap (19 - (m : Int)) = B := by rw [hw2, hB]
 clear hA hB
 have HC1 := hid hc1e
 have HMID := hid (fun w2 (h : Mid (w.alloc (.cells #[.bool false, .int .i8 0, .int .u64 0] 55)) w2 p bo (c : Int)) => mid_rsh (k := s - 19) h hc (by omega) (by omega))
 clear hpr hp he hlt hc1e h1 ha hb
 clear hc
 generalize s - 19 = d at *
 generalize digs c = D at *
 go_enter Tryz.func105, Tryz.ntmps105
 go_wp2_with (first | (go_at_call 127; refine HPR.out.mono ?_; intro e w1 h; obtain ⟨he1, hm1⟩ := h; subst he1; have HM1 := hid hm1; clear hm1) | (go_at_call 129; refine (HMID.out _ HM1.out).mono ?_; intro e w2 h; obtain ⟨he2, hm2⟩ := h; subst he2; rw [HC1.out] at hm2; have HM2 := hid hm2; clear hm2) | (go_at_call 111; refine (mid_hasPrec HM2.out hb19).mono ?_; intro e w3 h; obtain ⟨he3, hm3⟩ := h; subst he3; have hrc := HREC.out w3 hm3; have HRC := hid hrc; clear hm3 hrc) | (go_at_call 105; refine HRC.out.mono ?_; intro e w5 h; obtain ⟨nb, s8, c64, ev, he5, hcc, hfin⟩ := h; subst he5; obtain ⟨k0, k1, k2, f0, f1, f2⟩ := cell3 (HW.out w5 hcc); have HCC := hid hcc; have HFIN := hid hfin; clear hcc hfin))
 refine bodyPost_ret (v := .tuple #[.agg #[.bool nb, .int .i8 s8, .int .u64 c64], ev]) (dec_result rfl _ _ w.heap.size _ _ _ _ 55 rfl rfl (store3 (HW.out w5 HCC.out) _ _ _)) rfl (HFIN.out _ _ _ _ (HCHG.out _ HCC.out _ _ _))
set_option maxHeartbeats 1000000 in
theorem nfb_cut2 (neg : Bool) (p : Nat) (bo : Option Nat) (c s m : Nat) (w : World) (hp : IntAt w p bo (c : Int)) (he : EnvD w) (hc : digs c ≤ 80) (hs : s ≤ 57) (hm : m ≤ 19) (h1 : ¬ 19 + s < digs c + m) (ha : ¬ s < m) (hb : s < digs c ∧ 19 < digs c) (hlt : (rhe c (10 ^ (digs c - 19))) = 10 ^ 19) :
  Calls Tryz.prog 105 #[.bool neg, .pointer (some ⟨p, 0, none⟩), .int .i64 s, .int .i64 m] w (PDecB w p bo neg (if (19 + s - digs c) = m then none else some (10 ^ 18, (19 + s - digs c) - 1))) := by
 have hpr := mid_prec (mid_start hp he) hc
 have HPR := hid hpr
 have HW := hid (fun w1 (h : Chg (fun k => k = p ∨ bo = some k) (w.alloc (.cells #[.bool false, .int .i8 0, .int .u64 0] 55)) w1) => cell_z hp h)
 obtain ⟨c1, hc1e⟩ : ∃ c1, (rhe c (10 ^ (digs c - 19))) = c1 := ⟨_, rfl⟩
 obtain ⟨tt, hte⟩ : ∃ tt, (19 + s - digs c) = tt := ⟨_, rfl⟩
 rw [hc1e] at hlt
 rw [hte]
 have hb19 : decide ((10 : Int) ^ 19 ≤ (c1 : Int)) = true := decide_eq_true (by have := pow_cast 19; rw [hlt]; omega)
 have HREC := hid (fun w3 (h : Mid (w.alloc (.cells #[.bool false, .int .i8 0, .int .u64 0] 55)) w3 p bo (c1 : Int)) => mid_top (neg := neg) (t := tt) (m := m) h hlt (by omega) (by omega))
 have HCHG : Hid (∀ w2, Chg (fun k => k = p ∨ bo = some k) (w.alloc (.cells #[.bool false, .int .i8 0, .int .u64 0] 55)) w2 → ∀ (a b d : Value), Chg (fun k => k = p ∨ bo = some k) w (((w2.setCell ⟨w.heap.size, 0, none⟩ a).setCell ⟨w.heap.size, 1, none⟩ b).setCell ⟨w.heap.size, 2, none⟩ d)) := fun w2 h a b d => by
  have hch : Chg (fun k => k = p ∨ bo = some k) w (w.alloc (.cells #[.bool false, .int .i8 0, .int .u64 0] 55)) := (Chg.refl _ w).alloc _
  have h2 := hch.trans h sb_
  exact Chg.setCell (p := ⟨w.heap.size, 2, none⟩) (Chg.setCell (p := ⟨w.heap.size, 1, none⟩) (Chg.setCell (p := ⟨w.heap.size, 0, none⟩) h2 (fun h => by simp only at h; omega) _) (fun h => by simp only at h; omega) _) (fun h => by simp only at h; omega) _
 generalize (if tt = m then (none : Option (Nat × Nat)) else some (10 ^ 18, tt - 1)) = oo at *
 have hlt1 : ¬ (s : Int) < (m : Int) := by omega
 have hd3 : ¬ (digs c : Int) ≤ (s : Int) := by omega
 have hd4 : (s : Int) < (digs c : Int) := by omega
 have hd5 : (19 : Int) < (digs c : Int) := by omega
 have hsub : IntKind.i64.wrap ((digs c : Int) - 19) = ((digs c - 19 : Nat) : Int) := by rw [show (digs c : Int) - 19 = ((digs c - 19 : Nat) : Int) by omega]; exact IntWalk.i64_in _ (by omega)
 have hw5 : IntKind.i64.wrap (19 - (digs c : Int)) = 19 - (digs c : Int) := IntWalk.i64_in _ (by omega)
 have hw6 : IntKind.i64.wrap (19 - (digs c : Int) + (s : Int)) = (tt : Int) := by rw [show 19 - (digs c : Int) + (s : Int) = (tt : Int) by omega]; exact IntWalk.i64_in _ (by omega)
 have hw1 : IntKind.i64.wrap ((digs c : Int) - (s : Int)) = (digs c : Int) - (s : Int) := IntWalk.i64_in _ (by omega)
 have hw2 : IntKind.i64.wrap (19 - (m : Int)) = 19 - (m : Int) := IntWalk.i64_in _ (by omega)
 obtain ⟨A, hA⟩ : ∃ A, (digs c : Int) - (s : Int) = A := ⟨_, rfl⟩
 obtain ⟨B, hB⟩ : ∃ B, 19 - (m : Int) = B := ⟨_, rfl⟩
 have hgt : ¬ B < A := by omega
 replace hw1 : IntKind.i64.wrap ((digs c : Int) - (s : Int)) = A := by rw [hw1, hA]
 replace hw2 : IntKind.i64.wrap (19 - (m : Int)) = B := by rw [hw2, hB]
 clear hA hB
 have HC1 := hid hc1e
 have HMID := hid (fun w2 (h : Mid (w.alloc (.cells #[.bool false, .int .i8 0, .int .u64 0] 55)) w2 p bo (c : Int)) => mid_rsh (k := digs c - 19) h hc (by omega) (by omega))
 clear hpr hp he hlt hc1e h1 ha hb hte
 clear hc
 generalize digs c - 19 = d at *
 generalize digs c = D at *
 go_enter Tryz.func105, Tryz.ntmps105
 go_wp2_with (first | (go_at_call 127; refine HPR.out.mono ?_; intro e w1 h; obtain ⟨he1, hm1⟩ := h; subst he1; have HM1 := hid hm1; clear hm1) | (go_at_call 129; refine (HMID.out _ HM1.out).mono ?_; intro e w2 h; obtain ⟨he2, hm2⟩ := h; subst he2; rw [HC1.out] at hm2; have HM2 := hid hm2; clear hm2) | (go_at_call 111; refine (mid_hasPrec HM2.out hb19).mono ?_; intro e w3 h; obtain ⟨he3, hm3⟩ := h; subst he3; have hrc := HREC.out w3 hm3; have HRC := hid hrc; clear hm3 hrc) | (go_at_call 105; refine HRC.out.mono ?_; intro e w5 h; obtain ⟨nb, s8, c64, ev, he5, hcc, hfin⟩ := h; subst he5; obtain ⟨k0, k1, k2, f0, f1, f2⟩ := cell3 (HW.out w5 hcc); have HCC := hid hcc; have HFIN := hid hfin; clear hcc hfin))
 refine bodyPost_ret (v := .tuple #[.agg #[.bool nb, .int .i8 s8, .int .u64 c64], ev]) (dec_result rfl _ _ w.heap.size _ _ _ _ 55 rfl rfl (store3 (HW.out w5 HCC.out) _ _ _)) rfl (HFIN.out _ _ _ _ (HCHG.out _ HCC.out _ _ _))
theorem from19_two (E c s m : Nat) : from19 E 2 c s m = if 19 + s < digs c + m then none else if E ≤ (step19 c s m).1 then from19 E 1 (step19 c s m).1 (step19 c s m).2 m else some (step19 c s m) := by
 conv => lhs; unfold from19
theorem from19_one {E c s m k t : Nat} (h1 : ¬ 19 + s < digs c + m) (hst : step19 c s m = (k, t)) (hk : k < E) : from19 E 2 c s m = some (k, t) := by
 rw [from19_two, if_neg h1, hst, if_neg (by show ¬ E ≤ k; omega)]
theorem from19_again {E F c s m k t : Nat} (hE : Pow19 E F) (h1 : ¬ 19 + s < digs c + m) (hst : step19 c s m = (k, t)) (hk : k = E) (ht : t ≤ 19) (hm : m ≤ t) : from19 E 2 c s m = if t = m then none else some (F, t - 1) := by
 rw [from19_two, if_neg h1, hst, if_pos (by show E ≤ k; omega)]
 show from19 E 1 k t m = _
 rw [hk]
 exact from19_top hE (f := 0) ht hm
theorem newFromBint_any (neg : Bool) (p : Nat) (bo : Option Nat) (c s m : Nat) (w : World) (hp : IntAt w p bo (c : Int)) (he : EnvD w) (hc : digs c ≤ 80) (hs : s ≤ 57) (hm : m ≤ 19) :
  Calls Tryz.prog 105 #[.bool neg, .pointer (some ⟨p, 0, none⟩), .int .i64 s, .int .i64 m] w (PDecB w p bo neg (from19 (10 ^ 19) 2 c s m)) := by
 by_cases h1 : 19 + s < digs c + m
 ·rw [from19_two, if_pos h1]
  exact nfb_none neg p bo c s m w hp he hc hs hm h1
 ·by_cases ha : s < m
  ·have hlt := exact_lt pow19 (c := c) (s := s) (n := m) (by omega) (by omega)
   rw [from19_one (k := c * 10 ^ (m - s)) (t := m) h1 (by unfold step19; rw [if_pos ha]) hlt]
   exact nfb_lsh neg p bo c s m w hp he hc hs hm h1 ha hlt
  ·by_cases hb : digs c ≤ s ∧ 19 < s
   ·have hst : step19 c s m = (rhe c (10 ^ (s - 19)), 19) := by unfold step19; rw [if_neg ha, if_pos hb]
    have hle : rhe c (10 ^ (s - 19)) ≤ 10 ^ 19 := by
     have := rnd_le pow19 (c := c) (s := s) (n := 19) (by omega)
     rwa [rnd_cut (by omega)] at this
    by_cases hlt : rhe c (10 ^ (s - 19)) < 10 ^ 19
    ·rw [from19_one h1 hst hlt]
     exact nfb_rsh neg p bo c s m w hp he hc hs hm h1 ha hb hlt
    ·have heq : rhe c (10 ^ (s - 19)) = 10 ^ 19 := by omega
     rw [from19_again pow19 h1 hst heq (by omega) (by omega)]
     exact nfb_rsh2 neg p bo c s m w hp he hc hs hm h1 ha hb heq
   ·by_cases hd : s < digs c ∧ 19 < digs c
    ·have hst : step19 c s m = (rhe c (10 ^ (digs c - 19)), 19 + s - digs c) := by unfold step19; rw [if_neg ha, if_neg hb, if_pos hd]
     have hle : rhe c (10 ^ (digs c - 19)) ≤ 10 ^ 19 := by
      have := rnd_le pow19 (c := c) (s := s) (n := 19 + s - digs c) (by omega)
      rw [rnd_cut (by omega)] at this
      rwa [show s - (19 + s - digs c) = digs c - 19 by omega] at this
     by_cases hlt : rhe c (10 ^ (digs c - 19)) < 10 ^ 19
     ·rw [from19_one h1 hst hlt]
      exact nfb_cut neg p bo c s m w hp he hc hs hm h1 ha hd hlt
     ·have heq : rhe c (10 ^ (digs c - 19)) = 10 ^ 19 := by omega
      rw [from19_again pow19 h1 hst heq (by omega) (by omega)]
      exact nfb_cut2 neg p bo c s m w hp he hc hs hm h1 ha hd heq
    ·have hlt : c < 10 ^ 19 := digs_le.1 (by omega)
     rw [from19_one (k := c) (t := s) h1 (by unfold step19; rw [if_neg ha, if_neg hb, if_neg hd]) hlt]
     by_cases hds : digs c ≤ s
     ·exact nfb_exact1 neg p bo c s m w hp he hc hs hm h1 ha (by omega) (by omega) hds hlt
     ·exact nfb_exact2 neg p bo c s m w hp he hc hs hm h1 ha (by omega) (by omega) (by omega) hlt
theorem fromFint_from19 {c s m : Nat} (hc : c < 10 ^ 19) (hs : s ≤ 19) (hm : m ≤ 19) {k : Int} {t : Nat} (h : fromFint (c : Int) s m = some (k, t)) : ∃ k' : Nat, k = k' ∧ from19 (10 ^ 19) 2 c s m = some (k', t) := by
 have hd : digs c ≤ 19 := digs_le.2 hc
 unfold fromFint at h
 by_cases ha : s < m
 ·rw [if_pos ha] at h
  have e : (c : Int) * 10 ^ (m - s) = ((c * 10 ^ (m - s) : Nat) : Int) := by rw [Int.natCast_mul, pow_cast]
  rw [e] at h
  by_cases h2 : ((c * 10 ^ (m - s) : Nat) : Int) ≤ 9999999999999999999
  ·rw [if_pos h2] at h
   simp only [Option.some.injEq, Prod.mk.injEq] at h
   obtain ⟨rfl, rfl⟩ := h
   have hlt : c * 10 ^ (m - s) < 10 ^ 19 := by
    have : (10 : Nat) ^ 19 = 10000000000000000000 := by decide
    omega
   refine ⟨_, rfl, from19_one ?_ (by unfold step19; rw [if_pos ha]) hlt⟩
   intro h1
   have h3 := digs_lt.1 (show digs c - 1 < digs c by omega)
   have h4 : 10 ^ (digs c - 1) * 10 ^ (m - s) ≤ c * 10 ^ (m - s) := Nat.mul_le_mul_right _ h3
   rw [← Nat.pow_add] at h4
   have h5 : 10 ^ 19 ≤ 10 ^ (digs c - 1 + (m - s)) := pow_le' (by omega)
   omega
  ·rw [if_neg h2] at h; cases h
 ·rw [if_neg ha] at h
  simp only [Option.some.injEq, Prod.mk.injEq] at h
  obtain ⟨rfl, rfl⟩ := h
  exact ⟨c, rfl, from19_one (by omega) (by unfold step19; rw [if_neg ha, if_neg (by omega), if_neg (by omega)]) hc⟩
theorem wrap_i64_nat {s : Nat} (hs : s ≤ 19) : IntKind.i64.wrap (s : Int) = (s : Int) := IntWalk.i64_in _ (by omega)
theorem Scale_any (neg : Bool) (c : Int) (s : Nat) (hs : s ≤ 19) (w : World) :
  Calls Tryz.prog 66 #[.agg #[.bool neg, .int .i8 s, .int .u64 c]] w (fun e w' => e = .returned (.int .i64 s) ∧ Chg (fun _ => False) w w') := by
 have hw := wrap_i64_nat hs
 go_enter Tryz.func66, Tryz.ntmps66
 go_wp2_with fail
 go_ret
 exact ⟨rfl, (Chg.refl _ _).alloc _⟩
theorem IsNeg_any (neg : Bool) (c : Int) (s : Nat) (w : World) :
  Calls Tryz.prog 64 #[.agg #[.bool neg, .int .i8 s, .int .u64 c]] w (fun e w' => e = .returned (.bool neg) ∧ Chg (fun _ => False) w w') := by
 go_enter Tryz.func64, Tryz.ntmps64
 go_wp2_with fail
 go_ret
 exact ⟨rfl, (Chg.refl _ _).alloc _⟩
end Go.Proofs.YtbjhnckboimliaaGreatDoor
namespace Go.Proofs.YtbjhnckboimliaaGreatDoor
open Go.RowKit Go.Proofs.YtbjhnckboimliaaGreatDoorW.PrintWords Go.Proofs.YtbjhnckboimliaaGreatDoorW.PrintLast Go.Proofs.YtbjhnckboimliaaGreatDoorW.PrintMore PFnFixSubExact
set_option linter.unusedVariables false
set_option linter.unusedSimpArgs false
set_option maxRecDepth 20000
theorem whole_size : (Tryz.prog.info? 32).map (·.size) = some 2 := by kernel_rfl
theorem frac_size : (Tryz.prog.info? 34).map (·.size) = some 3 := by kernel_rfl
theorem sdec_size : (Tryz.prog.info? 64).map (·.size) = some 3 := by kernel_rfl
theorem store2 {w1 : World} {z : Nat} {x0 x1 : Value} {T : TypeId} (hh : w1.heap[z]? = some (.cells #[x0, x1] T (0, 0))) (a b : Value) :
  ((w1.setCell ⟨z, 0, none⟩ a).setCell ⟨z, 1, none⟩ b).heap[z]? = some (.cells #[a, b] T (0, 0)) := by
 simp [World.setCell, Array.getElem?_modify, hh]
theorem chg2 {w w1 : World} {z : Nat} (hc : Chg (fun _ => False) w w1) (hz : w.heap.size ≤ z) (a b : Value) : Chg (fun _ => False) w ((w1.setCell ⟨z, 0, none⟩ a).setCell ⟨z, 1, none⟩ b) :=
 Chg.setCell (p := ⟨z, 1, none⟩) (Chg.setCell (p := ⟨z, 0, none⟩) hc (fun h => by simp only at h; omega) a) (fun h => by simp only at h; omega) b
theorem cell2 {w1 : World} {z : Nat} {x0 x1 : Value} {T : TypeId} (hh : w1.heap[z]? = some (.cells #[x0, x1] T (0, 0))) :
  w1.cell? ⟨z, 0, none⟩ = some x0 ∧ w1.cell? ⟨z, 1, none⟩ = some x1 ∧ w1.frozen? ⟨z, 0, none⟩ = false ∧ w1.frozen? ⟨z, 1, none⟩ = false := by
 refine ⟨?_, ?_, ?_, ?_⟩ <;> simp [World.cell?, World.frozen?, hh]
theorem kept_heap {w w' : World} {k : Nat} {o : Obj} (h : Chg (fun _ => False) w w') (e : w.heap[k]? = some o) : w'.heap[k]? = some o :=
 (h.keep k (Array.getElem?_eq_some_iff.1 e).1 (fun h => h)).trans e
def PV (w : World) (v : Value) (e : Ending) (w' : World) : Prop := e = .returned v ∧ Chg (fun _ => False) w w'
theorem wholeOf_any (neg : Bool) (A : Option Addr) (n c : Nat) (b : Bool) (hb : (neg && n != 0) = b) (w : World) :
  Calls Tryz.prog 60 #[.bool neg, .slice A n c] w (PV w (.agg #[.bool b, .slice A n c])) := by
 subst hb
 cases neg with
 | false =>
  rw [Bool.false_and]
  go_enter Tryz.func60, Tryz.ntmps60
  go_wp2_with fail
  refine bodyPost_ret (v := .agg #[.bool false, .slice A n c]) (by rw [results_cell_row rfl _ _ w.heap.size _ _ _ _ rfl (show (w.alloc (.cells #[.bool false, .slice A n c] 32)).heap[w.heap.size]? = some (.cells #[.bool false, .slice A n c] 32 (0, 0)) from heap_alloc_new _ _) Tryz.underlying32 rfl whole_size]) rfl ⟨rfl, (Chg.refl _ _).alloc _⟩
 | true =>
  rw [Bool.true_and]
  obtain ⟨b, hb⟩ : ∃ b, (n != 0) = b := ⟨_, rfl⟩
  have hd : decide (0 < n) = b := by rw [← hb]; cases n <;> simp
  rw [hb]
  clear hb
  go_enter Tryz.func60, Tryz.ntmps60
  go_wp2_with fail
  refine bodyPost_ret (v := .agg #[.bool b, .slice A n c]) (by rw [results_cell_row rfl _ _ w.heap.size _ _ _ _ rfl (show (w.alloc (.cells #[.bool b, .slice A n c] 32)).heap[w.heap.size]? = some (.cells #[.bool b, .slice A n c] 32 (0, 0)) from heap_alloc_new _ _) Tryz.underlying32 rfl whole_size]) rfl ⟨rfl, (Chg.refl _ _).alloc _⟩
theorem WholeMinus_any (neg : Bool) (A : Option Addr) (n c : Nat) (b : Bool) (hb : (!neg && n != 0) = b) (w : World) :
  Calls Tryz.prog 68 #[.agg #[.bool neg, .slice A n c]] w (PV w (.agg #[.bool b, .slice A n c])) := by
 have HW := hid (fun w => wholeOf_any (!neg) A n c b hb w)
 clear hb
 have hz : ((w.alloc (.cells #[.bool neg, .slice A n c] 32)).alloc (.cells #[.bool false, .slice none 0 0] 32)).heap[w.heap.size + 1]? = some (.cells #[.bool false, .slice none 0 0] 32 (0, 0)) := heap_alloc2_new _ _ _
 have HZ := hid hz
 have HC := hid (((Chg.refl (fun _ => False) w).alloc (.cells #[.bool neg, .slice A n c] 32)).alloc (.cells #[.bool false, .slice none 0 0] 32))
 clear hz
 go_enter Tryz.func68, Tryz.ntmps68
 go_wp2_with (go_at_call 60; refine (HW.out _).mono ?_; intro e w1 h; obtain ⟨he1, hk⟩ := h; subst he1; have HK := hid hk; clear hk; obtain ⟨k0, k1, f0, f1⟩ := cell2 (kept_heap HK.out HZ.out))
 refine bodyPost_ret (v := .agg #[.bool b, .slice A n c]) (by rw [results_cell_row rfl _ _ (w.heap.size + 1) _ _ _ _ rfl (store2 (kept_heap HK.out HZ.out) _ _) Tryz.underlying32 rfl whole_size]) rfl ⟨rfl, chg2 (HC.out.trans HK.out sb_) (by omega) _ _⟩
theorem far_cell {w1 : World} {z y i j : Nat} {a : Value} (h : y ≠ z) : (w1.setCell ⟨z, j, none⟩ a).cell? ⟨y, i, none⟩ = w1.cell? ⟨y, i, none⟩ := by
 unfold World.cell?
 rw [Below.heap_setCell _ _ _ _ (by simpa using h)]
theorem SN.far {w w' : World} {A : Option Addr} {n c a z : Nat} {cs : Array Value} {T : TypeId} (h : SN w A n c a) (hz : w.heap[z]? = some (.cells cs T (0, 0))) (hcs : ∀ x, Value.int .u32 x ∉ cs) (hc : Chg (fun k => k = z) w w') : SN w' A n c a := by
 obtain ⟨xs, h1, h2, h3, h4⟩ := h
 refine ⟨xs, h1, h2, Kd.C_keep (0 : Int) h3 ⟨hc.size, fun i hi hne _ => hc.keep i hi hne⟩ ?_, h4⟩
 rintro ad rfl hn rfl
 obtain ⟨hl, _, hr⟩ := Kd.reads_of_C (d := (0 : Int)) h3
 obtain ⟨ad', e, hc'⟩ := hr hn
 cases e
 have := hc' 0 hn
 obtain ⟨bl, off, part⟩ := ad
 simp only [World.cell?, Addr.add, if_true] at this
 simp only [hz] at this
 split at this
 ·exact absurd this (by simp)
 ·exact hcs _ (Array.mem_of_getElem? this)
theorem sn_end2 {w : World} {A : Option Addr} {n c a z : Nat} {b0 : Bool} {x0 : Option Addr} {y0 z0 : Nat} {T : TypeId} (h : SN w A n c a) (hz : w.heap[z]? = some (.cells #[.bool b0, .slice x0 y0 z0] T (0, 0))) (u v : Value) :
  SN ((w.setCell ⟨z, 0, none⟩ u).setCell ⟨z, 1, none⟩ v) A n c a :=
 h.far hz (by simp) (Chg.setCell (p := ⟨z, 1, none⟩) (Chg.setCell (p := ⟨z, 0, none⟩) (Chg.refl (fun k => k = z) w) (fun _ => rfl) u) (fun _ => rfl) v)
theorem sn_end3 {w : World} {A : Option Addr} {n c a z : Nat} {b0 : Bool} {x0 : Option Addr} {y0 z0 : Nat} {r : Value} {T : TypeId} (h : SN w A n c a) (hz : w.heap[z]? = some (.cells #[.bool b0, .slice x0 y0 z0, r] T (0, 0))) (hr : ∀ x, Value.int .u32 x ≠ r) (u v t : Value) :
  SN (((w.setCell ⟨z, 0, none⟩ u).setCell ⟨z, 1, none⟩ v).setCell ⟨z, 2, none⟩ t) A n c a :=
 h.far hz (by simpa using hr) (Chg.setCell (p := ⟨z, 2, none⟩) (Chg.setCell (p := ⟨z, 1, none⟩) (Chg.setCell (p := ⟨z, 0, none⟩) (Chg.refl (fun k => k = z) w) (fun _ => rfl) u) (fun _ => rfl) v) (fun _ => rfl) t)
end Go.Proofs.YtbjhnckboimliaaGreatDoor
namespace Go.Proofs.YtbjhnckboimliaaGreatDoor
open Go.RowKit
set_option linter.unusedVariables false
set_option linter.unusedSimpArgs false
theorem alloc_old {W : World} {k : Nat} {o x : Obj} (h : W.heap[k]? = some o) : (W.alloc x).heap[k]? = some o := by
 rw [Below.heap_alloc _ _ _ (Array.getElem?_eq_some_iff.1 h).1]; exact h
theorem alloc_last {W : World} {k : Nat} {x : Obj} (h : W.heap.size = k) : (W.alloc x).heap[k]? = some x := by
 rw [← h]; exact heap_alloc_new _ _
theorem far3 {w1 : World} {b i z : Nat} {v x0 x1 x2 : Value} (h : w1.cell? ⟨b, i, none⟩ = some v) (hne : b ≠ z) : (((w1.setCell ⟨z, 0, none⟩ x0).setCell ⟨z, 1, none⟩ x1).setCell ⟨z, 2, none⟩ x2).cell? ⟨b, i, none⟩ = some v := by
 rw [far_cell hne, far_cell hne, far_cell hne]; exact h
theorem fr_ {w1 : World} {b i : Nat} {v : Value} (z : Nat) (x0 x1 x2 : Value) (h : w1.cell? ⟨b, i, none⟩ = some v) (hne : b ≠ z := by omega) : (((w1.setCell ⟨z, 0, none⟩ x0).setCell ⟨z, 1, none⟩ x1).setCell ⟨z, 2, none⟩ x2).cell? ⟨b, i, none⟩ = some v := far3 h hne
theorem far2 {w1 : World} {b i z : Nat} {v x0 x1 : Value} (h : w1.cell? ⟨b, i, none⟩ = some v) (hne : b ≠ z) : ((w1.setCell ⟨z, 0, none⟩ x0).setCell ⟨z, 1, none⟩ x1).cell? ⟨b, i, none⟩ = some v := by
 rw [far_cell hne, far_cell hne]; exact h
theorem box1 (w : World) (c0 : Array Value) (t0 : TypeId) : Hid (Chg (fun _ => False) w (w.alloc (.cells c0 t0))) ∧ Hid (Chg (fun _ => False) (w.alloc (.cells c0 t0)) (World.drew (w.alloc (.cells c0 t0)))) ∧ (w.alloc (.cells c0 t0)).heap[w.heap.size]? = some (.cells c0 t0 (0, 0)) := by
 refine ⟨((Chg.refl (fun _ => False) w).alloc _), (Chg.refl (fun _ => False) _).drew, ?_⟩
 ·exact alloc_last (by first | rfl | simp)
theorem box2 (w : World) (c0 : Array Value) (t0 : TypeId) (c1 : Array Value) (t1 : TypeId) : Hid (Chg (fun _ => False) w ((w.alloc (.cells c0 t0)).alloc (.cells c1 t1))) ∧ Hid (Chg (fun _ => False) ((w.alloc (.cells c0 t0)).alloc (.cells c1 t1)) (World.drew ((w.alloc (.cells c0 t0)).alloc (.cells c1 t1)))) ∧ ((w.alloc (.cells c0 t0)).alloc (.cells c1 t1)).heap[w.heap.size]? = some (.cells c0 t0 (0, 0)) ∧ ((w.alloc (.cells c0 t0)).alloc (.cells c1 t1)).heap[w.heap.size + 1]? = some (.cells c1 t1 (0, 0)) := by
 refine ⟨(((Chg.refl (fun _ => False) w).alloc _).alloc _), (Chg.refl (fun _ => False) _).drew, ?_, ?_⟩
 ·exact alloc_old (alloc_last (by first | rfl | simp))
 ·exact alloc_last (by first | rfl | simp)
theorem box3 (w : World) (c0 : Array Value) (t0 : TypeId) (c1 : Array Value) (t1 : TypeId) (c2 : Array Value) (t2 : TypeId) : Hid (Chg (fun _ => False) w (((w.alloc (.cells c0 t0)).alloc (.cells c1 t1)).alloc (.cells c2 t2))) ∧ Hid (Chg (fun _ => False) (((w.alloc (.cells c0 t0)).alloc (.cells c1 t1)).alloc (.cells c2 t2)) (World.drew (((w.alloc (.cells c0 t0)).alloc (.cells c1 t1)).alloc (.cells c2 t2)))) ∧ (((w.alloc (.cells c0 t0)).alloc (.cells c1 t1)).alloc (.cells c2 t2)).heap[w.heap.size]? = some (.cells c0 t0 (0, 0)) ∧ (((w.alloc (.cells c0 t0)).alloc (.cells c1 t1)).alloc (.cells c2 t2)).heap[w.heap.size + 1]? = some (.cells c1 t1 (0, 0)) ∧ (((w.alloc (.cells c0 t0)).alloc (.cells c1 t1)).alloc (.cells c2 t2)).heap[w.heap.size + 1 + 1]? = some (.cells c2 t2 (0, 0)) := by
 refine ⟨((((Chg.refl (fun _ => False) w).alloc _).alloc _).alloc _), (Chg.refl (fun _ => False) _).drew, ?_, ?_, ?_⟩
 ·exact alloc_old (alloc_old (alloc_last (by first | rfl | simp)))
 ·exact alloc_old (alloc_last (by first | rfl | simp))
 ·exact alloc_last (by first | rfl | simp)
end Go.Proofs.YtbjhnckboimliaaGreatDoor
namespace Go.Proofs.YtbjhnckboimliaaGreatDoor
open Go.RowKit
set_option linter.unusedVariables false
set_option linter.unusedSimpArgs false
set_option maxRecDepth 20000
def PWN (w : World) (sb : Bool) (a : Nat) (e : Ending) (w' : World) : Prop := ∃ (E : Option Addr) (k l : Nat), e = .returned (.agg #[.bool sb, .slice E k l]) ∧ SN w' E k l a ∧ Chg (fun _ => False) w w'
theorem sgn_len {w : World} {E : Option Addr} {k l a : Nat} (h : SN w E k l a) : (k != 0) = (a != 0) := by
 have := h.zero
 by_cases hk : k = 0
 ·have h2 := this.1 hk
  rw [hk, h2]
 ·have h2 : a ≠ 0 := fun h => hk (this.2 h)
  rw [bne_iff_ne.2 hk, bne_iff_ne.2 h2]
theorem wholeOf_sn {w : World} {E : Option Addr} {k l a : Nat} (s sb : Bool) (h : SN w E k l a) (hs : (s && a != 0) = sb) : Calls Tryz.prog 60 #[.bool s, .slice E k l] w (PV w (.agg #[.bool sb, .slice E k l])) :=
 wholeOf_any s E k l sb (by rw [sgn_len h]; exact hs) w
set_option maxHeartbeats 1000000 in
theorem WholeMul_any {w : World} {A B : Option Addr} {n c m d a b : Nat} (n1 n2 sb : Bool) (ha : SN w A n c a) (hb : SN w B m d b) (ha1 : a < tn 1797) (hb1 : b < tn 1797)  (hsb : ((n1 != n2) && a * b != 0) = sb) :
  Calls Tryz.prog 45 #[.agg #[.bool n1, .slice A n c], .agg #[.bool n2, .slice B m d]] w (PWN w sb (a * b)) := by
 have ha2 : a < tn 1800 := up_tn ha1 (by omega)
 have hb2 : b < tn 1800 := up_tn hb1 (by omega)
 have HM := hid (fun w1 (h : Chg (fun _ => False) w w1) => NatMul_any (ha.kept h) (hb.kept h) ha2 hb2)
 obtain ⟨p, hp⟩ : ∃ p, a * b = p := ⟨_, rfl⟩
 rw [hp] at HM hsb ⊢
 clear hp
 obtain ⟨s, hs⟩ : ∃ s, (!(n1 == n2)) = s := ⟨_, rfl⟩
 rw [show (n1 != n2) = s from hs] at hsb
 have HSB := hid hsb
 clear hsb ha hb ha1 hb1 ha2 hb2
 obtain ⟨HC0, HD, hB0, hB1, hB2⟩ := box3 w #[.bool n1, .slice A n c] 32 #[.bool n2, .slice B m d] 32 #[.bool false, .slice none 0 0] 32
 have HZ := hid hB2
 have HSS := hid (fun (w1 : World) h => And.intro ((cell2 (kept_heap (w' := w1) h hB0)).1) (And.intro ((cell2 (kept_heap (w' := w1) h hB0)).2.1) (And.intro ((cell2 (kept_heap (w' := w1) h hB1)).1) ((cell2 (kept_heap (w' := w1) h hB1)).2.1))))
 have HST := hid (fun w1 x0 x1 h => And.intro (far2 (z := w.heap.size + 1 + 1) (x0 := x0) (x1 := x1) (HSS.out w1 h).1 (by omega)) (And.intro (far2 (z := w.heap.size + 1 + 1) (x0 := x0) (x1 := x1) (HSS.out w1 h).2.1 (by omega)) (And.intro (far2 (z := w.heap.size + 1 + 1) (x0 := x0) (x1 := x1) (HSS.out w1 h).2.2.1 (by omega)) (far2 (z := w.heap.size + 1 + 1) (x0 := x0) (x1 := x1) (HSS.out w1 h).2.2.2 (by omega)))))
 clear hB0 hB1 hB2
 have hk := HD.out
 go_enter Tryz.func45, Tryz.ntmps45
 go_wp2_with fail
 first | (go_region_held3 (fun w' => w'.cell? ⟨w.heap.size, 0, none⟩ = some (.bool n1) ∧ w'.cell? ⟨w.heap.size, 1, none⟩ = some (.slice A n c) ∧ w'.cell? ⟨w.heap.size + 1, 0, none⟩ = some (.bool n2) ∧ w'.cell? ⟨w.heap.size + 1, 1, none⟩ = some (.slice B m d)) (first | with_reducible exact HSS.out _ hk | with_reducible exact HST.out _ _ _ hk | go_keep) (first | (go_at_call 47; refine (HM.out _ (HC0.out.trans hk sb_)).mono ?_; intro e w1 h; obtain ⟨E, k, l, he, hsn, hc⟩ := h; subst he; replace hk := hk.trans hc sb_; skip; have HSN := hid hsn; clear hsn; clear hc; obtain ⟨k0, k1, f0, f1⟩ := cell2 (kept_heap hk HZ.out)) | (go_at_call 60; refine (wholeOf_sn s sb HSN.out HSB.out).mono ?_; intro e w1 h; obtain ⟨he, hc⟩ := h; subst he; replace hk := hk.trans hc sb_; (try replace HSN := hid (HSN.out.kept hc)); clear hc; obtain ⟨k0, k1, f0, f1⟩ := cell2 (kept_heap hk HZ.out)))) | fail
 all_goals (go_wp2_with fail; refine bodyPost_ret (v := .agg #[.bool sb, .slice E k l]) (by rw [results_cell_row rfl _ _ (w.heap.size + 1 + 1) _ _ _ _ rfl (store2 (kept_heap hk HZ.out) _ _) Tryz.underlying32 rfl whole_size]) rfl ⟨E, k, l, rfl, sn_end2 HSN.out (kept_heap hk HZ.out) _ _, chg2 (HC0.out.trans hk sb_) (by omega) _ _⟩)
set_option maxHeartbeats 1000000 in
theorem WholeAdd_same {w : World} {A B : Option Addr} {n c m d a b : Nat} (n1 n2 sb : Bool) (ha : SN w A n c a) (hb : SN w B m d b) (ha1 : a < tn 1797) (hb1 : b < tn 1797) (hs : n1 = n2) (hsb : (n1 && (a + b) != 0) = sb) :
  Calls Tryz.prog 46 #[.agg #[.bool n1, .slice A n c], .agg #[.bool n2, .slice B m d]] w (PWN w sb ((a + b))) := by
 have ha2 : a < tn 1800 := up_tn ha1 (by omega)
 have hb2 : b < tn 1800 := up_tn hb1 (by omega)
 have HM := hid (fun w1 (h : Chg (fun _ => False) w w1) => NatAdd_any (ha.kept h) (hb.kept h) ha2 hb2)
 obtain ⟨p, hp⟩ : ∃ p, a + b = p := ⟨_, rfl⟩
 rw [hp] at HM hsb ⊢
 clear hp
 subst hs
 obtain ⟨s, hs⟩ : ∃ s, n1 = s := ⟨_, rfl⟩
 subst hs
 have HSB := hid hsb
 clear hsb ha hb ha1 hb1 ha2 hb2
 obtain ⟨HC0, HD, hB0, hB1, hB2⟩ := box3 w #[.bool n1, .slice A n c] 32 #[.bool n1, .slice B m d] 32 #[.bool false, .slice none 0 0] 32
 have HZ := hid hB2
 have HSS := hid (fun (w1 : World) h => And.intro ((cell2 (kept_heap (w' := w1) h hB0)).1) (And.intro ((cell2 (kept_heap (w' := w1) h hB0)).2.1) (And.intro ((cell2 (kept_heap (w' := w1) h hB1)).1) ((cell2 (kept_heap (w' := w1) h hB1)).2.1))))
 have HST := hid (fun w1 x0 x1 h => And.intro (far2 (z := w.heap.size + 1 + 1) (x0 := x0) (x1 := x1) (HSS.out w1 h).1 (by omega)) (And.intro (far2 (z := w.heap.size + 1 + 1) (x0 := x0) (x1 := x1) (HSS.out w1 h).2.1 (by omega)) (And.intro (far2 (z := w.heap.size + 1 + 1) (x0 := x0) (x1 := x1) (HSS.out w1 h).2.2.1 (by omega)) (far2 (z := w.heap.size + 1 + 1) (x0 := x0) (x1 := x1) (HSS.out w1 h).2.2.2 (by omega)))))
 clear hB0 hB1 hB2
 have hk := HD.out
 obtain ⟨d0, d1, d2, d3⟩ := HSS.out _ (Chg.refl _ _)
 go_enter Tryz.func46, Tryz.ntmps46
 go_wp2_with fail
 first | (go_region_held3 (fun w' => w'.cell? ⟨w.heap.size, 0, none⟩ = some (.bool n1) ∧ w'.cell? ⟨w.heap.size, 1, none⟩ = some (.slice A n c) ∧ w'.cell? ⟨w.heap.size + 1, 0, none⟩ = some (.bool n1) ∧ w'.cell? ⟨w.heap.size + 1, 1, none⟩ = some (.slice B m d)) (first | with_reducible exact HSS.out _ hk | with_reducible exact HST.out _ _ _ hk | go_keep) (first | (go_at_call 72; refine (HM.out _ (HC0.out.trans hk sb_)).mono ?_; intro e w1 h; obtain ⟨E, k, l, he, hsn, hc⟩ := h; subst he; replace hk := hk.trans hc sb_; skip; have HSN := hid hsn; clear hsn; clear hc; obtain ⟨k0, k1, f0, f1⟩ := cell2 (kept_heap hk HZ.out)) | (go_at_call 60; refine (wholeOf_sn n1 sb HSN.out HSB.out).mono ?_; intro e w1 h; obtain ⟨he, hc⟩ := h; subst he; replace hk := hk.trans hc sb_; (try replace HSN := hid (HSN.out.kept hc)); clear hc; obtain ⟨k0, k1, f0, f1⟩ := cell2 (kept_heap hk HZ.out)))) | fail
 all_goals (go_wp2_with fail; refine bodyPost_ret (v := .agg #[.bool sb, .slice E k l]) (by rw [results_cell_row rfl _ _ (w.heap.size + 1 + 1) _ _ _ _ rfl (store2 (kept_heap hk HZ.out) _ _) Tryz.underlying32 rfl whole_size]) rfl ⟨E, k, l, rfl, sn_end2 HSN.out (kept_heap hk HZ.out) _ _, chg2 (HC0.out.trans hk sb_) (by omega) _ _⟩)
set_option maxHeartbeats 1000000 in
theorem WholeAdd_ge {w : World} {A B : Option Addr} {n c m d a b : Nat} (n1 n2 sb : Bool) (ha : SN w A n c a) (hb : SN w B m d b) (ha1 : a < tn 1797) (hb1 : b < tn 1797) (hs : (n1 == n2) = false) (hle : b ≤ a) (hsb : (n1 && (a - b) != 0) = sb) :
  Calls Tryz.prog 46 #[.agg #[.bool n1, .slice A n c], .agg #[.bool n2, .slice B m d]] w (PWN w sb ((a - b))) := by
 have ha2 : a < tn 1800 := up_tn ha1 (by omega)
 have hb2 : b < tn 1800 := up_tn hb1 (by omega)
 have HM := hid (fun w1 (h : Chg (fun _ => False) w w1) => NatSub_any (ha.kept h) (hb.kept h) ha2 (by omega))
 have HCM := hid (fun w1 (h : Chg (fun _ => False) w w1) => NatCmp_any (ha.kept h) (hb.kept h) ha2 hb2)
 obtain ⟨p, hp⟩ : ∃ p, a - b = p := ⟨_, rfl⟩
 rw [hp] at HM hsb ⊢
 clear hp
 have hcm : (0 : Int) ≤ cmpN a b := by unfold cmpN; rw [if_neg (by omega)]; split <;> omega
 generalize cmpN a b = q at *
 have HSB := hid hsb
 clear hle hsb ha hb ha1 hb1 ha2 hb2
 obtain ⟨HC0, HD, hB0, hB1, hB2⟩ := box3 w #[.bool n1, .slice A n c] 32 #[.bool n2, .slice B m d] 32 #[.bool false, .slice none 0 0] 32
 have HZ := hid hB2
 have HSS := hid (fun (w1 : World) h => And.intro ((cell2 (kept_heap (w' := w1) h hB0)).1) (And.intro ((cell2 (kept_heap (w' := w1) h hB0)).2.1) (And.intro ((cell2 (kept_heap (w' := w1) h hB1)).1) ((cell2 (kept_heap (w' := w1) h hB1)).2.1))))
 have HST := hid (fun w1 x0 x1 h => And.intro (far2 (z := w.heap.size + 1 + 1) (x0 := x0) (x1 := x1) (HSS.out w1 h).1 (by omega)) (And.intro (far2 (z := w.heap.size + 1 + 1) (x0 := x0) (x1 := x1) (HSS.out w1 h).2.1 (by omega)) (And.intro (far2 (z := w.heap.size + 1 + 1) (x0 := x0) (x1 := x1) (HSS.out w1 h).2.2.1 (by omega)) (far2 (z := w.heap.size + 1 + 1) (x0 := x0) (x1 := x1) (HSS.out w1 h).2.2.2 (by omega)))))
 clear hB0 hB1 hB2
 have hk := HD.out
 obtain ⟨d0, d1, d2, d3⟩ := HSS.out _ (Chg.refl _ _)
 go_enter Tryz.func46, Tryz.ntmps46
 go_wp2_with (go_at_call 71; refine (HCM.out _ HC0.out).mono ?_; intro e w1 h; obtain ⟨he, hc⟩ := h; subst he; replace hk := hc; clear hc d0 d1 d2 d3; obtain ⟨d0, d1, d2, d3⟩ := HSS.out _ hk)
 have hk := hk.drew
 first | (go_region_held3 (fun w' => w'.cell? ⟨w.heap.size, 0, none⟩ = some (.bool n1) ∧ w'.cell? ⟨w.heap.size, 1, none⟩ = some (.slice A n c) ∧ w'.cell? ⟨w.heap.size + 1, 0, none⟩ = some (.bool n2) ∧ w'.cell? ⟨w.heap.size + 1, 1, none⟩ = some (.slice B m d)) (first | with_reducible exact HSS.out _ hk | with_reducible exact HST.out _ _ _ hk | go_keep) (first | (go_at_call 74; refine (HM.out _ (HC0.out.trans hk sb_)).mono ?_; intro e w1 h; obtain ⟨E, k, l, he, hsn, hc⟩ := h; subst he; replace hk := hk.trans hc sb_; skip; have HSN := hid hsn; clear hsn; clear hc; obtain ⟨k0, k1, f0, f1⟩ := cell2 (kept_heap hk HZ.out)) | (go_at_call 60; refine (wholeOf_sn n1 sb HSN.out HSB.out).mono ?_; intro e w1 h; obtain ⟨he, hc⟩ := h; subst he; replace hk := hk.trans hc sb_; (try replace HSN := hid (HSN.out.kept hc)); clear hc; obtain ⟨k0, k1, f0, f1⟩ := cell2 (kept_heap hk HZ.out)))) | fail
 all_goals (go_wp2_with fail; refine bodyPost_ret (v := .agg #[.bool sb, .slice E k l]) (by rw [results_cell_row rfl _ _ (w.heap.size + 1 + 1) _ _ _ _ rfl (store2 (kept_heap hk HZ.out) _ _) Tryz.underlying32 rfl whole_size]) rfl ⟨E, k, l, rfl, sn_end2 HSN.out (kept_heap hk HZ.out) _ _, chg2 (HC0.out.trans hk sb_) (by omega) _ _⟩)
set_option maxHeartbeats 1000000 in
theorem WholeAdd_lt {w : World} {A B : Option Addr} {n c m d a b : Nat} (n1 n2 sb : Bool) (ha : SN w A n c a) (hb : SN w B m d b) (ha1 : a < tn 1797) (hb1 : b < tn 1797) (hs : (n1 == n2) = false) (hle : a < b) (hsb : (n2 && (b - a) != 0) = sb) :
  Calls Tryz.prog 46 #[.agg #[.bool n1, .slice A n c], .agg #[.bool n2, .slice B m d]] w (PWN w sb ((b - a))) := by
 have ha2 : a < tn 1800 := up_tn ha1 (by omega)
 have hb2 : b < tn 1800 := up_tn hb1 (by omega)
 have HM := hid (fun w1 (h : Chg (fun _ => False) w w1) => NatSub_any (hb.kept h) (ha.kept h) hb2 (by omega))
 have HCM := hid (fun w1 (h : Chg (fun _ => False) w w1) => NatCmp_any (ha.kept h) (hb.kept h) ha2 hb2)
 obtain ⟨p, hp⟩ : ∃ p, b - a = p := ⟨_, rfl⟩
 rw [hp] at HM hsb ⊢
 clear hp
 have hcm : ¬ (0 : Int) ≤ cmpN a b := by unfold cmpN; rw [if_pos hle]; omega
 generalize cmpN a b = q at *
 have HSB := hid hsb
 clear hle hsb ha hb ha1 hb1 ha2 hb2
 obtain ⟨HC0, HD, hB0, hB1, hB2⟩ := box3 w #[.bool n1, .slice A n c] 32 #[.bool n2, .slice B m d] 32 #[.bool false, .slice none 0 0] 32
 have HZ := hid hB2
 have HSS := hid (fun (w1 : World) h => And.intro ((cell2 (kept_heap (w' := w1) h hB0)).1) (And.intro ((cell2 (kept_heap (w' := w1) h hB0)).2.1) (And.intro ((cell2 (kept_heap (w' := w1) h hB1)).1) ((cell2 (kept_heap (w' := w1) h hB1)).2.1))))
 have HST := hid (fun w1 x0 x1 h => And.intro (far2 (z := w.heap.size + 1 + 1) (x0 := x0) (x1 := x1) (HSS.out w1 h).1 (by omega)) (And.intro (far2 (z := w.heap.size + 1 + 1) (x0 := x0) (x1 := x1) (HSS.out w1 h).2.1 (by omega)) (And.intro (far2 (z := w.heap.size + 1 + 1) (x0 := x0) (x1 := x1) (HSS.out w1 h).2.2.1 (by omega)) (far2 (z := w.heap.size + 1 + 1) (x0 := x0) (x1 := x1) (HSS.out w1 h).2.2.2 (by omega)))))
 clear hB0 hB1 hB2
 have hk := HD.out
 obtain ⟨d0, d1, d2, d3⟩ := HSS.out _ (Chg.refl _ _)
 go_enter Tryz.func46, Tryz.ntmps46
 go_wp2_with (go_at_call 71; refine (HCM.out _ HC0.out).mono ?_; intro e w1 h; obtain ⟨he, hc⟩ := h; subst he; replace hk := hc; clear hc d0 d1 d2 d3; obtain ⟨d0, d1, d2, d3⟩ := HSS.out _ hk)
 have hk := hk.drew
 first | (go_region_held3 (fun w' => w'.cell? ⟨w.heap.size, 0, none⟩ = some (.bool n1) ∧ w'.cell? ⟨w.heap.size, 1, none⟩ = some (.slice A n c) ∧ w'.cell? ⟨w.heap.size + 1, 0, none⟩ = some (.bool n2) ∧ w'.cell? ⟨w.heap.size + 1, 1, none⟩ = some (.slice B m d)) (first | with_reducible exact HSS.out _ hk | with_reducible exact HST.out _ _ _ hk | go_keep) (first | (go_at_call 74; refine (HM.out _ (HC0.out.trans hk sb_)).mono ?_; intro e w1 h; obtain ⟨E, k, l, he, hsn, hc⟩ := h; subst he; replace hk := hk.trans hc sb_; skip; have HSN := hid hsn; clear hsn; clear hc; obtain ⟨k0, k1, f0, f1⟩ := cell2 (kept_heap hk HZ.out)) | (go_at_call 60; refine (wholeOf_sn n2 sb HSN.out HSB.out).mono ?_; intro e w1 h; obtain ⟨he, hc⟩ := h; subst he; replace hk := hk.trans hc sb_; (try replace HSN := hid (HSN.out.kept hc)); clear hc; obtain ⟨k0, k1, f0, f1⟩ := cell2 (kept_heap hk HZ.out)))) | fail
 all_goals (go_wp2_with fail; refine bodyPost_ret (v := .agg #[.bool sb, .slice E k l]) (by rw [results_cell_row rfl _ _ (w.heap.size + 1 + 1) _ _ _ _ rfl (store2 (kept_heap hk HZ.out) _ _) Tryz.underlying32 rfl whole_size]) rfl ⟨E, k, l, rfl, sn_end2 HSN.out (kept_heap hk HZ.out) _ _, chg2 (HC0.out.trans hk sb_) (by omega) _ _⟩)
end Go.Proofs.YtbjhnckboimliaaGreatDoor
namespace Go.Proofs.YtbjhnckboimliaaGreatDoor
open Go.RowKit
set_option linter.unusedVariables false
set_option linter.unusedSimpArgs false
def sumS (n1 : Bool) (a : Nat) (n2 : Bool) (b : Nat) : Bool × Nat := if n1 = n2 then (n1, a + b) else if a < b then (n2, b - a) else (n1, a - b)
theorem sumS_le (n1 : Bool) (a : Nat) (n2 : Bool) (b : Nat) : (sumS n1 a n2 b).2 ≤ a + b := by
 unfold sumS
 split
 ·exact Nat.le_refl _
 ·split <;> simp only <;> omega
theorem digs_mul {a j k : Nat} (ha : digs a ≤ k) : digs (a * 10 ^ j) ≤ k + j := by
 rw [digs_le] at *
 rw [Nat.pow_add]
 exact Nat.mul_lt_mul_of_pos_right ha (pow10_pos j)
def mxp (a b : Nat) : Nat := if a < b then b else a
def sumD (dn : Bool) (dc ds : Nat) (en : Bool) (ec es : Nat) : Bool × Nat := sumS dn (dc * 10 ^ (mxp ds es - ds)) en (ec * 10 ^ (mxp ds es - es))
theorem from19_bd {c s m k t : Nat} (hm : m ≤ 19) (h : from19 (10 ^ 19) 2 c s m = some (k, t)) : t ≤ 19 ∧ k < 10 ^ 19 ∧ m ≤ t := by
 have hr := from19_right pow19 0 c s m hm
 rw [h] at hr
 obtain ⟨h1, h2⟩ := hr
 cases hR : room (10 ^ 19) (rnd c s) 19 with
 | none => exact absurd (h1 hR) (by simp)
 | some R =>
  obtain ⟨h3, h4⟩ := h2 R hR
  by_cases hl : R < m
  ·exact absurd (h3 hl) (by simp)
  ·obtain ⟨k', t', e, a, b, c, _⟩ := h4 (by omega)
   simp only [Option.some.injEq, Prod.mk.injEq] at e
   obtain ⟨rfl, rfl⟩ := e
   exact ⟨b, c, a⟩
end Go.Proofs.YtbjhnckboimliaaGreatDoor
namespace Go.Proofs.YtbjhnckboimliaaGreatDoor
open Go.RowKit
set_option linter.unusedVariables false
set_option linter.unusedSimpArgs false
set_option maxRecDepth 20000
theorem WholeAdd_any {w : World} {A B : Option Addr} {n c m d a b : Nat} (n1 n2 sb : Bool) (ha : SN w A n c a) (hb : SN w B m d b) (ha1 : a < tn 1797) (hb1 : b < tn 1797) (hsb : ((sumS n1 a n2 b).1 && (sumS n1 a n2 b).2 != 0) = sb) :
  Calls Tryz.prog 46 #[.agg #[.bool n1, .slice A n c], .agg #[.bool n2, .slice B m d]] w (PWN w sb (sumS n1 a n2 b).2) := by
 unfold sumS at hsb ⊢
 by_cases hs : n1 = n2
 ·rw [if_pos hs] at hsb ⊢
  exact WholeAdd_same n1 n2 sb ha hb ha1 hb1 hs hsb
 ·rw [if_neg hs] at hsb ⊢
  have hs' : (n1 == n2) = false := by simpa using hs
  by_cases hlt : a < b
  ·rw [if_pos hlt] at hsb ⊢
   exact WholeAdd_lt n1 n2 sb ha hb ha1 hb1 hs' hlt hsb
  ·rw [if_neg hlt] at hsb ⊢
   exact WholeAdd_ge n1 n2 sb ha hb ha1 hb1 hs' (by omega) hsb
theorem cmpN_zero (a b : Nat) : cmpN a b = 0 ↔ a = b := by
 unfold cmpN
 by_cases h1 : a < b
 ·rw [if_pos h1]; omega
 ·rw [if_neg h1]
  by_cases h2 : a = b
  ·rw [if_pos h2]; simp [h2]
  ·rw [if_neg h2]; simp [h2]
def PCmp (w : World) (p : Prop) (e : Ending) (w' : World) : Prop := ∃ q : Int, e = .returned (.int .i64 q) ∧ (q = 0 ↔ p) ∧ Chg (fun _ => False) w w'
set_option maxHeartbeats 2000000 in
theorem WholeCmp_any {w : World} {A B : Option Addr} {n c m d a b : Nat} (n1 n2 : Bool) (ha : SN w A n c a) (hb : SN w B m d b) (ha1 : a < tn 1800) (hb1 : b < tn 1800) :
  Calls Tryz.prog 106 #[.agg #[.bool n1, .slice A n c], .agg #[.bool n2, .slice B m d]] w (PCmp w (n1 = n2 ∧ a = b)) := by
 have HCM := hid (fun w1 (h : Chg (fun _ => False) w w1) => NatCmp_any (ha.kept h) (hb.kept h) ha1 hb1)
 have HCN := hid (fun w1 (h : Chg (fun _ => False) w w1) => NatCmp_any (hb.kept h) (ha.kept h) hb1 ha1)
 have h1 := cmpN_zero a b
 have h2 : cmpN b a = 0 ↔ a = b := by rw [cmpN_zero]; exact eq_comm
 generalize cmpN a b = q1 at *
 generalize cmpN b a = q2 at *
 have H1 := hid h1
 have H2 := hid h2
 clear h1 h2 ha hb ha1 hb1
 obtain ⟨HC0, HD, hB0, hB1⟩ := box2 w #[.bool n1, .slice A n c] 32 #[.bool n2, .slice B m d] 32
 have HSS := hid (fun (w1 : World) h => And.intro ((cell2 (kept_heap (w' := w1) h hB0)).1) (And.intro ((cell2 (kept_heap (w' := w1) h hB0)).2.1) (And.intro ((cell2 (kept_heap (w' := w1) h hB1)).1) ((cell2 (kept_heap (w' := w1) h hB1)).2.1))))
 clear hB0 hB1
 obtain ⟨d0, d1, d2, d3⟩ := HSS.out _ (Chg.refl _ _)
 cases n1 <;> cases n2
 ·go_enter Tryz.func106, Tryz.ntmps106
  go_wp2_with (go_at_call 71; refine (HCM.out _ HC0.out).mono ?_; intro e w1 h; obtain ⟨he, hc⟩ := h; subst he)
  go_ret
  exact ⟨_, rfl, by rw [H1.out]; simp, HC0.out.trans hc sb_⟩
 ·go_enter Tryz.func106, Tryz.ntmps106
  go_wp2_with fail
  go_ret
  exact ⟨_, rfl, by simp, HC0.out⟩
 ·go_enter Tryz.func106, Tryz.ntmps106
  go_wp2_with fail
  go_ret
  exact ⟨_, rfl, by simp, HC0.out⟩
 ·go_enter Tryz.func106, Tryz.ntmps106
  go_wp2_with (go_at_call 71; refine (HCN.out _ HC0.out).mono ?_; intro e w1 h; obtain ⟨he, hc⟩ := h; subst he)
  go_ret
  exact ⟨_, rfl, by rw [H2.out]; simp, HC0.out.trans hc sb_⟩
def PFN (w : World) (sb : Bool) (a d : Nat) (e : Ending) (w' : World) : Prop := ∃ (E : Option Addr) (k l : Nat) (G : Option Addr) (i j : Nat), e = .returned (.agg #[.bool sb, .slice E k l, .slice G i j]) ∧ SN w' E k l a ∧ SN w' G i j d ∧ Chg (fun _ => False) w w'
theorem up243 {x k : Nat} (h : x < tn k) (hk : k ≤ 1800) : x < tn 1800 := up_tn h hk
theorem up240 {x k : Nat} (h : x < tn k) (hk : k ≤ 1797) : x < tn 1797 := up_tn h hk
theorem mul100 {x y i j : Nat} (hx : x < 10 ^ i) (hy : y < 10 ^ j) : x * y < 10 ^ (i + j) := by
 rw [Nat.pow_add]
 exact Nat.mul_lt_mul'' hx hy
set_option maxHeartbeats 4000000 in
theorem FracAdd_any {w : World} {A B D1 D2 : Option Addr} {n c m d p1 q1 p2 q2 a b x y : Nat} (n1 n2 sb : Bool) (ha : SN w A n c a) (hx : SN w D1 p1 q1 x) (hb : SN w B m d b) (hy : SN w D2 p2 q2 y)
  (ha1 : a < tn 850) (hb1 : b < tn 850) (hx1 : x < tn 850) (hy1 : y < tn 850) (hsb : ((sumS (n1 && a * y != 0) (a * y) (n2 && b * x != 0) (b * x)).1 && (sumS (n1 && a * y != 0) (a * y) (n2 && b * x != 0) (b * x)).2 != 0) = sb) :
  Calls Tryz.prog 19 #[.agg #[.bool n1, .slice A n c, .slice D1 p1 q1], .agg #[.bool n2, .slice B m d, .slice D2 p2 q2]] w (PFN w sb (sumS (n1 && a * y != 0) (a * y) (n2 && b * x != 0) (b * x)).2 (x * y)) := by
 have HM1 := hid (fun w1 s (hs : (n1 && a * y != 0) = s) (h : Chg (fun _ => False) w w1) => WholeMul_any n1 false s (ha.kept h) (hy.kept h) (up240 ha1 (by omega)) (up240 hy1 (by omega)) (by rw [← hs]; cases n1 <;> rfl))
 have HM2 := hid (fun w1 s (hs : (n2 && b * x != 0) = s) (h : Chg (fun _ => False) w w1) => WholeMul_any n2 false s (hb.kept h) (hx.kept h) (up240 hb1 (by omega)) (up240 hx1 (by omega)) (by rw [← hs]; cases n2 <;> rfl))
 have HM3 := hid (fun w1 (h : Chg (fun _ => False) w w1) => NatMul_any (hx.kept h) (hy.kept h) (up243 hx1 (by omega)) (up243 hy1 (by omega)))
 have hP : a * y < tn 1797 := up240 (mul_tn2 ha1 hy1) (by omega)
 have hQ : b * x < tn 1797 := up240 (mul_tn2 hb1 hx1) (by omega)
 obtain ⟨P, hPe⟩ : ∃ P, a * y = P := ⟨_, rfl⟩
 obtain ⟨Q, hQe⟩ : ∃ Q, b * x = Q := ⟨_, rfl⟩
 obtain ⟨R, hRe⟩ : ∃ R, x * y = R := ⟨_, rfl⟩
 rw [hPe] at HM1 hP
 rw [hQe] at HM2 hQ
 rw [hRe] at HM3
 rw [hPe, hQe] at hsb
 rw [hPe, hQe, hRe]
 obtain ⟨s1, hs1⟩ : ∃ s, (n1 && P != 0) = s := ⟨_, rfl⟩
 obtain ⟨s2, hs2⟩ : ∃ s, (n2 && Q != 0) = s := ⟨_, rfl⟩
 rw [hs1, hs2] at hsb
 rw [hs1, hs2]
 have HA := hid (fun (w1 : World) (E : Option Addr) (k l : Nat) (G : Option Addr) (i j : Nat) (h1 : SN w1 E k l P) (h2 : SN w1 G i j Q) => WholeAdd_any s1 s2 sb h1 h2 hP hQ hsb)
 have HS1 := hid hs1
 have HS2 := hid hs2
 generalize (sumS s1 P s2 Q).2 = Z at *
 clear ha hb hx hy ha1 hb1 hx1 hy1 hsb hs1 hs2 hP hQ hPe hQe hRe
 obtain ⟨HC0, HD, hB0, hB1, hB2⟩ := box3 w #[.bool n1, .slice A n c, .slice D1 p1 q1] 34 #[.bool n2, .slice B m d, .slice D2 p2 q2] 34 #[.bool false, .slice none 0 0, .slice none 0 0] 34
 have HZ := hid hB2
 have HSS := hid (fun (w1 : World) h => d3_ (cell3 (kept_heap (w' := w1) h hB0)) (c3_ (cell3 (kept_heap (w' := w1) h hB1))))
 have HST := hid (fun w1 x0 x1 x2 h => And.intro (fr_ (w.heap.size + 1 + 1) x0 x1 x2 (HSS.out w1 h).1) (And.intro (fr_ (w.heap.size + 1 + 1) x0 x1 x2 (HSS.out w1 h).2.1) (And.intro (fr_ (w.heap.size + 1 + 1) x0 x1 x2 (HSS.out w1 h).2.2.1) (And.intro (fr_ (w.heap.size + 1 + 1) x0 x1 x2 (HSS.out w1 h).2.2.2.1) (And.intro (fr_ (w.heap.size + 1 + 1) x0 x1 x2 (HSS.out w1 h).2.2.2.2.1) (fr_ (w.heap.size + 1 + 1) x0 x1 x2 (HSS.out w1 h).2.2.2.2.2))))))
 clear hB0 hB1 hB2
 have hk := HD.out
 go_enter Tryz.func19, Tryz.ntmps19
 go_wp2_with fail
 first | (go_region_held3 (fun w' => w'.cell? ⟨w.heap.size, 0, none⟩ = some (.bool n1) ∧ w'.cell? ⟨w.heap.size, 1, none⟩ = some (.slice A n c) ∧ w'.cell? ⟨w.heap.size, 2, none⟩ = some (.slice D1 p1 q1) ∧ w'.cell? ⟨w.heap.size + 1, 0, none⟩ = some (.bool n2) ∧ w'.cell? ⟨w.heap.size + 1, 1, none⟩ = some (.slice B m d) ∧ w'.cell? ⟨w.heap.size + 1, 2, none⟩ = some (.slice D2 p2 q2)) (first | with_reducible exact HSS.out _ hk | with_reducible exact HST.out _ _ _ _ hk | go_keep) (first | (go_at_call_of 45 (Value.agg #[Value.bool n1, Value.slice A n c]); refine (HM1.out _ s1 HS1.out (HC0.out.trans hk sb_)).mono ?_; intro e w1 h; obtain ⟨E1, k1_, l1_, he, hsn, hc⟩ := h; subst he; replace hk := hk.trans hc sb_; (try replace HN1 := hid (HN1.out.kept hc)); (try replace HN2 := hid (HN2.out.kept hc)); (try replace HN3 := hid (HN3.out.kept hc)); (try replace HN4 := hid (HN4.out.kept hc)); have HN1 := hid hsn; clear hsn; clear hc; obtain ⟨k0, k1, k2, f0, f1, f2⟩ := cell3 (kept_heap hk HZ.out)) | (go_at_call_of 45 (Value.agg #[Value.bool n2, Value.slice B m d]); refine (HM2.out _ s2 HS2.out (HC0.out.trans hk sb_)).mono ?_; intro e w1 h; obtain ⟨E2, k2_, l2_, he, hsn, hc⟩ := h; subst he; replace hk := hk.trans hc sb_; (try replace HN1 := hid (HN1.out.kept hc)); (try replace HN2 := hid (HN2.out.kept hc)); (try replace HN3 := hid (HN3.out.kept hc)); (try replace HN4 := hid (HN4.out.kept hc)); have HN2 := hid hsn; clear hsn; clear hc; obtain ⟨k0, k1, k2, f0, f1, f2⟩ := cell3 (kept_heap hk HZ.out)) | (go_at_call 47; refine (HM3.out _ (HC0.out.trans hk sb_)).mono ?_; intro e w1 h; obtain ⟨E3, k3_, l3_, he, hsn, hc⟩ := h; subst he; replace hk := hk.trans hc sb_; (try replace HN1 := hid (HN1.out.kept hc)); (try replace HN2 := hid (HN2.out.kept hc)); (try replace HN3 := hid (HN3.out.kept hc)); (try replace HN4 := hid (HN4.out.kept hc)); have HN3 := hid hsn; clear hsn; clear hc; obtain ⟨k0, k1, k2, f0, f1, f2⟩ := cell3 (kept_heap hk HZ.out)) | (go_at_call 46; refine (HA.out _ _ _ _ _ _ _ HN1.out HN2.out).mono ?_; intro e w1 h; obtain ⟨E4, k4_, l4_, he, hsn, hc⟩ := h; subst he; replace hk := hk.trans hc sb_; (try replace HN1 := hid (HN1.out.kept hc)); (try replace HN2 := hid (HN2.out.kept hc)); (try replace HN3 := hid (HN3.out.kept hc)); (try replace HN4 := hid (HN4.out.kept hc)); have HN4 := hid hsn; clear hsn; clear hc; obtain ⟨k0, k1, k2, f0, f1, f2⟩ := cell3 (kept_heap hk HZ.out)))) | fail
 all_goals (go_wp2_with fail; refine bodyPost_ret (v := .agg #[.bool sb, .slice E4 k4_ l4_, .slice E3 k3_ l3_]) (by rw [results_cell_row rfl _ _ (w.heap.size + 1 + 1) _ _ _ _ rfl (store3 (kept_heap hk HZ.out) _ _ _) Tryz.underlying34 rfl frac_size]) rfl ⟨E4, k4_, l4_, E3, k3_, l3_, rfl, sn_end3 HN4.out (kept_heap hk HZ.out) (by simp) _ _ _, sn_end3 HN3.out (kept_heap hk HZ.out) (by simp) _ _ _, chg3 (HC0.out.trans hk sb_) (by omega) _ _ _⟩)
set_option maxHeartbeats 2000000 in
theorem FracCmp_any {w : World} {A B D1 D2 : Option Addr} {n c m d p1 q1 p2 q2 a b x y : Nat} (n1 n2 : Bool) (ha : SN w A n c a) (hx : SN w D1 p1 q1 x) (hb : SN w B m d b) (hy : SN w D2 p2 q2 y)
  (ha1 : a < tn 850) (hb1 : b < tn 850) (hx1 : x < tn 850) (hy1 : y < tn 850) :
  Calls Tryz.prog 79 #[.agg #[.bool n1, .slice A n c, .slice D1 p1 q1], .agg #[.bool n2, .slice B m d, .slice D2 p2 q2]] w (PCmp w ((n1 && a * y != 0) = (n2 && b * x != 0) ∧ a * y = b * x)) := by
 have HM1 := hid (fun w1 s (hs : (n1 && a * y != 0) = s) (h : Chg (fun _ => False) w w1) => WholeMul_any n1 false s (ha.kept h) (hy.kept h) (up240 ha1 (by omega)) (up240 hy1 (by omega)) (by rw [← hs]; cases n1 <;> rfl))
 have HM2 := hid (fun w1 s (hs : (n2 && b * x != 0) = s) (h : Chg (fun _ => False) w w1) => WholeMul_any n2 false s (hb.kept h) (hx.kept h) (up240 hb1 (by omega)) (up240 hx1 (by omega)) (by rw [← hs]; cases n2 <;> rfl))
 have hP : a * y < tn 1800 := up243 (mul_tn2 ha1 hy1) (by omega)
 have hQ : b * x < tn 1800 := up243 (mul_tn2 hb1 hx1) (by omega)
 obtain ⟨P, hPe⟩ : ∃ P, a * y = P := ⟨_, rfl⟩
 obtain ⟨Q, hQe⟩ : ∃ Q, b * x = Q := ⟨_, rfl⟩
 rw [hPe] at HM1 hP
 rw [hQe] at HM2 hQ
 rw [hPe, hQe]
 obtain ⟨s1, hs1⟩ : ∃ s, (n1 && P != 0) = s := ⟨_, rfl⟩
 obtain ⟨s2, hs2⟩ : ∃ s, (n2 && Q != 0) = s := ⟨_, rfl⟩
 rw [hs1, hs2]
 have HA := hid (fun (w1 : World) (E : Option Addr) (k l : Nat) (G : Option Addr) (i j : Nat) (h1 : SN w1 E k l P) (h2 : SN w1 G i j Q) => WholeCmp_any s1 s2 h1 h2 hP hQ)
 have HS1 := hid hs1
 have HS2 := hid hs2
 generalize hpp : (s1 = s2 ∧ P = Q) = pp at *
 clear ha hb hx hy ha1 hb1 hx1 hy1 hs1 hs2 hP hQ hPe hQe hpp
 obtain ⟨HC0, HD, hB0, hB1⟩ := box2 w #[.bool n1, .slice A n c, .slice D1 p1 q1] 34 #[.bool n2, .slice B m d, .slice D2 p2 q2] 34
 have HSS := hid (fun (w1 : World) h => d3_ (cell3 (kept_heap (w' := w1) h hB0)) (c3_ (cell3 (kept_heap (w' := w1) h hB1))))
 clear hB0 hB1
 have hk := HD.out
 go_enter Tryz.func79, Tryz.ntmps79
 go_wp2_with fail
 first | (go_region_held3 (fun w' => w'.cell? ⟨w.heap.size, 0, none⟩ = some (.bool n1) ∧ w'.cell? ⟨w.heap.size, 1, none⟩ = some (.slice A n c) ∧ w'.cell? ⟨w.heap.size, 2, none⟩ = some (.slice D1 p1 q1) ∧ w'.cell? ⟨w.heap.size + 1, 0, none⟩ = some (.bool n2) ∧ w'.cell? ⟨w.heap.size + 1, 1, none⟩ = some (.slice B m d) ∧ w'.cell? ⟨w.heap.size + 1, 2, none⟩ = some (.slice D2 p2 q2)) (first | with_reducible exact HSS.out _ hk | go_keep) (first | (go_at_call_of 45 (Value.agg #[Value.bool n1, Value.slice A n c]); refine (HM1.out _ s1 HS1.out (HC0.out.trans hk sb_)).mono ?_; intro e w1 h; obtain ⟨E1, k1_, l1_, he, hsn, hc⟩ := h; subst he; replace hk := hk.trans hc sb_; (try replace HN1 := hid (HN1.out.kept hc)); (try replace HN2 := hid (HN2.out.kept hc)); have HN1 := hid hsn; clear hsn; clear hc) | (go_at_call_of 45 (Value.agg #[Value.bool n2, Value.slice B m d]); refine (HM2.out _ s2 HS2.out (HC0.out.trans hk sb_)).mono ?_; intro e w1 h; obtain ⟨E2, k2_, l2_, he, hsn, hc⟩ := h; subst he; replace hk := hk.trans hc sb_; (try replace HN1 := hid (HN1.out.kept hc)); (try replace HN2 := hid (HN2.out.kept hc)); have HN2 := hid hsn; clear hsn; clear hc) | (go_at_call 106; refine (HA.out _ _ _ _ _ _ _ HN1.out HN2.out).mono ?_; intro e w1 h; obtain ⟨q, he, hq, hc⟩ := h; subst he; replace hk := hk.trans hc sb_; skip; have HQ := hid hq; clear hq; clear hc))) | fail
 all_goals (go_wp2_with fail; go_ret; exact ⟨q, rfl, HQ.out, HC0.out.trans hk sb_⟩)
set_option maxHeartbeats 2000000 in
theorem DecFrac_neg {w : World} {A : Option Addr} {n c a : Nat} (n1 : Bool) (e0 : Int) (k : Nat) (ha : SN w A n c a) (hk1 : k ≤ 200) (hneg : e0 < 0) (hw : IntKind.i64.wrap (-e0) = (k : Int)) :
  Calls Tryz.prog 36 #[.agg #[.bool n1, .slice A n c, .int .i64 e0]] w (PFN w n1 a (10 ^ k)) := by
 have HP := hid (fun w1 => Pow10_any (w := w1) k (by omega))
 generalize 10 ^ k = T at *
 have hge : ¬ 0 ≤ e0 := by omega
 have HN1 := hid (fun w1 (h : Chg (fun _ => False) w w1) => ha.kept h)
 clear ha hneg
 obtain ⟨HC0, HD, hB0, hB1⟩ := box2 w #[.bool n1, .slice A n c, .int .i64 e0] 64 #[.bool false, .slice none 0 0, .slice none 0 0] 34
 have HZ := hid hB1
 have HSS := hid (fun (w1 : World) h => c3_ (cell3 (kept_heap (w' := w1) h hB0)))
 have HST := hid (fun w1 x0 x1 x2 h => And.intro (fr_ (w.heap.size + 1) x0 x1 x2 (HSS.out w1 h).1) (And.intro (fr_ (w.heap.size + 1) x0 x1 x2 (HSS.out w1 h).2.1) (fr_ (w.heap.size + 1) x0 x1 x2 (HSS.out w1 h).2.2)))
 clear hB0 hB1
 have hk := HD.out
 obtain ⟨d0, d1, d2⟩ := HSS.out _ (Chg.refl _ _)
 go_enter Tryz.func36, Tryz.ntmps36
 go_wp2_with fail
 first | (go_region_held3 (fun w' => w'.cell? ⟨w.heap.size, 0, none⟩ = some (.bool n1) ∧ w'.cell? ⟨w.heap.size, 1, none⟩ = some (.slice A n c) ∧ w'.cell? ⟨w.heap.size, 2, none⟩ = some (.int .i64 e0)) (first | with_reducible exact HSS.out _ hk | with_reducible exact HST.out _ _ _ _ hk | go_keep) (first | (go_at_call 67; refine (HP.out _).mono ?_; intro e w1 h; obtain ⟨E3, k3_, l3_, he, hsn, hc⟩ := h; subst he; replace hk := hk.trans hc sb_; skip; have HN3 := hid hsn; clear hsn; clear hc; obtain ⟨k0, k1, k2, f0, f1, f2⟩ := cell3 (kept_heap hk HZ.out)))) | fail
 all_goals (go_wp2_with fail; refine bodyPost_ret (v := .agg #[.bool n1, .slice A n c, .slice E3 k3_ l3_]) (by rw [results_cell_row rfl _ _ (w.heap.size + 1) _ _ _ _ rfl (store3 (kept_heap hk HZ.out) _ _ _) Tryz.underlying34 rfl frac_size]) rfl ⟨A, n, c, E3, k3_, l3_, rfl, sn_end3 (HN1.out _ (HC0.out.trans hk sb_)) (kept_heap hk HZ.out) (by simp) _ _ _, sn_end3 HN3.out (kept_heap hk HZ.out) (by simp) _ _ _, chg3 (HC0.out.trans hk sb_) (by omega) _ _ _⟩)
set_option maxHeartbeats 2000000 in
theorem DecFrac_zero {w : World} {A : Option Addr} {n c a : Nat} (n1 : Bool) (ha : SN w A n c a) (ha1 : a < tn 1797) (hn : (n1 && a != 0) = n1) :
  Calls Tryz.prog 36 #[.agg #[.bool n1, .slice A n c, .int .i64 0]] w (PFN w n1 a 1) := by
 have HP := hid (fun w1 => (Pow10_any (w := w1) 0 (by omega)))
 have HO := hid (fun w1 => (one_any (w := w1)))
 have HM := hid (fun w1 (E : Option Addr) (k l : Nat) (h : Chg (fun _ => False) w w1) (h1 : SN w1 E k l (10 ^ 0)) => NatMul_any (ha.kept h) h1 (up243 ha1 (by omega)) (pow_tn (by omega)))
 rw [Nat.pow_zero, Nat.mul_one] at HM
 rw [Nat.pow_zero] at HP
 have HH := hid hn
 clear ha hn ha1
 obtain ⟨HC0, HD, hB0, hB1⟩ := box2 w #[.bool n1, .slice A n c, .int .i64 0] 64 #[.bool false, .slice none 0 0, .slice none 0 0] 34
 have HZ := hid hB1
 have HSS := hid (fun (w1 : World) h => c3_ (cell3 (kept_heap (w' := w1) h hB0)))
 have HST := hid (fun w1 x0 x1 x2 h => And.intro (fr_ (w.heap.size + 1) x0 x1 x2 (HSS.out w1 h).1) (And.intro (fr_ (w.heap.size + 1) x0 x1 x2 (HSS.out w1 h).2.1) (fr_ (w.heap.size + 1) x0 x1 x2 (HSS.out w1 h).2.2)))
 clear hB0 hB1
 have hk := HD.out
 obtain ⟨d0, d1, d2⟩ := HSS.out _ (Chg.refl _ _)
 go_enter Tryz.func36, Tryz.ntmps36
 go_wp2_with fail
 first | (go_region_held3 (fun w' => w'.cell? ⟨w.heap.size, 0, none⟩ = some (.bool n1) ∧ w'.cell? ⟨w.heap.size, 1, none⟩ = some (.slice A n c) ∧ w'.cell? ⟨w.heap.size, 2, none⟩ = some (.int .i64 0)) (first | with_reducible exact HSS.out _ hk | with_reducible exact HST.out _ _ _ _ hk | go_keep) (first | (go_at_call 67; refine (HP.out _).mono ?_; intro e w1 h; obtain ⟨E1, k1_, l1_, he, hsn, hc⟩ := h; subst he; replace hk := hk.trans hc sb_; (try replace HN1 := hid (HN1.out.kept hc)); (try replace HN2 := hid (HN2.out.kept hc)); (try replace HN3 := hid (HN3.out.kept hc)); have HN1 := hid hsn; clear hsn; clear hc; obtain ⟨k0, k1, k2, f0, f1, f2⟩ := cell3 (kept_heap hk HZ.out)) | (go_at_call 47; refine (HM.out _ _ _ _ (HC0.out.trans hk sb_) HN1.out).mono ?_; intro e w1 h; obtain ⟨E2, k2_, l2_, he, hsn, hc⟩ := h; subst he; replace hk := hk.trans hc sb_; (try replace HN1 := hid (HN1.out.kept hc)); (try replace HN2 := hid (HN2.out.kept hc)); (try replace HN3 := hid (HN3.out.kept hc)); have HN2 := hid hsn; clear hsn; clear hc; obtain ⟨k0, k1, k2, f0, f1, f2⟩ := cell3 (kept_heap hk HZ.out)) | (go_at_call 60; refine (wholeOf_sn n1 n1 HN2.out HH.out).mono ?_; intro e w1 h; obtain ⟨he, hc⟩ := h; subst he; replace hk := hk.trans hc sb_; (try replace HN1 := hid (HN1.out.kept hc)); (try replace HN2 := hid (HN2.out.kept hc)); (try replace HN3 := hid (HN3.out.kept hc)); skip; clear hc; obtain ⟨k0, k1, k2, f0, f1, f2⟩ := cell3 (kept_heap hk HZ.out)) | (go_at_call 54; refine (HO.out _).mono ?_; intro e w1 h; obtain ⟨E3, k3_, l3_, he, hsn, hc⟩ := h; subst he; replace hk := hk.trans hc sb_; (try replace HN1 := hid (HN1.out.kept hc)); (try replace HN2 := hid (HN2.out.kept hc)); (try replace HN3 := hid (HN3.out.kept hc)); have HN3 := hid hsn; clear hsn; clear hc; obtain ⟨k0, k1, k2, f0, f1, f2⟩ := cell3 (kept_heap hk HZ.out)))) | fail
 all_goals (go_wp2_with fail; refine bodyPost_ret (v := .agg #[.bool n1, .slice E2 k2_ l2_, .slice E3 k3_ l3_]) (by rw [results_cell_row rfl _ _ (w.heap.size + 1) _ _ _ _ rfl (store3 (kept_heap hk HZ.out) _ _ _) Tryz.underlying34 rfl frac_size]) rfl ⟨E2, k2_, l2_, E3, k3_, l3_, rfl, sn_end3 HN2.out (kept_heap hk HZ.out) (by simp) _ _ _, sn_end3 HN3.out (kept_heap hk HZ.out) (by simp) _ _ _, chg3 (HC0.out.trans hk sb_) (by omega) _ _ _⟩)
def PDN (w : World) (sb : Bool) (a : Nat) (e0 : Int) (e : Ending) (w' : World) : Prop := ∃ (E : Option Addr) (k l : Nat), e = .returned (.agg #[.bool sb, .slice E k l, .int .i64 e0]) ∧ SN w' E k l a ∧ Chg (fun _ => False) w w'
set_option maxHeartbeats 2000000 in
theorem FixDec_any {w : World} (n1 sb : Bool) (a : Nat) (s0 e0 : Int) (ha : (a : Int) < 18446744073709551616) (hsb : (n1 && a != 0) = sb) (hw : IntKind.i64.wrap (-s0) = e0) :
  Calls Tryz.prog 35 #[.agg #[.bool n1, .int .u64 (a : Int), .int .i64 s0]] w (PDN w sb a e0) := by
 have HP := hid (fun w1 => (NatFrom_any (w := w1) a ha))
 obtain ⟨v, hv⟩ : ∃ v : Int, (a : Int) = v := ⟨_, rfl⟩
 rw [hv] at HP ⊢
 have HH := hid hsb
 clear ha hv hsb
 obtain ⟨HC0, HD, hB0, hB1⟩ := box2 w #[.bool n1, .int .u64 v, .int .i64 s0] 24 #[.bool false, .slice none 0 0, .int .i64 0] 64
 have HZ := hid hB1
 have HSS := hid (fun (w1 : World) h => c3_ (cell3 (kept_heap (w' := w1) h hB0)))
 have HST := hid (fun w1 x0 x1 x2 h => And.intro (fr_ (w.heap.size + 1) x0 x1 x2 (HSS.out w1 h).1) (And.intro (fr_ (w.heap.size + 1) x0 x1 x2 (HSS.out w1 h).2.1) (fr_ (w.heap.size + 1) x0 x1 x2 (HSS.out w1 h).2.2)))
 clear hB0 hB1
 have hk := HD.out
 go_enter Tryz.func35, Tryz.ntmps35
 go_wp2_with fail
 first | (go_region_held3 (fun w' => w'.cell? ⟨w.heap.size, 0, none⟩ = some (.bool n1) ∧ w'.cell? ⟨w.heap.size, 1, none⟩ = some (.int .u64 v) ∧ w'.cell? ⟨w.heap.size, 2, none⟩ = some (.int .i64 s0)) (first | with_reducible exact HSS.out _ hk | with_reducible exact HST.out _ _ _ _ hk | go_keep) (first | (go_at_call 25; refine (HP.out _).mono ?_; intro e w1 h; obtain ⟨E1, k1_, l1_, he, hsn, hc⟩ := h; subst he; replace hk := hk.trans hc sb_; (try replace HN1 := hid (HN1.out.kept hc)); have HN1 := hid hsn; clear hsn; clear hc; obtain ⟨k0, k1, k2, f0, f1, f2⟩ := cell3 (kept_heap hk HZ.out)) | (go_at_call 60; refine (wholeOf_sn n1 sb HN1.out HH.out).mono ?_; intro e w1 h; obtain ⟨he, hc⟩ := h; subst he; replace hk := hk.trans hc sb_; (try replace HN1 := hid (HN1.out.kept hc)); skip; clear hc; obtain ⟨k0, k1, k2, f0, f1, f2⟩ := cell3 (kept_heap hk HZ.out)))) | fail
 all_goals (go_wp2_with fail; refine bodyPost_ret (v := .agg #[.bool sb, .slice E1 k1_ l1_, .int .i64 e0]) (by rw [results_cell_row rfl _ _ (w.heap.size + 1) _ _ _ _ rfl (store3 (kept_heap hk HZ.out) _ _ _) Tryz.underlying64 rfl sdec_size]) rfl ⟨E1, k1_, l1_, rfl, sn_end3 HN1.out (kept_heap hk HZ.out) (by simp) _ _ _, chg3 (HC0.out.trans hk sb_) (by omega) _ _ _⟩)
end Go.Proofs.YtbjhnckboimliaaGreatDoor
