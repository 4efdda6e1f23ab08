/- Part 8 of the rest of the proof. -/
import Derived.Test.YtbjhnckboimliaaGreatDoorProg
import Derived.Below
import Derived.Deep.Draws
import Derived.Deep.AppendLies
import Derived.Maps.AppendAt
import Derived.OwnWalk
import Derived.Laws.BytesArg
import Derived.Laws.MakeOwn
import Derived.Laws.OwnMore
import Derived.Deep.OwnRows
import Derived.Tactics
import Derived.Lib.ConvBytes
import Derived.Laws.Slices
import Derived.WalkKit
import Derived.KernelRfl
import Derived.RowKit3
import Derived.Deep.LoopGhost
import Derived.Deep.QuietTactic
import Derived.BigQuiet
import Derived.WideLaws
import Derived.Deep.DeepCutAuto
import Derived.Deep.CutBlock
import Derived.Deep.RegionHeld3
import Derived.Laws.Rows
import Derived.Lib.AppendStr
import Derived.ArgAppend
import Derived.Laws.IdiomCopy
import Derived.OrdersHeld
import Derived.Laws.BitsLemmas
import Derived.RowKit
import Derived.Laws.StructEq
import Derived.Lib.Mul64
import Derived.LaidEqlPtr
import Derived.RegionTactic
import Derived.BigRegion
import Derived.StillTailTactics
import Derived.Deep.RegionWith
import Derived.Shelf.Small.Bits
import Derived.Shelf.Strconv.Itoa0
import Derived.Shelf.Bits.Mul64
import Derived.Lib.AppendZeros
import Derived.Laws.AppendOwn
import Derived.Deep.CutRange
import Derived.Lib.MinMax
import Derived.Recover
import Derived.Test.YtbjhnckboimliaaGreatDoorQ
import Derived.Test.YtbjhnckboimliaaGreatDoorQ00
import Derived.Test.YtbjhnckboimliaaGreatDoorQ01
import Derived.Test.YtbjhnckboimliaaGreatDoorQ02
import Derived.Test.YtbjhnckboimliaaGreatDoorQ03
import Derived.Test.YtbjhnckboimliaaGreatDoorQ04
import Derived.Test.YtbjhnckboimliaaGreatDoorQ05
import Derived.Test.YtbjhnckboimliaaGreatDoorQ06
import Derived.Test.YtbjhnckboimliaaGreatDoorQ07
import Derived.Test.YtbjhnckboimliaaGreatDoorQ08
import Derived.Test.YtbjhnckboimliaaGreatDoorQ09
import Derived.Test.YtbjhnckboimliaaGreatDoorQ10
import Derived.Test.YtbjhnckboimliaaGreatDoorQ11
import Derived.Test.YtbjhnckboimliaaGreatDoorQ12
import Derived.Test.YtbjhnckboimliaaGreatDoorQ13
import Derived.Test.YtbjhnckboimliaaGreatDoorQ14
import Derived.Test.YtbjhnckboimliaaGreatDoorQ15
import Derived.Test.YtbjhnckboimliaaGreatDoorQ16
import Derived.Test.YtbjhnckboimliaaGreatDoorQ17
import Derived.Test.YtbjhnckboimliaaGreatDoorQ18
import Derived.Test.YtbjhnckboimliaaGreatDoorQ19
import Derived.Test.YtbjhnckboimliaaGreatDoorQ20
import Derived.Test.YtbjhnckboimliaaGreatDoorQ21
import Derived.Test.YtbjhnckboimliaaGreatDoorQ23
import Derived.Test.YtbjhnckboimliaaGreatDoorR00
import Derived.Test.YtbjhnckboimliaaGreatDoorR05
import Derived.Test.YtbjhnckboimliaaGreatDoorR06
import Derived.Test.YtbjhnckboimliaaGreatDoorR07
namespace Go.Proofs.YtbjhnckboimliaaGreatDoor
open Go.RowKit
set_option linter.unusedVariables false
set_option linter.unusedSimpArgs false
theorem good_one {f : DT} (h : DTok f) : Good (sumQ [f]).1 (sumQ [f]).2.1 (sumQ [f]).2.2 0 f.1 (some (f.2.1, f.2.2)) := by
 have := good_sum [f]
 rw [sumL_one h, from19_keep h.1 (Nat.zero_le _) h.2.1] at this
 exact this
theorem good_mean {l : List DT} {N : Nat} (h : ∀ f ∈ l, DTok f) (hl : l.length ≤ 40) (hN : 0 < N) (hN1 : N < 10 ^ 19) (n1 : Bool) (hn1 : n1 = ((sumQ l).1 && (sumQ l).2.1 != 0)) :
  Good n1 (sumQ l).2.1 ((sumQ l).2.2 * N) 0 (sumL l).1 (from19 (10 ^ 19) 2 ((sumL l).2.1 * 10 ^ (41 - (sumL l).2.2) / N) 41 0) := by
 obtain ⟨b1, b2⟩ := sumL_ok h hl
 obtain ⟨t, h1, h2, h3⟩ := rq_sum l
 generalize sumL l = c at *
 obtain ⟨n, C, S⟩ := c
 simp only at *
 refine ⟨_, 41, fun k hk => ?_, ?_, TrimOf.same (by omega)⟩
 ·have e41 : (10 : Nat) ^ 41 = 10 ^ (41 - S) * 10 ^ S := by rw [← Nat.pow_add]; congr 1; omega
  have hd := Nat.div_add_mod (C * 10 ^ (41 - S)) N
  have hm := Nat.mod_lt (C * 10 ^ (41 - S)) hN
  generalize C * 10 ^ (41 - S) / N = Q at *
  have e2 : C * 10 ^ 41 = C * 10 ^ (41 - S) * 10 ^ S := by rw [e41, Nat.mul_assoc]
  have hp := pow10_pos S
  have hlo : Q * (10 ^ S * N) ≤ C * 10 ^ 41 := by
   rw [e2, show Q * (10 ^ S * N) = N * Q * 10 ^ S by ac_rfl]
   exact Nat.mul_le_mul_right _ (by omega)
  have hhi : C * 10 ^ 41 < Q * (10 ^ S * N) + 10 ^ S * N := by
   rw [e2, show Q * (10 ^ S * N) + 10 ^ S * N = (N * Q + N) * 10 ^ S by rw [Nat.add_mul, Nat.mul_comm (10 ^ S) N, ← Nat.mul_assoc, Nat.mul_comm Q N]]
   exact Nat.mul_lt_mul_of_pos_right (by omega) hp
  rw [← near_rnd hN hN1 b1 hk hhi (by have := Nat.mul_pos hp hN; omega), h2, h1]
  unfold atP
  rw [show C * 10 ^ t * 10 ^ k = C * 10 ^ k * 10 ^ t by ac_rfl, show 10 ^ S * 10 ^ t * N = 10 ^ S * N * 10 ^ t by ac_rfl]
  exact rhe_scale (Nat.mul_pos hp hN) (pow10_pos _)
 ·by_cases hz : C = 0
  ·subst hz; right; simp
  ·left
   have hp := pow10_pos t
   rw [hn1, h3, h2, bne_iff_ne.2 hz, bne_iff_ne.2 (Nat.mul_ne_zero hz (by omega))]
   simp
theorem good_meanF {l : List DT} {N Q sh : Nat} (h : ∀ f ∈ l, DTok f) (hl : l.length ≤ 40) (hN : 0 < N) (n1 : Bool) (hn1 : n1 = ((sumQ l).1 && (sumQ l).2.1 != 0)) (hQ : Q * N = (sumL l).2.1 * 10 ^ sh) :
  Good n1 (sumQ l).2.1 ((sumQ l).2.2 * N) 0 (sumL l).1 (from19 (10 ^ 19) 2 Q ((sumL l).2.2 + sh) 0) := by
 obtain ⟨t, h1, h2, h3⟩ := rq_sum l
 generalize sumL l = c at *
 obtain ⟨n, C, S⟩ := c
 simp only at *
 refine ⟨_, _, fun k hk => ?_, ?_, TrimOf.same (by omega)⟩
 ·rw [h1, h2]
  unfold atP rnd
  refine rhe_cross (Nat.mul_pos (Nat.mul_pos (pow10_pos _) (pow10_pos _)) hN) (pow10_pos _) ?_
  rw [Nat.pow_add]
  calc C * 10 ^ t * 10 ^ k * (10 ^ S * 10 ^ sh) = C * 10 ^ sh * (10 ^ t * 10 ^ k * 10 ^ S) := by ac_rfl
   _ = Q * 10 ^ k * (10 ^ S * 10 ^ t * N) := by rw [← hQ]; ac_rfl
 ·by_cases hz : C = 0
  ·subst hz
   right
   rw [Nat.zero_mul] at hQ
   rcases Nat.mul_eq_zero.1 hQ with h | h
   ·exact h
   ·omega
  ·left
   have hp := pow10_pos t
   rw [hn1, h3, h2, bne_iff_ne.2 hz, bne_iff_ne.2 (Nat.mul_ne_zero hz (by omega))]
   simp
end Go.Proofs.YtbjhnckboimliaaGreatDoor
namespace Go.Proofs.YtbjhnckboimliaaGreatDoor
open Go.RowKit
set_option linter.unusedVariables false
set_option linter.unusedSimpArgs false
set_option maxRecDepth 20000
theorem dvd_less {x a b : Nat} (hab : a ≤ b) (h : x % 10 ^ b = 0) : x % 10 ^ a = 0 :=
 Nat.mod_eq_zero_of_dvd (Nat.dvd_trans (Nat.pow_dvd_pow 10 hab) (Nat.dvd_of_mod_eq_zero h))
theorem IsZero_any (neg : Bool) (c : Int) (s : Nat) (w : World) :
  Calls Tryz.prog 137 #[.agg #[.bool neg, .int .i8 s, .int .u64 c]] w (fun e w' => e = .returned (.bool (c == 0)) ∧ Chg (fun _ => False) w w') := by
 obtain ⟨b, hb⟩ : ∃ b, (c == 0) = b := ⟨_, rfl⟩
 rw [hb]
 go_enter Tryz.func137, Tryz.ntmps137
 go_wp2_with fail
 go_ret
 exact ⟨rfl, (Chg.refl _ _).alloc _⟩
set_option maxHeartbeats 1000000 in
theorem MinScale_any (neg : Bool) (c s : Nat) (hc : c < 10 ^ 19) (hs : s ≤ 19) (w : World) (he : EnvD w) :
  Calls Tryz.prog 117 #[.agg #[.bool neg, .int .i8 s, .int .u64 (c : Int)]] w (fun e w' => ∃ r : Nat, e = .returned (.int .i64 r) ∧ r ≤ s ∧ c % 10 ^ (s - r) = 0 ∧ Chg (fun _ => False) w w') := by
 have HZ := hid (fun w => IsZero_any neg (c : Int) s w)
 have HS := hid (fun w => Scale_any neg (c : Int) s hs w)
 have HN := hid (fun w ht => fint_ntz (c : Int) (fiN hc) w ht)
 obtain ⟨HC0, HD, hB0⟩ := box1 w #[.bool neg, .int .i8 s, .int .u64 (c : Int)] 55
 have HB := hid (fun w1 (h : Chg (fun _ => False) (w.alloc (.cells #[.bool neg, .int .i8 s, .int .u64 (c : Int)] 55)) w1) => cell3 (kept_heap h hB0))
 have HE := hid he
 have hk := Chg.refl (fun _ => False) (w.alloc (.cells #[.bool neg, .int .i8 s, .int .u64 (c : Int)] 55))
 clear hB0 HD he
 obtain ⟨d0, d1, d2, f0, f1, f2⟩ := HB.out _ hk
 by_cases h0 : c = 0
 ·have hb : ((c : Int) == 0) = true := by rw [h0]; rfl
  have H0 := hid h0
  clear hc hs h0
  go_enter Tryz.func117, Tryz.ntmps117
  go_wp2_with (go_at_call 137; refine (HZ.out _).mono ?_; intro e w1 h; obtain ⟨he1, hc1⟩ := h; subst he1; replace hk := hk.trans hc1 sb_; clear hc1 d0 d1 d2 f0 f1 f2; obtain ⟨d0, d1, d2, f0, f1, f2⟩ := HB.out _ hk)
  go_ret
  exact ⟨0, rfl, by omega, by rw [H0.out, Nat.zero_mod], HC0.out.trans hk sb_⟩
 ·have hb : ((c : Int) == 0) = false := beq_eq_false_iff_ne.2 (by omega)
  have HS19 := hid hs
  clear hc hs h0
  go_enter Tryz.func117, Tryz.ntmps117
  go_wp2_with (first | (go_at_call 137; refine (HZ.out _).mono ?_; intro e w1 h; obtain ⟨he1, hc1⟩ := h; subst he1; replace hk := hk.trans hc1 sb_; clear hc1 d0 d1 d2 f0 f1 f2; obtain ⟨d0, d1, d2, f0, f1, f2⟩ := HB.out _ hk) | (go_at_call 66; refine (HS.out _).mono ?_; intro e w1 h; obtain ⟨he1, hc1⟩ := h; subst he1; replace hk := hk.trans hc1 sb_; clear hc1 d0 d1 d2 f0 f1 f2; obtain ⟨d0, d1, d2, f0, f1, f2⟩ := HB.out _ hk))
  go_at_call 138
  refine (HN.out _ (HE.out.kept (HC0.out.trans hk sb_)).env.tab).mono ?_
  intro e w2 h
  obtain ⟨z, he1, hz1, hz2, he2⟩ := h
  subst he1
  subst he2
  have hz3 : c % 10 ^ z = 0 := by rw [← pow_cast] at hz2; exact_mod_cast hz2
  have HR : Hid (s - z ≤ s ∧ c % 10 ^ (s - (s - z)) = 0) := ⟨by omega, dvd_less (by omega) hz3⟩
  obtain ⟨D, hD⟩ : ∃ D : Int, (s : Int) - (z : Int) = D := ⟨_, rfl⟩
  have hs19 := HS19.out
  have hw : IntKind.i64.wrap ((s : Int) - (z : Int)) = D := by rw [hD]; exact IntWalk.i64_in _ (by omega)
  have hmx : max (0 : Int) D = ((s - z : Nat) : Int) := by omega
  generalize s - z = r at *
  clear hz1 hz2 hz3 hD hs19 HS19
  go_wp2_with fail
  go_ret
  exact ⟨r, rfl, HR.out.1, HR.out.2, HC0.out.trans hk sb_⟩
theorem rsh_any (c : Nat) (n : Nat) (hc : c < 10 ^ 19) (hn1 : 1 ≤ n) (hn : n ≤ 19) (w : World) (ht : Tab w) :
  Calls Tryz.prog 139 #[.int .u64 (c : Int), .int .i64 n] w (fun e w' => e = .returned (.int .u64 ((c / 10 ^ n : Nat) : Int)) ∧ w = w') := by
 by_cases h : c = 0
 ·subst h
  rw [Nat.zero_div]
  have hb0 : (((0 : Nat) : Int) == 0) = true := rfl
  go_enter Tryz.func139, Tryz.ntmps139
  go_wp2_with fail
  go_ret
  exact ⟨rfl, rfl⟩
 ·have hcast : (c : Int) / 10 ^ n = ((c / 10 ^ n : Nat) : Int) := by rw [← pow_cast, Int.natCast_ediv]
  have := fint_rshDown (c : Int) n (fiN hc) (by omega) hn1 hn w ht
  rw [hcast] at this
  exact this
set_option maxHeartbeats 1000000 in
theorem Trunc_less (nb : Bool) (c s t : Nat) (hc : c < 10 ^ 19) (hs : s ≤ 19) (ht : t < s) (hnb : (nb && ((c / 10 ^ (s - t) : Nat) : Int) != 0) = nb) (w : World) (he : EnvD w) :
  Calls Tryz.prog 118 #[.agg #[.bool nb, .int .i8 s, .int .u64 (c : Int)], .int .i64 t] w (fun e w' => e = .returned (.agg #[.bool nb, .int .i8 t, .int .u64 ((c / 10 ^ (s - t) : Nat) : Int)]) ∧ Chg (fun _ => False) w w') := by
 have HS := hid (fun w => Scale_any nb (c : Int) s hs w)
 have HN := hid (fun w => IsNeg_any nb (c : Int) s w)
 have HR := hid (fun w ht1 => rsh_any c (s - t) hc (by omega) (by omega) w ht1)
 have hq : c / 10 ^ (s - t) < 10 ^ 19 := Nat.lt_of_le_of_lt (Nat.div_le_self _ _) hc
 have HU := hid (fun w => newUnsafe_flat nb nb ((c / 10 ^ (s - t) : Nat) : Int) t (fiN hq) (by omega) hnb w)
 have hw : IntKind.i64.wrap ((s : Int) - (t : Int)) = ((s - t : Nat) : Int) := by rw [show (s : Int) - (t : Int) = ((s - t : Nat) : Int) by omega]; exact IntWalk.i64_in _ (by omega)
 have hmx : max (t : Int) 0 = (t : Int) := by omega
 have c1 : ¬ (s : Int) ≤ (t : Int) := by omega
 obtain ⟨Q, hQ⟩ : ∃ Q : Int, ((c / 10 ^ (s - t) : Nat) : Int) = Q := ⟨_, rfl⟩
 rw [hQ] at HR HU ⊢
 generalize s - t = j at *
 obtain ⟨HC0, HD, hB0, hB1⟩ := box2 w #[.bool nb, .int .i8 s, .int .u64 (c : Int)] 55 #[.bool false, .int .i8 0, .int .u64 0] 55
 have HBX := hid (fun w1 h => kept_heap (w' := w1) h hB1)
 have HB := hid (fun w1 h => And.intro (cell3 (kept_heap (w' := w1) h hB0)) (cell3 (kept_heap (w' := w1) h hB1)))
 have HE := hid he
 have hk := Chg.refl (fun _ => False) ((w.alloc (.cells #[.bool nb, .int .i8 s, .int .u64 (c : Int)] 55)).alloc (.cells #[.bool false, .int .i8 0, .int .u64 0] 55))
 clear hB0 hB1 HD he hc hs ht hq hQ hnb
 obtain ⟨⟨d0, d1, d2, _, _, _⟩, ⟨r0, r1, r2, q0, q1, q2⟩⟩ := HB.out _ hk
 go_enter Tryz.func118, Tryz.ntmps118
 go_wp2_with (first | (go_at_call 66; refine (HS.out _).mono ?_; intro e w1 h; obtain ⟨he1, hc1⟩ := h; subst he1; replace hk := hk.trans hc1 sb_; clear hc1 d0 d1 d2 r0 r1 r2 q0 q1 q2; obtain ⟨⟨d0, d1, d2, _, _, _⟩, ⟨r0, r1, r2, q0, q1, q2⟩⟩ := HB.out _ hk) | (go_at_call 64; refine (HN.out _).mono ?_; intro e w1 h; obtain ⟨he1, hc1⟩ := h; subst he1; replace hk := hk.trans hc1 sb_; clear hc1 d0 d1 d2 r0 r1 r2 q0 q1 q2; obtain ⟨⟨d0, d1, d2, _, _, _⟩, ⟨r0, r1, r2, q0, q1, q2⟩⟩ := HB.out _ hk) | (go_at_call 139; refine (HR.out _ (HE.out.kept (HC0.out.trans hk sb_)).env.tab).mono ?_; intro e w2 h; obtain ⟨he1, he2⟩ := h; subst he1; subst he2) | (go_at_call 88; refine (HU.out _).mono ?_; intro e w1 h; obtain ⟨he1, hc1⟩ := h; subst he1; replace hk := hk.trans hc1 sb_; clear hc1 d0 d1 d2 r0 r1 r2 q0 q1 q2; obtain ⟨⟨d0, d1, d2, _, _, _⟩, ⟨r0, r1, r2, q0, q1, q2⟩⟩ := HB.out _ hk))
 exact bodyPost_ret (v := .agg #[.bool nb, .int .i8 t, .int .u64 Q]) (by rw [results_cell_row rfl _ _ (w.heap.size + 1) _ _ _ _ rfl (store3 (HBX.out _ hk) _ _ _) Tryz.underlying55 rfl dec_size]) rfl ⟨rfl, chg3 (HC0.out.trans hk sb_) (by omega) _ _ _⟩
set_option maxHeartbeats 1000000 in
theorem Trunc_same (nb : Bool) (c : Int) (s : Nat) (hs : s ≤ 19) (w : World) :
  Calls Tryz.prog 118 #[.agg #[.bool nb, .int .i8 s, .int .u64 c], .int .i64 s] w (fun e w' => e = .returned (.agg #[.bool nb, .int .i8 s, .int .u64 c]) ∧ Chg (fun _ => False) w w') := by
 have HS := hid (fun w => Scale_any nb c s hs w)
 have hmx : max (s : Int) 0 = (s : Int) := by omega
 have c1 : (s : Int) ≤ (s : Int) := by omega
 obtain ⟨HC0, HD, hB0, hB1⟩ := box2 w #[.bool nb, .int .i8 s, .int .u64 c] 55 #[.bool false, .int .i8 0, .int .u64 0] 55
 have HBX := hid (fun w1 h => kept_heap (w' := w1) h hB1)
 have HB := hid (fun w1 h => And.intro (cell3 (kept_heap (w' := w1) h hB0)) (cell3 (kept_heap (w' := w1) h hB1)))
 have hk := Chg.refl (fun _ => False) ((w.alloc (.cells #[.bool nb, .int .i8 s, .int .u64 c] 55)).alloc (.cells #[.bool false, .int .i8 0, .int .u64 0] 55))
 clear hB0 hB1 HD hs
 obtain ⟨⟨d0, d1, d2, _, _, _⟩, ⟨r0, r1, r2, q0, q1, q2⟩⟩ := HB.out _ hk
 go_enter Tryz.func118, Tryz.ntmps118
 go_wp2_with (go_at_call 66; refine (HS.out _).mono ?_; intro e w1 h; obtain ⟨he1, hc1⟩ := h; subst he1; replace hk := hk.trans hc1 sb_; clear hc1 d0 d1 d2 r0 r1 r2 q0 q1 q2; obtain ⟨⟨d0, d1, d2, _, _, _⟩, ⟨r0, r1, r2, q0, q1, q2⟩⟩ := HB.out _ hk)
 exact bodyPost_ret (v := .agg #[.bool nb, .int .i8 s, .int .u64 c]) (by rw [results_cell_row rfl _ _ (w.heap.size + 1) _ _ _ _ rfl (store3 (HBX.out _ hk) _ _ _) Tryz.underlying55 rfl dec_size]) rfl ⟨rfl, chg3 (HC0.out.trans hk sb_) (by omega) _ _ _⟩
def PTrim (nb : Bool) (c s p : Nat) (w : World) (e : Ending) (w' : World) : Prop :=
 ∃ c' t : Nat, e = .returned (.agg #[.bool nb, .int .i8 (t : Int), .int .u64 (c' : Int)]) ∧ t ≤ s ∧ (p ≤ t ∨ t = s) ∧ c = c' * 10 ^ (s - t) ∧ Chg (fun _ => False) w w'
set_option maxHeartbeats 2000000 in
theorem Trim_any (nb : Bool) (c s p : Nat) (hc : c < 10 ^ 19) (hs : s ≤ 19) (hnb : (nb && (c : Int) != 0) = nb) (w : World) (he : EnvD w) :
  Calls Tryz.prog 84 #[.agg #[.bool nb, .int .i8 s, .int .u64 (c : Int)], .int .i64 p] w (PTrim nb c s p w) := by
 have HS := hid (fun w => Scale_any nb (c : Int) s hs w)
 have HM := hid (fun w he => MinScale_any nb c s hc hs w he)
 have HTS := hid (fun w => Trunc_same nb (c : Int) s hs w)
 have HTL := hid (fun w he t (ht : t < s) h => Trunc_less nb c s t hc hs ht h w he)
 obtain ⟨HC0, HD, hB0, hB1⟩ := box2 w #[.bool nb, .int .i8 s, .int .u64 (c : Int)] 55 #[.bool false, .int .i8 0, .int .u64 0] 55
 have HBX := hid (fun w1 h => kept_heap (w' := w1) h hB1)
 have HB := hid (fun w1 h => And.intro (cell3 (kept_heap (w' := w1) h hB0)) (cell3 (kept_heap (w' := w1) h hB1)))
 have HE := hid he
 have HNB := hid hnb
 have hk := Chg.refl (fun _ => False) ((w.alloc (.cells #[.bool nb, .int .i8 s, .int .u64 (c : Int)] 55)).alloc (.cells #[.bool false, .int .i8 0, .int .u64 0] 55))
 clear hB0 hB1 HD he hnb hc hs
 obtain ⟨⟨d0, d1, d2, _, _, _⟩, ⟨r0, r1, r2, q0, q1, q2⟩⟩ := HB.out _ hk
 by_cases hsp : s ≤ p
 ·have c1 : (s : Int) ≤ (p : Int) := by omega
  have HP := hid hsp
  clear hsp
  go_enter Tryz.func84, Tryz.ntmps84
  go_wp2_with (go_at_call 66; refine (HS.out _).mono ?_; intro e w1 h; obtain ⟨he1, hc1⟩ := h; subst he1; replace hk := hk.trans hc1 sb_; clear hc1 d0 d1 d2 r0 r1 r2 q0 q1 q2; obtain ⟨⟨d0, d1, d2, _, _, _⟩, ⟨r0, r1, r2, q0, q1, q2⟩⟩ := HB.out _ hk)
  exact bodyPost_ret (v := .agg #[.bool nb, .int .i8 s, .int .u64 (c : Int)]) (by rw [results_cell_row rfl _ _ (w.heap.size + 1) _ _ _ _ rfl (store3 (HBX.out _ hk) _ _ _) Tryz.underlying55 rfl dec_size]) rfl ⟨c, s, rfl, by omega, .inr rfl, by rw [Nat.sub_self, Nat.pow_zero, Nat.mul_one], chg3 (HC0.out.trans hk sb_) (by omega) _ _ _⟩
 ·have c1 : ¬ (s : Int) ≤ (p : Int) := by omega
  have HP := hid hsp
  clear hsp
  go_enter Tryz.func84, Tryz.ntmps84
  go_wp2_with (go_at_call 66; refine (HS.out _).mono ?_; intro e w1 h; obtain ⟨he1, hc1⟩ := h; subst he1; replace hk := hk.trans hc1 sb_; clear hc1 d0 d1 d2 r0 r1 r2 q0 q1 q2; obtain ⟨⟨d0, d1, d2, _, _, _⟩, ⟨r0, r1, r2, q0, q1, q2⟩⟩ := HB.out _ hk)
  go_at_call 117
  refine (HM.out _ (HE.out.kept (HC0.out.trans hk sb_))).mono ?_
  intro e w2 h
  obtain ⟨r, he1, hr1, hr2, hc1⟩ := h
  subst he1
  replace hk := hk.trans hc1 sb_
  clear hc1 d0 d1 d2 r0 r1 r2 q0 q1 q2
  obtain ⟨⟨d0, d1, d2, _, _, _⟩, ⟨r0, r1, r2, q0, q1, q2⟩⟩ := HB.out _ hk
  have hps := HP.out
  obtain ⟨t, hmx⟩ : ∃ t : Nat, max (p : Int) (r : Int) = (t : Int) := ⟨max p r, by omega⟩
  have ht1 : t ≤ s := by omega
  have ht2 : p ≤ t := by omega
  have ht3 : c % 10 ^ (s - t) = 0 := dvd_less (by omega) hr2
  have HT3 := hid ht3
  by_cases hts : t = s
  ·subst hts
   have HT2 := hid ht2
   clear ht1 ht2 ht3 hr1 hr2 hps c1
   go_wp2_with (go_at_call 118; refine (HTS.out _).mono ?_; intro e w1 h; obtain ⟨he1, hc1⟩ := h; subst he1; replace hk := hk.trans hc1 sb_; clear hc1 d0 d1 d2 r0 r1 r2 q0 q1 q2; obtain ⟨⟨d0, d1, d2, _, _, _⟩, ⟨r0, r1, r2, q0, q1, q2⟩⟩ := HB.out _ hk)
   exact bodyPost_ret (v := .agg #[.bool nb, .int .i8 t, .int .u64 (c : Int)]) (by rw [results_cell_row rfl _ _ (w.heap.size + 1) _ _ _ _ rfl (store3 (HBX.out _ hk) _ _ _) Tryz.underlying55 rfl dec_size]) rfl ⟨c, t, rfl, by omega, .inr rfl, by rw [Nat.sub_self, Nat.pow_zero, Nat.mul_one], chg3 (HC0.out.trans hk sb_) (by omega) _ _ _⟩
  ·have hdiv : c / 10 ^ (s - t) * 10 ^ (s - t) = c := Nat.div_mul_cancel (Nat.dvd_of_mod_eq_zero ht3)
   have hnz : (nb && ((c / 10 ^ (s - t) : Nat) : Int) != 0) = nb := by
    have h1 := HNB.out
    cases nb with
    | false => rfl
    | true =>
     rw [Bool.true_and] at h1 ⊢
     have h2 : (c : Int) ≠ 0 := bne_iff_ne.1 h1
     refine bne_iff_ne.2 (fun h3 => h2 ?_)
     have h4 : c / 10 ^ (s - t) = 0 := by omega
     rw [h4, Nat.zero_mul] at hdiv
     omega
   have HTR := hid (fun w he => HTL.out w he t (by omega) hnz)
   have HF : Hid (t ≤ s ∧ p ≤ t ∧ c = c / 10 ^ (s - t) * 10 ^ (s - t)) := ⟨ht1, ht2, hdiv.symm⟩
   generalize c / 10 ^ (s - t) = Q at *
   clear ht1 ht2 ht3 hr1 hr2 hps c1 hdiv hnz hts
   go_wp2_with (go_at_call 118; refine (HTR.out _ (HE.out.kept (HC0.out.trans hk sb_))).mono ?_; intro e w1 h; obtain ⟨he1, hc1⟩ := h; subst he1; replace hk := hk.trans hc1 sb_; clear hc1 d0 d1 d2 r0 r1 r2 q0 q1 q2; obtain ⟨⟨d0, d1, d2, _, _, _⟩, ⟨r0, r1, r2, q0, q1, q2⟩⟩ := HB.out _ hk)
   exact bodyPost_ret (v := .agg #[.bool nb, .int .i8 t, .int .u64 ((Q : Nat) : Int)]) (by rw [results_cell_row rfl _ _ (w.heap.size + 1) _ _ _ _ rfl (store3 (HBX.out _ hk) _ _ _) Tryz.underlying55 rfl dec_size]) rfl ⟨Q, t, rfl, HF.out.1, .inl HF.out.2.1, HF.out.2.2, chg3 (HC0.out.trans hk sb_) (by omega) _ _ _⟩
def MeanG (l : List DT) (sg : Bool) (o : Option (Nat × Nat)) : Prop := Good (sumQ l).1 (sumQ l).2.1 ((sumQ l).2.2 * l.length) 0 sg o ∧ ∀ k t, o = some (k, t) → t ≤ 19 ∧ k < 10 ^ 19
def PMean (l : List DT) (sg : Bool) (o : Option (Nat × Nat)) : Prop := if l = [] then o = none else MeanG l sg o
theorem trim_sign {sg : Bool} {k c e : Nat} (h : k = c * 10 ^ e) : (sg && (k : Int) != 0) = (sg && (c : Int) != 0) := by
 by_cases hc : c = 0
 ·subst hc
  rw [h, Nat.zero_mul]
 ·have hk : k ≠ 0 := by rw [h]; exact Nat.mul_ne_zero hc (Nat.pos_iff_ne_zero.1 (pow10_pos e))
  rw [bne_iff_ne.2 (by omega : (k : Int) ≠ 0), bne_iff_ne.2 (by omega : (c : Int) ≠ 0)]
theorem stepQ_sign (q f : DT) : ((stepQ q f).1 && (stepQ q f).2.1 != 0) = (stepQ q f).1 := by
 unfold stepQ
 simp only
 cases (sumS (q.1 && q.2.1 * 10 ^ f.2.2 != 0) (q.2.1 * 10 ^ f.2.2) (f.1 && f.2.1 * q.2.2 != 0) (f.2.1 * q.2.2)).1 <;> simp
theorem foldQ_sign : ∀ (l : List DT) (q : DT), (q.1 && q.2.1 != 0) = q.1 → ((l.foldl stepQ q).1 && (l.foldl stepQ q).2.1 != 0) = (l.foldl stepQ q).1 := by
 intro l
 induction l with
 | nil => exact fun q h => h
 | cons f l ih => exact fun q h => ih _ (stepQ_sign q f)
theorem sumQ_sign (l : List DT) : ((sumQ l).1 && (sumQ l).2.1 != 0) = (sumQ l).1 := foldQ_sign l _ rfl
theorem meanG_F {l : List DT} {sg : Bool} {o : Option (Nat × Nat)} (hok : ∀ f ∈ l, DTok f) (hl : l.length ≤ 40) (hl0 : 0 < l.length) (h : MeanF (sumL l) l.length sg o) (hne : o ≠ none) : MeanG l sg o := by
 rcases h with h | ⟨Q, sh, hQ, h1, h2⟩
 ·exact absurd h hne
 ·subst h1 h2
  exact ⟨good_meanF hok hl hl0 _ (sumQ_sign l).symm hQ, fun k t hk => by have := from19_bd (by omega) hk; exact ⟨this.1, this.2.1⟩⟩
theorem meanG_B {l : List DT} (hok : ∀ f ∈ l, DTok f) (hl : l.length ≤ 40) (hl0 : 0 < l.length) : MeanG l (sumL l).1 (from19 (10 ^ 19) 2 ((sumL l).2.1 * 10 ^ (41 - (sumL l).2.2) / l.length) 41 0) :=
 ⟨good_mean hok hl hl0 (Nat.lt_of_le_of_lt hl (by decide)) _ (sumQ_sign l).symm, fun k t hk => by have := from19_bd (by omega) hk; exact ⟨this.1, this.2.1⟩⟩
theorem meanG_trim {l : List DT} {sg : Bool} {k t c' t' : Nat} (h : MeanG l sg (some (k, t))) (h1 : t' ≤ t) (h2 : k = c' * 10 ^ (t - t')) : MeanG l sg (some (c', t')) := by
 obtain ⟨hg, hb⟩ := h
 obtain ⟨b1, b2⟩ := hb _ _ rfl
 refine ⟨hg.trim (Nat.zero_le _) h1 h2, fun k2 t2 h => ?_⟩
 cases h
 exact ⟨by omega, Nat.lt_of_le_of_lt (by rw [h2]; exact Nat.le_mul_of_pos_right _ (pow10_pos _)) b2⟩
set_option maxHeartbeats 16000000 in
theorem Mean_any {A : Option Addr} {l : List DT} {c : Nat} (w : World) (he : EnvI w) (hx : DX w A l) (hok : ∀ f ∈ l, DTok f) (hl : l.length ≤ 40) :
  Calls Tryz.prog 59 #[.slice A l.length c] w (PX (PMean l) w) := by
 have HFF := hid (fun w1 (h : Chg (fun _ => False) w w1) hl0 => meanFint_any (c := c) w1 (he.kept h) (hx.kept h) hok hl hl0)
 have HFB := hid (fun w1 (h : Chg (fun _ => False) w w1) hl0 => meanBint_any (c := c) w1 (he.kept h).1 (hx.kept h) hok hl hl0)
 have hz0 := heap_alloc_new w (.cells #[.bool false, .int .i8 0, .int .u64 0] 55)
 have HC0 := hid ((Chg.refl (fun _ => False) w).alloc (.cells #[.bool false, .int .i8 0, .int .u64 0] 55))
 have HBX := hid (fun w1 (h : Chg (fun _ => False) (w.alloc (.cells #[.bool false, .int .i8 0, .int .u64 0] 55)) w1) => kept_heap h hz0)
 have hk := Chg.refl (fun _ => False) (w.alloc (.cells #[.bool false, .int .i8 0, .int .u64 0] 55))
 obtain ⟨r0, r1, r2, q0, q1, q2⟩ := cell3 (HBX.out _ hk)
 by_cases h0 : l = []
 ·have HP0 := hid (show PMean l false none by unfold PMean; rw [if_pos h0])
  subst h0
  have hz : (([] : List DT).length : Int) = 0 := rfl
  clear hx hok hl HFF HFB
  go_enter Tryz.func59, Tryz.ntmps59
  go_wp2_with (go_at_call 76; refine (errorsNew_any _ _).mono ?_; intro e w1 h; obtain ⟨⟨tv, vv, he1⟩, hc⟩ := h; subst he1; replace hk := hk.trans hc sb_; clear hc; clear r0 r1 r2 q0 q1 q2; obtain ⟨r0, r1, r2, q0, q1, q2⟩ := cell3 (HBX.out _ hk))
  exact bodyPost_ret (v := .tuple #[.agg #[.bool false, .int .i8 0, .int .u64 0], .iface tv vv]) (dec_result rfl _ _ w.heap.size _ _ _ _ 55 rfl rfl (store3 (HBX.out _ hk) _ _ _)) rfl ⟨false, none, HP0.out, chg3 (HC0.out.trans hk sb_) (Nat.le_refl _) _ _ _, tv, vv, rfl⟩
 by_cases h1 : l.length = 1
 ·obtain ⟨f, rfl⟩ : ∃ f, l = [f] := List.length_eq_one_iff.1 h1
  have hf := hok f (by simp)
  obtain ⟨n, v, s⟩ := f
  obtain ⟨a, hA, g0, g1, g2⟩ := (hx.kept HC0.out) 0 n v s rfl
  subst hA
  have HP0 := hid (show PMean [(n, v, s)] n (some (v, s)) by unfold PMean; rw [if_neg (by simp)]; exact ⟨by show Good _ _ ((sumQ [(n, v, s)]).2.2 * 1) 0 n (some (v, s)); rw [Nat.mul_one]; exact good_one hf, fun k t h => by cases h; exact ⟨hf.2.1, hf.1⟩⟩)
  have hn : (n && (v : Int) != 0) = n := by rw [nat_bne]; exact hf.2.2
  have e0 : a.add (0 * 3) = a := by simp [Addr.add]
  rw [e0] at g0 g1 g2
  obtain ⟨L, hL⟩ : ∃ L : Nat, ([(n, v, s)] : List DT).length = L := ⟨_, rfl⟩
  have hL1 : (L : Int) = 1 := by rw [← hL]; rfl
  rw [hL]
  have hz : ¬ (L : Int) = 0 := by omega
  have hz2 : (0 : Int) < (L : Int) := by omega
  clear hx hok hl HFF HFB hf h1 h0 hL
  go_enter Tryz.func59, Tryz.ntmps59
  go_wp2_with fail
  exact bodyPost_ret (v := .tuple #[.agg #[.bool n, .int .i8 s, .int .u64 (v : Int)], .nilIface]) (dec_result rfl _ _ w.heap.size _ _ _ _ 55 rfl rfl (heap_alloc_new w _)) rfl ⟨n, some (v, s), HP0.out, (Chg.refl _ _).alloc _, by show _ = Ending.returned (.tuple #[decV (n && (v : Int) != 0) v s, .nilIface]); rw [hn]; rfl⟩
 ·have hl0 : 0 < l.length := by
   rcases Nat.eq_zero_or_pos l.length with h | h
   ·exact absurd (List.length_eq_zero_iff.1 h) h0
   ·exact h
  have HPN := hid (fun sg o (h : MeanG l sg o) => (show PMean l sg o by unfold PMean; rw [if_neg h0]; exact h))
  have HPT := hid (fun sg k t c' t' (h : MeanG l sg (some (k, t))) (h1 : t' ≤ t) (h2 : k = c' * 10 ^ (t - t')) => HPN.out _ _ (meanG_trim h h1 h2))
  have HMF := hid (fun sg o (h : MeanF (sumL l) l.length sg o) (hne : o ≠ none) => meanG_F hok hl hl0 h hne)
  have HMB := hid (meanG_B hok hl hl0)
  have HX := hid (fun w1 (k : Chg (fun _ => False) w w1) => hx.kept k)
  have HOK := hid hok
  have HE := hid he
  have hz : ¬ (l.length : Int) = 0 := fun h => h0 (List.length_eq_zero_iff.1 (by omega))
  have hz1 : ¬ (l.length : Int) = 1 := by omega
  have HFF := hid (fun w1 h => HFF.out w1 h hl0)
  have HFB := hid (fun w1 h => HFB.out w1 h hl0)
  obtain ⟨L, hL⟩ : ∃ L, l.length = L := ⟨_, rfl⟩
  simp only [hL] at HFF HFB HMF HMB hz hz1 hl
  rw [hL]
  clear hx hok h0 h1 hl0 he
  go_enter Tryz.func59, Tryz.ntmps59
  go_wp2_with fail
  go_at_call 82
  refine (HFF.out _ HC0.out).mono ?_
  intro e w1 h
  obtain ⟨sg, o, hp, hc, ho⟩ := h
  cases o with
  | some kt =>
   obtain ⟨k, t⟩ := kt
   have HGG := hid (HMF.out _ _ hp (by simp))
   have he2 : e = .returned (.tuple #[.agg #[.bool (sg && (k : Int) != 0), .int .i8 t, .int .u64 (k : Int)], .nilIface]) := ho
   clear ho hp
   obtain ⟨nb, hnb⟩ : ∃ b, (sg && (k : Int) != 0) = b := ⟨_, rfl⟩
   have HNB := hid hnb
   rw [hnb] at he2
   subst he2
   clear hnb
   have hs1 : w.heap.size + 1 ≤ w1.heap.size := by have := (hk.trans hc sb_).size; simpa using this
   replace hk := (hk.trans hc sb_).alloc (.cells #[.bool nb, .int .i8 t, .int .u64 (k : Int)] 55)
   have HG := hid (heap_alloc_new w1 (.cells #[.bool nb, .int .i8 t, .int .u64 (k : Int)] 55))
   obtain ⟨g, hg⟩ : ∃ g, w1.heap.size = g := ⟨_, rfl⟩
   have HGN := hid (show w.heap.size + 1 ≤ g by rw [← hg]; exact hs1)
   rw [hg] at HG
   have HKS := hid hk
   clear hc hs1 hk r0 r1 r2 q0 q1 q2
   go_wp2_with fail
   go_loopw [6, 38] (fun s i wr => ∃ (j mm : Nat), j ≤ L ∧ mm ≤ 19 ∧ i = .int .i64 j ∧ s = .int .i64 mm ∧ Hid (Chg (fun _ => False) (w.alloc (.cells #[.bool false, .int .i8 0, .int .u64 0] 55)) wr) ∧ Hid (wr.heap[g]? = some (.cells #[.bool nb, .int .i8 t, .int .u64 (k : Int)] 55 (0, 0)))) (fun _ i _ => L - (intOf i).toNat)
   case atStart => exact ⟨0, 0, Nat.zero_le _, Nat.zero_le _, rfl, rfl, hid HKS.out, hid HG.out⟩
   case round =>
    obtain ⟨j, mm, hj, hmm, he1, he2, HK, HGK⟩ := hrel
    subst he1 he2
    have hgl : g < wr.heap.size := (Array.getElem?_eq_some_iff.1 HGK.out).1
    by_cases hlt : j < L
    ·obtain ⟨⟨m, d, t2⟩, hf⟩ : ∃ f, l[j]? = some f := ⟨_, List.getElem?_eq_getElem (by omega)⟩
     obtain ⟨a, hA, g0, g1, g2⟩ := (HX.out _ (HC0.out.trans HK.out sb_)) j m d t2 hf
     subst hA
     obtain ⟨f1, f2, _⟩ := HOK.out _ (List.mem_of_getElem? hf)
     simp only at f1 f2
     have hlt' : (j : Int) < (L : Int) := by omega
     have hinc : IntKind.i64.wrap ((j : Int) + 1) = ((j + 1 : Nat) : Int) := by rw [IntWalk.i64_in _ (by omega)]; omega
     have hmx : max (mm : Int) (t2 : Int) = ((max mm t2 : Nat) : Int) := by omega
     have HSF := hid (fun w => Scale_any m (d : Int) t2 f2 w)
     have HB := hid (fun w1 (h : Chg (fun _ => False) (wr.alloc (.cells #[.bool m, .int .i8 t2, .int .u64 (d : Int)] 55)) w1) => cell3 (kept_heap h (heap_alloc_new wr (.cells #[.bool m, .int .i8 t2, .int .u64 (d : Int)] 55))))
     have HC1 := hid (HK.out.alloc (.cells #[.bool m, .int .i8 t2, .int .u64 (d : Int)] 55))
     have HG2 := hid ((Below.heap_alloc wr (.cells #[.bool m, .int .i8 t2, .int .u64 (d : Int)] 55) g hgl).trans HGK.out)
     have hk2 := Chg.refl (fun _ => False) (wr.alloc (.cells #[.bool m, .int .i8 t2, .int .u64 (d : Int)] 55))
     obtain ⟨d0, d1, d2, _, _, _⟩ := HB.out _ hk2
     have hm2 : max mm t2 ≤ 19 := by omega
     clear hgl hf f1
     go_wp2_with (go_at_call 66; refine (HSF.out _).mono ?_; intro e w1 h; obtain ⟨he1, hc1⟩ := h; subst he1; replace hk2 := hk2.trans hc1 sb_; clear hc1 d0 d1 d2; obtain ⟨d0, d1, d2, _, _, _⟩ := HB.out _ hk2)
     go_roundw
     case rel => exact ⟨j + 1, max mm t2, by omega, hm2, rfl, by first | rfl | rw [hmx], hid (HC1.out.trans hk2 sb_), hid (kept_heap hk2 HG2.out)⟩
     case measure => simp [intOf]; omega
    ·obtain rfl : j = L := by omega
     have hge : ¬ (j : Int) < (j : Int) := by omega
     have hk := HK.out
     obtain ⟨z0, z1, z2, _, _, _⟩ := cell3 HGK.out
     have hb := HGG.out.2 _ _ rfl
     have HTR := hid (fun w p he => Trim_any nb k t p hb.2 hb.1 (by rw [← HNB.out]; cases sg <;> simp) w he)
     clear hgl hb
     go_wp2_with fail
     go_at_call 84
     refine (HTR.out _ mm (HE.out.kept (HC0.out.trans hk sb_)).1).mono ?_
     intro e w6 h
     obtain ⟨c', t', he, ht1, _, ht3, hc⟩ := h
     subst he
     have HPP := hid (HPT.out sg k t c' t' HGG.out ht1 ht3)
     have HNE := hid (trim_sign (sg := sg) ht3)
     clear ht1 ht3 z0 z1 z2
     have hgv := kept_heap hc HGK.out
     have hk4 := hk.trans hc sb_
     have hk5 := chg3 hk4 (z := g) (by have := HGN.out; simp only [World.alloc, Array.size_push]; omega) (.bool nb) (.int .i8 t') (.int .u64 (c' : Int))
     obtain ⟨r0, r1, r2, q0, q1, q2⟩ := cell3 (HBX.out _ hk5)
     obtain ⟨j0, j1, j2, i0, i1, i2⟩ := cell3 hgv
     obtain ⟨x0, x1, x2, _, _, _⟩ := cell3 (store3 hgv (.bool nb) (.int .i8 t') (.int .u64 (c' : Int)))
     go_wp2_with fail
     exact bodyPost_ret (v := .tuple #[.agg #[.bool nb, .int .i8 t', .int .u64 (c' : Int)], .nilIface]) (dec_result rfl _ _ w.heap.size _ _ _ _ 55 rfl rfl (store3 (HBX.out _ hk5) _ _ _)) rfl ⟨sg, some (c', t'), HPP.out, chg3 (HC0.out.trans hk5 sb_) (Nat.le_refl _) _ _ _, by rw [← HNB.out, HNE.out]; rfl⟩
  | none =>
   obtain ⟨t3, v3, he3⟩ := ho
   have he2 : e = .returned (.tuple #[.agg #[.bool false, .int .i8 0, .int .u64 0], .iface t3 v3]) := he3
   clear he3 hp
   subst he2
   have HG := hid (heap_alloc_new w1 (.cells #[.bool false, .int .i8 0, .int .u64 0] 55))
   have HC2 := hid ((HC0.out.trans (hk.trans hc sb_) (fun _ _ h => h)).alloc (.cells #[.bool false, .int .i8 0, .int .u64 0] 55))
   have hs1 : w.heap.size + 1 ≤ w1.heap.size := by have := (hk.trans hc sb_).size; simpa using this
   replace hk := (hk.trans hc sb_).alloc (.cells #[.bool false, .int .i8 0, .int .u64 0] 55)
   clear hc r0 r1 r2 q0 q1 q2
   obtain ⟨r0, r1, r2, q0, q1, q2⟩ := cell3 (HBX.out _ hk)
   obtain ⟨j0, j1, j2, i0, i1, i2⟩ := cell3 HG.out
   obtain ⟨g, hg⟩ : ∃ g, w1.heap.size = g := ⟨_, rfl⟩
   have HGN := hid (show w.heap.size + 1 ≤ g by rw [← hg]; exact hs1)
   clear hs1
   rw [hg] at j0 j1 j2 i0 i1 i2 HG
   go_wp2_with fail
   go_at_call 83
   refine (HFB.out _ HC2.out).mono ?_
   intro e w5 h
   obtain ⟨sg, o, hp, hc, ho⟩ : PX (fun sg o => MeanG l sg o) _ e w5 := ⟨_, _, HMB.out, h⟩
   cases o with
   | some kt =>
    obtain ⟨k, t⟩ := kt
    have HGG := hid hp
    have he2 : e = .returned (.tuple #[.agg #[.bool (sg && (k : Int) != 0), .int .i8 t, .int .u64 (k : Int)], .nilIface]) := ho
    clear ho hp
    obtain ⟨nb, hnb⟩ : ∃ b, (sg && (k : Int) != 0) = b := ⟨_, rfl⟩
    have HNB := hid hnb
    rw [hnb] at he2
    subst he2
    clear hnb r0 r1 r2 q0 q1 q2 j0 j1 j2 i0 i1 i2
    have hgv := kept_heap hc HG.out
    have hk4 := hk.trans hc sb_
    have HKS := hid (chg3 hk4 (z := g) (by have := HGN.out; simp only [World.alloc, Array.size_push]; omega) (.bool nb) (.int .i8 t) (.int .u64 (k : Int)))
    have HGS := hid (store3 hgv (.bool nb) (.int .i8 t) (.int .u64 (k : Int)))
    obtain ⟨j0, j1, j2, i0, i1, i2⟩ := cell3 hgv
    clear hk hk4 hgv hc
    go_wp2_with fail
    go_loopw [6, 38] (fun s i wr => ∃ (j mm : Nat), j ≤ L ∧ mm ≤ 19 ∧ i = .int .i64 j ∧ s = .int .i64 mm ∧ Hid (Chg (fun _ => False) (w.alloc (.cells #[.bool false, .int .i8 0, .int .u64 0] 55)) wr) ∧ Hid (wr.heap[g]? = some (.cells #[.bool nb, .int .i8 t, .int .u64 (k : Int)] 55 (0, 0)))) (fun _ i _ => L - (intOf i).toNat)
    case atStart => exact ⟨0, 0, Nat.zero_le _, Nat.zero_le _, rfl, rfl, hid HKS.out, hid HGS.out⟩
    case round =>
     obtain ⟨j, mm, hj, hmm, he1, he2, HK, HGK⟩ := hrel
     subst he1 he2
     have hgl : g < wr.heap.size := (Array.getElem?_eq_some_iff.1 HGK.out).1
     by_cases hlt : j < L
     ·obtain ⟨⟨m, d, t2⟩, hf⟩ : ∃ f, l[j]? = some f := ⟨_, List.getElem?_eq_getElem (by omega)⟩
      obtain ⟨a, hA, g0, g1, g2⟩ := (HX.out _ (HC0.out.trans HK.out sb_)) j m d t2 hf
      subst hA
      obtain ⟨f1, f2, _⟩ := HOK.out _ (List.mem_of_getElem? hf)
      simp only at f1 f2
      have hlt' : (j : Int) < (L : Int) := by omega
      have hinc : IntKind.i64.wrap ((j : Int) + 1) = ((j + 1 : Nat) : Int) := by rw [IntWalk.i64_in _ (by omega)]; omega
      have hmx : max (mm : Int) (t2 : Int) = ((max mm t2 : Nat) : Int) := by omega
      have HSF := hid (fun w => Scale_any m (d : Int) t2 f2 w)
      have HB := hid (fun w1 (h : Chg (fun _ => False) (wr.alloc (.cells #[.bool m, .int .i8 t2, .int .u64 (d : Int)] 55)) w1) => cell3 (kept_heap h (heap_alloc_new wr (.cells #[.bool m, .int .i8 t2, .int .u64 (d : Int)] 55))))
      have HC1 := hid (HK.out.alloc (.cells #[.bool m, .int .i8 t2, .int .u64 (d : Int)] 55))
      have HG2 := hid ((Below.heap_alloc wr (.cells #[.bool m, .int .i8 t2, .int .u64 (d : Int)] 55) g hgl).trans HGK.out)
      have hk2 := Chg.refl (fun _ => False) (wr.alloc (.cells #[.bool m, .int .i8 t2, .int .u64 (d : Int)] 55))
      obtain ⟨d0, d1, d2, _, _, _⟩ := HB.out _ hk2
      have hm2 : max mm t2 ≤ 19 := by omega
      clear hgl hf f1
      go_wp2_with (go_at_call 66; refine (HSF.out _).mono ?_; intro e w1 h; obtain ⟨he1, hc1⟩ := h; subst he1; replace hk2 := hk2.trans hc1 sb_; clear hc1 d0 d1 d2; obtain ⟨d0, d1, d2, _, _, _⟩ := HB.out _ hk2)
      go_roundw
      case rel => exact ⟨j + 1, max mm t2, by omega, hm2, rfl, by first | rfl | rw [hmx], hid (HC1.out.trans hk2 sb_), hid (kept_heap hk2 HG2.out)⟩
      case measure => simp [intOf]; omega
     ·obtain rfl : j = L := by omega
      have hge : ¬ (j : Int) < (j : Int) := by omega
      have hk := HK.out
      obtain ⟨z0, z1, z2, _, _, _⟩ := cell3 HGK.out
      have hb := HGG.out.2 _ _ rfl
      have HTR := hid (fun w p he => Trim_any nb k t p hb.2 hb.1 (by rw [← HNB.out]; cases sg <;> simp) w he)
      clear hgl hb
      go_wp2_with fail
      go_at_call 84
      refine (HTR.out _ mm (HE.out.kept (HC0.out.trans hk sb_)).1).mono ?_
      intro e w6 h
      obtain ⟨c', t', he, ht1, _, ht3, hc⟩ := h
      subst he
      have HPP := hid (HPT.out sg k t c' t' HGG.out ht1 ht3)
      have HNE := hid (trim_sign (sg := sg) ht3)
      clear ht1 ht3 z0 z1 z2
      have hgv := kept_heap hc HGK.out
      have hk4 := hk.trans hc sb_
      have hk5 := chg3 hk4 (z := g) (by have := HGN.out; simp only [World.alloc, Array.size_push]; omega) (.bool nb) (.int .i8 t') (.int .u64 (c' : Int))
      obtain ⟨r0, r1, r2, q0, q1, q2⟩ := cell3 (HBX.out _ hk5)
      obtain ⟨j0, j1, j2, i0, i1, i2⟩ := cell3 hgv
      obtain ⟨x0, x1, x2, _, _, _⟩ := cell3 (store3 hgv (.bool nb) (.int .i8 t') (.int .u64 (c' : Int)))
      go_wp2_with fail
      exact bodyPost_ret (v := .tuple #[.agg #[.bool nb, .int .i8 t', .int .u64 (c' : Int)], .nilIface]) (dec_result rfl _ _ w.heap.size _ _ _ _ 55 rfl rfl (store3 (HBX.out _ hk5) _ _ _)) rfl ⟨sg, some (c', t'), HPP.out, chg3 (HC0.out.trans hk5 sb_) (Nat.le_refl _) _ _ _, by rw [← HNB.out, HNE.out]; rfl⟩
   | none =>
    obtain ⟨t4, v4, he4⟩ := ho
    have HPP := hid (HPN.out _ _ hp)
    have he2 : e = .returned (.tuple #[.agg #[.bool false, .int .i8 0, .int .u64 0], .iface t4 v4]) := he4
    clear he4 hp
    subst he2
    clear r0 r1 r2 q0 q1 q2 j0 j1 j2 i0 i1 i2
    have hgv := kept_heap hc HG.out
    have hk4 := hk.trans hc sb_
    replace hk := chg3 hk4 (z := g) (by have := HGN.out; simp only [World.alloc, Array.size_push]; omega) (.bool false) (.int .i8 0) (.int .u64 0)
    obtain ⟨r0, r1, r2, q0, q1, q2⟩ := cell3 (HBX.out _ hk)
    obtain ⟨j0, j1, j2, i0, i1, i2⟩ := cell3 hgv
    go_wp2_with (go_at_call 76; refine (errorsNew_any _ _).mono ?_; intro e w1 h; obtain ⟨⟨tv, vv, he1⟩, hc2⟩ := h; subst he1; replace hk := hk.trans hc2 sb_; clear hc2; clear r0 r1 r2 q0 q1 q2; obtain ⟨r0, r1, r2, q0, q1, q2⟩ := cell3 (HBX.out _ hk))
    exact bodyPost_ret (v := .tuple #[.agg #[.bool false, .int .i8 0, .int .u64 0], .iface tv vv]) (dec_result rfl _ _ w.heap.size _ _ _ _ 55 rfl rfl (store3 (HBX.out _ hk) _ _ _)) rfl ⟨sg, none, HPP.out, chg3 (HC0.out.trans hk sb_) (Nat.le_refl _) _ _ _, tv, vv, rfl⟩
theorem fxMean_idle (p q : Addr) (w : World) : CallsD Tryz.prog 58 #[.pointer (some p), .pointer (some q)] .returning w fun e u' w' => e = .returned (.tuple #[]) ∧ u' = .returning ∧ w' = w := by
 refine callsD_of_wpS Tryz.func58 rfl fun c₀ cs hu => ?_
 apply wpS_seq
 apply wpS_region
 simp [wpOpsS, go_sem, recoverD, hu, Tryz.ntmps58, Exit.thenS]
 refine wpS_cond (t := false) (by simp [Act.eval, Array.replicate]) ?_
 simp only [Bool.false_eq_true, if_false]
 refine wpS_of_wp (wp_skip ?_)
 cases c₀
 simp_all [bodyPostS, results, Tryz.results58]
set_option maxHeartbeats 8000000 in
theorem fxMean_gen {A : Option Addr} {l : List DT} {c : Nat} (P : Bool → Option (Nat × Nat) → Prop) (hP : ∀ sg k t, P sg (some (k, t)) → t ≤ 19) (w : World) (he : EnvI w) (hx : FX w A (l.map rawI)) (hr : ∀ f ∈ l, f.2.1 < 10 ^ 19 ∧ f.2.2 ≤ 19) (hl : l.length ≤ 40)
  (HS : ∀ w1 B cp, EnvI w1 → DX w1 B (l.map nrm) → Calls Tryz.prog 59 #[.slice B l.length cp] w1 (PX P w1)) :
  Calls Tryz.prog 28 #[.slice A l.length c] w (PO P w) := by
 have HFX0 := hid (fun w1 (h : Chg (fun _ => False) w w1) => fixeds_any (c := c) (hx.kept h) hr hl)
 have HE := hid he
 have HSX := hid HS
 have HPB := hid hP
 generalize l.length = L at *
 clear HS hP hr hl hx he
 obtain ⟨HC0, HD, hB0, hB1⟩ := box2 w #[.bool false, .int .u64 0, .int .i64 0] 24 #[.int .i64 0] 3
 have HB2 := hid hB0
 have HB3 := hid hB1
 have hk := Chg.refl (fun _ => False) ((w.alloc (.cells #[.bool false, .int .u64 0, .int .i64 0] 24)).alloc (.cells #[.int .i64 0] 3))
 clear hB0 hB1 HD
 have hmf : ∀ (fn : Fn) (first cap : Array Value) (w : World), (Instr.makeFunc fn first cap).run Tryz.prog w = .ok (.func fn first cap) w := fun _ _ _ _ => rfl
 go_enter_defers Tryz.func28, Tryz.ntmps28
 go_wp2_with (go_at_call 49; refine (HFX0.out _ HC0.out).mono ?_; intro e w1 h; obtain ⟨B, cp, he, hdx, hc⟩ := h; subst he; replace hk := hk.trans hc sb_; have HDX := hid hdx; clear hc hdx)
 go_at_call 59
 refine (HSX.out _ _ _ (HE.out.kept (HC0.out.trans hk sb_)) HDX.out).mono ?_
 intro e w4 h
 obtain ⟨sg, o, hp, hc, ho⟩ := h
 have HPP := hid hp
 clear hp
 cases o with
 | none =>
  obtain ⟨t3, v3, he⟩ := ho
  have he2 : e = .returned (.tuple #[.agg #[.bool false, .int .i8 0, .int .u64 0], .iface t3 v3]) := he
  clear he
  subst he2
  replace hk := (hk.trans hc sb_).alloc (.cells #[.bool false, .int .i8 0, .int .u64 0] 55)
  clear hc
  obtain ⟨r0, r1, r2, q0, q1, q2⟩ := cell3 (kept_heap hk HB2.out)
  obtain ⟨i0, i1⟩ := cell1 (kept_heap hk HB3.out)
  go_wp2_with fail
  refine leaves_cons (f := 58) (args := #[.pointer (some ⟨w.heap.size, 0, none⟩), .pointer (some ⟨w.heap.size + 1, 0, none⟩)]) (by simp) (by simp [go_sem]) ?_
  refine (fxMean_idle _ _ _).mono ?_
  rintro e u' w'' ⟨rfl, rfl, rfl⟩
  exact ⟨.tuple #[.agg #[.bool false, .int .u64 0, .int .i64 0], .int .i64 1], fix_result rfl _ _ w.heap.size (w.heap.size + 1) _ _ _ _ _ _ rfl rfl (fix_far (store3 (kept_heap hk HB2.out) _ _ _) (by omega)) (int_set (fix_near (kept_heap hk HB3.out) (by omega))), ⟨sg, none, HPP.out, rfl, fix_chg (HC0.out.trans hk sb_) (by omega) (by omega)⟩⟩
 | some kt =>
  obtain ⟨k, t⟩ := kt
  have ht := HPB.out _ _ _ HPP.out
  have HFX := hid (fun w => fix_any (sg && (k : Int) != 0) (k : Int) t ht w)
  have he2 : e = .returned (.tuple #[.agg #[.bool (sg && (k : Int) != 0), .int .i8 t, .int .u64 (k : Int)], .nilIface]) := ho
  clear ho ht
  obtain ⟨nb, hnb⟩ : ∃ b, (sg && (k : Int) != 0) = b := ⟨_, rfl⟩
  have HNB := hid hnb
  obtain ⟨K, hK⟩ : ∃ v : Int, (k : Int) = v := ⟨_, rfl⟩
  have HK := hid hK
  rw [hnb, hK] at he2 HFX
  subst he2
  clear hnb hK
  replace hk := (hk.trans hc sb_).alloc (.cells #[.bool nb, .int .i8 t, .int .u64 K] 55)
  clear hc
  go_wp2_with (go_at_call 34; refine (HFX.out _).mono ?_; intro e w5 h; obtain ⟨he, hc⟩ := h; subst he; replace hk := hk.trans hc sb_; clear hc; obtain ⟨r0, r1, r2, q0, q1, q2⟩ := cell3 (kept_heap hk HB2.out); obtain ⟨i0, i1⟩ := cell1 (kept_heap hk HB3.out))
  refine leaves_cons (f := 58) (args := #[.pointer (some ⟨w.heap.size, 0, none⟩), .pointer (some ⟨w.heap.size + 1, 0, none⟩)]) (by simp) (by simp [go_sem]) ?_
  refine (fxMean_idle _ _ _).mono ?_
  rintro e u' w'' ⟨rfl, rfl, rfl⟩
  exact ⟨.tuple #[.agg #[.bool nb, .int .u64 K, .int .i64 t], .int .i64 0], fix_result rfl _ _ w.heap.size (w.heap.size + 1) _ _ _ _ _ _ rfl rfl (fix_far (store3 (kept_heap hk HB2.out) _ _ _) (by omega)) (int_set (fix_near (kept_heap hk HB3.out) (by omega))), ⟨sg, some (k, t), HPP.out, by rw [← HNB.out, ← HK.out]; rfl, fix_chg (HC0.out.trans hk sb_) (by omega) (by omega)⟩⟩
set_option maxHeartbeats 4000000 in
theorem FracMul_any {w : World} {A B D1 D2 : Option Addr} {n c m d p1 q1 p2 q2 a b x y : Nat} (n1 n2 sb : Bool) (ha : SN w A n c a) (hx : SN w D1 p1 q1 x) (hb : SN w B m d b) (hy : SN w D2 p2 q2 y)
  (ha1 : a < tn 850) (hb1 : b < tn 850) (hx1 : x < tn 850) (hy1 : y < tn 850) (hsb : ((n1 != n2) && a * b != 0) = sb) :
  Calls Tryz.prog 20 #[.agg #[.bool n1, .slice A n c, .slice D1 p1 q1], .agg #[.bool n2, .slice B m d, .slice D2 p2 q2]] w (PFN w sb (a * b) (x * y)) := by
 have HM1 := hid (fun w1 (h : Chg (fun _ => False) w w1) => WholeMul_any n1 n2 sb (ha.kept h) (hb.kept h) (up240 ha1 (by omega)) (up240 hb1 (by omega)) hsb)
 have HM3 := hid (fun w1 (h : Chg (fun _ => False) w w1) => NatMul_any (hx.kept h) (hy.kept h) (up243 hx1 (by omega)) (up243 hy1 (by omega)))
 obtain ⟨P, hPe⟩ : ∃ P, a * b = P := ⟨_, rfl⟩
 obtain ⟨R, hRe⟩ : ∃ R, x * y = R := ⟨_, rfl⟩
 rw [hPe] at HM1
 rw [hRe] at HM3
 rw [hPe, hRe]
 clear ha hb hx hy ha1 hb1 hx1 hy1 hsb hPe hRe
 obtain ⟨HC0, HD, hB0, hB1, hB2⟩ := box3 w #[.bool n1, .slice A n c, .slice D1 p1 q1] 34 #[.bool n2, .slice B m d, .slice D2 p2 q2] 34 #[.bool false, .slice none 0 0, .slice none 0 0] 34
 have HZ := hid hB2
 have HSS := hid (fun (w1 : World) h => And.intro ((cell3 (kept_heap (w' := w1) h hB0)).1) (And.intro ((cell3 (kept_heap (w' := w1) h hB0)).2.1) (And.intro ((cell3 (kept_heap (w' := w1) h hB0)).2.2.1) (And.intro ((cell3 (kept_heap (w' := w1) h hB1)).1) (And.intro ((cell3 (kept_heap (w' := w1) h hB1)).2.1) ((cell3 (kept_heap (w' := w1) h hB1)).2.2.1))))))
 have HST := hid (fun w1 x0 x1 x2 h => And.intro (far3 (z := w.heap.size + 1 + 1) (x0 := x0) (x1 := x1) (x2 := x2) (HSS.out w1 h).1 (by omega)) (And.intro (far3 (z := w.heap.size + 1 + 1) (x0 := x0) (x1 := x1) (x2 := x2) (HSS.out w1 h).2.1 (by omega)) (And.intro (far3 (z := w.heap.size + 1 + 1) (x0 := x0) (x1 := x1) (x2 := x2) (HSS.out w1 h).2.2.1 (by omega)) (And.intro (far3 (z := w.heap.size + 1 + 1) (x0 := x0) (x1 := x1) (x2 := x2) (HSS.out w1 h).2.2.2.1 (by omega)) (And.intro (far3 (z := w.heap.size + 1 + 1) (x0 := x0) (x1 := x1) (x2 := x2) (HSS.out w1 h).2.2.2.2.1 (by omega)) (far3 (z := w.heap.size + 1 + 1) (x0 := x0) (x1 := x1) (x2 := x2) (HSS.out w1 h).2.2.2.2.2 (by omega)))))))
 clear hB0 hB1 hB2
 have hk := HD.out
 go_enter Tryz.func20, Tryz.ntmps20
 go_wp2_with fail
 first | (go_region_held3 (fun w' => w'.cell? ⟨w.heap.size, 0, none⟩ = some (.bool n1) ∧ w'.cell? ⟨w.heap.size, 1, none⟩ = some (.slice A n c) ∧ w'.cell? ⟨w.heap.size, 2, none⟩ = some (.slice D1 p1 q1) ∧ w'.cell? ⟨w.heap.size + 1, 0, none⟩ = some (.bool n2) ∧ w'.cell? ⟨w.heap.size + 1, 1, none⟩ = some (.slice B m d) ∧ w'.cell? ⟨w.heap.size + 1, 2, none⟩ = some (.slice D2 p2 q2)) (first | with_reducible exact HSS.out _ hk | with_reducible exact HST.out _ _ _ _ hk | go_keep) (first | (go_at_call 45; refine (HM1.out _ (HC0.out.trans hk sb_)).mono ?_; intro e w1 h; obtain ⟨E1, k1_, l1_, he, hsn, hc⟩ := h; subst he; replace hk := hk.trans hc sb_; (try replace HN1 := hid (HN1.out.kept hc)); (try replace HN3 := hid (HN3.out.kept hc)); have HN1 := hid hsn; clear hsn; clear hc; obtain ⟨k0, k1, k2, f0, f1, f2⟩ := cell3 (kept_heap hk HZ.out)) | (go_at_call 47; refine (HM3.out _ (HC0.out.trans hk sb_)).mono ?_; intro e w1 h; obtain ⟨E3, k3_, l3_, he, hsn, hc⟩ := h; subst he; replace hk := hk.trans hc sb_; (try replace HN1 := hid (HN1.out.kept hc)); (try replace HN3 := hid (HN3.out.kept hc)); have HN3 := hid hsn; clear hsn; clear hc; obtain ⟨k0, k1, k2, f0, f1, f2⟩ := cell3 (kept_heap hk HZ.out)))) | fail
 all_goals (go_wp2_with fail; refine bodyPost_ret (v := .agg #[.bool sb, .slice E1 k1_ l1_, .slice E3 k3_ l3_]) (by rw [results_cell_row rfl _ _ (w.heap.size + 1 + 1) _ _ _ _ rfl (store3 (kept_heap hk HZ.out) _ _ _) Tryz.underlying34 rfl frac_size]) rfl ⟨E1, k1_, l1_, E3, k3_, l3_, rfl, sn_end3 HN1.out (kept_heap hk HZ.out) (by simp) _ _ _, sn_end3 HN3.out (kept_heap hk HZ.out) (by simp) _ _ _, chg3 (HC0.out.trans hk sb_) (by omega) _ _ _⟩)
theorem FracInv_any (n1 : Bool) (A : Option Addr) (n c : Nat) (B : Option Addr) (m d : Nat) (sb : Bool) (hsb : (n1 && m != 0) = sb) (w : World) :
  Calls Tryz.prog 29 #[.agg #[.bool n1, .slice A n c, .slice B m d]] w (PV w (.agg #[.bool sb, .slice B m d, .slice A n c])) := by
 have HM := hid (fun w => wholeOf_any n1 B m d sb hsb w)
 clear hsb
 obtain ⟨HC0, HD, hB0, hB1⟩ := box2 w #[.bool n1, .slice A n c, .slice B m d] 34 #[.bool false, .slice none 0 0, .slice none 0 0] 34
 have HZ := hid hB1
 have HSS := hid (fun (w1 : World) h => And.intro ((cell3 (kept_heap (w' := w1) h hB0)).1) (And.intro ((cell3 (kept_heap (w' := w1) h hB0)).2.1) ((cell3 (kept_heap (w' := w1) h hB0)).2.2.1)))
 have HST := hid (fun w1 x0 x1 x2 h => And.intro (far3 (z := w.heap.size + 1) (x0 := x0) (x1 := x1) (x2 := x2) (HSS.out w1 h).1 (by omega)) (And.intro (far3 (z := w.heap.size + 1) (x0 := x0) (x1 := x1) (x2 := x2) (HSS.out w1 h).2.1 (by omega)) (far3 (z := w.heap.size + 1) (x0 := x0) (x1 := x1) (x2 := x2) (HSS.out w1 h).2.2 (by omega))))
 clear hB0 hB1
 have hk := HD.out
 go_enter Tryz.func29, Tryz.ntmps29
 go_wp2_with fail
 first | (go_region_held3 (fun w' => w'.cell? ⟨w.heap.size, 0, none⟩ = some (.bool n1) ∧ w'.cell? ⟨w.heap.size, 1, none⟩ = some (.slice A n c) ∧ w'.cell? ⟨w.heap.size, 2, none⟩ = some (.slice B m d)) (first | with_reducible exact HSS.out _ hk | with_reducible exact HST.out _ _ _ _ hk | go_keep) (first | (go_at_call 60; refine (HM.out _).mono ?_; intro e w1 h; obtain ⟨he, hc⟩ := h; subst he; replace hk := hk.trans hc sb_; skip; skip; clear hc; obtain ⟨k0, k1, k2, f0, f1, f2⟩ := cell3 (kept_heap hk HZ.out)))) | fail
 all_goals (go_wp2_with fail; refine bodyPost_ret (v := .agg #[.bool sb, .slice B m d, .slice A n c]) (by rw [results_cell_row rfl _ _ (w.heap.size + 1) _ _ _ _ rfl (store3 (kept_heap hk HZ.out) _ _ _) Tryz.underlying34 rfl frac_size]) rfl ⟨rfl, chg3 (HC0.out.trans hk sb_) (by omega) _ _ _⟩)
theorem FracInv_sn {w : World} {A D1 : Option Addr} {n c p1 q1 x : Nat} (n1 sb : Bool) (hx : SN w D1 p1 q1 x) (hsb : (n1 && x != 0) = sb) :
  Calls Tryz.prog 29 #[.agg #[.bool n1, .slice A n c, .slice D1 p1 q1]] w (PV w (.agg #[.bool sb, .slice D1 p1 q1, .slice A n c])) :=
 FracInv_any n1 A n c D1 p1 q1 sb (by rw [sgn_len hx]; exact hsb) w
theorem PMean_places {l : List DT} {sg : Bool} {k t : Nat} (h : PMean l sg (some (k, t))) : t ≤ 19 := by
 unfold PMean at h
 split at h
 ·cases h
 ·exact (h.2 _ _ rfl).1
set_option maxHeartbeats 4000000 in
theorem lawMean_out {A : Option Addr} {l : List (Bool × Int × Int)} {c : Nat} (w : World) (hx : FX w A l) (hno : 40 < l.length ∨ (l.all fun f => okFix f.2.1 f.2.2) = false) :
  Calls Tryz.prog 7 #[.slice A l.length c] w (PV w (.bool true)) := by
 by_cases h1 : 2147483647 < l.length
 ·have hgt : (2147483647 : Int) < (l.length : Int) := by omega
  generalize l.length = L at *
  clear hx hno h1
  go_enter Tryz.func7, Tryz.ntmps7
  go_wp2_with fail
  go_ret
  exact ⟨rfl, Chg.refl _ _⟩
 ·have hgt : ¬ (2147483647 : Int) < (l.length : Int) := by omega
  by_cases h2 : 40 < l.length
  ·have hg2 : (40 : Int) < (l.length : Int) := by omega
   generalize l.length = L at *
   clear hx hno h1 h2
   go_enter Tryz.func7, Tryz.ntmps7
   go_wp2_with fail
   go_ret
   exact ⟨rfl, Chg.refl _ _⟩
  ·have hg2 : ¬ (40 : Int) < (l.length : Int) := by omega
   have HFA := hid (FixAll_list (c := c) hx (by omega))
   rw [hno.resolve_left h2] at HFA
   generalize l.length = L at *
   clear hx hno h1 h2
   go_enter Tryz.func7, Tryz.ntmps7
   go_wp2_with (go_at_call 8; refine HFA.out.mono ?_; intro e w1 h; obtain ⟨he, hc⟩ := h; subst he; have hk := hc; clear hc)
   go_ret
   exact ⟨rfl, hk⟩
set_option maxHeartbeats 8000000 in
theorem lawMean_in {A : Option Addr} {l : List DT} {c : Nat} (w : World) (he : EnvI w) (hx : FX w A (l.map rawI)) (hr : ∀ f ∈ l, f.2.1 < 10 ^ 19 ∧ f.2.2 ≤ 19) (hl : l.length ≤ 40) (hok : ((l.map rawI).all fun f => okFix f.2.1 f.2.2) = true) :
  Calls Tryz.prog 7 #[.slice A l.length c] w (PV w (.bool true)) := by
 have hgt : ¬ (2147483647 : Int) < (l.length : Int) := by omega
 have hg2 : ¬ (40 : Int) < (l.length : Int) := by omega
 have HFA := hid (FixAll_list (c := c) hx (by rw [List.length_map]; omega))
 rw [hok, List.length_map] at HFA
 have HFS := hid (fun w1 (h : Chg (fun _ => False) w w1) => fxMean_gen (c := c) (PMean (l.map nrm)) (fun _ _ _ h => PMean_places h) w1 (he.kept h) (hx.kept h) hr hl (fun w2 B cp h2 hd => by
  have := Mean_any (c := cp) w2 h2 hd (nrm_ok hr) (by rw [List.length_map]; exact hl)
  rw [List.length_map] at this
  exact this))
 have HGS := hid (fun w1 (h : Chg (fun _ => False) w w1) => gvSum_any (c := c) w1 (hx.kept h) hr hl)
 have HLV := hid (fun w1 (h : Chg (fun _ => False) w w1) => gvLives_any2 w1 (he.kept h).1)
 have hk := Chg.refl (fun _ => False) w
 by_cases h0 : l = []
 ·subst h0
  clear HGS
  go_enter Tryz.func7, Tryz.ntmps7
  go_wp2_with (go_at_call 8; refine HFA.out.mono ?_; intro e w1 h; obtain ⟨he, hc⟩ := h; subst he; replace hk := hk.trans hc sb_; clear hc)
  go_at_call 28
  refine (HFS.out _ hk).mono ?_
  intro e w2 h
  obtain ⟨sg, o, hp, he2, hc⟩ := h
  have ho : o = none := by unfold PMean at hp; rw [if_pos (show List.map nrm [] = [] from rfl)] at hp; exact hp
  subst ho
  have he3 : e = .returned (.tuple #[.agg #[.bool false, .int .u64 0, .int .i64 0], .int .i64 1]) := he2
  clear he2
  subst he3
  replace hk := (hk.trans hc sb_).alloc (.cells #[.bool false, .int .u64 0, .int .i64 0] 24)
  clear hc hp
  go_wp2_with (go_at_call 13; refine (HLV.out _ hk).mono ?_; intro e w1 h; obtain ⟨he, hc⟩ := h; subst he; replace hk := hk.trans hc sb_; clear hc)
  go_ret
  exact ⟨rfl, hk⟩
 ·have hz : ¬ (l.length : Int) = 0 := fun h => h0 (List.length_eq_zero_iff.1 (by omega))
  have hlp : 0 < l.length := by omega
  obtain ⟨b1, b2, b3⟩ := sumQ_bd (nrm_ok hr) (by rw [List.length_map]; exact hl)
  have HGN := hid (fun (w1 : World) (A X : Option Addr) (n c k j : Nat) (sg : Bool) (o : Option (Nat × Nat)) (out f : Value) (h1 : SN w1 A n c (sumQ (l.map nrm)).2.1) (h2 : SN w1 X k j ((sumQ (l.map nrm)).2.2 * l.length)) (hP : PMean (l.map nrm) sg o) (hv : fixOut sg o = .tuple #[out, f]) =>
   gvNear_good (sumQ (l.map nrm)).1 sg o out f h1 h2 (up_tn b1 (by omega)) (up_tn (mul_tn b2 (Nat.lt_of_le_of_lt hl (by decide : (40 : Nat) < 10 ^ 2))) (by omega)) (Nat.mul_pos b3 hlp) (by
    unfold PMean at hP
    rw [if_neg (fun h => h0 (List.map_eq_nil_iff.1 h))] at hP
    have := hP.1
    rw [List.length_map] at this
    exact this) hv)
  have hsq := sumQ_sign (l.map nrm)
  have HMU := hid (fun (w1 : World) (A D1 B D2 : Option Addr) (n c p1 q1 m d p2 q2 : Nat) (ha : SN w1 A n c (sumQ (l.map nrm)).2.1) (hx : SN w1 D1 p1 q1 (sumQ (l.map nrm)).2.2) (hb : SN w1 B m d 1) (hy : SN w1 D2 p2 q2 l.length) =>
   FracMul_any (sumQ (l.map nrm)).1 false (sumQ (l.map nrm)).1 ha hx hb hy (up_tn b1 (by omega)) (lt_tn (j := 1) (by decide) (by omega)) (up_tn b2 (by omega)) (lt_tn (j := 2) (Nat.lt_of_le_of_lt hl (by decide)) (by omega)) (by rw [Nat.mul_one, show ∀ b : Bool, (b != false) = b from fun b => by cases b <;> rfl]; exact hsq))
  have HIN := hid (fun w1 => Int_nat (w := w1) l.length (l.length : Int) rfl (by omega))
  have HIV := hid (fun (w1 : World) (A D1 : Option Addr) (n c p1 q1 : Nat) (hx : SN w1 D1 p1 q1 1) => FracInv_sn (A := A) (n := n) (c := c) false false hx rfl)
  simp only [Nat.mul_one] at HMU
  clear hsq
  generalize l.length = L at *
  generalize sumQ (l.map nrm) = q at *
  obtain ⟨qb, qn, qd⟩ := q
  simp only at HGN HGS HMU
  clear b1 b2 b3 h0 hok hr hlp
  go_enter Tryz.func7, Tryz.ntmps7
  go_wp2_with (go_at_call 8; refine HFA.out.mono ?_; intro e w1 h; obtain ⟨he, hc⟩ := h; subst he; replace hk := hk.trans hc sb_; clear hc)
  go_at_call 28
  refine (HFS.out _ hk).mono ?_
  intro e w2 h
  obtain ⟨sg, o, hp, he2, hc⟩ := h
  obtain ⟨b0, c0, s0, f0, hfo⟩ := fixOut_op sg o
  rw [hfo] at he2
  subst he2
  have HNR := hid (fun (w1 : World) (A X : Option Addr) (n c k j : Nat) (h1 : SN w1 A n c qn) (h2 : SN w1 X k j (qd * L)) => HGN.out w1 A X n c k j sg o _ _ h1 h2 hp hfo)
  replace hk := (hk.trans hc sb_).alloc (.cells #[.bool b0, .int .u64 c0, .int .i64 s0] 24)
  have HG := hid (heap_alloc_new w2 (.cells #[.bool b0, .int .u64 c0, .int .i64 s0] 24))
  obtain ⟨g, hg⟩ : ∃ g, w2.heap.size = g := ⟨_, rfl⟩
  rw [hg] at HG
  obtain ⟨j0, j1, j2, _, _, _⟩ := cell3 HG.out
  clear hc hp hfo
  go_wp2_with fail
  have hw6 := (Chg.refl (fun _ => False) (w2.alloc (.cells #[.bool b0, .int .u64 c0, .int .i64 s0] 24))).drew
  have hk := hk.drew
  have HS6 := hid (fun (w3 : World) (h2 : Chg (fun _ => False) (w2.alloc (.cells #[.bool b0, .int .u64 c0, .int .i64 s0] 24)) w3) => And.intro ((cell3 (kept_heap h2 HG.out)).1) (And.intro ((cell3 (kept_heap h2 HG.out)).2.1) ((cell3 (kept_heap h2 HG.out)).2.2.1)))
  first | (go_region_held3 (fun w' => w'.cell? ⟨g, 0, none⟩ = some (.bool b0) ∧ w'.cell? ⟨g, 1, none⟩ = some (.int .u64 c0) ∧ w'.cell? ⟨g, 2, none⟩ = some (.int .i64 s0)) (first | with_reducible exact HS6.out _ hw6) (first | (go_at_call 23; refine (HGS.out _ hk).mono ?_; intro e w3 h; obtain ⟨A1, A1_, A2_, A2, A3_, A4_, he, hq1, hq2, hc⟩ := h; subst he; replace hk := hk.trans hc sb_; replace hw6 := hw6.trans hc sb_; have HA1 := hid hq1; have HA2 := hid hq2; clear hq1 hq2 hc) | (go_at_call 24; refine (HIN.out _).mono ?_; intro e w3 h; obtain ⟨B1, B1_, B2_, B2, B3_, B4_, he, hq1, hq2, hc⟩ := h; subst he; replace hk := hk.trans hc sb_; replace hw6 := hw6.trans hc sb_; replace HA1 := hid (HA1.out.kept hc); replace HA2 := hid (HA2.out.kept hc); have HB1 := hid hq1; have HB2 := hid hq2; clear hq1 hq2 hc) | (go_at_call 29; refine (HIV.out _ _ _ _ _ _ _ HB2.out).mono ?_; intro e w3 h; obtain ⟨he, hc⟩ := h; subst he; replace hk := hk.trans hc sb_; replace hw6 := hw6.trans hc sb_; replace HA1 := hid (HA1.out.kept hc); replace HA2 := hid (HA2.out.kept hc); replace HB1 := hid (HB1.out.kept hc); replace HB2 := hid (HB2.out.kept hc); clear hc) | (go_at_call 20; refine (HMU.out _ _ _ _ _ _ _ _ _ _ _ _ _ HA1.out HA2.out HB2.out HB1.out).mono ?_; intro e w3 h; obtain ⟨C1, C1_, C2_, C2, C3_, C4_, he, hq1, hq2, hc⟩ := h; subst he; replace hk := hk.trans hc sb_; replace hw6 := hw6.trans hc sb_; have HM1 := hid hq1; have HM2 := hid hq2; clear hq1 hq2 hc) | (go_at_call 22; refine (HNR.out _ _ _ _ _ _ _ HM1.out HM2.out).mono ?_; intro e w3 h; obtain ⟨he, hc⟩ := h; subst he; replace hk := hk.trans hc sb_; replace hw6 := hw6.trans hc sb_; clear hc))) | fail
  all_goals (go_wp2_with fail; go_ret; exact ⟨rfl, hk⟩)
theorem lawMean_any {A : Option Addr} {l : List (Bool × Int × Int)} {c : Nat} (w : World) (he : EnvI w) (hx : FX w A l) (h0 : ∀ f ∈ l, 0 ≤ f.2.1) :
  Calls Tryz.prog 7 #[.slice A l.length c] w (PV w (.bool true)) := by
 by_cases h2 : 40 < l.length
 ·exact lawMean_out w hx (.inl h2)
 ·cases hok : (l.all fun f => okFix f.2.1 f.2.2) with
  | false => exact lawMean_out w hx (.inr hok)
  | true =>
   obtain ⟨r, rfl, hr⟩ := raw_of h0 hok
   rw [List.length_map] at *
   exact lawMean_in w he hx hr (by omega) hok
end Go.Proofs.YtbjhnckboimliaaGreatDoor
