/- For every three integers the law FnFixFromInts answers true, and its arguments read as they did. No condition beyond the row's own: the package's variables hold what the program's text lays (tied). -/
import Derived.Test.YthdkandofddohaaGreatDoorTie
import Derived.Test.YthdkandofddohaaGreatDoorCards
import Derived.SevenTiedAt
import Derived.Carry
import Derived.Test.YthdkandofddohaaGreatDoorP25
namespace Go.Proofs.YthdkandofddohaaGreatDoor
open Go.RowKit
set_option linter.unusedVariables false
set_option linter.unusedSimpArgs false
set_option maxRecDepth 20000
def GF (W : World) (sb : Bool) (a b : Nat) (x : Value) (wx : World) : Prop := ∃ (g : Nat) (E : Option Addr) (k l : Nat) (G : Option Addr) (i j : Nat), x = .pointer (some ⟨g, 0, none⟩) ∧ wx.heap[g]? = some (.cells #[.bool sb, .slice E k l, .slice G i j] 34 (0, 0)) ∧ W.heap.size ≤ g ∧ SN wx E k l a ∧ SN wx G i j b ∧ Chg (fun _ => False) W wx
theorem gf_new {W w1 : World} {sb : Bool} {a b k l i j : Nat} {E G : Option Addr} (h : SN w1 E k l a) (h2 : SN w1 G i j b) (hk : Chg (fun _ => False) W w1) : GF W sb a b (.pointer (some ⟨w1.heap.size, 0, none⟩)) (w1.alloc (.cells #[.bool sb, .slice E k l, .slice G i j] 34)) :=
 ⟨w1.heap.size, E, k, l, G, i, j, rfl, heap_alloc_new _ _, hk.size, h.kept ((Chg.refl _ _).alloc _), h2.kept ((Chg.refl _ _).alloc _), hk.alloc _⟩
theorem gf_old {W w1 : World} {sb b0 : Bool} {a b k l i j g y0 z0 y1 z1 : Nat} {E G x0 x1 : Option Addr} (hg : w1.heap[g]? = some (.cells #[.bool b0, .slice x0 y0 z0, .slice x1 y1 z1] 34 (0, 0))) (hW : W.heap.size ≤ g) (h : SN w1 E k l a) (h2 : SN w1 G i j b) (hk : Chg (fun _ => False) W w1) : GF W sb a b (.pointer (some ⟨g, 0, none⟩)) (((w1.setCell ⟨g, 0, none⟩ (.bool sb)).setCell ⟨g, 1, none⟩ (.slice E k l)).setCell ⟨g, 2, none⟩ (.slice G i j)) :=
 ⟨g, E, k, l, G, i, j, rfl, store3 hg _ _ _, hW, sn_end3 h hg (by simp) _ _ _, sn_end3 h2 hg (by simp) _ _ _, chg3 hk hW _ _ _⟩
theorem fi_signs {g sgn : Bool} {C k Q p u : Nat} (hg : (g && C != 0) = sgn) (hz : C = 0 → k = 0) (hkq : k * 10 ^ p = Q * 10 ^ u) : ((g && k != 0) && k * 10 ^ p != 0) = ((sgn && Q != 0) && Q * 10 ^ u != 0) := by
 by_cases hk : k = 0
 ·subst hk
  rw [Nat.zero_mul] at hkq
  have hq : Q = 0 := by
   rcases Nat.mul_eq_zero.1 hkq.symm with h | h
   ·exact h
   ·exact absurd h (Nat.ne_of_gt (pow10_pos _))
  subst hq
  cases g <;> cases sgn <;> simp
 ·have hC : C ≠ 0 := fun h => hk (hz h)
  have hq : Q ≠ 0 := fun h => by
   rw [h, Nat.zero_mul] at hkq
   rcases Nat.mul_eq_zero.1 hkq with h | h
   ·exact hk h
   ·exact absurd h (Nat.ne_of_gt (pow10_pos _))
  have e1 : (k != 0) = true := bne_iff_ne.2 hk
  have e2 : (Q != 0) = true := bne_iff_ne.2 hq
  have e3 : (C != 0) = true := bne_iff_ne.2 hC
  have e4 : (k * 10 ^ p != 0) = true := bne_iff_ne.2 (Nat.mul_ne_zero hk (Nat.ne_of_gt (pow10_pos _)))
  have e5 : (Q * 10 ^ u != 0) = true := bne_iff_ne.2 (Nat.mul_ne_zero hq (Nat.ne_of_gt (pow10_pos _)))
  rw [e3, Bool.and_true] at hg
  rw [e1, e2, e4, e5, hg]
set_option maxHeartbeats 16000000 in
theorem lawFI_ok (W F : Int) (s : Nat) (hs : s ≤ 19) (hW0 : -9223372036854775808 ≤ W) (hW1 : W < 9223372036854775808) (hF0 : -9223372036854775808 ≤ F) (hF1 : F < 9223372036854775808) (g1 : ¬ (0 < W ∧ F < 0)) (g2 : ¬ (W < 0 ∧ 0 < F)) (hsm : F.natAbs < 10 ^ s) (w : World) (he : EnvD w) (hes : EnvS w) :
  Calls Tryz.prog 4 #[.int .i64 W, .int .i64 F, .int .i64 s] w (PV w (.bool true)) := by
 have HFI : Hid (Calls Tryz.prog 11 #[.int .i64 W, .int .i64 F, .int .i64 s] w (fun e w' => ∃ (g : Bool) (k u p : Nat), k < 10 ^ 19 ∧ u ≤ 19 ∧ p ≤ s ∧ room (10 ^ 19) (rnd (W.natAbs * 10 ^ s + F.natAbs) s) s = some p ∧ rnd (W.natAbs * 10 ^ s + F.natAbs) s p < 10 ^ 19 ∧ k * 10 ^ p = rnd (W.natAbs * 10 ^ s + F.natAbs) s p * 10 ^ u ∧
   (u = 0 ∨ k % 10 ≠ 0 ∨ rnd (W.natAbs * 10 ^ s + F.natAbs) s p * 10 ^ s ≠ (W.natAbs * 10 ^ s + F.natAbs) * 10 ^ p) ∧ ((g && k != 0) && k * 10 ^ p != 0) = ((decide (W < 0 ∨ F < 0) && rnd (W.natAbs * 10 ^ s + F.natAbs) s p != 0) && rnd (W.natAbs * 10 ^ s + F.natAbs) s p * 10 ^ u != 0) ∧ e = .returned (.tuple #[.agg #[.bool (g && k != 0), .int .u64 (k : Int), .int .i64 (u : Int)], .int .i64 0]) ∧ Chg (fun _ => False) w w')) := hid ((fxFI_any W F s hW0 hW1 hF0 hF1 w he hes).mono (fun e w' h => by
  obtain ⟨g, o, hp, he, hc⟩ := h
  rcases hp with ⟨hb, _⟩ | ⟨_, c, t, h1, h2, h3, h4, h5⟩
  ·rcases hb with h | h | h | h | h
   ·omega
   ·omega
   ·exact absurd h g1
   ·exact absurd h g2
   ·rw [Int.toNat_natCast, ← pow_cast] at h
    omega
  ·rw [Int.toNat_natCast] at h1 h2
   obtain ⟨k, u, p, q1, q2, q3, q4, q5, q6, q7, q8, q9⟩ := fi_plain (w := W.natAbs) hs h1 (by omega) h2 hsm h3
   rw [q1] at h5
   subst h5
   refine ⟨g, k, u, p, q3, q2, q4, q5, q6, q7, q8, fi_signs h4 q9 q7, ?_, hc⟩
   rw [← nat_bne]
   exact he))
 have hcs : (0 < W ∧ ¬ F < 0 ∧ ¬ W < 0) ∨ (¬ 0 < W ∧ ¬ W < 0) ∨ (¬ 0 < W ∧ W < 0 ∧ ¬ 0 < F) := by omega
 have hs1 : ¬ (s : Int) < 0 := by omega
 have hs2 : ¬ (19 : Int) < (s : Int) := by omega
 have hF850 : F.natAbs < tn 850 := lt_tn (show F.natAbs < 10 ^ 19 by rw [show (10 : Nat) ^ 19 = 10000000000000000000 by decide]; omega) (by omega)
 have hP850 : (10 : Nat) ^ s < tn 850 := pow_tn (by omega)
 have h1850 : (1 : Nat) < tn 850 := lt_tn (j := 1) (by decide) (by omega)
 have hnf : (decide (F < 0) && F.natAbs != 0) = decide (F < 0) := by by_cases h : F < 0 <;> simp [h]; omega
 have HWF := hid (fun w1 => WholeOf_int (w := w1) F hF0 hF1)
 have HW1 := hid (fun w1 => WholeOf_nat (w := w1) 1 1 rfl (by omega))
 have HFP := hid (fun (w1 : World) (E : Option Addr) (k l : Nat) (h : SN w1 E k l F.natAbs) => DecFrac_any (decide (F < 0)) (-(s : Int)) s h (up_tn hF850 (by omega)) (by omega) hnf rfl)
 have HF1 := hid (fun (w1 : World) (E : Option Addr) (k l : Nat) (h : SN w1 E k l 1) => DecFrac_zero false h (up_tn h1850 (by omega)) rfl)
 have HCM := hid (fun (w1 : World) (E : Option Addr) (k l : Nat) (G : Option Addr) (i j : Nat) (E2 : Option Addr) (k2 l2 : Nat) (G2 : Option Addr) (i2 j2 : Nat) (q1 : SN w1 E k l F.natAbs) (q2 : SN w1 G i j (10 ^ s)) (q3 : SN w1 E2 k2 l2 1) (q4 : SN w1 G2 i2 j2 1) => FracCmp_ex false false q1 q2 q3 q4 hF850 h1850 hP850 h1850)
 have hcv : cmpW (false && F.natAbs * 1 != 0) (F.natAbs * 1) (false && 1 * 10 ^ s != 0) (1 * 10 ^ s) = cmpN F.natAbs (10 ^ s) := by rw [Nat.mul_one, Nat.one_mul]; rfl
 rw [hcv] at HCM
 have hcv2 : cmpN F.natAbs (10 ^ s) = -1 := by unfold cmpN; rw [if_pos hsm]
 rw [hcv2] at HCM
 have hlt0 : ¬ (0 : Int) ≤ -1 := by omega
 have HWW := hid (fun w1 => WholeOf_int (w := w1) W hW0 hW1)
 have hnw : (decide (W < 0) && W.natAbs != 0) = decide (W < 0) := by by_cases h : W < 0 <;> simp [h]; omega
 have hW850 : W.natAbs < tn 850 := lt_tn (show W.natAbs < 10 ^ 19 by rw [show (10 : Nat) ^ 19 = 10000000000000000000 by decide]; omega) (by omega)
 have HFW := hid (fun (w1 : World) (E : Option Addr) (k l : Nat) (h : SN w1 E k l W.natAbs) => DecFrac_zero (decide (W < 0)) h (up_tn hW850 (by omega)) hnw)
 have hA0 : W.natAbs * 10 ^ s = 0 ↔ W = 0 := by
  rw [Nat.mul_eq_zero]
  exact ⟨fun h => h.elim (fun h => by omega) (fun h => absurd h (Nat.ne_of_gt (pow10_pos _))), fun h => .inl (by omega)⟩
 have hB0 : F.natAbs * 1 = 0 ↔ F = 0 := by omega
 obtain ⟨s1, s2, s3, s4⟩ := fi_sum g1 g2 hA0 hB0
 have HAD := hid (fun (w1 : World) (A B X Y : Option Addr) (n c k l p q i j : Nat) (h1 : SN w1 A n c W.natAbs) (h2 : SN w1 X k l 1) (h3 : SN w1 B p q F.natAbs) (h4 : SN w1 Y i j (10 ^ s)) => FracAdd_any (decide (W < 0)) (decide (F < 0)) (decide (W < 0 ∨ F < 0)) h1 h2 h3 h4 hW850 hF850 h1850 hP850 (by rw [s3, s4, s1]; exact s2))
 rw [s3, s4, s1, Nat.mul_one, Nat.one_mul] at HAD
 have hM850 : W.natAbs * 10 ^ s + F.natAbs < tn 850 := by
  have h1 : W.natAbs * 10 ^ s < tn (20 + 20) := mul_tn (lt_tn (show W.natAbs < 10 ^ 19 by rw [show (10 : Nat) ^ 19 = 10000000000000000000 by decide]; omega) (by omega)) (Nat.pow_lt_pow_right (by omega) (by omega))
  exact two_tn h1 (lt_tn (show F.natAbs < 10 ^ 19 by rw [show (10 : Nat) ^ 19 = 10000000000000000000 by decide]; omega) (by omega)) (by omega)
 have HFX := hid (fun (w1 : World) (A X : Option Addr) (n c k l p : Nat) (h1 : SN w1 A n c (W.natAbs * 10 ^ s + F.natAbs)) (h2 : SN w1 X k l (10 ^ s)) (ho : room (10 ^ 19) (rnd (W.natAbs * 10 ^ s + F.natAbs) s) s = some p) => Fixed_to (decide (W < 0 ∨ F < 0)) h1 h2 hM850 hP850 ⟨pow10_pos s⟩ (some p) s hs ho)
 have HCQ := hid (fun (w1 : World) (A B X Y : Option Addr) (n c k l p' q i j : Nat) (sb : Bool) (Q p : Nat) (h1 : SN w1 A n c Q) (h2 : SN w1 X k l (10 ^ p)) (h3 : SN w1 B p' q (W.natAbs * 10 ^ s + F.natAbs)) (h4 : SN w1 Y i j (10 ^ s)) (hQ : Q < tn 850) (hp : (10 : Nat) ^ p < tn 850) => FracCmp_any sb (decide (W < 0 ∨ F < 0)) h1 h2 h3 h4 hQ hM850 hp hP850)
 generalize decide (W < 0 ∨ F < 0) = sgn at *
 obtain ⟨aW, haW⟩ : ∃ a, W.natAbs = a := ⟨_, rfl⟩
 obtain ⟨nW, hnW⟩ : ∃ b, decide (W < 0) = b := ⟨_, rfl⟩
 rw [haW] at HFI HWW HFW HAD HFX HCQ
 rw [hnW] at HWW HFW HAD
 obtain ⟨nF, hnF⟩ : ∃ b, decide (F < 0) = b := ⟨_, rfl⟩
 obtain ⟨aF, haF⟩ : ∃ a, F.natAbs = a := ⟨_, rfl⟩
 obtain ⟨e0, he0⟩ : ∃ v : Int, -(s : Int) = v := ⟨_, rfl⟩
 rw [hnF, haF] at HWF HFP
 rw [haF] at HCM
 have hw0 : IntKind.i64.wrap (-(s : Int)) = e0 := (IntWalk.i64_in _ (by omega)).trans he0
 rw [he0] at HFP
 rw [haF] at HFI HAD HFX HCQ
 rw [hnF] at HAD
 have HMM := hid (show aW * 10 ^ s + aF < tn 850 by rw [← haW, ← haF]; exact hM850)
 have HS19 := hid hs
 obtain ⟨M, hM⟩ : ∃ M, aW * 10 ^ s + aF = M := ⟨_, rfl⟩
 rw [hM] at HFI HAD HFX HCQ HMM
 clear hW0 hW1 hF0 hF1 he hes hsm g1 g2 hs hF850 hP850 h1850 hW850 hnf hnw hcv hcv2 hnF haF he0 haW hnW hA0 hB0 s1 s2 s3 s4 hM850 hM
 obtain ⟨S, hS⟩ : ∃ v : Int, (s : Int) = v := ⟨_, rfl⟩
 rw [hS] at HFI hs1 hs2 hw0 HFX
 rw [hS]
 clear hS
 have b1 := hid (decide_eq_false hs1)
 have b2 := hid (decide_eq_false hs2)
 have HCS := hid hcs
 clear hcs
 go_enter Tryz.func4, Tryz.ntmps4
 go_wp2_with fail
 go_at_call 11
 refine HFI.out.mono ?_
 intro e w1 h
 obtain ⟨g, k, u, p, q1, q2, q3, q4, q5, q6, q7, q8, he, hc⟩ := h
 obtain ⟨nb, hnb⟩ : ∃ b, (g && k != 0) = b := ⟨_, rfl⟩
 obtain ⟨Q, hQ⟩ : ∃ Q, rnd M s p = Q := ⟨_, rfl⟩
 obtain ⟨sq, hsq⟩ : ∃ b, (sgn && Q != 0) = b := ⟨_, rfl⟩
 rw [hQ] at q5 q6 q7 q8
 rw [hnb, hsq] at q8
 rw [hnb] at he
 have HFXp : Hid (∀ (w1 : World) (A X : Option Addr) (n c k l : Nat), SN w1 A n c M → SN w1 X k l (10 ^ s) → Calls Tryz.prog 17 #[.agg #[.bool sgn, .slice A n c, .slice X k l], .int .i64 S] w1 (fun e w' => ∃ (E : Option Addr) (i j : Nat), e = .returned (.tuple #[.agg #[.bool sq, .slice E i j, .int .i64 (-(p : Int))], .bool true]) ∧ SN w' E i j Q ∧ Chg (fun _ => False) w1 w')) := hid (fun w1 A X n c k' l h1 h2 => (HFX.out w1 A X n c k' l p h1 h2 q4).mono (fun e w' h => by
  obtain ⟨hc, sb, E, i, j, he, hsn, hsb⟩ := h
  have e1 : atP M (10 ^ s) p = Q := hQ
  rw [e1] at hsn hsb
  rw [hsq] at hsb
  subst hsb
  exact ⟨E, i, j, he, hsn, hc⟩))
 have hn1 : (nb && k != 0) = nb := by rw [← hnb]; cases g <;> simp
 have hn2 : (sq && Q != 0) = sq := by rw [← hsq]; cases sgn <;> simp
 have hQ850 : Q < tn 850 := lt_tn q5 (by omega)
 have hp19 : p ≤ 19 := by have := HS19.out; omega
 have HWO := hid (fun (w1 : World) (B : Option Addr) (m d : Nat) (h : SN w1 B m d Q) => FixWorth_ok nb sq q1 q2 hn1 h hQ850 (show p ≤ 200 by omega) hn2 ⟨q8, q6⟩)
 have HFQ := hid (fun (w1 : World) (B : Option Addr) (m d : Nat) (h : SN w1 B m d Q) => DecFrac_any sq (-(p : Int)) p h (up_tn hQ850 (by omega)) (show p ≤ 200 by omega) hn2 rfl)
 have HCX := hid (fun (w1 : World) (A B X Y : Option Addr) (n c k l p' q i j : Nat) (h1 : SN w1 A n c Q) (h2 : SN w1 X k l (10 ^ p)) (h3 : SN w1 B p' q M) (h4 : SN w1 Y i j (10 ^ s)) => HCQ.out w1 A B X Y n c k l p' q i j sq Q p h1 h2 h3 h4 hQ850 (pow_tn (by omega)))
 have hend : (u = 0) ∨ (u ≠ 0 ∧ k % 10 ≠ 0) ∨ (u ≠ 0 ∧ k % 10 = 0 ∧ ¬ ((sq && Q * 10 ^ s != 0) = (sgn && M * 10 ^ p != 0) ∧ Q * 10 ^ s = M * 10 ^ p)) := by
  by_cases hu : u = 0
  ·exact .inl hu
  ·by_cases hk : k % 10 = 0
   ·exact .inr (.inr ⟨hu, hk, fun h => (q7.resolve_left hu).resolve_left (fun h => h hk) h.2⟩)
   ·exact .inr (.inl ⟨hu, hk⟩)
 generalize ((sq && Q * 10 ^ s != 0) = (sgn && M * 10 ^ p != 0) ∧ Q * 10 ^ s = M * 10 ^ p) = pp at *
 have hend2 : (((u : Int) == 0) = true) ∨ (((u : Int) == 0) = false ∧ ((k : Int) % 10 != 0) = true) ∨ (((u : Int) == 0) = false ∧ ((k : Int) % 10 != 0) = false ∧ ¬ pp) := by
  rcases hend with h | ⟨h, h'⟩ | ⟨h, h', h''⟩
  ·exact .inl (by rw [h]; rfl)
  ·exact .inr (.inl ⟨beq_eq_false_iff_ne.2 (by omega), bne_iff_ne.2 (by omega)⟩)
  ·exact .inr (.inr ⟨beq_eq_false_iff_ne.2 (by omega), bne_eq_false_iff_eq.2 (by omega), h''⟩)
 have HEND := hid hend2
 obtain ⟨K, hK⟩ : ∃ v : Int, (k : Int) = v := ⟨_, rfl⟩
 have hK0 : (0 : Int) ≤ K := by rw [← hK]; exact Int.natCast_nonneg _
 obtain ⟨U, hU⟩ : ∃ v : Int, (u : Int) = v := ⟨_, rfl⟩
 obtain ⟨ep, hep⟩ : ∃ v : Int, -(p : Int) = v := ⟨_, rfl⟩
 rw [hK, hU] at HWO HEND he
 obtain ⟨r, hr⟩ : ∃ r : Int, K % 10 = r := ⟨_, rfl⟩
 have hrm1 : K.tmod 10 = r := by rw [Int.tmod_eq_emod_of_nonneg hK0]; exact hr
 have hrm2 : IntKind.u64.wrap r = r := by rw [IntKind.wrap_u64]; omega
 have hrm3 : IntKind.u64.wrap (K.tmod 10) = r := by rw [hrm1]; exact hrm2
 rw [hr] at HEND
 clear hr
 rw [hep] at HWO HFQ HFXp
 subst he
 have HDB := hid (heap_alloc_new w1 (.cells #[.bool nb, .int .u64 K, .int .i64 U] 24))
 have hk := hc.alloc (.cells #[.bool nb, .int .u64 K, .int .i64 U] 24)
 obtain ⟨dd0, dd1, dd2, _, _, _⟩ := cell3 HDB.out
 clear hc q1 q2 q3 q4 q5 q6 q7 q8 hnb hQ hsq hn1 hn2 hQ850 hp19 hend hend2 hK hU hep HFX HCQ
 go_upto_region 2 with fail
 go_cut [41] (fun c wx => c = .bool false ∧ wx = w1.alloc (.cells #[.bool nb, .int .u64 K, .int .i64 U] 24))
 case first =>
  rcases HCS.out with ⟨h1, h2, h3⟩ | ⟨h1, h2⟩ | ⟨h1, h2, h3⟩
  all_goals (go_wp2_with fail; go_meet; exact ⟨congrArg Value.bool (by simp only [Bool.or_eq_false_iff, decide_eq_false_iff_not]; omega), rfl⟩)
 case rest =>
  obtain ⟨hv, hx⟩ := hcut
  subst hv hx
  clear HCS b1 b2
  go_upto_region 7 with (first | (go_at_call_of 12 (Value.int .i64 F); refine (HWF.out _).mono ?_; intro e w2 h; obtain ⟨E1, k1_, l1_, he, hs, hc⟩ := h; subst he; have HNF := hid (hs.kept ((Chg.refl (fun _ => False) w2).alloc (.cells #[.bool nF, .slice E1 k1_ l1_, .int .i64 e0] 42))); have HPB := hid (heap_alloc_new w2 (.cells #[.bool nF, .slice E1 k1_ l1_, .int .i64 e0] 42)); replace hc := hc.alloc (.cells #[.bool nF, .slice E1 k1_ l1_, .int .i64 e0] 42); clear hs; replace hk := hk.trans hc sb_; (try replace HNF := hid (HNF.out.kept hc)); (try replace HA1 := hid (HA1.out.kept hc)); (try replace HA2 := hid (HA2.out.kept hc)); (try replace HB1 := hid (HB1.out.kept hc)); (try replace HB2 := hid (HB2.out.kept hc)); (try replace HC1 := hid (HC1.out.kept hc)); (try replace HC2 := hid (HC2.out.kept hc)); (try replace HNW := hid (HNW.out.kept hc)); (try replace HN1 := hid (HN1.out.kept hc)); (try replace HQ1 := hid (HQ1.out.kept hc)); (try replace HQ2 := hid (HQ2.out.kept hc)); (try replace HNQ := hid (HNQ.out.kept hc)); (try replace HDB := hid (kept_heap hc HDB.out)); clear hc; (try clear dd0 dd1 dd2); (try (have cc := cell3 HDB.out; obtain ⟨dd0, dd1, dd2, _, _, _⟩ := cc)); obtain ⟨pp0, pp1, pp2, _, _, _⟩ := cell3 HPB.out) | (go_at_call_of 13 (Value.agg #[Value.bool nF, Value.slice E1 k1_ l1_, Value.int .i64 e0]); refine (HFP.out _ _ _ _ HNF.out).mono ?_; intro e w3 h; obtain ⟨A1_1, A1_2, A1_3, A2_1, A2_2, A2_3, he, hq1, hq2, hc⟩ := h; subst he; replace hk := hk.trans hc sb_; (try replace HNF := hid (HNF.out.kept hc)); (try replace HA1 := hid (HA1.out.kept hc)); (try replace HA2 := hid (HA2.out.kept hc)); (try replace HB1 := hid (HB1.out.kept hc)); (try replace HB2 := hid (HB2.out.kept hc)); (try replace HC1 := hid (HC1.out.kept hc)); (try replace HC2 := hid (HC2.out.kept hc)); (try replace HNW := hid (HNW.out.kept hc)); (try replace HN1 := hid (HN1.out.kept hc)); (try replace HQ1 := hid (HQ1.out.kept hc)); (try replace HQ2 := hid (HQ2.out.kept hc)); (try replace HNQ := hid (HNQ.out.kept hc)); (try replace HDB := hid (kept_heap hc HDB.out)); (try replace HPB := hid (kept_heap hc HPB.out)); have HA1 := hid hq1; have HA2 := hid hq2; clear hq1 hq2; clear hc; (try clear dd0 dd1 dd2); (try (have cc := cell3 HDB.out; obtain ⟨dd0, dd1, dd2, _, _, _⟩ := cc)); (try clear pp0 pp1 pp2); (try (have cc := cell3 HPB.out; obtain ⟨pp0, pp1, pp2, _, _, _⟩ := cc))) | (go_at_call 14; refine (FracAbs_any _ _ _ _ _ _ _ _).mono ?_; intro e w3 h; obtain ⟨he, hc⟩ := h; subst he; replace hk := hk.trans hc sb_; (try replace HNF := hid (HNF.out.kept hc)); (try replace HA1 := hid (HA1.out.kept hc)); (try replace HA2 := hid (HA2.out.kept hc)); (try replace HB1 := hid (HB1.out.kept hc)); (try replace HB2 := hid (HB2.out.kept hc)); (try replace HC1 := hid (HC1.out.kept hc)); (try replace HC2 := hid (HC2.out.kept hc)); (try replace HNW := hid (HNW.out.kept hc)); (try replace HN1 := hid (HN1.out.kept hc)); (try replace HQ1 := hid (HQ1.out.kept hc)); (try replace HQ2 := hid (HQ2.out.kept hc)); (try replace HNQ := hid (HNQ.out.kept hc)); (try replace HDB := hid (kept_heap hc HDB.out)); (try replace HPB := hid (kept_heap hc HPB.out)); clear hc; (try clear dd0 dd1 dd2); (try (have cc := cell3 HDB.out; obtain ⟨dd0, dd1, dd2, _, _, _⟩ := cc)); (try clear pp0 pp1 pp2); (try (have cc := cell3 HPB.out; obtain ⟨pp0, pp1, pp2, _, _, _⟩ := cc))) | (go_at_call_of 12 (Value.int .i64 1); refine (HW1.out _).mono ?_; intro e w3 h; obtain ⟨F1, f1_, g1_, he, hs, hc⟩ := h; subst he; replace hk := hk.trans hc sb_; (try replace HNF := hid (HNF.out.kept hc)); (try replace HA1 := hid (HA1.out.kept hc)); (try replace HA2 := hid (HA2.out.kept hc)); (try replace HB1 := hid (HB1.out.kept hc)); (try replace HB2 := hid (HB2.out.kept hc)); (try replace HC1 := hid (HC1.out.kept hc)); (try replace HC2 := hid (HC2.out.kept hc)); (try replace HNW := hid (HNW.out.kept hc)); (try replace HN1 := hid (HN1.out.kept hc)); (try replace HQ1 := hid (HQ1.out.kept hc)); (try replace HQ2 := hid (HQ2.out.kept hc)); (try replace HNQ := hid (HNQ.out.kept hc)); (try replace HDB := hid (kept_heap hc HDB.out)); (try replace HPB := hid (kept_heap hc HPB.out)); have HN1 := hid hs; clear hs; clear hc; (try clear dd0 dd1 dd2); (try (have cc := cell3 HDB.out; obtain ⟨dd0, dd1, dd2, _, _, _⟩ := cc)); (try clear pp0 pp1 pp2); (try (have cc := cell3 HPB.out; obtain ⟨pp0, pp1, pp2, _, _, _⟩ := cc))) | (go_at_call_of 13 (Value.agg #[Value.bool false, Value.slice F1 f1_ g1_, Value.int .i64 0]); refine (HF1.out _ _ _ _ HN1.out).mono ?_; intro e w3 h; obtain ⟨B1_1, B1_2, B1_3, B2_1, B2_2, B2_3, he, hq1, hq2, hc⟩ := h; subst he; replace hk := hk.trans hc sb_; (try replace HNF := hid (HNF.out.kept hc)); (try replace HA1 := hid (HA1.out.kept hc)); (try replace HA2 := hid (HA2.out.kept hc)); (try replace HB1 := hid (HB1.out.kept hc)); (try replace HB2 := hid (HB2.out.kept hc)); (try replace HC1 := hid (HC1.out.kept hc)); (try replace HC2 := hid (HC2.out.kept hc)); (try replace HNW := hid (HNW.out.kept hc)); (try replace HN1 := hid (HN1.out.kept hc)); (try replace HQ1 := hid (HQ1.out.kept hc)); (try replace HQ2 := hid (HQ2.out.kept hc)); (try replace HNQ := hid (HNQ.out.kept hc)); (try replace HDB := hid (kept_heap hc HDB.out)); (try replace HPB := hid (kept_heap hc HPB.out)); have HB1 := hid hq1; have HB2 := hid hq2; clear hq1 hq2; clear hc; (try clear dd0 dd1 dd2); (try (have cc := cell3 HDB.out; obtain ⟨dd0, dd1, dd2, _, _, _⟩ := cc)); (try clear pp0 pp1 pp2); (try (have cc := cell3 HPB.out; obtain ⟨pp0, pp1, pp2, _, _, _⟩ := cc))) | (go_at_call 15; refine (HCM.out _ _ _ _ _ _ _ _ _ _ _ _ _ HA1.out HA2.out HB1.out HB2.out).mono ?_; intro e w3 h; obtain ⟨he, hc⟩ := h; subst he; replace hk := hk.trans hc sb_; (try replace HNF := hid (HNF.out.kept hc)); (try replace HA1 := hid (HA1.out.kept hc)); (try replace HA2 := hid (HA2.out.kept hc)); (try replace HB1 := hid (HB1.out.kept hc)); (try replace HB2 := hid (HB2.out.kept hc)); (try replace HC1 := hid (HC1.out.kept hc)); (try replace HC2 := hid (HC2.out.kept hc)); (try replace HNW := hid (HNW.out.kept hc)); (try replace HN1 := hid (HN1.out.kept hc)); (try replace HQ1 := hid (HQ1.out.kept hc)); (try replace HQ2 := hid (HQ2.out.kept hc)); (try replace HNQ := hid (HNQ.out.kept hc)); (try replace HDB := hid (kept_heap hc HDB.out)); (try replace HPB := hid (kept_heap hc HPB.out)); clear hc; (try clear dd0 dd1 dd2); (try (have cc := cell3 HDB.out; obtain ⟨dd0, dd1, dd2, _, _, _⟩ := cc)); (try clear pp0 pp1 pp2); (try (have cc := cell3 HPB.out; obtain ⟨pp0, pp1, pp2, _, _, _⟩ := cc))))
  have HW3 := hid hk
  have hk0 := Chg.refl (fun _ => False) w3
  have HS7 := hid (fun w4 (h : Chg (fun _ => False) w3 w4) => And.intro (cell3 (kept_heap h HPB.out)).1 (And.intro (cell3 (kept_heap h HPB.out)).2.1 (cell3 (kept_heap h HPB.out)).2.2.1))
  have HNFb := hid (fun w4 (h : Chg (fun _ => False) w3 w4) => HNF.out.kept h)
  clear hk dd0 dd1 dd2 pp0 pp1 pp2 HA1 HA2 HB1 HB2 HN1
  have hk := hk0.drew
  obtain ⟨T, hT⟩ : ∃ T, 10 ^ s = T := ⟨_, rfl⟩
  rw [hT] at HFP HAD HFXp HCX
  clear hT
  go_cut [10] (fun x wx => GF w3 sgn M T x wx)
  case first =>
   clear HWO HFQ HFXp HEND HCX HDB HW3 HF1 HWF HW1 HCM HNF
   go_region_held3 (fun w' => w'.cell? ⟨w2.heap.size, 0, none⟩ = some (.bool nF) ∧ w'.cell? ⟨w2.heap.size, 1, none⟩ = some (.slice E1 k1_ l1_) ∧ w'.cell? ⟨w2.heap.size, 2, none⟩ = some (.int .i64 e0)) (first | with_reducible exact HS7.out _ (hk) | with_reducible exact HS7.out _ (hk.alloc _) | with_reducible exact HS7.out _ ((hk0.alloc _).drew) | with_reducible exact HS7.out _ (chg3 hk (by first | with_reducible assumption | exact Nat.le_refl _) _ _ _)) (first | (go_at_call 12; refine (HWW.out _).mono ?_; intro e w4 h; obtain ⟨V1, v1_, v2_, he, hs, hc⟩ := h; subst he; (first | (have hq : Chg (fun _ => False) w3 w4 := (by with_reducible exact hk.trans hc sb_); have hz := hc; (try replace HV := hid (kept_heap hc HV.out))) | (have hq : Chg (fun _ => False) w3 w4 := (by with_reducible exact (hk.alloc _).trans hc sb_); have hz := ((Chg.refl (fun _ => False) _).alloc _).trans hc sb_; have HV := hid (by with_reducible exact kept_heap hc (heap_alloc_new _ _))) | (have hq : Chg (fun _ => False) w3 w4 := (by with_reducible exact ((hk0.alloc _).drew).trans hc sb_); have hz := hc; have HV := hid (by with_reducible exact kept_heap hc (hand_f _ _)))); replace hk := hq; clear hq; (try replace HNW := hid (HNW.out.kept hz)); (try replace HC1 := hid (HC1.out.kept hz)); (try replace HC2 := hid (HC2.out.kept hz)); (try replace HA1 := hid (HA1.out.kept hz)); (try replace HA2 := hid (HA2.out.kept hz)); have HNW := hid hs; clear hs; clear hc hz; (try clear x0 x1 x2 f0 f1 f2); (try (have hy := cell3 HV.out; obtain ⟨x0, x1, x2, f0, f1, f2⟩ := hy)); have hzk := hk.size) | (go_at_call_of 13 (Value.agg #[Value.bool nW, Value.slice V1 v1_ v2_, Value.int .i64 0]); refine (HFW.out _ _ _ _ (by first | with_reducible exact HNW.out | with_reducible exact HNW.out.kept ((Chg.refl (fun _ => False) _).alloc _))).mono ?_; intro e w4 h; obtain ⟨C1_1, C1_2, C1_3, C2_1, C2_2, C2_3, he, hq1, hq2, hc⟩ := h; subst he; (first | (have hq : Chg (fun _ => False) w3 w4 := (by with_reducible exact hk.trans hc sb_); have hz := hc; (try replace HV := hid (kept_heap hc HV.out))) | (have hq : Chg (fun _ => False) w3 w4 := (by with_reducible exact (hk.alloc _).trans hc sb_); have hz := ((Chg.refl (fun _ => False) _).alloc _).trans hc sb_; have HV := hid (by with_reducible exact kept_heap hc (heap_alloc_new _ _))) | (have hq : Chg (fun _ => False) w3 w4 := (by with_reducible exact ((hk0.alloc _).drew).trans hc sb_); have hz := hc; have HV := hid (by with_reducible exact kept_heap hc (hand_f _ _)))); replace hk := hq; clear hq; (try replace HNW := hid (HNW.out.kept hz)); (try replace HC1 := hid (HC1.out.kept hz)); (try replace HC2 := hid (HC2.out.kept hz)); (try replace HA1 := hid (HA1.out.kept hz)); (try replace HA2 := hid (HA2.out.kept hz)); have HC1 := hid hq1; have HC2 := hid hq2; clear hq1 hq2; clear hc hz; (try clear x0 x1 x2 f0 f1 f2); (try (have hy := cell3 HV.out; obtain ⟨x0, x1, x2, f0, f1, f2⟩ := hy)); have hzk := hk.size) | (go_at_call_of 13 (Value.agg #[Value.bool nF, Value.slice E1 k1_ l1_, Value.int .i64 e0]); refine (HFP.out _ _ _ _ (HNFb.out _ (by first | with_reducible exact hk | with_reducible exact hk.alloc _ | with_reducible exact (hk0.alloc _).drew))).mono ?_; intro e w4 h; obtain ⟨A1_1, A1_2, A1_3, A2_1, A2_2, A2_3, he, hq1, hq2, hc⟩ := h; subst he; (first | (have hq : Chg (fun _ => False) w3 w4 := (by with_reducible exact hk.trans hc sb_); have hz := hc; (try replace HV := hid (kept_heap hc HV.out))) | (have hq : Chg (fun _ => False) w3 w4 := (by with_reducible exact (hk.alloc _).trans hc sb_); have hz := ((Chg.refl (fun _ => False) _).alloc _).trans hc sb_; have HV := hid (by with_reducible exact kept_heap hc (heap_alloc_new _ _))) | (have hq : Chg (fun _ => False) w3 w4 := (by with_reducible exact ((hk0.alloc _).drew).trans hc sb_); have hz := hc; have HV := hid (by with_reducible exact kept_heap hc (hand_f _ _)))); replace hk := hq; clear hq; (try replace HNW := hid (HNW.out.kept hz)); (try replace HC1 := hid (HC1.out.kept hz)); (try replace HC2 := hid (HC2.out.kept hz)); (try replace HA1 := hid (HA1.out.kept hz)); (try replace HA2 := hid (HA2.out.kept hz)); have HA1 := hid hq1; have HA2 := hid hq2; clear hq1 hq2; clear hc hz; (try clear x0 x1 x2 f0 f1 f2); (try (have hy := cell3 HV.out; obtain ⟨x0, x1, x2, f0, f1, f2⟩ := hy)); have hzk := hk.size) | (go_at_call 16; refine (HAD.out _ _ _ _ _ _ _ _ _ _ _ _ _ (by first | with_reducible exact HC1.out | with_reducible exact HC1.out.kept ((Chg.refl (fun _ => False) _).alloc _)) (by first | with_reducible exact HC2.out | with_reducible exact HC2.out.kept ((Chg.refl (fun _ => False) _).alloc _)) (by first | with_reducible exact HA1.out | with_reducible exact HA1.out.kept ((Chg.refl (fun _ => False) _).alloc _)) (by first | with_reducible exact HA2.out | with_reducible exact HA2.out.kept ((Chg.refl (fun _ => False) _).alloc _))).mono ?_; intro e w4 h; obtain ⟨S1_1, S1_2, S1_3, S2_1, S2_2, S2_3, he, hq1, hq2, hc⟩ := h; subst he; (first | (have hq : Chg (fun _ => False) w3 w4 := (by with_reducible exact hk.trans hc sb_); have hz := hc; (try replace HV := hid (kept_heap hc HV.out))) | (have hq : Chg (fun _ => False) w3 w4 := (by with_reducible exact (hk.alloc _).trans hc sb_); have hz := ((Chg.refl (fun _ => False) _).alloc _).trans hc sb_; have HV := hid (by with_reducible exact kept_heap hc (heap_alloc_new _ _))) | (have hq : Chg (fun _ => False) w3 w4 := (by with_reducible exact ((hk0.alloc _).drew).trans hc sb_); have hz := hc; have HV := hid (by with_reducible exact kept_heap hc (hand_f _ _)))); replace hk := hq; clear hq; (try replace HNW := hid (HNW.out.kept hz)); (try replace HC1 := hid (HC1.out.kept hz)); (try replace HC2 := hid (HC2.out.kept hz)); (try replace HA1 := hid (HA1.out.kept hz)); (try replace HA2 := hid (HA2.out.kept hz)); have HS1 := hid hq1; have HS2 := hid hq2; clear hq1 hq2; clear hc hz; (try clear x0 x1 x2 f0 f1 f2); (try (have hy := cell3 HV.out; obtain ⟨x0, x1, x2, f0, f1, f2⟩ := hy)); have hzk := hk.size))
   all_goals (go_wp2_with fail; go_meet; first | with_reducible exact gf_new HS1.out HS2.out hk | with_reducible exact gf_old HV.out (by first | with_reducible assumption | exact Nat.le_refl _) HS1.out HS2.out hk)
  case rest =>
   obtain ⟨gs, S1_1, S1_2, S1_3, S2_1, S2_2, S2_3, hv, hx, hsz, hs1', hs2', hkc⟩ := hcut
   subst hv
   have HSB := hid hx
   have HS1 := hid hs1'
   have HS2 := hid hs2'
   clear hk
   have hk := HW3.out.trans hkc sb_
   replace HDB := hid (kept_heap hkc HDB.out)
   clear hx hs1' hs2' hkc hsz HW3 HS7 HNFb HNF HPB hk0 HWF HW1 HFP HF1 HCM HWW HFW HAD HFI
   obtain ⟨dd0, dd1, dd2, _, _, _⟩ := cell3 HDB.out
   obtain ⟨ss0, ss1, ss2, _, _, _⟩ := cell3 HSB.out
   go_upto_region 9 with (go_at_call 17; refine (HFXp.out _ _ _ _ _ _ _ HS1.out HS2.out).mono ?_; intro e w5 h; obtain ⟨Q1, q1_, q2_, he, hsn, hc⟩ := h; subst he; have HNQ := hid (hsn.kept ((Chg.refl (fun _ => False) w5).alloc (.cells #[.bool sq, .slice Q1 q1_ q2_, .int .i64 ep] 42))); have HQB := hid (heap_alloc_new w5 (.cells #[.bool sq, .slice Q1 q1_ q2_, .int .i64 ep] 42)); replace hc := hc.alloc (.cells #[.bool sq, .slice Q1 q1_ q2_, .int .i64 ep] 42); clear hsn; replace hk := hk.trans hc sb_; replace HS1 := hid (HS1.out.kept hc); replace HS2 := hid (HS2.out.kept hc); replace HDB := hid (kept_heap hc HDB.out); replace HSB := hid (kept_heap hc HSB.out); clear hc dd0 dd1 dd2 ss0 ss1 ss2; obtain ⟨dd0, dd1, dd2, _, _, _⟩ := cell3 HDB.out; obtain ⟨ss0, ss1, ss2, _, _, _⟩ := cell3 HSB.out; obtain ⟨qq0, qq1, qq2, _, _, _⟩ := cell3 HQB.out)
   replace hk := hk.drew
   replace HDB := hid (kept_heap ((Chg.refl (fun _ => False) _).drew) HDB.out)
   replace HSB := hid (kept_heap ((Chg.refl (fun _ => False) _).drew) HSB.out)
   replace HQB := hid (kept_heap ((Chg.refl (fun _ => False) _).drew) HQB.out)
   replace HS1 := hid (HS1.out.kept ((Chg.refl (fun _ => False) _).drew))
   replace HS2 := hid (HS2.out.kept ((Chg.refl (fun _ => False) _).drew))
   replace HNQ := hid (HNQ.out.kept ((Chg.refl (fun _ => False) _).drew))
   clear dd0 dd1 dd2 ss0 ss1 ss2 qq0 qq1 qq2
   obtain ⟨dd0, dd1, dd2, _, _, _⟩ := cell3 HDB.out
   obtain ⟨ss0, ss1, ss2, _, _, _⟩ := cell3 HSB.out
   obtain ⟨qq0, qq1, qq2, _, _, _⟩ := cell3 HQB.out
   rcases HEND.out with h | ⟨h, h'⟩ | ⟨h, h', h''⟩
   ·first | (go_region_with ((go_at_call 18; refine (HWO.out _ _ _ _ HNQ.out).mono ?_; intro e w6 h; obtain ⟨he, hc⟩ := h; subst he; replace hk := hk.trans hc sb_; (try replace HS1 := hid (HS1.out.kept hc)); (try replace HS2 := hid (HS2.out.kept hc)); (try replace HNQ := hid (HNQ.out.kept hc)); (try replace HY1 := hid (HY1.out.kept hc)); (try replace HY2 := hid (HY2.out.kept hc)); replace HDB := hid (kept_heap hc HDB.out); replace HSB := hid (kept_heap hc HSB.out); replace HQB := hid (kept_heap hc HQB.out); clear hc dd0 dd1 dd2 ss0 ss1 ss2 qq0 qq1 qq2; obtain ⟨dd0, dd1, dd2, _, _, _⟩ := cell3 HDB.out; obtain ⟨ss0, ss1, ss2, _, _, _⟩ := cell3 HSB.out; obtain ⟨qq0, qq1, qq2, _, _, _⟩ := cell3 HQB.out))) | fail
    all_goals (go_wp2_with fail; go_ret; exact ⟨rfl, hk⟩)
   ·have p1 : ¬ U = 0 := by simpa using h
    have p2 : ¬ r = 0 := by simpa using h'
    have p3 : (r == 0) = false := by simpa using p2
    first | (go_region_with ((go_at_call 18; refine (HWO.out _ _ _ _ HNQ.out).mono ?_; intro e w6 h; obtain ⟨he, hc⟩ := h; subst he; replace hk := hk.trans hc sb_; (try replace HS1 := hid (HS1.out.kept hc)); (try replace HS2 := hid (HS2.out.kept hc)); (try replace HNQ := hid (HNQ.out.kept hc)); (try replace HY1 := hid (HY1.out.kept hc)); (try replace HY2 := hid (HY2.out.kept hc)); replace HDB := hid (kept_heap hc HDB.out); replace HSB := hid (kept_heap hc HSB.out); replace HQB := hid (kept_heap hc HQB.out); clear hc dd0 dd1 dd2 ss0 ss1 ss2 qq0 qq1 qq2; obtain ⟨dd0, dd1, dd2, _, _, _⟩ := cell3 HDB.out; obtain ⟨ss0, ss1, ss2, _, _, _⟩ := cell3 HSB.out; obtain ⟨qq0, qq1, qq2, _, _, _⟩ := cell3 HQB.out))) | fail
    all_goals (go_wp2_with fail; go_ret; exact ⟨rfl, hk⟩)
   ·have p1 : ¬ U = 0 := by simpa using h
    have p2 : r = 0 := by simpa using h'
    have p3 : (r == 0) = true := by simpa using p2
    have hz := Chg.refl (fun _ => False) (w5.alloc (.cells #[.bool sq, .slice Q1 q1_ q2_, .int .i64 ep] 42)).drew
    have HS9 := hid (fun w6 (h : Chg (fun _ => False) (w5.alloc (.cells #[.bool sq, .slice Q1 q1_ q2_, .int .i64 ep] 42)).drew w6) => And.intro (cell3 (kept_heap h HDB.out)).1 (And.intro (cell3 (kept_heap h HDB.out)).2.1 (And.intro (cell3 (kept_heap h HDB.out)).2.2.1 (And.intro (cell3 (kept_heap h HSB.out)).1 (And.intro (cell3 (kept_heap h HSB.out)).2.1 (And.intro (cell3 (kept_heap h HSB.out)).2.2.1 (And.intro (cell3 (kept_heap h HQB.out)).1 (And.intro (cell3 (kept_heap h HQB.out)).2.1 (cell3 (kept_heap h HQB.out)).2.2.1))))))))
    clear dd0 dd1 dd2 ss0 ss1 ss2 qq0 qq1 qq2 HDB HSB HQB
    first | (go_region_held3 (fun w' => w'.cell? ⟨w1.heap.size, 0, none⟩ = some (.bool nb) ∧ w'.cell? ⟨w1.heap.size, 1, none⟩ = some (.int .u64 K) ∧ w'.cell? ⟨w1.heap.size, 2, none⟩ = some (.int .i64 U) ∧ w'.cell? ⟨gs, 0, none⟩ = some (.bool sgn) ∧ w'.cell? ⟨gs, 1, none⟩ = some (.slice S1_1 S1_2 S1_3) ∧ w'.cell? ⟨gs, 2, none⟩ = some (.slice S2_1 S2_2 S2_3) ∧ w'.cell? ⟨w5.heap.size, 0, none⟩ = some (.bool sq) ∧ w'.cell? ⟨w5.heap.size, 1, none⟩ = some (.slice Q1 q1_ q2_) ∧ w'.cell? ⟨w5.heap.size, 2, none⟩ = some (.int .i64 ep)) (first | with_reducible exact HS9.out _ hz) (first | (go_at_call 18; refine (HWO.out _ _ _ _ HNQ.out).mono ?_; intro e w6 h; obtain ⟨he, hc⟩ := h; subst he; replace hk := hk.trans hc sb_; replace hz := hz.trans hc sb_; (try replace HS1 := hid (HS1.out.kept hc)); (try replace HS2 := hid (HS2.out.kept hc)); (try replace HNQ := hid (HNQ.out.kept hc)); (try replace HY1 := hid (HY1.out.kept hc)); (try replace HY2 := hid (HY2.out.kept hc)); clear hc) | (go_at_call 13; refine (HFQ.out _ _ _ _ HNQ.out).mono ?_; intro e w6 h; obtain ⟨Y1_1, Y1_2, Y1_3, Y2_1, Y2_2, Y2_3, he, hq1, hq2, hc⟩ := h; subst he; replace hk := hk.trans hc sb_; replace hz := hz.trans hc sb_; (try replace HS1 := hid (HS1.out.kept hc)); (try replace HS2 := hid (HS2.out.kept hc)); (try replace HNQ := hid (HNQ.out.kept hc)); (try replace HY1 := hid (HY1.out.kept hc)); (try replace HY2 := hid (HY2.out.kept hc)); have HY1 := hid hq1; have HY2 := hid hq2; clear hq1 hq2; clear hc) | (go_at_call 15; refine (HCX.out _ _ _ _ _ _ _ _ _ _ _ _ _ HY1.out HY2.out HS1.out HS2.out).mono ?_; intro e w6 h; obtain ⟨q, he, hq, hc⟩ := h; subst he; replace hk := hk.trans hc sb_; replace hz := hz.trans hc sb_; (try replace HS1 := hid (HS1.out.kept hc)); (try replace HS2 := hid (HS2.out.kept hc)); (try replace HNQ := hid (HNQ.out.kept hc)); (try replace HY1 := hid (HY1.out.kept hc)); (try replace HY2 := hid (HY2.out.kept hc)); have hq0 : (q != 0) = true := bne_iff_ne.2 (fun e => h'' (hq.1 e)); clear hq; clear hc))) | fail
    all_goals (go_wp2_with fail; go_ret; exact ⟨rfl, hk⟩)
theorem lawFI_any (W F s : Int) (hW0 : -9223372036854775808 ≤ W) (hW1 : W < 9223372036854775808) (hF0 : -9223372036854775808 ≤ F) (hF1 : F < 9223372036854775808) (hs0 : -9223372036854775808 ≤ s) (hs1 : s < 9223372036854775808) (w : World) (he : EnvD w) (hes : EnvS w) :
  Calls Tryz.prog 4 #[.int .i64 W, .int .i64 F, .int .i64 s] w (PV w (.bool true)) := by
 by_cases hb : s < 0 ∨ 19 < s ∨ (0 < W ∧ F < 0) ∨ (W < 0 ∧ 0 < F)
 ·exact lawFI_bad W F s hW0 hW1 hF0 hF1 hb w he hes
 ·obtain ⟨n, rfl⟩ : ∃ n : Nat, s = (n : Int) := ⟨s.toNat, by omega⟩
  by_cases hbig : 10 ^ n ≤ F.natAbs
  ·exact lawFI_far W F n (by omega) hW0 hW1 hF0 hF1 (by omega) (by omega) hbig w he hes
  ·exact lawFI_ok W F n (by omega) hW0 hW1 hF0 hF1 (by omega) (by omega) (by omega) w he hes
end Go.Proofs.YthdkandofddohaaGreatDoor
namespace Go.Proofs.YthdkandofddohaaGreatDoor
open Go Go.ChangeShapes Go.WideShapes Go.ChangeAt Go.WideMaps Go.WideElems Go.RowKit
set_option maxRecDepth 100000 in
theorem liftedp (os : Os) (started : os.Started) (H : Type) (enc : TypeId × Value → H) :
  ReturnsInHanded {} Tryz.checked os 4 .any (fun w args => (Rows.fnFixFromIntsSpec.pre enc Tryz.prog Tryz.f4 [] false w args ∧ laidMetH Tryz.prog Rows.fnFixFromIntsRow.laid w) ∧ sizedMet enc Tryz.prog Tryz.f4 (OpenSpec.ofChange Rows.fnFixFromIntsSpec) false w args)
   (Rows.fnFixFromIntsSpec.post enc Tryz.prog Tryz.f4 false true false false) := by
 refine handed_shaped (C := Tryz.checked) (X := fun w _ => laidMetH Tryz.prog Rows.fnFixFromIntsRow.laid w) (fun _ _ _ hh h => h.of_heap hh) own0 started kr_ Tryz.func4
  (ChangeSpec.witness_shaped (enc := enc) (C := Tryz.checked) (os := os) (X := fun w _ => laidMetH Tryz.prog Rows.fnFixFromIntsRow.laid w) false (World.doorLaid Tryz.prog 400 os) #[.int .i64 0, .int .i64 0, .int .i64 0] 8 rfl (wit_shapedp os) (wit_okp os) (wit_prep os H enc) (wit_sizep os H enc) (door_met os _)) ?_
 intro W base args ds gs before hsh hval0 hW _ hL
 have hval : ∀ (j : Nat) t v, Tryz.f4.params[j]? = some t → args[j]? = some v → Value.okWide Tryz.prog W .any base t v := hval0
 have hW' := hW
 obtain ⟨p, q, hA0, hV, rfl, hfz, hnd⟩ := hW
 have hA : DataW.TrodAll enc Tryz.prog W 0 (fun _ => true) true Tryz.f4.params.toList args.toList ds p := hA0
 rw [Tryz.params4] at hA hval
 obtain ⟨v0, vs0, d0, ds0, p0, q0, hargs, rfl, rfl, h0, r0⟩ := trodAll_cons hA
 obtain ⟨v1, vs1, d1, ds1, p1, q1, rfl, rfl, rfl, h1, r1⟩ := trodAll_cons r0
 obtain ⟨v2, vs2, d2, ds2, p2, q2, rfl, rfl, rfl, h2, r2⟩ := trodAll_cons r1
 obtain ⟨rfl, rfl, rfl⟩ := trodAll_nil r2
 obtain rfl : args = #[v0, v1, v2] := by cases args; simp_all
 have k0 := h0
 have k1 := h1
 have k2 := h2
 obtain ⟨a, rfl, rfl, rfl, wa⟩ := open_int Tryz.underlying2 (hval 0 2 v0 rfl rfl) h0
 obtain ⟨b, rfl, rfl, rfl, wb⟩ := open_int Tryz.underlying2 (hval 1 2 v1 rfl rfl) h1
 obtain ⟨m, rfl, rfl, rfl, wm⟩ := open_int Tryz.underlying3 (hval 2 3 v2 rfl rfl) h2
 simp [Lit.wf] at wa wb wm
 have hmin : IntKind.i64.min = -9223372036854775808 := by decide
 have hlen : gs.length = 8 := trodVars_length hV
 match gs, hlen, hV, hW' with
 | [g1, g2, g3, g4, g5, g6, g7, g8], _, hV, hW' =>
  refine (lawFI_any a b m (by omega) (by omega) (by omega) (by omega) (by omega) (by omega) W (of_laid hsh hL) (of_laids hL)).mono fun e W' hE => ?_
  obtain ⟨he, hc⟩ := hE
  subst he
  have hB := hc.below
  refine ⟨_, rfl, _, _, _, [], [], q, hW', ?_, ?_, ?_, hB.frame _, fun h => by cases h⟩
  ·exact trodAll_mk1 (shut_bool Tryz.underlying4 _)
  ·exact trodAll_mk3 (Below.trod laidOk kr_ (of_decide_eq_true kr_) k0 hB (fun x hx => by cases hx)) (Below.trod laidOk kr_ (of_decide_eq_true kr_) k1 hB (fun x hx => by cases hx)) (Below.trod laidOk kr_ (of_decide_eq_true kr_) k2 hB (fun x hx => by cases hx))
  ·exact vars_iface hB gScl tScl Tryz.underlying58 (fun _ _ h => vars_iface hB gOvf tOvf Tryz.underlying58 (fun _ _ h => Below.trodVars laidOk hB kr_ h) h) hV
theorem fnFixFromInts_holds : Rows.FnFixFromIntsSaid :=
 OpenClaim.holds_of_wide 4 Tryz.f4 rfl rfl rfl rfl rfl rfl rfl ⟨rfl, rfl, rfl, rfl, rfl⟩ rfl rfl rfl rfl rfl row_funcp Tryz.func4 row_closedp
  (of_decide_eq_true kr_) (by unfold Func.isWrapper; first | (rw [if_pos (by decide +kernel)]; kernel_rfl) | (rw [if_neg (by decide +kernel)]; exact ⟨rfl, rfl⟩))
  (fun os started H enc _ => liftedp os started H enc)
theorem fnFixFromInts_card : Rows.FnFixFromIntsCardSaid :=
 Claim7.holds_tied_plain_at .later [] [.data, .data, .data, .data, .data, .data, .data, .sentinel, .sentinel, .data] true Rows.fnFixFromIntsCard.stood.harness false
  fnFixFromInts_holds (fun _ h => by cases h) row_wfp (fun _ h => by cases h) fnFixFromInts_row_tie rfl ⟨rfl, rfl⟩ kr_ rfl
  (fun f fn hf hfn => by
   obtain rfl : f = 4 := Option.some.inj (row_funcp.symm.trans hf) |>.symm
   obtain rfl : fn = Tryz.f4 := (Option.some.inj (Tryz.func4.symm.trans hfn)).symm
   exact ⟨row_looksp, fun j t ht => by
    rw [Tryz.params4] at ht
    have hm : t ∈ [2, 2, 3] := by simpa using Array.mem_of_getElem? ht
    exact (show Tryz.prog.wantsStandIn t = false by simpa using List.all_eq_true.1 row_standp t hm)⟩)
  row_goesp
end Go.Proofs.YthdkandofddohaaGreatDoor
