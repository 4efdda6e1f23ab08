/- Part 32 of the proof. -/
import Derived.Lib.MinMax
import Derived.Test.YtldhfhloinlfaaaGreatDoorC22
namespace Go.Proofs.YtldhfhloinlfaaaGreatDoor
open Go.RowKit
set_option linter.unusedVariables false
set_option linter.unusedSimpArgs false
set_option maxRecDepth 20000
theorem rheI_zero {Y : Int} (h : 0 < Y) : rheI 0 Y = 0 := by
 unfold rheI
 rw [Int.zero_emod, Int.zero_ediv]
 exact if_neg (by omega)
theorem fint_rsh_any (x : Int) (n : Nat) (hx : Fi x) (hn1 : 1 ≤ n) (hn : n ≤ 19) (w : World) (ht : Tab w) :
  Calls Tryz.prog 142 #[.int .u64 x, .int .i64 n] w (fun e w' => e = .returned (.int .u64 (rheI x (10 ^ n))) ∧ w = w') := by
 by_cases h : x = 0
 ·subst h
  rw [rheI_zero (p10_pos n)]
  have hb0 : ((0 : Int) == 0) = true := rfl
  go_enter Tryz.func142, Tryz.ntmps142
  go_wp2_with fail
  go_ret
  exact ⟨rfl, rfl⟩
 ·exact fint_rsh_pos x n hx h hn1 hn w ht
theorem fint_lsh_far (x : Int) (s : Nat) (hs1 : 20 ≤ s) (hs : s ≤ 38) (w : World) :
  Calls Tryz.prog 113 #[.int .u64 x, .int .i64 s] w (fun e w' => e = .returned (.tuple #[.int .u64 0, .bool false]) ∧ w = w') := by
 have h0 : ¬ (s : Int) ≤ 0 := by omega
 have h1 : ((s : Int) == 1) = false := beq_eq_false_iff_ne.2 (by omega)
 have h2 : (20 : Int) ≤ (s : Int) := by omega
 go_enter Tryz.func113, Tryz.ntmps113
 go_wp2_with fail
 first | (go_quiet (fail); go_wp2_with fail) | skip
 go_ret2
 exact ⟨rfl, rfl⟩
def fromFint2 (c : Int) (s m : Nat) : Option (Int × Nat) := if 19 < s then some (rheI c (10 ^ (s - 19)), 19) else fromFint c s m
theorem rheI_fi {c : Int} {k : Nat} (hc : Fi c) (hk : 1 ≤ k) : Fi (rheI c (10 ^ k)) := by
 obtain ⟨h0, h1⟩ := hc
 obtain ⟨j, rfl⟩ : ∃ j, k = j + 1 := ⟨k - 1, by omega⟩
 have hp := p10_pos j
 have e : (10 : Int) ^ (j + 1) = 10 * 10 ^ j := by rw [Int.pow_succ, Int.mul_comm]
 generalize (10 : Int) ^ j = P at *
 rw [e]
 have hq0 : 0 ≤ c / (10 * P) := Int.ediv_nonneg h0 (by omega)
 have hq1 : c / (10 * P) ≤ c / 10 := by
  rw [← Int.ediv_ediv_of_nonneg (by omega : (0 : Int) ≤ 10)]
  exact Int.ediv_le_self _ (Int.ediv_nonneg h0 (by omega))
 unfold rheI
 split
 ·exact ⟨by omega, by omega⟩
 ·exact ⟨by omega, by omega⟩
set_option maxHeartbeats 1000000 in
theorem newFromFint_all (neg : Bool) (c : Int) (s m : Nat) (hc : Fi c) (hs : s ≤ 38) (hm : m ≤ 19) (w : World) (he : EnvD w) :
  Calls Tryz.prog 117 #[.bool neg, .int .u64 c, .int .i64 s, .int .i64 m] w (PDec w neg (fromFint2 c s m)) := by
 unfold fromFint2
 by_cases h : 19 < s
 ·rw [if_pos h]
  have hlt : ¬ (s : Int) < (m : Int) := by omega
  have h19 : (19 : Int) < (s : Int) := by omega
  have hw : IntKind.i64.wrap ((s : Int) - 19) = ((s - 19 : Nat) : Int) := by rw [show (s : Int) - 19 = ((s - 19 : Nat) : Int) by omega]; exact IntWalk.i64_in _ (by omega)
  have hfi := rheI_fi (k := s - 19) hc (by omega)
  obtain ⟨HC0, HD, hB0⟩ := box1 w #[.bool false, .int .i8 0, .int .u64 0] 53
  have HZ := hid hB0
  have HR := hid (fint_rsh_any c (s - 19) hc (by omega) (by omega) _ (he.kept HC0.out).env.tab)
  obtain ⟨nb, hnb⟩ : ∃ nb, (neg && rheI c (10 ^ (s - 19)) != 0) = nb := ⟨_, rfl⟩
  have HNS := hid (fun w => newSafe_flat neg nb (rheI c (10 ^ (s - 19))) 19 hfi (by omega) hnb w)
  have HNB := hid hnb
  generalize rheI c (10 ^ (s - 19)) = R at *
  obtain ⟨q0, q1⟩ := hfi
  generalize s - 19 = j at *
  have e19 : ((19 : Nat) : Int) = 19 := rfl
  rw [e19] at HNS
  clear hc hs hm he hnb hB0 HD h e19
  go_enter Tryz.func117, Tryz.ntmps117
  go_wp2_with (first | (go_at_call 142; refine HR.out.mono ?_; intro e w' h; obtain ⟨he1, he2⟩ := h; subst he1; subst he2) | (go_at_call 90; refine (HNS.out _).mono ?_; intro e w1 h; obtain ⟨he3, hc1⟩ := h; subst he3; have HK := hid hc1; clear hc1; obtain ⟨k0, k1, k2, f0, f1, f2⟩ := cell3 (kept_heap HK.out HZ.out)))
  refine bodyPost_ret (v := .tuple #[.agg #[.bool nb, .int .i8 19, .int .u64 R], .nilIface]) (dec_result rfl _ _ w.heap.size _ _ _ _ _ rfl rfl (store3 (kept_heap HK.out HZ.out) _ _ _)) rfl ⟨chg3 (HC0.out.trans HK.out sb_) (Nat.le_refl _) _ _ _, ?_⟩
  show _ = Ending.returned (.tuple #[decV (neg && R != 0) R 19, .nilIface])
  rw [HNB.out]
  rfl
 ·rw [if_neg h]
  exact newFromFint_any neg c s m hc (by omega) hm w he
theorem fromFint2_from19 {c s m : Nat} (hc : c < 10 ^ 19) (hm : m ≤ 19) {k : Int} {t : Nat} (h : fromFint2 (c : Int) s m = some (k, t)) : ∃ k' : Nat, k = k' ∧ from19 (10 ^ 19) 2 c s m = some (k', t) := by
 unfold fromFint2 at h
 by_cases h1 : 19 < s
 ·rw [if_pos h1] at h
  simp only [Option.some.injEq, Prod.mk.injEq] at h
  obtain ⟨rfl, rfl⟩ := h
  have hd : digs c ≤ 19 := digs_le.2 hc
  have e : rheI (c : Int) (10 ^ (s - 19)) = ((rhe c (10 ^ (s - 19)) : Nat) : Int) := by rw [← pow_cast, rheI_nat]
  have e1 : (10 : Nat) ^ 19 = 10000000000000000000 := by decide
  have hf := rheI_fi (c := (c : Int)) (k := s - 19) ⟨by omega, by omega⟩ (by omega)
  rw [e] at hf
  refine ⟨_, e, from19_one (by omega) (by unfold step19; rw [if_neg (by omega), if_pos ⟨by omega, h1⟩]) ?_⟩
  have h2 := hf.2
  omega
 ·rw [if_neg h1] at h
  exact fromFint_from19 hc (by omega) hm h
def PFE (w : World) (neg : Bool) (C S m : Nat) (e : Ending) (w' : World) : Prop :=
 Chg (fun _ => False) w w' ∧ ((∃ t v, e = .returned (.tuple #[decV false 0 0, .iface t v])) ∨ ∃ k t : Nat, from19 (10 ^ 19) 2 C S m = some (k, t) ∧ e = .returned (.tuple #[decV (neg && (k : Int) != 0) k t, .nilIface]))
theorem PFE.none {w w' : World} {neg n2 : Bool} {C S m : Nat} {e : Ending} (h : PDec w n2 none e w') : PFE w neg C S m e w' := ⟨h.1, .inl h.2⟩
theorem PFE.of {w w' : World} {neg : Bool} {C S m : Nat} {e : Ending} (hC : C < 10 ^ 19) (hm : m ≤ 19) (h : PDec w neg (fromFint2 (C : Int) S m) e w') : PFE w neg C S m e w' := by
 cases hf : fromFint2 (C : Int) S m with
 | none => rw [hf] at h; exact .none h
 | some kt =>
  obtain ⟨k, t⟩ := kt
  obtain ⟨k', rfl, h2⟩ := fromFint2_from19 hC hm hf
  rw [hf] at h
  exact ⟨h.1, .inr ⟨k', t, h2, h.2⟩⟩
theorem fint_rsh_far (x : Int) (n : Nat) (hn1 : 20 ≤ n) (w : World) :
  Calls Tryz.prog 142 #[.int .u64 x, .int .i64 n] w (fun e w' => e = .returned (.int .u64 0) ∧ w = w') := by
 by_cases h : x = 0
 ·subst h
  have hb0 : ((0 : Int) == 0) = true := rfl
  go_enter Tryz.func142, Tryz.ntmps142
  go_wp2_with fail
  go_ret
  exact ⟨rfl, rfl⟩
 ·have hb0 : (x == 0) = false := beq_eq_false_iff_ne.2 h
  have h1 : ¬ (n : Int) ≤ 0 := by omega
  have h2 : (20 : Int) ≤ (n : Int) := by omega
  go_enter Tryz.func142, Tryz.ntmps142
  go_wp2_with fail
  first | (go_quiet (fail); go_wp2_with fail) | skip
  go_ret
  exact ⟨rfl, rfl⟩
def lshO (c : Int) (d m : Nat) : Option (Int × Nat) := if d ≤ 19 ∧ c * 10 ^ d ≤ 9999999999999999999 then some (c * 10 ^ d, m) else none
set_option maxHeartbeats 1000000 in
theorem nff_lsh (neg : Bool) (c si : Int) (d m : Nat) (hc : Fi c) (hm : m ≤ 19) (hd : (m : Int) - si = d) (hd1 : 1 ≤ d) (hd2 : d ≤ 38) (w : World) (he : EnvD w) :
  Calls Tryz.prog 117 #[.bool neg, .int .u64 c, .int .i64 si, .int .i64 m] w (PDec w neg (lshO c d m)) := by
 unfold lshO
 have hlt : si < (m : Int) := by omega
 have hsub : IntKind.i64.wrap ((m : Int) - si) = (d : Int) := by rw [hd]; exact IntWalk.i64_in _ (by omega)
 obtain ⟨HC0, HD, hB0⟩ := box1 w #[.bool false, .int .i8 0, .int .u64 0] 53
 have HZ := hid hB0
 have heA := he.kept HC0.out
 by_cases h2 : d ≤ 19 ∧ c * 10 ^ d ≤ 9999999999999999999
 ·rw [if_pos h2]
  have hl := fint_lsh c d hc h2.1 _ heA.env.tab
  rw [if_pos h2.2, decide_eq_true h2.2] at hl
  have hFi : Fi (c * 10 ^ d) := ⟨Int.mul_nonneg hc.1 (Int.le_of_lt (p10_pos d)), h2.2⟩
  generalize c * 10 ^ d = C at *
  obtain ⟨nb, hnb⟩ : ∃ nb, (neg && C != 0) = nb := ⟨_, rfl⟩
  have HNS := hid (fun w => newSafe_flat neg nb C m hFi hm hnb w)
  have HL := hid hl
  have HNB := hid hnb
  obtain ⟨q0, q1⟩ := hFi
  clear hc hm hd hd1 hd2 he heA hl h2 hnb hB0 HD
  go_enter Tryz.func117, Tryz.ntmps117
  go_wp2_with (first | (go_at_call 113; refine HL.out.mono ?_; intro e w' h; obtain ⟨he1, he2⟩ := h; subst he1; subst he2) | (go_at_call 90; refine (HNS.out _).mono ?_; intro e w1 h; obtain ⟨he3, hc1⟩ := h; subst he3; have HK := hid hc1; clear hc1; obtain ⟨k0, k1, k2, f0, f1, f2⟩ := cell3 (kept_heap HK.out HZ.out)))
  refine bodyPost_ret (v := .tuple #[.agg #[.bool nb, .int .i8 m, .int .u64 C], .nilIface]) (dec_result rfl _ _ w.heap.size _ _ _ _ _ rfl rfl (store3 (kept_heap HK.out HZ.out) _ _ _)) rfl ⟨chg3 (HC0.out.trans HK.out sb_) (Nat.le_refl _) _ _ _, ?_⟩
  show _ = Ending.returned (.tuple #[decV (neg && C != 0) C m, .nilIface])
  rw [HNB.out]
  rfl
 ·rw [if_neg h2]
  have hl : Calls Tryz.prog 113 #[.int .u64 c, .int .i64 d] (w.alloc (.cells #[.bool false, .int .i8 0, .int .u64 0] 53)) (fun e w' => e = .returned (.tuple #[.int .u64 0, .bool false]) ∧ (w.alloc (.cells #[.bool false, .int .i8 0, .int .u64 0] 53)) = w') := by
   by_cases h3 : d ≤ 19
   ·have h4 : ¬ c * 10 ^ d ≤ 9999999999999999999 := fun h => h2 ⟨h3, h⟩
    have hl := fint_lsh c d hc h3 _ heA.env.tab
    rw [if_neg h4, decide_eq_false h4] at hl
    exact hl
   ·exact fint_lsh_far c d (by omega) hd2 _
  obtain ⟨t, v, hov⟩ := heA.ovf
  have HL := hid hl
  have HA := HZ
  clear hc hm hd hd1 hd2 he heA hl h2 hB0 HD
  go_enter Tryz.func117, Tryz.ntmps117
  go_wp2_with (go_at_call 113; refine HL.out.mono ?_; intro e w' h; obtain ⟨he1, he2⟩ := h; subst he1; subst he2)
  go_region
  all_goals (go_wp2_with fail; refine bodyPost_ret (v := .tuple #[.agg #[.bool false, .int .i8 0, .int .u64 0], .iface t v]) (dec_result rfl _ _ w.heap.size _ _ _ _ 53 rfl rfl (by exact HA.out)) rfl ⟨HC0.out.drew, t, v, rfl⟩)
set_option maxHeartbeats 1000000 in
theorem nff_far (neg : Bool) (c : Int) (s m : Nat) (hs1 : 39 ≤ s) (hs : s ≤ 60) (hm : m ≤ 19) (w : World) :
  Calls Tryz.prog 117 #[.bool neg, .int .u64 c, .int .i64 s, .int .i64 m] w (PDec w neg (some (0, 19))) := by
 have hlt : ¬ (s : Int) < (m : Int) := by omega
 have h19 : (19 : Int) < (s : Int) := by omega
 have hw : IntKind.i64.wrap ((s : Int) - 19) = ((s - 19 : Nat) : Int) := by rw [show (s : Int) - 19 = ((s - 19 : Nat) : Int) by omega]; exact IntWalk.i64_in _ (by omega)
 obtain ⟨HC0, HD, hB0⟩ := box1 w #[.bool false, .int .i8 0, .int .u64 0] 53
 have HZ := hid hB0
 have HR := hid (fun w => fint_rsh_far c (s - 19) (by omega) w)
 have HNS := hid (fun w => newSafe_flat neg false 0 19 ⟨by omega, by omega⟩ (by omega) (by cases neg <;> rfl) w)
 generalize s - 19 = j at *
 have e19 : ((19 : Nat) : Int) = 19 := rfl
 rw [e19] at HNS
 clear hs hs1 hm hB0 HD e19
 go_enter Tryz.func117, Tryz.ntmps117
 go_wp2_with (first | (go_at_call 142; refine (HR.out _).mono ?_; intro e w' h; obtain ⟨he1, he2⟩ := h; subst he1; subst he2) | (go_at_call 90; refine (HNS.out _).mono ?_; intro e w1 h; obtain ⟨he3, hc1⟩ := h; subst he3; have HK := hid hc1; clear hc1; obtain ⟨k0, k1, k2, f0, f1, f2⟩ := cell3 (kept_heap HK.out HZ.out)))
 refine bodyPost_ret (v := .tuple #[.agg #[.bool false, .int .i8 19, .int .u64 0], .nilIface]) (dec_result rfl _ _ w.heap.size _ _ _ _ _ rfl rfl (store3 (kept_heap HK.out HZ.out) _ _ _)) rfl ⟨chg3 (HC0.out.trans HK.out sb_) (Nat.le_refl _) _ _ _, ?_⟩
 show _ = Ending.returned (.tuple #[decV (neg && (0 : Int) != 0) 0 19, .nilIface])
 cases neg <;> rfl
set_option maxHeartbeats 1000000 in
theorem fint_prec (x : Int) (hx : Fi x) (w : World) (ht : Tab w) :
  Calls Tryz.prog 112 #[.int .u64 x] w (fun e w' => e = .returned (.int .i64 (digs x.toNat)) ∧ w = w') := by
 obtain ⟨hx0, hx1⟩ := hx
 have hkey : ∀ k, x < 10 ^ k ↔ digs x.toNat ≤ k := fun k => pow_lt_digs hx0
 have e19 : (10 : Int) ^ 19 = 10000000000000000000 := by decide
 have hD : digs x.toNat ≤ 19 := (hkey 19).1 (by omega)
 generalize digs x.toNat = D at *
 have HKEY := hid hkey; have HT := hid ht
 clear hkey ht e19
 go_enter Tryz.func112, Tryz.ntmps112
 go_wp2_with fail
 go_loopw [3, 4] (fun l r wr => ∃ L R : Nat, l = .int .i64 L ∧ r = .int .i64 R ∧ L ≤ D ∧ D ≤ R ∧ R ≤ 20 ∧ w = wr) (fun l r _ => (intOf r - intOf l).toNat)
 case atStart => exact ⟨0, 20, rfl, rfl, by omega, by omega, by omega, rfl⟩
 case round =>
  obtain ⟨L, R, rfl, rfl, h1, h2, h3, rfl⟩ := hrel
  by_cases hlr : L < R
  ·have hlt : (L : Int) < (R : Int) := by omega
   have hsum : IntKind.i64.wrap ((L : Int) + (R : Int)) = (L : Int) + (R : Int) := IntWalk.i64_in _ (by omega)
   obtain ⟨M, hM⟩ : ∃ M : Nat, M = (L + R) / 2 := ⟨_, rfl⟩
   have hquo : ((L : Int) + (R : Int)) / 2 = (M : Int) := by omega
   have hM1 : L ≤ M := by omega
   have hM2 : M < R := by omega
   clear hM
   have hcell := HT.out M (by omega)
   have hk := HKEY.out M
   have hm0 : (0 : Int) ≤ (M : Int) := by omega
   have hm20 : (M : Int) < 20 := by omega
   generalize (10 : Int) ^ M = T at *
   by_cases hc : x < T
   ·have hDM : D ≤ M := hk.1 hc
    have hd : decide (x < T) = true := decide_eq_true hc
    clear hk
    go_wp2_with fail
    go_roundw
    case rel => exact ⟨L, M, rfl, (by first | rfl | rw [hquo]), h1, hDM, by omega, (by first | rfl | trivial)⟩
    case measure => simp [intOf]; omega
   ·have hDM : ¬ D ≤ M := fun h => hc (hk.2 h)
    have hd : decide (x < T) = false := decide_eq_false hc
    have hinc : IntKind.i64.wrap ((M : Int) + 1) = (M : Int) + 1 := IntWalk.i64_in _ (by omega)
    clear hk
    go_wp2_with fail
    go_roundw
    case rel => exact ⟨M + 1, R, by rw [show ((M + 1 : Nat) : Int) = (M : Int) + 1 by omega], (by first | rfl | rw [hquo]), by omega, h2, h3, (by first | rfl | trivial)⟩
    case measure => simp [intOf]; omega
  ·have hge : ¬ (L : Int) < (R : Int) := by omega
   obtain rfl : L = D := by omega
   go_wp2_with fail
   go_ret
   exact ⟨rfl, rfl⟩
set_option maxHeartbeats 1000000 in
theorem fint_ntz (x : Int) (hx : Fi x) (w : World) (ht : Tab w) :
  Calls Tryz.prog 114 #[.int .u64 x] w (fun e w' => ∃ z : Nat, e = .returned (.int .i64 z) ∧ z ≤ 18 ∧ x % 10 ^ z = 0 ∧ w = w') := by
 have hD : digs x.toNat ≤ 19 := digs_le.2 (by have h1 := hx.2; have h0 := hx.1; have e : (10 : Nat) ^ 19 = 10000000000000000000 := (by decide); omega)
 have HP := hid (fint_prec x hx w ht)
 obtain ⟨hx0, hx1⟩ := hx
 generalize digs x.toNat = D at *
 have HT := hid ht
 have h10 : x % 10 ^ 0 = 0 := by rw [Int.pow_zero]; exact Int.emod_one x
 clear ht
 go_enter Tryz.func114, Tryz.ntmps114
 go_wp2_with (go_at_call 112; refine HP.out.mono ?_; intro e w' h; obtain ⟨he1, he2⟩ := h; subst he1; subst he2)
 go_loopw [3, 4] (fun l r wr => ∃ z R : Nat, l = .int .i64 ((z : Int) + 1) ∧ r = .int .i64 R ∧ z ≤ 18 ∧ R ≤ 19 ∧ x % 10 ^ z = 0 ∧ w = wr) (fun l r _ => (intOf r - intOf l).toNat)
 case atStart => exact ⟨0, D, rfl, rfl, by omega, by omega, h10, rfl⟩
 case round =>
  obtain ⟨z, R, rfl, rfl, h1, h2, h3, rfl⟩ := hrel
  by_cases hlr : z + 1 < R
  ·have hlt : (z : Int) + 1 < (R : Int) := by omega
   have hsum : IntKind.i64.wrap ((z : Int) + 1 + (R : Int)) = (z : Int) + 1 + (R : Int) := IntWalk.i64_in _ (by omega)
   obtain ⟨M, hM⟩ : ∃ M : Nat, M = (z + 1 + R) / 2 := ⟨_, rfl⟩
   have hquo : ((z : Int) + 1 + (R : Int)) / 2 = (M : Int) := by omega
   have hM1 : z + 1 ≤ M := by omega
   have hM2 : M < R := by omega
   clear hM
   have hcell := HT.out M (by omega)
   have hp := p10_pos M
   have hwp := p10_wd (k := M) (by omega)
   have hm0 : (0 : Int) ≤ (M : Int) := by omega
   have hm20 : (M : Int) < 20 := by omega
   obtain ⟨T, hT⟩ : ∃ T, (10 : Int) ^ M = T := ⟨_, rfl⟩
   rw [hT] at hcell hp hwp
   have hTne : T ≠ 0 := by omega
   by_cases hc : x % T = 0
   ·have hd : (x % T == 0) = true := by rw [hc]; rfl
    have hinc : IntKind.i64.wrap ((M : Int) + 1) = (M : Int) + 1 := IntWalk.i64_in _ (by omega)
    rw [← hT] at hc
    have HC := hid hc
    clear hc hT h3
    go_wp2_with fail
    go_roundw
    case rel => exact ⟨M, R, (by first | rfl | rw [hquo]), rfl, by omega, h2, HC.out, (by first | rfl | trivial)⟩
    case measure => simp [intOf]; omega
   ·have hd : (x % T == 0) = false := beq_eq_false_iff_ne.2 hc
    have HC := hid h3
    clear hT h3
    go_wp2_with fail
    go_roundw
    case rel => exact ⟨z, M, rfl, (by first | rfl | rw [hquo]), h1, by omega, HC.out, (by first | rfl | trivial)⟩
    case measure => simp [intOf]; omega
  ·have hge : ¬ (z : Int) + 1 < (R : Int) := by omega
   have hsub : IntKind.i64.wrap ((z : Int) + 1 - 1) = (z : Int) := by rw [show (z : Int) + 1 - 1 = (z : Int) by omega]; exact IntWalk.i64_in _ (by omega)
   have HC := hid h3
   clear h3
   go_wp2_with fail
   go_ret
   exact ⟨z, rfl, h1, HC.out, rfl⟩
theorem fint_rshDown (x : Int) (n : Nat) (hx : Fi x) (hx1 : x ≠ 0) (hn1 : 1 ≤ n) (hn : n ≤ 19) (w : World) (ht : Tab w) :
  Calls Tryz.prog 115 #[.int .u64 x, .int .i64 n] w (fun e w' => e = .returned (.int .u64 (x / 10 ^ n)) ∧ w = w') := by
 have hcell := ht n (by omega)
 have hY := p10_pos n
 obtain ⟨hY0, hY1⟩ := p10_wd (k := n) (by omega)
 generalize (10 : Int) ^ n = Y at *
 obtain ⟨hx0, hxm⟩ := hx
 have hb0 : (x == 0) = false := beq_eq_false_iff_ne.2 hx1
 have hle : ¬ (n : Int) ≤ 0 := by omega
 have hlt20 : (n : Int) < 20 := by omega
 have hge0 : (0 : Int) ≤ (n : Int) := by omega
 have hnge : ¬ (20 : Int) ≤ (n : Int) := by omega
 have hYne : Y ≠ 0 := by omega
 go_enter Tryz.func115, Tryz.ntmps115
 go_wp2_with fail
 first | (go_quiet (fail); go_wp2_with fail) | skip
 go_ret
 exact ⟨rfl, rfl⟩
theorem fint_quo (x y : Int) (hx : Fi x) (hy : Fi y) (hy1 : y ≠ 0) (w : World) :
  Calls Tryz.prog 116 #[.int .u64 x, .int .u64 y] w (fun e w' => e = .returned (.tuple #[.int .u64 (if x % y = 0 then x / y else 0), .bool (decide (x % y = 0))]) ∧ w = w') := by
 obtain ⟨hx0, hxm⟩ := hx
 obtain ⟨hy0, hym⟩ := hy
 have hb0 : (y == 0) = false := beq_eq_false_iff_ne.2 hy1
 have hdm := Int.mul_ediv_add_emod x y
 have hr0 : 0 ≤ x % y := Int.emod_nonneg _ hy1
 obtain ⟨q, hq⟩ : ∃ q, x / y = q := ⟨_, rfl⟩
 obtain ⟨r, hr⟩ : ∃ r, x % y = r := ⟨_, rfl⟩
 have hq0 : 0 ≤ q := by rw [← hq]; exact Int.ediv_nonneg hx0 hy0
 rw [hq, hr] at hdm
 rw [hr] at hr0
 have hqy : q * y = x - r := by rw [Int.mul_comm]; omega
 have hqp : 0 ≤ x - r := by rw [← hqy]; exact Int.mul_nonneg hq0 hy0
 have hw1 : IntKind.u64.wrap (q * y) = x - r := by rw [IntKind.wrap_u64, hqy]; omega
 rw [hr]
 by_cases hc : r = 0
 ·have hb1 : (x - r == x) = true := by rw [hc, Int.sub_zero]; exact beq_self_eq_true x
  rw [if_pos hc, decide_eq_true hc, hq]
  clear hdm hqy hr hc
  go_enter Tryz.func116, Tryz.ntmps116
  go_wp2_with fail
  go_ret2
  exact ⟨by rw [← hq]; rfl, rfl⟩
 ·have hb1 : (x - r == x) = false := beq_eq_false_iff_ne.2 (by omega)
  rw [if_neg hc, decide_eq_false hc]
  clear hdm hqy hr hc
  go_enter Tryz.func116, Tryz.ntmps116
  go_wp2_with fail
  go_ret2
  exact ⟨rfl, rfl⟩
theorem dvd_less {x a b : Nat} (hab : a ≤ b) (h : x % 10 ^ b = 0) : x % 10 ^ a = 0 :=
 Nat.mod_eq_zero_of_dvd (Nat.dvd_trans (Nat.pow_dvd_pow 10 hab) (Nat.dvd_of_mod_eq_zero h))
theorem min3_run {P : Program} (ts : Array TypeId) (t : TypeId) (x y z : Int) (w : World) : (Builtin.min_ ts t #[.int .i64 x, .int .i64 y, .int .i64 z]).run P w = .ok (.int .i64 (min (min x y) z)) w := by
 simp only [Builtin.min_, List.foldlM_cons, List.foldlM_nil, Builtin.min2]
 have e : ∀ a b : Int, (if b < a then b else a) = min a b := by intro a b; omega
 simp [e]
theorem max3_run {P : Program} (ts : Array TypeId) (t : TypeId) (x y z : Int) (w : World) : (Builtin.max_ ts t #[.int .i64 x, .int .i64 y, .int .i64 z]).run P w = .ok (.int .i64 (max (max x y) z)) w := by
 simp only [Builtin.max_, List.foldlM_cons, List.foldlM_nil, Builtin.max2]
 have e : ∀ a b : Int, (if a < b then b else a) = max a b := by intro a b; omega
 simp [e]
theorem IsZero_any (neg : Bool) (c : Int) (s : Nat) (w : World) :
  Calls Tryz.prog 89 #[.agg #[.bool neg, .int .i8 s, .int .u64 c]] w (fun e w' => e = .returned (.bool (c == 0)) ∧ Chg (fun _ => False) w w') := by
 obtain ⟨b, hb⟩ : ∃ b, (c == 0) = b := ⟨_, rfl⟩
 rw [hb]
 go_enter Tryz.func89, Tryz.ntmps89
 go_wp2_with fail
 go_ret
 exact ⟨rfl, (Chg.refl _ _).alloc _⟩
set_option maxHeartbeats 1000000 in
theorem MinScale_any (neg : Bool) (c s : Nat) (hc : c < 10 ^ 19) (hs : s ≤ 19) (w : World) (he : EnvD w) :
  Calls Tryz.prog 118 #[.agg #[.bool neg, .int .i8 s, .int .u64 (c : Int)]] w (fun e w' => ∃ r : Nat, e = .returned (.int .i64 r) ∧ r ≤ s ∧ c % 10 ^ (s - r) = 0 ∧ Chg (fun _ => False) w w') := by
 have HZ := hid (fun w => IsZero_any neg (c : Int) s w)
 have HS := hid (fun w => Scale_any neg (c : Int) s hs w)
 have HN := hid (fun w ht => fint_ntz (c : Int) (fiN hc) w ht)
 obtain ⟨HC0, HD, hB0⟩ := box1 w #[.bool neg, .int .i8 s, .int .u64 (c : Int)] 53
 have HB := hid (fun w1 (h : Chg (fun _ => False) (w.alloc (.cells #[.bool neg, .int .i8 s, .int .u64 (c : Int)] 53)) w1) => cell3 (kept_heap h hB0))
 have HE := hid he
 have hk := Chg.refl (fun _ => False) (w.alloc (.cells #[.bool neg, .int .i8 s, .int .u64 (c : Int)] 53))
 clear hB0 HD he
 obtain ⟨d0, d1, d2, f0, f1, f2⟩ := HB.out _ hk
 by_cases h0 : c = 0
 ·have hb : ((c : Int) == 0) = true := by rw [h0]; rfl
  have H0 := hid h0
  clear hc hs h0
  go_enter Tryz.func118, Tryz.ntmps118
  go_wp2_with (go_at_call 89; refine (HZ.out _).mono ?_; intro e w1 h; obtain ⟨he1, hc1⟩ := h; subst he1; replace hk := hk.trans hc1 sb_; clear hc1 d0 d1 d2 f0 f1 f2; obtain ⟨d0, d1, d2, f0, f1, f2⟩ := HB.out _ hk)
  go_ret
  exact ⟨0, rfl, by omega, by rw [H0.out, Nat.zero_mod], HC0.out.trans hk sb_⟩
 ·have hb : ((c : Int) == 0) = false := beq_eq_false_iff_ne.2 (by omega)
  have HS19 := hid hs
  clear hc hs h0
  go_enter Tryz.func118, Tryz.ntmps118
  go_wp2_with (first | (go_at_call 89; refine (HZ.out _).mono ?_; intro e w1 h; obtain ⟨he1, hc1⟩ := h; subst he1; replace hk := hk.trans hc1 sb_; clear hc1 d0 d1 d2 f0 f1 f2; obtain ⟨d0, d1, d2, f0, f1, f2⟩ := HB.out _ hk) | (go_at_call 77; refine (HS.out _).mono ?_; intro e w1 h; obtain ⟨he1, hc1⟩ := h; subst he1; replace hk := hk.trans hc1 sb_; clear hc1 d0 d1 d2 f0 f1 f2; obtain ⟨d0, d1, d2, f0, f1, f2⟩ := HB.out _ hk))
  go_at_call 114
  refine (HN.out _ (HE.out.kept (HC0.out.trans hk sb_)).env.tab).mono ?_
  intro e w2 h
  obtain ⟨z, he1, hz1, hz2, he2⟩ := h
  subst he1
  subst he2
  have hz3 : c % 10 ^ z = 0 := by rw [← pow_cast] at hz2; exact_mod_cast hz2
  have HR : Hid (s - z ≤ s ∧ c % 10 ^ (s - (s - z)) = 0) := ⟨by omega, dvd_less (by omega) hz3⟩
  obtain ⟨D, hD⟩ : ∃ D : Int, (s : Int) - (z : Int) = D := ⟨_, rfl⟩
  have hs19 := HS19.out
  have hw : IntKind.i64.wrap ((s : Int) - (z : Int)) = D := by rw [hD]; exact IntWalk.i64_in _ (by omega)
  have hmx : max (0 : Int) D = ((s - z : Nat) : Int) := by omega
  generalize s - z = r at *
  clear hz1 hz2 hz3 hD hs19 HS19
  go_wp2_with fail
  go_ret
  exact ⟨r, rfl, HR.out.1, HR.out.2, HC0.out.trans hk sb_⟩
theorem rsh_any (c : Nat) (n : Nat) (hc : c < 10 ^ 19) (hn1 : 1 ≤ n) (hn : n ≤ 19) (w : World) (ht : Tab w) :
  Calls Tryz.prog 115 #[.int .u64 (c : Int), .int .i64 n] w (fun e w' => e = .returned (.int .u64 ((c / 10 ^ n : Nat) : Int)) ∧ w = w') := by
 by_cases h : c = 0
 ·subst h
  rw [Nat.zero_div]
  have hb0 : (((0 : Nat) : Int) == 0) = true := rfl
  go_enter Tryz.func115, Tryz.ntmps115
  go_wp2_with fail
  go_ret
  exact ⟨rfl, rfl⟩
 ·have hcast : (c : Int) / 10 ^ n = ((c / 10 ^ n : Nat) : Int) := by rw [← pow_cast, Int.natCast_ediv]
  have := fint_rshDown (c : Int) n (fiN hc) (by omega) hn1 hn w ht
  rw [hcast] at this
  exact this
set_option maxHeartbeats 1000000 in
theorem Trunc_less (nb : Bool) (c s t : Nat) (hc : c < 10 ^ 19) (hs : s ≤ 19) (ht : t < s) (hnb : (nb && ((c / 10 ^ (s - t) : Nat) : Int) != 0) = nb) (w : World) (he : EnvD w) :
  Calls Tryz.prog 119 #[.agg #[.bool nb, .int .i8 s, .int .u64 (c : Int)], .int .i64 t] w (fun e w' => e = .returned (.agg #[.bool nb, .int .i8 t, .int .u64 ((c / 10 ^ (s - t) : Nat) : Int)]) ∧ Chg (fun _ => False) w w') := by
 have HS := hid (fun w => Scale_any nb (c : Int) s hs w)
 have HN := hid (fun w => IsNeg_any nb (c : Int) s w)
 have HR := hid (fun w ht1 => rsh_any c (s - t) hc (by omega) (by omega) w ht1)
 have hq : c / 10 ^ (s - t) < 10 ^ 19 := Nat.lt_of_le_of_lt (Nat.div_le_self _ _) hc
 have HU := hid (fun w => newUnsafe_flat nb nb ((c / 10 ^ (s - t) : Nat) : Int) t (fiN hq) (by omega) hnb w)
 have hw : IntKind.i64.wrap ((s : Int) - (t : Int)) = ((s - t : Nat) : Int) := by rw [show (s : Int) - (t : Int) = ((s - t : Nat) : Int) by omega]; exact IntWalk.i64_in _ (by omega)
 have hmx : max (t : Int) 0 = (t : Int) := by omega
 have c1 : ¬ (s : Int) ≤ (t : Int) := by omega
 obtain ⟨Q, hQ⟩ : ∃ Q : Int, ((c / 10 ^ (s - t) : Nat) : Int) = Q := ⟨_, rfl⟩
 rw [hQ] at HR HU ⊢
 generalize s - t = j at *
 obtain ⟨HC0, HD, hB0, hB1⟩ := box2 w #[.bool nb, .int .i8 s, .int .u64 (c : Int)] 53 #[.bool false, .int .i8 0, .int .u64 0] 53
 have HBX := hid (fun w1 h => kept_heap (w' := w1) h hB1)
 have HB := hid (fun w1 h => And.intro (cell3 (kept_heap (w' := w1) h hB0)) (cell3 (kept_heap (w' := w1) h hB1)))
 have HE := hid he
 have hk := Chg.refl (fun _ => False) ((w.alloc (.cells #[.bool nb, .int .i8 s, .int .u64 (c : Int)] 53)).alloc (.cells #[.bool false, .int .i8 0, .int .u64 0] 53))
 clear hB0 hB1 HD he hc hs ht hq hQ hnb
 obtain ⟨⟨d0, d1, d2, _, _, _⟩, ⟨r0, r1, r2, q0, q1, q2⟩⟩ := HB.out _ hk
 go_enter Tryz.func119, Tryz.ntmps119
 go_wp2_with (first | (go_at_call 77; refine (HS.out _).mono ?_; intro e w1 h; obtain ⟨he1, hc1⟩ := h; subst he1; replace hk := hk.trans hc1 sb_; clear hc1 d0 d1 d2 r0 r1 r2 q0 q1 q2; obtain ⟨⟨d0, d1, d2, _, _, _⟩, ⟨r0, r1, r2, q0, q1, q2⟩⟩ := HB.out _ hk) | (go_at_call 75; refine (HN.out _).mono ?_; intro e w1 h; obtain ⟨he1, hc1⟩ := h; subst he1; replace hk := hk.trans hc1 sb_; clear hc1 d0 d1 d2 r0 r1 r2 q0 q1 q2; obtain ⟨⟨d0, d1, d2, _, _, _⟩, ⟨r0, r1, r2, q0, q1, q2⟩⟩ := HB.out _ hk) | (go_at_call 115; refine (HR.out _ (HE.out.kept (HC0.out.trans hk sb_)).env.tab).mono ?_; intro e w2 h; obtain ⟨he1, he2⟩ := h; subst he1; subst he2) | (go_at_call 102; refine (HU.out _).mono ?_; intro e w1 h; obtain ⟨he1, hc1⟩ := h; subst he1; replace hk := hk.trans hc1 sb_; clear hc1 d0 d1 d2 r0 r1 r2 q0 q1 q2; obtain ⟨⟨d0, d1, d2, _, _, _⟩, ⟨r0, r1, r2, q0, q1, q2⟩⟩ := HB.out _ hk))
 exact bodyPost_ret (v := .agg #[.bool nb, .int .i8 t, .int .u64 Q]) (by rw [results_cell_row rfl _ _ (w.heap.size + 1) _ _ _ _ rfl (store3 (HBX.out _ hk) _ _ _) Tryz.underlying53 rfl dec_size]) rfl ⟨rfl, chg3 (HC0.out.trans hk sb_) (by omega) _ _ _⟩
set_option maxHeartbeats 1000000 in
theorem Trunc_same (nb : Bool) (c : Int) (s : Nat) (hs : s ≤ 19) (w : World) :
  Calls Tryz.prog 119 #[.agg #[.bool nb, .int .i8 s, .int .u64 c], .int .i64 s] w (fun e w' => e = .returned (.agg #[.bool nb, .int .i8 s, .int .u64 c]) ∧ Chg (fun _ => False) w w') := by
 have HS := hid (fun w => Scale_any nb c s hs w)
 have hmx : max (s : Int) 0 = (s : Int) := by omega
 have c1 : (s : Int) ≤ (s : Int) := by omega
 obtain ⟨HC0, HD, hB0, hB1⟩ := box2 w #[.bool nb, .int .i8 s, .int .u64 c] 53 #[.bool false, .int .i8 0, .int .u64 0] 53
 have HBX := hid (fun w1 h => kept_heap (w' := w1) h hB1)
 have HB := hid (fun w1 h => And.intro (cell3 (kept_heap (w' := w1) h hB0)) (cell3 (kept_heap (w' := w1) h hB1)))
 have hk := Chg.refl (fun _ => False) ((w.alloc (.cells #[.bool nb, .int .i8 s, .int .u64 c] 53)).alloc (.cells #[.bool false, .int .i8 0, .int .u64 0] 53))
 clear hB0 hB1 HD hs
 obtain ⟨⟨d0, d1, d2, _, _, _⟩, ⟨r0, r1, r2, q0, q1, q2⟩⟩ := HB.out _ hk
 go_enter Tryz.func119, Tryz.ntmps119
 go_wp2_with (go_at_call 77; refine (HS.out _).mono ?_; intro e w1 h; obtain ⟨he1, hc1⟩ := h; subst he1; replace hk := hk.trans hc1 sb_; clear hc1 d0 d1 d2 r0 r1 r2 q0 q1 q2; obtain ⟨⟨d0, d1, d2, _, _, _⟩, ⟨r0, r1, r2, q0, q1, q2⟩⟩ := HB.out _ hk)
 exact bodyPost_ret (v := .agg #[.bool nb, .int .i8 s, .int .u64 c]) (by rw [results_cell_row rfl _ _ (w.heap.size + 1) _ _ _ _ rfl (store3 (HBX.out _ hk) _ _ _) Tryz.underlying53 rfl dec_size]) rfl ⟨rfl, chg3 (HC0.out.trans hk sb_) (by omega) _ _ _⟩
def PTrim (nb : Bool) (c s p : Nat) (w : World) (e : Ending) (w' : World) : Prop :=
 ∃ c' t : Nat, e = .returned (.agg #[.bool nb, .int .i8 (t : Int), .int .u64 (c' : Int)]) ∧ t ≤ s ∧ (p ≤ t ∨ t = s) ∧ c = c' * 10 ^ (s - t) ∧ Chg (fun _ => False) w w'
set_option maxHeartbeats 2000000 in
theorem Trim_any (nb : Bool) (c s p : Nat) (hc : c < 10 ^ 19) (hs : s ≤ 19) (hnb : (nb && (c : Int) != 0) = nb) (w : World) (he : EnvD w) :
  Calls Tryz.prog 92 #[.agg #[.bool nb, .int .i8 s, .int .u64 (c : Int)], .int .i64 p] w (PTrim nb c s p w) := by
 have HS := hid (fun w => Scale_any nb (c : Int) s hs w)
 have HM := hid (fun w he => MinScale_any nb c s hc hs w he)
 have HTS := hid (fun w => Trunc_same nb (c : Int) s hs w)
 have HTL := hid (fun w he t (ht : t < s) h => Trunc_less nb c s t hc hs ht h w he)
 obtain ⟨HC0, HD, hB0, hB1⟩ := box2 w #[.bool nb, .int .i8 s, .int .u64 (c : Int)] 53 #[.bool false, .int .i8 0, .int .u64 0] 53
 have HBX := hid (fun w1 h => kept_heap (w' := w1) h hB1)
 have HB := hid (fun w1 h => And.intro (cell3 (kept_heap (w' := w1) h hB0)) (cell3 (kept_heap (w' := w1) h hB1)))
 have HE := hid he
 have HNB := hid hnb
 have hk := Chg.refl (fun _ => False) ((w.alloc (.cells #[.bool nb, .int .i8 s, .int .u64 (c : Int)] 53)).alloc (.cells #[.bool false, .int .i8 0, .int .u64 0] 53))
 clear hB0 hB1 HD he hnb hc hs
 obtain ⟨⟨d0, d1, d2, _, _, _⟩, ⟨r0, r1, r2, q0, q1, q2⟩⟩ := HB.out _ hk
 by_cases hsp : s ≤ p
 ·have c1 : (s : Int) ≤ (p : Int) := by omega
  have HP := hid hsp
  clear hsp
  go_enter Tryz.func92, Tryz.ntmps92
  go_wp2_with (go_at_call 77; refine (HS.out _).mono ?_; intro e w1 h; obtain ⟨he1, hc1⟩ := h; subst he1; replace hk := hk.trans hc1 sb_; clear hc1 d0 d1 d2 r0 r1 r2 q0 q1 q2; obtain ⟨⟨d0, d1, d2, _, _, _⟩, ⟨r0, r1, r2, q0, q1, q2⟩⟩ := HB.out _ hk)
  exact bodyPost_ret (v := .agg #[.bool nb, .int .i8 s, .int .u64 (c : Int)]) (by rw [results_cell_row rfl _ _ (w.heap.size + 1) _ _ _ _ rfl (store3 (HBX.out _ hk) _ _ _) Tryz.underlying53 rfl dec_size]) rfl ⟨c, s, rfl, by omega, .inr rfl, by rw [Nat.sub_self, Nat.pow_zero, Nat.mul_one], chg3 (HC0.out.trans hk sb_) (by omega) _ _ _⟩
 ·have c1 : ¬ (s : Int) ≤ (p : Int) := by omega
  have HP := hid hsp
  clear hsp
  go_enter Tryz.func92, Tryz.ntmps92
  go_wp2_with (go_at_call 77; refine (HS.out _).mono ?_; intro e w1 h; obtain ⟨he1, hc1⟩ := h; subst he1; replace hk := hk.trans hc1 sb_; clear hc1 d0 d1 d2 r0 r1 r2 q0 q1 q2; obtain ⟨⟨d0, d1, d2, _, _, _⟩, ⟨r0, r1, r2, q0, q1, q2⟩⟩ := HB.out _ hk)
  go_at_call 118
  refine (HM.out _ (HE.out.kept (HC0.out.trans hk sb_))).mono ?_
  intro e w2 h
  obtain ⟨r, he1, hr1, hr2, hc1⟩ := h
  subst he1
  replace hk := hk.trans hc1 sb_
  clear hc1 d0 d1 d2 r0 r1 r2 q0 q1 q2
  obtain ⟨⟨d0, d1, d2, _, _, _⟩, ⟨r0, r1, r2, q0, q1, q2⟩⟩ := HB.out _ hk
  have hps := HP.out
  obtain ⟨t, hmx⟩ : ∃ t : Nat, max (p : Int) (r : Int) = (t : Int) := ⟨max p r, by omega⟩
  have ht1 : t ≤ s := by omega
  have ht2 : p ≤ t := by omega
  have ht3 : c % 10 ^ (s - t) = 0 := dvd_less (by omega) hr2
  have HT3 := hid ht3
  by_cases hts : t = s
  ·subst hts
   have HT2 := hid ht2
   clear ht1 ht2 ht3 hr1 hr2 hps c1
   go_wp2_with (go_at_call 119; refine (HTS.out _).mono ?_; intro e w1 h; obtain ⟨he1, hc1⟩ := h; subst he1; replace hk := hk.trans hc1 sb_; clear hc1 d0 d1 d2 r0 r1 r2 q0 q1 q2; obtain ⟨⟨d0, d1, d2, _, _, _⟩, ⟨r0, r1, r2, q0, q1, q2⟩⟩ := HB.out _ hk)
   exact bodyPost_ret (v := .agg #[.bool nb, .int .i8 t, .int .u64 (c : Int)]) (by rw [results_cell_row rfl _ _ (w.heap.size + 1) _ _ _ _ rfl (store3 (HBX.out _ hk) _ _ _) Tryz.underlying53 rfl dec_size]) rfl ⟨c, t, rfl, by omega, .inr rfl, by rw [Nat.sub_self, Nat.pow_zero, Nat.mul_one], chg3 (HC0.out.trans hk sb_) (by omega) _ _ _⟩
  ·have hdiv : c / 10 ^ (s - t) * 10 ^ (s - t) = c := Nat.div_mul_cancel (Nat.dvd_of_mod_eq_zero ht3)
   have hnz : (nb && ((c / 10 ^ (s - t) : Nat) : Int) != 0) = nb := by
    have h1 := HNB.out
    cases nb with
    | false => rfl
    | true =>
     rw [Bool.true_and] at h1 ⊢
     have h2 : (c : Int) ≠ 0 := bne_iff_ne.1 h1
     refine bne_iff_ne.2 (fun h3 => h2 ?_)
     have h4 : c / 10 ^ (s - t) = 0 := by omega
     rw [h4, Nat.zero_mul] at hdiv
     omega
   have HTR := hid (fun w he => HTL.out w he t (by omega) hnz)
   have HF : Hid (t ≤ s ∧ p ≤ t ∧ c = c / 10 ^ (s - t) * 10 ^ (s - t)) := ⟨ht1, ht2, hdiv.symm⟩
   generalize c / 10 ^ (s - t) = Q at *
   clear ht1 ht2 ht3 hr1 hr2 hps c1 hdiv hnz hts
   go_wp2_with (go_at_call 119; refine (HTR.out _ (HE.out.kept (HC0.out.trans hk sb_))).mono ?_; intro e w1 h; obtain ⟨he1, hc1⟩ := h; subst he1; replace hk := hk.trans hc1 sb_; clear hc1 d0 d1 d2 r0 r1 r2 q0 q1 q2; obtain ⟨⟨d0, d1, d2, _, _, _⟩, ⟨r0, r1, r2, q0, q1, q2⟩⟩ := HB.out _ hk)
   exact bodyPost_ret (v := .agg #[.bool nb, .int .i8 t, .int .u64 ((Q : Nat) : Int)]) (by rw [results_cell_row rfl _ _ (w.heap.size + 1) _ _ _ _ rfl (store3 (HBX.out _ hk) _ _ _) Tryz.underlying53 rfl dec_size]) rfl ⟨Q, t, rfl, HF.out.1, .inl HF.out.2.1, HF.out.2.2, chg3 (HC0.out.trans hk sb_) (by omega) _ _ _⟩
end Go.Proofs.YtldhfhloinlfaaaGreatDoor
