/- Part 1 of the rest of the proof. -/
import Derived.Test.YtbjhnckboimliaaGreatDoorProg
import Derived.Lib.Mul64
import Derived.WalkKit
import Derived.KernelRfl
import Derived.Deep.QuietTactic
import Derived.BigQuiet
import Derived.LaidEqlPtr
import Derived.Laws.IdiomCopy
import Derived.RegionTactic
import Derived.BigRegion
import Derived.StillTailTactics
import Derived.Deep.RegionWith
import Derived.Shelf.Small.Bits
import Derived.Shelf.Strconv.Itoa0
import Derived.Shelf.Bits.Mul64
import Derived.Deep.CutBlock
import Derived.Deep.DeepCutAuto
import Derived.Lib.AppendZeros
import Derived.Laws.AppendOwn
import Derived.OwnWalk
import Derived.Deep.CutRange
import Derived.Deep.RegionHeld3
import Derived.Below
import Derived.Deep.Draws
import Derived.Deep.AppendLies
import Derived.Maps.AppendAt
import Derived.Laws.BytesArg
import Derived.Laws.MakeOwn
import Derived.Laws.OwnMore
import Derived.Deep.OwnRows
import Derived.Tactics
import Derived.Lib.ConvBytes
import Derived.Laws.Slices
import Derived.RowKit3
import Derived.Deep.LoopGhost
import Derived.WideLaws
import Derived.Laws.Rows
import Derived.Lib.AppendStr
import Derived.ArgAppend
import Derived.OrdersHeld
import Derived.Laws.BitsLemmas
import Derived.RowKit
import Derived.Laws.StructEq
import Derived.Recover
import Derived.Test.YtbjhnckboimliaaGreatDoorQ00
import Derived.Test.YtbjhnckboimliaaGreatDoorQ01
import Derived.Test.YtbjhnckboimliaaGreatDoorQ02
import Derived.Test.YtbjhnckboimliaaGreatDoorQ03
import Derived.Test.YtbjhnckboimliaaGreatDoorQ04
import Derived.Test.YtbjhnckboimliaaGreatDoorQ05
import Derived.Test.YtbjhnckboimliaaGreatDoorQ06
import Derived.Test.YtbjhnckboimliaaGreatDoorQ07
import Derived.Test.YtbjhnckboimliaaGreatDoorQ08
import Derived.Test.YtbjhnckboimliaaGreatDoorQ09
import Derived.Test.YtbjhnckboimliaaGreatDoorQ10
import Derived.Test.YtbjhnckboimliaaGreatDoorQ11
import Derived.Test.YtbjhnckboimliaaGreatDoorQ12
import Derived.Test.YtbjhnckboimliaaGreatDoorQ13
import Derived.Test.YtbjhnckboimliaaGreatDoorQ14
import Derived.Test.YtbjhnckboimliaaGreatDoorQ15
import Derived.Test.YtbjhnckboimliaaGreatDoorQ16
import Derived.Test.YtbjhnckboimliaaGreatDoorQ17
import Derived.Test.YtbjhnckboimliaaGreatDoorQ18
import Derived.Test.YtbjhnckboimliaaGreatDoorQ19
import Derived.Test.YtbjhnckboimliaaGreatDoorQ20
import Derived.Test.YtbjhnckboimliaaGreatDoorQ21
import Derived.Test.YtbjhnckboimliaaGreatDoorQ22
import Derived.Test.YtbjhnckboimliaaGreatDoorQ23
import Derived.Test.YtbjhnckboimliaaGreatDoorQ93
namespace Go.Proofs.YtbjhnckboimliaaGreatDoor
open Go.RowKit
set_option linter.unusedVariables false
set_option linter.unusedSimpArgs false
set_option maxRecDepth 20000
theorem unknownOverflow_any (w : World) : Calls Tryz.prog 112 #[] w (PErr w) := by
 go_enter Tryz.func112, Tryz.ntmps112
 go_wp2_with (go_at_call 76; refine (errorsNew_any _ _).mono ?_; intro e w1 h; obtain ⟨⟨t, v, he⟩, hc⟩ := h; subst he)
 go_ret
 exact ⟨⟨_, _, rfl⟩, hc⟩
theorem bint_hasPrec100 (p : Nat) (bo : Option Nat) (x : Int) (w : World) (hp : IntAt w p bo x) (he : Env w) :
  Calls Tryz.prog 111 #[.pointer (some ⟨p, 0, none⟩), .int .i64 100] w (fun e w' => e = .returned (.bool (decide ((10 : Int) ^ 99 ≤ x))) ∧ Chg (fun _ => False) w w') := by
 have hb := bpow10_any 99 w (by omega) he.tab he.kar
 have hm := fun w1 b (h : ValAt w b (10 ^ 99) w1) => cmp_pow p bo x w w1 99 b hp h
 have hd : decide (0 ≤ cmpI x (10 ^ 99)) = decide ((10 : Int) ^ 99 ≤ x) := decide_eq_decide.2 cmpI_ge0
 generalize (10 : Int) ^ 99 = T at *
 generalize cmpI x T = k at *
 rw [← hd]
 have HB := hid hb; have HM := hid hm
 clear hb hm hd
 go_enter Tryz.func111, Tryz.ntmps111
 go_wp2_with (first | (go_at_call 122; refine HB.out.mono ?_; rintro e w1 ⟨b, rfl, hv⟩; have HV := hid hv; clear hv) | (go_at_call 103; refine (HM.out _ _ HV.out).mono ?_; rintro e w2 ⟨rfl, hc⟩; have HH := hid hc; clear hc))
 go_ret
 exact ⟨rfl, HH.out⟩
theorem bint_rshDown (p n : Nat) (bo : Option Nat) (x : Int) (w : World) (hp : IntAt w p bo x) (he : Env w) (hx : x < BP 30) (hn1 : 1 ≤ n) (hn : n ≤ 57) :
  Calls Tryz.prog 110 #[.pointer (some ⟨p, 0, none⟩), .pointer (some ⟨p, 0, none⟩), .int .i64 n] w (PInt w p bo (x / 10 ^ n) (.tuple #[])) := by
 have hY := p10_pos n
 have hY3 := p10_bd3 hn
 have hsg := bint_sign p bo x w hp
 by_cases hz : x = 0
 ·subst hz
  rw [if_pos rfl] at hsg
  rw [Int.zero_ediv]
  have HS := hid hsg
  have HF := hid (bint_setFint p bo 0 0 w hp wd0)
  have hb : ((0 : Int) == 0) = true := rfl
  clear hsg
  go_enter_defers Tryz.func110, Tryz.ntmps110
  go_wp2_with (first | (go_at_call 133; refine HS.out.mono ?_; intro e w1 h; obtain ⟨h1, h2⟩ := h; subst h1; subst h2) | (go_at_call 100; refine HF.out.mono ?_; intro e w1 h; have he1 := h.1; subst he1; have HH := hid h; clear h))
  exact ⟨_, results_none rfl _ _ _, HH.out⟩
 ·rw [if_neg hz] at hsg
  have HS := hid hsg
  have hb1 : ((1 : Int) == 0) = false := rfl
  have hb := bpow10_any n w (by omega) he.tab he.kar
  have hm := fun w1 b (h : ValAt w b (10 ^ n) w1) => show Calls Tryz.prog 116 #[.pointer (some ⟨p, 0, none⟩), .pointer (some ⟨p, 0, none⟩), .pointer (some ⟨b, 0, none⟩)] w1 (PInt w p bo (x / 10 ^ n) (.tuple #[])) from by
   obtain ⟨bb, h1, h2, h3, h4⟩ := h
   exact (bint_quo p b bo bb x (10 ^ n) w1 (hp.new h4) h1 (he.kept h4) hx hY hY3).mono (fun e w' h => h.after h4)
  have hlt : (n : Int) < 100 := by omega
  have hn0 : ¬ (n : Int) ≤ 0 := by omega
  generalize (10 : Int) ^ n = T at *
  have HB := hid hb; have HM := hid hm
  clear hb hm hsg hz hY hY3 hx hn hn1 hp he
  go_enter_defers Tryz.func110, Tryz.ntmps110
  go_wp2_with (first | (go_at_call 133; refine HS.out.mono ?_; intro e w1 h; obtain ⟨h1, h2⟩ := h; subst h1; subst h2) | (go_at_call 122; refine HB.out.mono ?_; rintro e w1 ⟨b, rfl, hv⟩; have HV := hid hv; clear hv) | (go_at_call 116; refine (HM.out _ _ HV.out).mono ?_; rintro e w2 hh; obtain ⟨rfl, hh⟩ := hh; have HH := hid hh; clear hh))
  exact ⟨_, results_none rfl _ _ _, rfl, HH.out⟩
section
variable {w0 w2 w3 wk : World} {p q : Nat} {x y : Int} {K : Nat → Prop}
theorem c_bp {c k : Nat} (hc : c < 10 ^ k) (hk : k ≤ 99) : (c : Int) < BP 30 := by
 have h1 : ((10 ^ k : Nat) : Int) = (10 : Int) ^ k := pow_cast k
 have := p10_bd hk
 omega
theorem tk_mul {a b : Nat} (h : TwK w0 w2 p q (a : Int) (b : Int) wk K) (ha : a < 10 ^ 99) (hb : b < 10 ^ 19) :
  Calls Tryz.prog 109 #[.pointer (some ⟨p, 0, none⟩), .pointer (some ⟨p, 0, none⟩), .pointer (some ⟨q, 0, none⟩)] w2 (fun e w3 => e = .returned (.tuple #[]) ∧ TwK w0 w3 p q ((a * b : Nat) : Int) (b : Int) wk K) := by
 obtain ⟨bp, bq, h1, h2, _⟩ := h.ex
 rw [Int.natCast_mul]
 exact (bint_mul_same p q bp bq (a : Int) (b : Int) w2 h1 h2 h.ne (c_bp ha (by omega)) (c_bp hb (by omega)) h.env.env.kar).mono (fun e w3 k => ⟨k.1, h.step h1 k⟩)
theorem bp_mul {a b : Nat} (ha : a < 10 ^ 99) (hb : b < 10 ^ 19) : ((a * b : Nat) : Int) < BP 30 := by
 have h1 : a * b < 10 ^ 99 * 10 ^ 19 := Nat.mul_lt_mul_of_lt_of_le ha (Nat.le_of_lt hb) (pow10_pos 19)
 have h2 : (10 ^ 99 * 10 ^ 19 : Nat) < 18446744073709551616 ^ 30 := by decide
 have h3 : ((18446744073709551616 ^ 30 : Nat) : Int) = BP 30 := by rw [Int.natCast_pow]; rfl
 omega
theorem tk_rshDown {a k : Nat} (h : TwK w0 w2 p q (a : Int) y wk K) (ha : (a : Int) < BP 30) (hk1 : 1 ≤ k) (hk : k ≤ 57) :
  Calls Tryz.prog 110 #[.pointer (some ⟨p, 0, none⟩), .pointer (some ⟨p, 0, none⟩), .int .i64 k] w2 (fun e w3 => e = .returned (.tuple #[]) ∧ TwK w0 w3 p q ((a / 10 ^ k : Nat) : Int) y wk K) := by
 obtain ⟨bp, bq, h1, h2, _⟩ := h.ex
 have e : ((a / 10 ^ k : Nat) : Int) = (a : Int) / 10 ^ k := by rw [Int.natCast_ediv, pow_cast]
 rw [e]
 exact (bint_rshDown p k bp (a : Int) w2 h1 h.env.env ha hk1 hk).mono (fun e w3 q => ⟨q.1, h.step h1 q⟩)
theorem tk_hasPrec {a : Nat} {b : Bool} (h : TwK w0 w2 p q (a : Int) y wk K) (hb : decide (10 ^ 99 ≤ a) = b) :
  Calls Tryz.prog 111 #[.pointer (some ⟨p, 0, none⟩), .int .i64 100] w2 (fun e w3 => e = .returned (.bool b) ∧ TwK w0 w3 p q (a : Int) y wk K) := by
 obtain ⟨bp, bq, h1, h2, _⟩ := h.ex
 have e : decide ((10 : Int) ^ 99 ≤ (a : Int)) = b := by
  rw [← hb]
  refine decide_eq_decide.2 ?_
  rw [← pow_cast]
  exact Int.ofNat_le
 have H := bint_hasPrec100 p bp (a : Int) w2 h1 h.env.env
 rw [e] at H
 exact H.mono (fun e w3 k => ⟨k.1, h.same k.2⟩)
end
set_option maxHeartbeats 1000000 in
theorem nfb_none' (neg : Bool) (p : Nat) (bo : Option Nat) (c s : Nat) (w : World) (hp : IntAt w p bo (c : Int)) (he : EnvD w) (hc : digs c ≤ 99) (hs : s ≤ 57) (h1 : 19 + s < digs c) :
  Calls Tryz.prog 105 #[.bool neg, .pointer (some ⟨p, 0, none⟩), .int .i64 s, .int .i64 0] w (PDecB w p bo neg none) := by
 have hch : Chg (fun _ => False) w (w.alloc (.cells #[.bool false, .int .i8 0, .int .u64 0] 55)) := (Chg.refl _ w).alloc _
 have hc99 : (c : Int) < 10 ^ 99 := by
  have h1 := digs_le.1 hc
  have := pow_cast 99
  omega
 have hpr := bint_prec p bo (c : Int) _ (hp.new hch) (he.env.kept hch) hc99
 rw [Int.toNat_natCast] at hpr
 have HW := hid (fun w1 (h : Chg (fun k => k = p ∨ bo = some k) (w.alloc (.cells #[.bool false, .int .i8 0, .int .u64 0] 55)) w1) => cell_z hp h)
 generalize digs c = D at *
 have HP := hid hpr
 have HCH := hid hch
 have hw1 : IntKind.i64.wrap ((D : Int) - (s : Int)) = (D : Int) - (s : Int) := IntWalk.i64_in _ (by omega)
 have hgt : 19 < (D : Int) - (s : Int) := by omega
 clear hpr hch hc99 hp he
 go_enter Tryz.func105, Tryz.ntmps105
 go_wp2_with (first | (go_at_call 127; refine HP.out.mono ?_; intro e w1 h; obtain ⟨he1, hc1⟩ := h; subst he1) | (go_at_call 128; refine (overflowError_any _ _ _ _).mono ?_; intro e w2 h; obtain ⟨⟨t, v, he2⟩, hc2⟩ := h; subst he2; have hcc := hc1.trans hc2 sb_; obtain ⟨k0, k1, k2, f0, f1, f2⟩ := cell3 (HW.out w2 (hcc.mono (fun _ h => h.elim)))))
 refine bodyPost_ret (v := .tuple #[.agg #[.bool false, .int .i8 0, .int .u64 0], .iface t v]) (dec_result rfl _ _ w.heap.size _ _ _ _ 55 rfl rfl (store3 (HW.out w2 (hcc.mono (fun _ h => h.elim))) _ _ _)) rfl ⟨(chg3 (HCH.out.trans hcc sb_) (Nat.le_refl _) _ _ _).mono (fun _ h => h.elim), t, v, rfl⟩
theorem two_nfb9 {w0 w2 : World} {p q : Nat} {y : Int} {c s : Nat} (neg : Bool) (h : Two w0 w2 p q (c : Int) y) (hc : c < 10 ^ 99) (hs : s ≤ 41) :
  Calls Tryz.prog 105 #[.bool neg, .pointer (some ⟨p, 0, none⟩), .int .i64 s, .int .i64 0] w2 (PDecN w0 neg (from19 (10 ^ 19) 2 c s 0)) := by
 by_cases h8 : digs c ≤ 80
 ·exact two_nfb (m := 0) neg h h8 (by omega) (by omega)
 ·obtain ⟨bp, bq, h1, h2, _, h4, _⟩ := h.ex
  have e : from19 (10 ^ 19) 2 c s 0 = none := by rw [from19_two, if_pos (by omega)]
  rw [e]
  refine (nfb_none' neg p bp c s w2 h1 h.env (digs_le.2 hc) (by omega) (by omega)).mono (fun e w3 k => ⟨h.chg.trans k.1 (fun i hi hh => ?_), k.2⟩)
  have hp0 := h.p0
  rcases hh with hh | hh
  ·omega
  ·have := h4 i hh; omega
set_option maxHeartbeats 1000000 in
theorem nff_far' (neg : Bool) (c : Int) (s : Nat) (hs1 : 39 ≤ s) (hs : s ≤ 800) (w : World) :
  Calls Tryz.prog 97 #[.bool neg, .int .u64 c, .int .i64 s, .int .i64 0] w (PDec w neg (some (0, 19))) := by
 have hlt : ¬ (s : Int) < 0 := by omega
 have h19 : (19 : Int) < (s : Int) := by omega
 have hw : IntKind.i64.wrap ((s : Int) - 19) = ((s - 19 : Nat) : Int) := by rw [show (s : Int) - 19 = ((s - 19 : Nat) : Int) by omega]; exact IntWalk.i64_in _ (by omega)
 obtain ⟨HC0, HD, hB0⟩ := box1 w #[.bool false, .int .i8 0, .int .u64 0] 55
 have HZ := hid hB0
 have HR := hid (fun w => fint_rsh_far c (s - 19) (by omega) w)
 have HNS := hid (fun w => newSafe_flat neg false 0 19 ⟨by omega, by omega⟩ (by omega) (by cases neg <;> rfl) w)
 generalize s - 19 = j at *
 have e19 : ((19 : Nat) : Int) = 19 := rfl
 rw [e19] at HNS
 clear hs hs1 hB0 HD e19
 go_enter Tryz.func97, Tryz.ntmps97
 go_wp2_with (first | (go_at_call 120; refine (HR.out _).mono ?_; intro e w' h; obtain ⟨he1, he2⟩ := h; subst he1; subst he2) | (go_at_call 85; refine (HNS.out _).mono ?_; intro e w1 h; obtain ⟨he3, hc1⟩ := h; subst he3; have HK := hid hc1; clear hc1; obtain ⟨k0, k1, k2, f0, f1, f2⟩ := cell3 (kept_heap HK.out HZ.out)))
 refine bodyPost_ret (v := .tuple #[.agg #[.bool false, .int .i8 19, .int .u64 0], .nilIface]) (dec_result rfl _ _ w.heap.size _ _ _ _ _ rfl rfl (store3 (kept_heap HK.out HZ.out) _ _ _)) rfl ⟨chg3 (HC0.out.trans HK.out sb_) (Nat.le_refl _) _ _ _, ?_⟩
 show _ = Ending.returned (.tuple #[decV (neg && (0 : Int) != 0) 0 19, .nilIface])
 cases neg <;> rfl
theorem nff_some' (neg : Bool) {C S : Nat} (hC : C < 10 ^ 19) (hS : S ≤ 800) (w : World) (he : EnvD w) :
  Calls Tryz.prog 97 #[.bool neg, .int .u64 (C : Int), .int .i64 (S : Int), .int .i64 0] w (PX (SomeOf neg C S) w) := by
 by_cases h1 : S ≤ 38
 ·exact nff_some neg hC h1 w he
 ·have hd : digs C ≤ 19 := digs_le.2 hC
  have e19 : (10 : Nat) ^ 19 = 10000000000000000000 := by decide
  have hz : rhe C (10 ^ (S - 19)) = 0 := by
   have : (10 : Nat) ^ 20 ≤ 10 ^ (S - 19) := pow_le' (by omega)
   have e20 : (10 : Nat) ^ 20 = 100000000000000000000 := by decide
   exact rhe_small (by omega)
  have hfr : from19 (10 ^ 19) 2 C S 0 = Option.some (0, 19) :=
   from19_one (by omega) (by unfold step19; rw [if_neg (by omega), if_pos ⟨by omega, by omega⟩, hz]) (by omega)
  refine (nff_far' neg (C : Int) S (by omega) hS w).mono (fun e w' h => ?_)
  exact ⟨neg, some (0, 19), .inr ⟨rfl, hfr.symm⟩, h.1, h.2⟩
end Go.Proofs.YtbjhnckboimliaaGreatDoor
