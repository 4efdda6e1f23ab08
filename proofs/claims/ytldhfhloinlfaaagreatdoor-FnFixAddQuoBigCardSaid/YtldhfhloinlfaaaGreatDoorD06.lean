/- For every three decimals and every number of places, the law FnFixAddQuoBig answers true, and its arguments read as they did. No condition beyond the row's own: the package's variables hold what the program's text lays (tied). -/
import Derived.Test.YtldhfhloinlfaaaGreatDoorProg
import Derived.Below
import Derived.Deep.Draws
import Derived.Deep.AppendLies
import Derived.Maps.AppendAt
import Derived.OwnWalk
import Derived.Laws.BytesArg
import Derived.Laws.MakeOwn
import Derived.Laws.OwnMore
import Derived.Deep.OwnRows
import Derived.Tactics
import Derived.Lib.ConvBytes
import Derived.Laws.Slices
import Derived.WalkKit
import Derived.KernelRfl
import Derived.RowKit3
import Derived.Deep.LoopGhost
import Derived.Deep.QuietTactic
import Derived.BigQuiet
import Derived.WideLaws
import Derived.Deep.DeepCutAuto
import Derived.Deep.CutBlock
import Derived.Deep.RegionHeld3
import Derived.Laws.Rows
import Derived.Lib.AppendStr
import Derived.ArgAppend
import Derived.Laws.IdiomCopy
import Derived.OrdersHeld
import Derived.Laws.BitsLemmas
import Derived.RowKit
import Derived.Laws.StructEq
import Derived.Lib.Mul64
import Derived.LaidEqlPtr
import Derived.RegionTactic
import Derived.BigRegion
import Derived.StillTailTactics
import Derived.Deep.RegionWith
import Derived.Shelf.Small.Bits
import Derived.Shelf.Strconv.Itoa0
import Derived.Shelf.Bits.Mul64
import Derived.Lib.AppendZeros
import Derived.Laws.AppendOwn
import Derived.Deep.CutRange
import Derived.Recover
import Derived.Lib.SmallJoins
import Derived.OpenVars
import Derived.Test.YtldhfhloinlfaaaGreatDoorTie
import Derived.Test.YtldhfhloinlfaaaGreatDoorCards
import Derived.SevenTiedAt
import Derived.Carry
import Derived.Test.YtldhfhloinlfaaaGreatDoorC00
import Derived.Test.YtldhfhloinlfaaaGreatDoorC01
import Derived.Test.YtldhfhloinlfaaaGreatDoorC02
import Derived.Test.YtldhfhloinlfaaaGreatDoorC03
import Derived.Test.YtldhfhloinlfaaaGreatDoorC04
import Derived.Test.YtldhfhloinlfaaaGreatDoorC05
import Derived.Test.YtldhfhloinlfaaaGreatDoorC06
import Derived.Test.YtldhfhloinlfaaaGreatDoorC07
import Derived.Test.YtldhfhloinlfaaaGreatDoorC08
import Derived.Test.YtldhfhloinlfaaaGreatDoorC09
import Derived.Test.YtldhfhloinlfaaaGreatDoorC10
import Derived.Test.YtldhfhloinlfaaaGreatDoorC11
import Derived.Test.YtldhfhloinlfaaaGreatDoorC12
import Derived.Test.YtldhfhloinlfaaaGreatDoorC13
import Derived.Test.YtldhfhloinlfaaaGreatDoorC14
import Derived.Test.YtldhfhloinlfaaaGreatDoorC15
import Derived.Test.YtldhfhloinlfaaaGreatDoorC16
import Derived.Test.YtldhfhloinlfaaaGreatDoorC17
import Derived.Test.YtldhfhloinlfaaaGreatDoorC18
import Derived.Test.YtldhfhloinlfaaaGreatDoorC19
import Derived.Test.YtldhfhloinlfaaaGreatDoorC20
import Derived.Test.YtldhfhloinlfaaaGreatDoorC21
import Derived.Test.YtldhfhloinlfaaaGreatDoorC22
import Derived.Test.YtldhfhloinlfaaaGreatDoorC23
import Derived.Test.YtldhfhloinlfaaaGreatDoorC30
import Derived.Test.YtldhfhloinlfaaaGreatDoorC43
import Derived.Test.YtldhfhloinlfaaaGreatDoorD00
import Derived.Test.YtldhfhloinlfaaaGreatDoorD01
import Derived.Test.YtldhfhloinlfaaaGreatDoorD02
import Derived.Test.YtldhfhloinlfaaaGreatDoorD04
import Derived.Test.YtldhfhloinlfaaaGreatDoorD05
namespace Go.Proofs.YtldhfhloinlfaaaGreatDoor
open Go.RowKit
set_option linter.unusedVariables false
set_option linter.unusedSimpArgs false
set_option maxRecDepth 20000
theorem gvBig_gen {w : World} {A D1 : Option Addr} {n c p1 q1 a x : Nat} (n1 sg : Bool) (C S : Nat) (m : Int) (b0 : Bool) (c0 s0 f0 : Int)
  (ha : SN w A n c a) (hx : SN w D1 p1 q1 x) (ha1 : a < 10 ^ 100) (hx1 : x < 10 ^ 100) (hx0 : 0 < x) (hat : ∀ n, n ≤ 19 → atP a x n = rnd C S n) (hsg : n1 = sg ∨ C = 0)
  (hv : mulOut sg C S m = .tuple #[.agg #[.bool b0, .int .u64 c0, .int .i64 s0], .int .i64 f0]) :
  Calls Tryz.prog 19 #[.agg #[.bool b0, .int .u64 c0, .int .i64 s0], .int .i64 f0, .agg #[.bool n1, .slice A n c, .slice D1 p1 q1], .int .i64 m] w (PV w (.bool true)) := by
 refine gvBig_any _ _ _ _ _ _ f0 m (fun hm w1 h => ?_)
 unfold mulOut at hv
 rw [if_neg hm] at hv
 exact gvExact_gen n1 sg C S m _ _ _ (ha.kept h) (hx.kept h) ha1 hx1 hx0 hat hsg (by rw [if_neg hm]) hv
set_option maxHeartbeats 2000000 in
theorem lawQuoBig_out (n1 n2 n3 : Bool) (v1 s1 v2 s2 v3 s3 m : Int) (hok : (okFix v1 s1 && (okFix v2 s2 && okFix v3 s3)) = false) (w : World) :
  Calls Tryz.prog 4 #[.agg #[.bool n1, .int .u64 v1, .int .i64 s1], .agg #[.bool n2, .int .u64 v2, .int .i64 s2], .agg #[.bool n3, .int .u64 v3, .int .i64 s3], .int .i64 m] w (PV w (.bool true)) := by
 obtain ⟨HC0, HD, hB0, hB1, hB2⟩ := box3 w #[.bool n1, .int .u64 v1, .int .i64 s1] 24 #[.bool n2, .int .u64 v2, .int .i64 s2] 24 #[.bool n3, .int .u64 v3, .int .i64 s3] 24
 have HSS := hid (fun (w1 : World) h => And.intro ((cell3 (kept_heap (w' := w1) h hB0)).1) (And.intro ((cell3 (kept_heap (w' := w1) h hB0)).2.1) (And.intro ((cell3 (kept_heap (w' := w1) h hB0)).2.2.1) (And.intro ((cell3 (kept_heap (w' := w1) h hB1)).1) (And.intro ((cell3 (kept_heap (w' := w1) h hB1)).2.1) (And.intro ((cell3 (kept_heap (w' := w1) h hB1)).2.2.1) (And.intro ((cell3 (kept_heap (w' := w1) h hB2)).1) (And.intro ((cell3 (kept_heap (w' := w1) h hB2)).2.1) ((cell3 (kept_heap (w' := w1) h hB2)).2.2.1)))))))))
 have HSL := hid (alloc_last (W := (((w.alloc (.cells #[.bool n1, .int .u64 v1, .int .i64 s1] 24)).alloc (.cells #[.bool n2, .int .u64 v2, .int .i64 s2] 24)).alloc (.cells #[.bool n3, .int .u64 v3, .int .i64 s3] 24))) (x := (.cells #[.bool n1, .int .u64 v1, .int .i64 s1, .bool n2, .int .u64 v2, .int .i64 s2, .bool n3, .int .u64 v3, .int .i64 s3] 24)) (k := w.heap.size + 1 + 1 + 1) (by simp))
 have HFA := hid (FixAll_three n1 n2 n3 v1 s1 v2 s2 v3 s3 HSL.out)
 rw [hok] at HFA
 clear hok hB0 hB1 hB2 HD
 have hk := (Chg.refl (fun _ => False) (((w.alloc (.cells #[.bool n1, .int .u64 v1, .int .i64 s1] 24)).alloc (.cells #[.bool n2, .int .u64 v2, .int .i64 s2] 24)).alloc (.cells #[.bool n3, .int .u64 v3, .int .i64 s3] 24))).alloc (.cells #[.bool n1, .int .u64 v1, .int .i64 s1, .bool n2, .int .u64 v2, .int .i64 s2, .bool n3, .int .u64 v3, .int .i64 s3] 24)
 obtain ⟨d00_, d01_, d02_, d10_, d11_, d12_, d20_, d21_, d22_⟩ := HSS.out _ (Chg.refl _ _)
 go_enter Tryz.func4, Tryz.ntmps4
 go_wp2_with (go_at_call 12; refine HFA.out.mono ?_; intro e w1 h; obtain ⟨he, hc⟩ := h; subst he; replace hk := hk.trans hc sb_; clear hc; skip)
 go_ret
 exact ⟨rfl, HC0.out.trans hk sb_⟩
set_option maxHeartbeats 2000000 in
theorem lawQuoBig_zero (n1 n2 n3 : Bool) (v1 s1 v2 s2 v3 s3 m : Int) (hok : (okFix v1 s1 && (okFix v2 s2 && okFix v3 s3)) = true) (hb5 : (v3 == 0) = true) (w : World) :
  Calls Tryz.prog 4 #[.agg #[.bool n1, .int .u64 v1, .int .i64 s1], .agg #[.bool n2, .int .u64 v2, .int .i64 s2], .agg #[.bool n3, .int .u64 v3, .int .i64 s3], .int .i64 m] w (PV w (.bool true)) := by
 obtain ⟨HC0, HD, hB0, hB1, hB2⟩ := box3 w #[.bool n1, .int .u64 v1, .int .i64 s1] 24 #[.bool n2, .int .u64 v2, .int .i64 s2] 24 #[.bool n3, .int .u64 v3, .int .i64 s3] 24
 have HSS := hid (fun (w1 : World) h => And.intro ((cell3 (kept_heap (w' := w1) h hB0)).1) (And.intro ((cell3 (kept_heap (w' := w1) h hB0)).2.1) (And.intro ((cell3 (kept_heap (w' := w1) h hB0)).2.2.1) (And.intro ((cell3 (kept_heap (w' := w1) h hB1)).1) (And.intro ((cell3 (kept_heap (w' := w1) h hB1)).2.1) (And.intro ((cell3 (kept_heap (w' := w1) h hB1)).2.2.1) (And.intro ((cell3 (kept_heap (w' := w1) h hB2)).1) (And.intro ((cell3 (kept_heap (w' := w1) h hB2)).2.1) ((cell3 (kept_heap (w' := w1) h hB2)).2.2.1)))))))))
 have HSL := hid (alloc_last (W := (((w.alloc (.cells #[.bool n1, .int .u64 v1, .int .i64 s1] 24)).alloc (.cells #[.bool n2, .int .u64 v2, .int .i64 s2] 24)).alloc (.cells #[.bool n3, .int .u64 v3, .int .i64 s3] 24))) (x := (.cells #[.bool n1, .int .u64 v1, .int .i64 s1, .bool n2, .int .u64 v2, .int .i64 s2, .bool n3, .int .u64 v3, .int .i64 s3] 24)) (k := w.heap.size + 1 + 1 + 1) (by simp))
 have HFA := hid (FixAll_three n1 n2 n3 v1 s1 v2 s2 v3 s3 HSL.out)
 rw [hok] at HFA
 clear hok hB0 hB1 hB2 HD
 have hk := (Chg.refl (fun _ => False) (((w.alloc (.cells #[.bool n1, .int .u64 v1, .int .i64 s1] 24)).alloc (.cells #[.bool n2, .int .u64 v2, .int .i64 s2] 24)).alloc (.cells #[.bool n3, .int .u64 v3, .int .i64 s3] 24))).alloc (.cells #[.bool n1, .int .u64 v1, .int .i64 s1, .bool n2, .int .u64 v2, .int .i64 s2, .bool n3, .int .u64 v3, .int .i64 s3] 24)
 obtain ⟨d00_, d01_, d02_, d10_, d11_, d12_, d20_, d21_, d22_⟩ := HSS.out _ (Chg.refl _ _)
 go_enter Tryz.func4, Tryz.ntmps4
 go_wp2_with (go_at_call 12; refine HFA.out.mono ?_; intro e w1 h; obtain ⟨he, hc⟩ := h; subst he; replace hk := hk.trans hc sb_; clear hc; clear d00_ d01_ d02_ d10_ d11_ d12_ d20_ d21_ d22_; obtain ⟨d00_, d01_, d02_, d10_, d11_, d12_, d20_, d21_, d22_⟩ := HSS.out _ hk)
 go_ret
 exact ⟨rfl, HC0.out.trans hk sb_⟩
set_option maxHeartbeats 4000000 in
theorem lawQuoBig_in (n1 n2 n3 d1 d2 d3 xn s2x sb : Bool) (dc ec fc ds es fs : Nat) (m : Int) (hdc : dc < 10 ^ 19) (hec : ec < 10 ^ 19) (hfc : fc < 10 ^ 19) (hf0 : 0 < fc) (hds : ds ≤ 19) (hes : es ≤ 19) (hfs : fs ≤ 19) (hd1 : (n1 && dc != 0) = d1) (hd2 : (n2 && ec != 0) = d2) (hd3 : (n3 && fc != 0) = d3) (hx : (!(d2 == d3)) = xn) (hs2x : (xn && ec * 10 ^ fs != 0) = s2x)
  (v1 s1 v2 s2 v3 s3 : Int) (hv1 : (dc : Int) = v1) (hs1 : (ds : Int) = s1) (hv2 : (ec : Int) = v2) (hs2 : (es : Int) = s2) (hv3 : (fc : Int) = v3) (hs3 : (fs : Int) = s3) (hok : (okFix v1 s1 && (okFix v2 s2 && okFix v3 s3)) = true)
  (hsb : ((aqF d1 dc ds xn ec es fc fs).1 && (aqF d1 dc ds xn ec es fc fs).2 != 0) = sb) (w : World) (he : EnvD w) :
  Calls Tryz.prog 4 #[.agg #[.bool n1, .int .u64 v1, .int .i64 s1], .agg #[.bool n2, .int .u64 v2, .int .i64 s2], .agg #[.bool n3, .int .u64 v3, .int .i64 s3], .int .i64 m] w (PV w (.bool true)) := by
 have cb : ∀ k : Nat, ((k : Int) != 0) = (k != 0) := by
  intro k
  by_cases h : k = 0
  ·subst h; rfl
  ·rw [bne_iff_ne.2 h, bne_iff_ne.2 (by omega : (k : Int) ≠ 0)]
 have hb5 : (v3 == 0) = false := beq_eq_false_iff_ne.2 (by omega)
 have HFS := hid (fun w1 he1 => FixAddQuoBig_any n1 n2 n3 d1 d2 d3 xn dc ec fc ds es fs m hdc hec hfc hf0 hds hes hfs (by rw [cb]; exact hd1) (by rw [cb]; exact hd2) (by rw [cb]; exact hd3) hx w1 he1)
 have HN1 := hid (fun w1 => FixNum_any (w := w1) n1 d1 dc ds hdc hds hd1)
 have HN2 := hid (fun w1 => FixNum_any (w := w1) n2 d2 ec es hec hes hd2)
 have HN3 := hid (fun w1 => FixNum_any (w := w1) n3 d3 fc fs hfc hfs hd3)
 have up : ∀ {k : Nat}, k < 10 ^ 19 → k < 10 ^ 100 := fun h => Nat.lt_of_lt_of_le h (Nat.pow_le_pow_right (by omega) (by omega))
 have hp : ∀ {k : Nat}, k ≤ 38 → (10 : Nat) ^ k < 10 ^ 100 := fun h => Nat.pow_lt_pow_right (by omega) (by omega)
 have p20 : ∀ {k : Nat}, k ≤ 19 → (10 : Nat) ^ k < 10 ^ 20 := fun h => Nat.pow_lt_pow_right (by omega) (by omega)
 have up2 : ∀ {k i : Nat}, i ≤ 100 → k < 10 ^ i → k < 10 ^ 100 := fun hi h => Nat.lt_of_lt_of_le h (Nat.pow_le_pow_right (by omega) hi)
 have hyb0 : (10 : Nat) ^ es * fc < 10 ^ (20 + 19) := mul100 (p20 hes) hfc
 have hyb : (10 : Nat) ^ es * fc < 10 ^ 100 := up2 (by omega) hyb0
 have hpb0 : ec * 10 ^ fs < 10 ^ (19 + 20) := mul100 hec (p20 hfs)
 have hpb : ec * 10 ^ fs < 10 ^ 100 := up2 (by omega) hpb0
 have hxx : 10 ^ ds * (10 ^ es * fc) < 10 ^ 100 := up2 (by omega) (mul100 (p20 hds) hyb0)
 have hx0 : 0 < 10 ^ ds * (10 ^ es * fc) := Nat.mul_pos (pow10_pos _) (Nat.mul_pos (pow10_pos _) hf0)
 have hnn : (aqF d1 dc ds xn ec es fc fs).2 < 10 ^ 100 := by
  have a1 := sumS_le d1 (dc * (10 ^ es * fc)) xn (ec * 10 ^ fs * 10 ^ ds)
  have a2 : dc * (10 ^ es * fc) < 10 ^ 60 := Nat.lt_of_lt_of_le (mul100 hdc hyb0) (Nat.pow_le_pow_right (by omega) (by omega))
  have a3 : ec * 10 ^ fs * 10 ^ ds < 10 ^ 60 := Nat.lt_of_lt_of_le (mul100 hpb0 (p20 hds)) (Nat.pow_le_pow_right (by omega) (by omega))
  have a4 : (10 : Nat) ^ 60 + 10 ^ 60 < 10 ^ 100 := by decide
  exact Nat.lt_of_le_of_lt a1 (Nat.lt_trans (Nat.add_lt_add a2 a3) a4)
 obtain ⟨aq1, aq2, aq3⟩ := aq_law d1 xn (dc := dc) (ec := ec) (fs := fs) hf0 hfc hds hes
 have hsg : sb = (aqD d1 dc ds xn ec es fc fs).1 ∨ (aqD d1 dc ds xn ec es fc fs).2 = 0 := by
  by_cases hz : (aqD d1 dc ds xn ec es fc fs).2 = 0
  ·exact .inr hz
  ·have e1 := aq2.resolve_right hz
   rw [← hsb, e1]
   have h2 : (aqF d1 dc ds xn ec es fc fs).2 ≠ 0 := fun e => hz (aq3 e)
   rw [bne_iff_ne.2 h2, Bool.and_true]
   exact .inl rfl
 have HIN := hid (fun (w1 : World) (A X : Option Addr) (n c k l : Nat) (h2 : SN w1 X k l (10 ^ fs)) => FracInv_sn (A := A) (n := n) (c := c) d3 d3 h2 (by rw [bne_iff_ne.2 (Nat.ne_of_gt (pow10_pos fs)), Bool.and_true]))
 have HML := hid (fun (w1 : World) (A B X Y : Option Addr) (n c k l p q i j : Nat) (h1 : SN w1 A n c ec) (h2 : SN w1 X k l (10 ^ es)) (h3 : SN w1 B p q (10 ^ fs)) (h4 : SN w1 Y i j fc) =>
  FracMul_any d2 d3 s2x h1 h2 h3 h4 (up hec) (hp (by omega)) (hp (by omega)) (up hfc) (by rw [← hs2x, ← hx]; rfl))
 have hq1 : (d1 && dc != 0) = d1 := by rw [← hd1]; cases n1 <;> simp
 have fp1 := aq_sign d1 xn dc ds ec es fc fs hq1 hf0
 rw [hs2x] at fp1
 have HSU := hid (fun (w1 : World) (A B X Y : Option Addr) (n c k l p q i j : Nat) (h1 : SN w1 A n c dc) (h2 : SN w1 X k l (10 ^ ds)) (h3 : SN w1 B p q (ec * 10 ^ fs)) (h4 : SN w1 Y i j (10 ^ es * fc)) =>
  FracAdd_any d1 s2x sb h1 h2 h3 h4 (up hdc) hpb (hp (by omega)) hyb (by rw [fp1]; exact hsb))
 rw [fp1] at HSU
 obtain ⟨b0, c0, s0, f0, hfo⟩ := mulOut_op (aqD d1 dc ds xn ec es fc fs).1 (aqD d1 dc ds xn ec es fc fs).2 41 m
 rw [hfo] at HFS
 have HGE := hid (fun (w1 : World) (A X : Option Addr) (n c k l : Nat) (h1 : SN w1 A n c (aqF d1 dc ds xn ec es fc fs).2) (h2 : SN w1 X k l (10 ^ ds * (10 ^ es * fc))) =>
  gvBig_gen sb _ _ _ m b0 c0 s0 f0 h1 h2 hnn hxx hx0 aq1 hsg hfo)
 have HLV := hid (fun w1 he1 => gvLives_any2 w1 he1)
 have HE := hid he
 rw [hv1, hs1, hv2, hs2, hv3, hs3] at HFS
 rw [hv1, hs1] at HN1
 rw [hv2, hs2] at HN2
 rw [hv3, hs3] at HN3
 clear aq1 aq2 aq3 hsg hnn hxx hx0
 generalize 10 ^ ds * (10 ^ es * fc) = XX at *
 generalize (aqF d1 dc ds xn ec es fc fs).2 = NN at *
 generalize 10 ^ es * fc = TM at *
 generalize ec * 10 ^ fs = PM at *
 generalize 10 ^ ds = T1 at *
 generalize 10 ^ es = T2 at *
 generalize 10 ^ fs = T3 at *
 clear hdc hec hfc hf0 hds hes hfs hd1 hd2 hd3 hx hs2x hv1 hs1 hv2 hs2 hv3 hs3 hsb he hq1 fp1 hp p20 up2 hyb hyb0 hpb hpb0 hfo up cb
 obtain ⟨HC0, HD, hB0, hB1, hB2⟩ := box3 w #[.bool n1, .int .u64 v1, .int .i64 s1] 24 #[.bool n2, .int .u64 v2, .int .i64 s2] 24 #[.bool n3, .int .u64 v3, .int .i64 s3] 24
 have HSS := hid (fun (w1 : World) h => And.intro ((cell3 (kept_heap (w' := w1) h hB0)).1) (And.intro ((cell3 (kept_heap (w' := w1) h hB0)).2.1) (And.intro ((cell3 (kept_heap (w' := w1) h hB0)).2.2.1) (And.intro ((cell3 (kept_heap (w' := w1) h hB1)).1) (And.intro ((cell3 (kept_heap (w' := w1) h hB1)).2.1) (And.intro ((cell3 (kept_heap (w' := w1) h hB1)).2.2.1) (And.intro ((cell3 (kept_heap (w' := w1) h hB2)).1) (And.intro ((cell3 (kept_heap (w' := w1) h hB2)).2.1) ((cell3 (kept_heap (w' := w1) h hB2)).2.2.1)))))))))
 have HSL := hid (alloc_last (W := (((w.alloc (.cells #[.bool n1, .int .u64 v1, .int .i64 s1] 24)).alloc (.cells #[.bool n2, .int .u64 v2, .int .i64 s2] 24)).alloc (.cells #[.bool n3, .int .u64 v3, .int .i64 s3] 24))) (x := (.cells #[.bool n1, .int .u64 v1, .int .i64 s1, .bool n2, .int .u64 v2, .int .i64 s2, .bool n3, .int .u64 v3, .int .i64 s3] 24)) (k := w.heap.size + 1 + 1 + 1) (by simp))
 have HFA := hid (FixAll_three n1 n2 n3 v1 s1 v2 s2 v3 s3 HSL.out)
 rw [hok] at HFA
 clear hok hB0 hB1 hB2 HD
 have hk := (Chg.refl (fun _ => False) (((w.alloc (.cells #[.bool n1, .int .u64 v1, .int .i64 s1] 24)).alloc (.cells #[.bool n2, .int .u64 v2, .int .i64 s2] 24)).alloc (.cells #[.bool n3, .int .u64 v3, .int .i64 s3] 24))).alloc (.cells #[.bool n1, .int .u64 v1, .int .i64 s1, .bool n2, .int .u64 v2, .int .i64 s2, .bool n3, .int .u64 v3, .int .i64 s3] 24)
 obtain ⟨d00_, d01_, d02_, d10_, d11_, d12_, d20_, d21_, d22_⟩ := HSS.out _ (Chg.refl _ _)
 go_enter Tryz.func4, Tryz.ntmps4
 go_wp2_with (go_at_call 12; refine HFA.out.mono ?_; intro e w1 h; obtain ⟨he, hc⟩ := h; subst he; replace hk := hk.trans hc sb_; clear hc; clear d00_ d01_ d02_ d10_ d11_ d12_ d20_ d21_ d22_; obtain ⟨d00_, d01_, d02_, d10_, d11_, d12_, d20_, d21_, d22_⟩ := HSS.out _ hk)
 go_at_call 18
 refine (HFS.out _ (HE.out.kept (HC0.out.trans hk sb_))).mono ?_
 intro e w2 h
 obtain ⟨he, hc⟩ := h
 subst he
 replace hk := (hk.trans hc sb_).alloc (.cells #[.bool b0, .int .u64 c0, .int .i64 s0] 24)
 obtain ⟨g, hg⟩ : ∃ g, w2.heap.size = g := ⟨_, rfl⟩
 have hG := heap_alloc_new w2 (.cells #[.bool b0, .int .u64 c0, .int .i64 s0] 24)
 rw [hg] at hG
 have HG := hid hG
 clear hc hG
 clear d00_ d01_ d02_ d10_ d11_ d12_ d20_ d21_ d22_
 obtain ⟨d00_, d01_, d02_, d10_, d11_, d12_, d20_, d21_, d22_⟩ := HSS.out _ hk
 obtain ⟨j0, j1, j2, _, _, _⟩ := cell3 HG.out
 go_wp2_with fail
 have hw6 := (Chg.refl (fun _ => False) (w2.alloc (.cells #[.bool b0, .int .u64 c0, .int .i64 s0] 24))).drew
 have hk := hk.drew
 have HS6 := hid (fun (w3 : World) h1 (h2 : Chg (fun _ => False) (w2.alloc (.cells #[.bool b0, .int .u64 c0, .int .i64 s0] 24)) w3) => And.intro ((HSS.out w3 h1).1) (And.intro ((HSS.out w3 h1).2.1) (And.intro ((HSS.out w3 h1).2.2.1) (And.intro ((HSS.out w3 h1).2.2.2.1) (And.intro ((HSS.out w3 h1).2.2.2.2.1) (And.intro ((HSS.out w3 h1).2.2.2.2.2.1) (And.intro ((HSS.out w3 h1).2.2.2.2.2.2.1) (And.intro ((HSS.out w3 h1).2.2.2.2.2.2.2.1) (And.intro ((HSS.out w3 h1).2.2.2.2.2.2.2.2) (And.intro ((cell3 (kept_heap h2 HG.out)).1) (And.intro ((cell3 (kept_heap h2 HG.out)).2.1) ((cell3 (kept_heap h2 HG.out)).2.2.1))))))))))))
 first | (go_region_held3 (fun w' => w'.cell? ⟨w.heap.size, 0, none⟩ = some (.bool n1) ∧ w'.cell? ⟨w.heap.size, 1, none⟩ = some (.int .u64 v1) ∧ w'.cell? ⟨w.heap.size, 2, none⟩ = some (.int .i64 s1) ∧ w'.cell? ⟨w.heap.size + 1, 0, none⟩ = some (.bool n2) ∧ w'.cell? ⟨w.heap.size + 1, 1, none⟩ = some (.int .u64 v2) ∧ w'.cell? ⟨w.heap.size + 1, 2, none⟩ = some (.int .i64 s2) ∧ w'.cell? ⟨w.heap.size + 1 + 1, 0, none⟩ = some (.bool n3) ∧ w'.cell? ⟨w.heap.size + 1 + 1, 1, none⟩ = some (.int .u64 v3) ∧ w'.cell? ⟨w.heap.size + 1 + 1, 2, none⟩ = some (.int .i64 s3) ∧ w'.cell? ⟨g, 0, none⟩ = some (.bool b0) ∧ w'.cell? ⟨g, 1, none⟩ = some (.int .u64 c0) ∧ w'.cell? ⟨g, 2, none⟩ = some (.int .i64 s0)) (first | with_reducible exact HS6.out _ hk hw6) (first | (go_at_call_of 15 (Value.agg #[Value.bool n1, Value.int .u64 v1, Value.int .i64 s1]); refine (HN1.out _).mono ?_; intro e w3 h; obtain ⟨A1, A1_, A2_, A2, A3_, A4_, he, hq1, hq2, hc⟩ := h; subst he; replace hk := hk.trans hc sb_; replace hw6 := hw6.trans hc sb_; (try replace HA1 := hid (HA1.out.kept hc)); (try replace HA2 := hid (HA2.out.kept hc)); (try replace HB1 := hid (HB1.out.kept hc)); (try replace HB2 := hid (HB2.out.kept hc)); (try replace HE1 := hid (HE1.out.kept hc)); (try replace HE2 := hid (HE2.out.kept hc)); (try replace HM1 := hid (HM1.out.kept hc)); (try replace HM2 := hid (HM2.out.kept hc)); (try replace HC1 := hid (HC1.out.kept hc)); (try replace HC2 := hid (HC2.out.kept hc)); have HA1 := hid hq1; have HA2 := hid hq2; clear hq1 hq2; clear hc) | (go_at_call_of 15 (Value.agg #[Value.bool n2, Value.int .u64 v2, Value.int .i64 s2]); refine (HN2.out _).mono ?_; intro e w3 h; obtain ⟨B1, B1_, B2_, B2, B3_, B4_, he, hq1, hq2, hc⟩ := h; subst he; replace hk := hk.trans hc sb_; replace hw6 := hw6.trans hc sb_; (try replace HA1 := hid (HA1.out.kept hc)); (try replace HA2 := hid (HA2.out.kept hc)); (try replace HB1 := hid (HB1.out.kept hc)); (try replace HB2 := hid (HB2.out.kept hc)); (try replace HE1 := hid (HE1.out.kept hc)); (try replace HE2 := hid (HE2.out.kept hc)); (try replace HM1 := hid (HM1.out.kept hc)); (try replace HM2 := hid (HM2.out.kept hc)); (try replace HC1 := hid (HC1.out.kept hc)); (try replace HC2 := hid (HC2.out.kept hc)); have HB1 := hid hq1; have HB2 := hid hq2; clear hq1 hq2; clear hc) | (go_at_call_of 15 (Value.agg #[Value.bool n3, Value.int .u64 v3, Value.int .i64 s3]); refine (HN3.out _).mono ?_; intro e w3 h; obtain ⟨E1, E1_, E2_, E2, E3_, E4_, he, hq1, hq2, hc⟩ := h; subst he; replace hk := hk.trans hc sb_; replace hw6 := hw6.trans hc sb_; (try replace HA1 := hid (HA1.out.kept hc)); (try replace HA2 := hid (HA2.out.kept hc)); (try replace HB1 := hid (HB1.out.kept hc)); (try replace HB2 := hid (HB2.out.kept hc)); (try replace HE1 := hid (HE1.out.kept hc)); (try replace HE2 := hid (HE2.out.kept hc)); (try replace HM1 := hid (HM1.out.kept hc)); (try replace HM2 := hid (HM2.out.kept hc)); (try replace HC1 := hid (HC1.out.kept hc)); (try replace HC2 := hid (HC2.out.kept hc)); have HE1 := hid hq1; have HE2 := hid hq2; clear hq1 hq2; clear hc) | (go_at_call 22; refine (HIN.out _ _ _ _ _ _ _ HE2.out).mono ?_; intro e w3 h; obtain ⟨he, hc⟩ := h; subst he; replace hk := hk.trans hc sb_; replace hw6 := hw6.trans hc sb_; (try replace HA1 := hid (HA1.out.kept hc)); (try replace HA2 := hid (HA2.out.kept hc)); (try replace HB1 := hid (HB1.out.kept hc)); (try replace HB2 := hid (HB2.out.kept hc)); (try replace HE1 := hid (HE1.out.kept hc)); (try replace HE2 := hid (HE2.out.kept hc)); (try replace HM1 := hid (HM1.out.kept hc)); (try replace HM2 := hid (HM2.out.kept hc)); (try replace HC1 := hid (HC1.out.kept hc)); (try replace HC2 := hid (HC2.out.kept hc)); skip; clear hc) | (go_at_call 21; refine (HML.out _ _ _ _ _ _ _ _ _ _ _ _ _ HB1.out HB2.out HE2.out HE1.out).mono ?_; intro e w3 h; obtain ⟨M1, m1_, m2_, M2, m3_, m4_, he, hq1, hq2, hc⟩ := h; subst he; replace hk := hk.trans hc sb_; replace hw6 := hw6.trans hc sb_; (try replace HA1 := hid (HA1.out.kept hc)); (try replace HA2 := hid (HA2.out.kept hc)); (try replace HB1 := hid (HB1.out.kept hc)); (try replace HB2 := hid (HB2.out.kept hc)); (try replace HE1 := hid (HE1.out.kept hc)); (try replace HE2 := hid (HE2.out.kept hc)); (try replace HM1 := hid (HM1.out.kept hc)); (try replace HM2 := hid (HM2.out.kept hc)); (try replace HC1 := hid (HC1.out.kept hc)); (try replace HC2 := hid (HC2.out.kept hc)); have HM1 := hid hq1; have HM2 := hid hq2; clear hq1 hq2; clear hc) | (go_at_call 20; refine (HSU.out _ _ _ _ _ _ _ _ _ _ _ _ _ HA1.out HA2.out HM1.out HM2.out).mono ?_; intro e w3 h; obtain ⟨C1, c1_, c2_, C2, c3_, c4_, he, hq1, hq2, hc⟩ := h; subst he; replace hk := hk.trans hc sb_; replace hw6 := hw6.trans hc sb_; (try replace HA1 := hid (HA1.out.kept hc)); (try replace HA2 := hid (HA2.out.kept hc)); (try replace HB1 := hid (HB1.out.kept hc)); (try replace HB2 := hid (HB2.out.kept hc)); (try replace HE1 := hid (HE1.out.kept hc)); (try replace HE2 := hid (HE2.out.kept hc)); (try replace HM1 := hid (HM1.out.kept hc)); (try replace HM2 := hid (HM2.out.kept hc)); (try replace HC1 := hid (HC1.out.kept hc)); (try replace HC2 := hid (HC2.out.kept hc)); have HC1 := hid hq1; have HC2 := hid hq2; clear hq1 hq2; clear hc) | (go_at_call 19; refine (HGE.out _ _ _ _ _ _ _ HC1.out HC2.out).mono ?_; intro e w3 h; obtain ⟨he, hc⟩ := h; subst he; replace hk := hk.trans hc sb_; replace hw6 := hw6.trans hc sb_; (try replace HA1 := hid (HA1.out.kept hc)); (try replace HA2 := hid (HA2.out.kept hc)); (try replace HB1 := hid (HB1.out.kept hc)); (try replace HB2 := hid (HB2.out.kept hc)); (try replace HE1 := hid (HE1.out.kept hc)); (try replace HE2 := hid (HE2.out.kept hc)); (try replace HM1 := hid (HM1.out.kept hc)); (try replace HM2 := hid (HM2.out.kept hc)); (try replace HC1 := hid (HC1.out.kept hc)); (try replace HC2 := hid (HC2.out.kept hc)); skip; clear hc) | (go_at_call 17; refine (HLV.out _ (HE.out.kept (HC0.out.trans hk sb_))).mono ?_; intro e w3 h; obtain ⟨he, hc⟩ := h; subst he; replace hk := hk.trans hc sb_; replace hw6 := hw6.trans hc sb_; (try replace HA1 := hid (HA1.out.kept hc)); (try replace HA2 := hid (HA2.out.kept hc)); (try replace HB1 := hid (HB1.out.kept hc)); (try replace HB2 := hid (HB2.out.kept hc)); (try replace HE1 := hid (HE1.out.kept hc)); (try replace HE2 := hid (HE2.out.kept hc)); (try replace HM1 := hid (HM1.out.kept hc)); (try replace HM2 := hid (HM2.out.kept hc)); (try replace HC1 := hid (HC1.out.kept hc)); (try replace HC2 := hid (HC2.out.kept hc)); skip; clear hc))) | fail
 all_goals (go_wp2_with fail; go_ret; exact ⟨rfl, HC0.out.trans hk sb_⟩)
theorem lawQuoBig_any (n1 n2 n3 : Bool) (v1 s1 v2 s2 v3 s3 m : Int) (h1 : 0 ≤ v1) (h2 : 0 ≤ v2) (h3 : 0 ≤ v3) (w : World) (he : EnvD w) :
  Calls Tryz.prog 4 #[.agg #[.bool n1, .int .u64 v1, .int .i64 s1], .agg #[.bool n2, .int .u64 v2, .int .i64 s2], .agg #[.bool n3, .int .u64 v3, .int .i64 s3], .int .i64 m] w (PV w (.bool true)) := by
 cases hok : (okFix v1 s1 && (okFix v2 s2 && okFix v3 s3)) with
 | false => exact lawQuoBig_out n1 n2 n3 v1 s1 v2 s2 v3 s3 m hok w
 | true =>
  by_cases hz : v3 = 0
  ·exact lawQuoBig_zero n1 n2 n3 v1 s1 v2 s2 v3 s3 m hok (by rw [hz]; rfl) w
  ·have hok' := hok
   rw [Bool.and_eq_true, Bool.and_eq_true] at hok'
   obtain ⟨k1, k2, k3⟩ := hok'
   obtain ⟨dc, ds, rfl, rfl, a1, a2⟩ := okFix_nat h1 k1
   obtain ⟨ec, es, rfl, rfl, b1, b2⟩ := okFix_nat h2 k2
   obtain ⟨fc, fs, rfl, rfl, c1, c2⟩ := okFix_nat h3 k3
   exact lawQuoBig_in n1 n2 n3 _ _ _ _ _ _ dc ec fc ds es fs m a1 b1 c1 (by omega) a2 b2 c2 rfl rfl rfl rfl rfl _ _ _ _ _ _ rfl rfl rfl rfl rfl rfl hok rfl w he
end Go.Proofs.YtldhfhloinlfaaaGreatDoor
namespace Go.Proofs.YtldhfhloinlfaaaGreatDoor
open Go Go.ChangeShapes Go.WideShapes Go.ChangeAt Go.WideMaps Go.WideElems Go.RowKit
set_option maxRecDepth 100000 in
theorem liftede (os : Os) (started : os.Started) (H : Type) (enc : TypeId × Value → H) :
  ReturnsInHanded {} Tryz.checked os 4 .any (fun w args => (Rows.fnFixAddQuoBigSpec.pre enc Tryz.prog Tryz.f4 [] false w args ∧ laidMetH Tryz.prog Rows.fnFixAddQuoBigRow.laid w) ∧ sizedMet enc Tryz.prog Tryz.f4 (OpenSpec.ofChange Rows.fnFixAddQuoBigSpec) false w args)
   (Rows.fnFixAddQuoBigSpec.post enc Tryz.prog Tryz.f4 false true false false) := by
 refine handed_shaped (C := Tryz.checked) (X := fun w _ => laidMetH Tryz.prog Rows.fnFixAddQuoBigRow.laid w) (fun _ _ _ hh h => h.of_heap hh) own0 started kr_ Tryz.func4
  (ChangeSpec.witness_shaped (enc := enc) (C := Tryz.checked) (os := os) (X := fun w _ => laidMetH Tryz.prog Rows.fnFixAddQuoBigRow.laid w) false (World.doorLaid Tryz.prog 400 os) #[.agg #[.bool false, .int .u64 0, .int .i64 0], .agg #[.bool false, .int .u64 0, .int .i64 0], .agg #[.bool false, .int .u64 0, .int .i64 0], .int .i64 0] 8 rfl (wit_shapede os) (wit_oke os) (wit_pree os H enc) (wit_sizee os H enc) (door_met os _)) ?_
 intro W base args ds gs before hsh hval0 hW _ hL
 have hval : ∀ (j : Nat) t v, Tryz.f4.params[j]? = some t → args[j]? = some v → Value.okWide Tryz.prog W .any base t v := hval0
 have hW' := hW
 obtain ⟨p, q, hA0, hV, rfl, hfz, hnd⟩ := hW
 have hA : DataW.TrodAll enc Tryz.prog W 0 (fun _ => true) true Tryz.f4.params.toList args.toList ds p := hA0
 rw [Tryz.params4] at hA hval
 obtain ⟨v0, vs0, d0, ds0, p0, q0, hargs, rfl, rfl, h0, r0⟩ := trodAll_cons hA
 obtain ⟨v1, vs1, d1, ds1, p1, q1, rfl, rfl, rfl, h1, r1⟩ := trodAll_cons r0
 obtain ⟨v2, vs2, d2, ds2, p2, q2, rfl, rfl, rfl, h2, r2⟩ := trodAll_cons r1
 obtain ⟨v3, vs3, d3, ds3, p3, q3, rfl, rfl, rfl, h3, r3⟩ := trodAll_cons r2
 obtain ⟨rfl, rfl, rfl⟩ := trodAll_nil r3
 obtain rfl : args = #[v0, v1, v2, v3] := by cases args; simp_all
 have k0 := h0
 have k1 := h1
 have k2 := h2
 have k3 := h3
 obtain ⟨n1, c1, s1, rfl, w1, rfl⟩ := open_fix (hval 0 24 v0 rfl rfl) h0
 obtain ⟨n2, c2, s2, rfl, w2, rfl⟩ := open_fix (hval 1 24 v1 rfl rfl) h1
 obtain ⟨n3, c3, s3, rfl, w3, rfl⟩ := open_fix (hval 2 24 v2 rfl rfl) h2
 obtain ⟨m, rfl, rfl, rfl, _⟩ := open_int Tryz.underlying3 (hval 3 3 v3 rfl rfl) h3
 have hlen : gs.length = 8 := trodVars_length hV
 match gs, hlen, hV, hW' with
 | [g1, g2, g3, g4, g5, g6, g7, g8], _, hV, hW' =>
  refine (lawQuoBig_any n1 n2 n3 c1 s1 c2 s2 c3 s3 m w1 w2 w3 W (of_laid hsh hL)).mono fun e W' hE => ?_
  obtain ⟨he, hc⟩ := hE
  subst he
  have hB := hc.below
  refine ⟨_, rfl, _, _, _, [], [], q, hW', ?_, ?_, ?_, hB.frame _, fun h => by cases h⟩
  ·exact trodAll_mk1 (shut_bool Tryz.underlying4 _)
  ·exact trodAll_mk4 (Below.trod laidOk kr_ (of_decide_eq_true kr_) k0 hB (fun x hx => by cases hx)) (Below.trod laidOk kr_ (of_decide_eq_true kr_) k1 hB (fun x hx => by cases hx)) (Below.trod laidOk kr_ (of_decide_eq_true kr_) k2 hB (fun x hx => by cases hx)) (Below.trod laidOk kr_ (of_decide_eq_true kr_) k3 hB (fun x hx => by cases hx))
  ·exact vars_iface hB gScl tScl Tryz.underlying57 (fun _ _ h => vars_iface hB gOvf tOvf Tryz.underlying57 (fun _ _ h => Below.trodVars laidOk hB kr_ h) h) hV
theorem fnFixAddQuoBig_holds : Rows.FnFixAddQuoBigSaid :=
 OpenClaim.holds_of_wide 4 Tryz.f4 rfl rfl rfl rfl rfl rfl rfl ⟨rfl, rfl, rfl, rfl, rfl⟩ rfl rfl rfl rfl rfl row_funce Tryz.func4 row_closede
  (of_decide_eq_true kr_) (by unfold Func.isWrapper; first | (rw [if_pos (by decide +kernel)]; kernel_rfl) | (rw [if_neg (by decide +kernel)]; exact ⟨rfl, rfl⟩))
  (fun os started H enc _ => liftede os started H enc)
theorem fnFixAddQuoBig_card : Rows.FnFixAddQuoBigCardSaid :=
 Claim7.holds_tied_plain_at .later [] [.data, .data, .data, .data, .data, .data, .data, .sentinel, .sentinel, .data] true Rows.fnFixAddQuoBigCard.stood.harness false
  fnFixAddQuoBig_holds (fun _ h => by cases h) row_wfe (fun _ h => by cases h) fnFixAddQuoBig_row_tie rfl ⟨rfl, rfl⟩ kr_ rfl
  (fun f fn hf hfn => by
   obtain rfl : f = 4 := Option.some.inj (row_funce.symm.trans hf) |>.symm
   obtain rfl : fn = Tryz.f4 := (Option.some.inj (Tryz.func4.symm.trans hfn)).symm
   exact ⟨row_lookse, fun j t ht => by
    rw [Tryz.params4] at ht
    have hm : t ∈ [24, 24, 24, 3] := by simpa using Array.mem_of_getElem? ht
    exact (show Tryz.prog.wantsStandIn t = false by simpa using List.all_eq_true.1 row_stande t hm)⟩)
  row_goese
end Go.Proofs.YtldhfhloinlfaaaGreatDoor
