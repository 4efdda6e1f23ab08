/- For every two decimals and every number of places, the law FnFixQuoExact answers true, and its arguments read as they did. No condition beyond the row's own: the package's variables hold what the program's text lays (tied). -/
import Derived.Test.YtldhfhloinlfaaaGreatDoorProg
import Derived.Below
import Derived.Deep.Draws
import Derived.Deep.AppendLies
import Derived.Maps.AppendAt
import Derived.OwnWalk
import Derived.Laws.BytesArg
import Derived.Laws.MakeOwn
import Derived.Laws.OwnMore
import Derived.Deep.OwnRows
import Derived.Tactics
import Derived.Lib.ConvBytes
import Derived.Laws.Slices
import Derived.WalkKit
import Derived.KernelRfl
import Derived.RowKit3
import Derived.Deep.LoopGhost
import Derived.Deep.QuietTactic
import Derived.BigQuiet
import Derived.WideLaws
import Derived.Deep.DeepCutAuto
import Derived.Deep.CutBlock
import Derived.Deep.RegionHeld3
import Derived.Laws.Rows
import Derived.Lib.AppendStr
import Derived.ArgAppend
import Derived.Laws.IdiomCopy
import Derived.OrdersHeld
import Derived.Laws.BitsLemmas
import Derived.RowKit
import Derived.Laws.StructEq
import Derived.Lib.Mul64
import Derived.LaidEqlPtr
import Derived.RegionTactic
import Derived.BigRegion
import Derived.StillTailTactics
import Derived.Deep.RegionWith
import Derived.Shelf.Small.Bits
import Derived.Shelf.Strconv.Itoa0
import Derived.Shelf.Bits.Mul64
import Derived.Lib.AppendZeros
import Derived.Laws.AppendOwn
import Derived.Deep.CutRange
import Derived.Recover
import Derived.Lib.SmallJoins
import Derived.OpenVars
import Derived.ChangeVars
import Derived.Test.YtldhfhloinlfaaaGreatDoorTie
import Derived.Test.YtldhfhloinlfaaaGreatDoorCards
import Derived.SevenTiedAt
import Derived.Carry
import Derived.Test.YtldhfhloinlfaaaGreatDoorC00
import Derived.Test.YtldhfhloinlfaaaGreatDoorC01
import Derived.Test.YtldhfhloinlfaaaGreatDoorC02
import Derived.Test.YtldhfhloinlfaaaGreatDoorC03
import Derived.Test.YtldhfhloinlfaaaGreatDoorC04
import Derived.Test.YtldhfhloinlfaaaGreatDoorC05
import Derived.Test.YtldhfhloinlfaaaGreatDoorC06
import Derived.Test.YtldhfhloinlfaaaGreatDoorC07
import Derived.Test.YtldhfhloinlfaaaGreatDoorC08
import Derived.Test.YtldhfhloinlfaaaGreatDoorC09
import Derived.Test.YtldhfhloinlfaaaGreatDoorC10
import Derived.Test.YtldhfhloinlfaaaGreatDoorC11
import Derived.Test.YtldhfhloinlfaaaGreatDoorC12
import Derived.Test.YtldhfhloinlfaaaGreatDoorC13
import Derived.Test.YtldhfhloinlfaaaGreatDoorC14
import Derived.Test.YtldhfhloinlfaaaGreatDoorC15
import Derived.Test.YtldhfhloinlfaaaGreatDoorC16
import Derived.Test.YtldhfhloinlfaaaGreatDoorC17
import Derived.Test.YtldhfhloinlfaaaGreatDoorC18
import Derived.Test.YtldhfhloinlfaaaGreatDoorC19
import Derived.Test.YtldhfhloinlfaaaGreatDoorC20
import Derived.Test.YtldhfhloinlfaaaGreatDoorC21
import Derived.Test.YtldhfhloinlfaaaGreatDoorC22
import Derived.Test.YtldhfhloinlfaaaGreatDoorC23
import Derived.Test.YtldhfhloinlfaaaGreatDoorC24
import Derived.Test.YtldhfhloinlfaaaGreatDoorC28
import Derived.Test.YtldhfhloinlfaaaGreatDoorC30
import Derived.Test.YtldhfhloinlfaaaGreatDoorC43
import Derived.Test.YtldhfhloinlfaaaGreatDoorD00
import Derived.Test.YtldhfhloinlfaaaGreatDoorD03
import Derived.Test.YtldhfhloinlfaaaGreatDoorD07
import Derived.Test.YtldhfhloinlfaaaGreatDoorD11
import Derived.Test.YtldhfhloinlfaaaGreatDoorD12
import Derived.Test.YtldhfhloinlfaaaGreatDoorD14
import Derived.Test.YtldhfhloinlfaaaGreatDoorD15
namespace Go.Proofs.YtldhfhloinlfaaaGreatDoor
open Go.RowKit
set_option linter.unusedVariables false
set_option linter.unusedSimpArgs false
set_option maxRecDepth 20000
theorem quoEx_idle (p q : Addr) (w : World) : CallsD Tryz.prog 52 #[.pointer (some p), .pointer (some q)] .returning w fun e u' w' => e = .returned (.tuple #[]) ∧ u' = .returning ∧ w' = w := by
 refine callsD_of_wpS Tryz.func52 rfl fun c₀ cs hu => ?_
 apply wpS_seq
 apply wpS_region
 simp [wpOpsS, go_sem, recoverD, hu, Tryz.ntmps52, Exit.thenS]
 refine wpS_cond (t := false) (by simp [Act.eval, Array.replicate]) ?_
 simp only [Bool.false_eq_true, if_false]
 refine wpS_of_wp (wp_skip ?_)
 cases c₀
 simp_all [bodyPostS, results, Tryz.results52]
set_option maxHeartbeats 8000000 in
theorem quoEx_gen (n1 n2 d1 d2 : Bool) (dc ec ds es : Nat) (m : Int) (hdc : dc < 10 ^ 19) (hec : ec < 10 ^ 19) (hds : ds ≤ 19) (hes : es ≤ 19) (hd1 : (n1 && (dc : Int) != 0) = d1) (hd2 : (n2 && (ec : Int) != 0) = d2) (P : Bool → Option (Nat × Nat) → Prop) (hP : ∀ sg k t, P sg (some (k, t)) → t ≤ 19) (w : World) (he : EnvI w)
  (HS : ∀ w1, EnvI w1 → Calls Tryz.prog 53 #[.agg #[.bool d1, .int .i8 ds, .int .u64 (dc : Int)], .agg #[.bool d2, .int .i8 es, .int .u64 (ec : Int)], .int .i64 m] w1 (PX P w1)) :
  Calls Tryz.prog 25 #[.agg #[.bool n1, .int .u64 (dc : Int), .int .i64 (ds : Int)], .agg #[.bool n2, .int .u64 (ec : Int), .int .i64 (es : Int)], .int .i64 m] w (PO P w) := by
 have HF1 := hid (fun w => fixed_any n1 d1 (dc : Int) ds (fiN hdc) hds hd1 w)
 have HF2 := hid (fun w => fixed_any n2 d2 (ec : Int) es (fiN hec) hes hd2 w)
 have HE := hid he
 obtain ⟨DC, hDC⟩ : ∃ v : Int, (dc : Int) = v := ⟨_, rfl⟩
 obtain ⟨EC, hEC⟩ : ∃ v : Int, (ec : Int) = v := ⟨_, rfl⟩
 rw [hDC] at HF1
 rw [hEC] at HF2
 rw [hDC, hEC]
 rw [hDC, hEC] at HS
 have HSX := hid HS
 have HPB := hid hP
 clear HS hP hdc hec hds hes hd1 hd2 he hDC hEC
 obtain ⟨HC0, HD, hB0, hB1, hB2, hB3⟩ := box4 w #[.bool n1, .int .u64 DC, .int .i64 ds] 24 #[.bool n2, .int .u64 EC, .int .i64 es] 24 #[.bool false, .int .u64 0, .int .i64 0] 24 #[.int .i64 0] 3
 have HB1 := hid hB1
 have HB2 := hid hB2
 have HB3 := hid hB3
 have hk := Chg.refl (fun _ => False) ((((w.alloc (.cells #[.bool n1, .int .u64 DC, .int .i64 ds] 24)).alloc (.cells #[.bool n2, .int .u64 EC, .int .i64 es] 24)).alloc (.cells #[.bool false, .int .u64 0, .int .i64 0] 24)).alloc (.cells #[.int .i64 0] 3))
 obtain ⟨b0_, b1_, b2_, _, _, _⟩ := cell3 hB0
 clear hB0 hB1 hB2 hB3 HD
 have hmf : ∀ (fn : Fn) (first cap : Array Value) (w : World), (Instr.makeFunc fn first cap).run Tryz.prog w = .ok (.func fn first cap) w := fun _ _ _ _ => rfl
 go_enter_defers Tryz.func25, Tryz.ntmps25
 go_wp2_with (first | (go_at_call_of 38 (Value.agg #[Value.bool n1, Value.int .u64 DC, Value.int .i64 (ds : Int)]); refine (HF1.out _).mono ?_; intro e w1 h; obtain ⟨he, hc⟩ := h; subst he; replace hk := (hk.trans hc sb_).alloc (.cells #[.bool d1, .int .i8 ds, .int .u64 DC] 53); have HG1 := hid (heap_alloc_new w1 (.cells #[.bool d1, .int .i8 ds, .int .u64 DC] 53)); clear hc b0_ b1_ b2_; obtain ⟨e0, e1, e2, _, _, _⟩ := cell3 (kept_heap hk HB1.out)) | (go_at_call_of 38 (Value.agg #[Value.bool n2, Value.int .u64 EC, Value.int .i64 (es : Int)]); refine (HF2.out _).mono ?_; intro e w2 h; obtain ⟨he, hc⟩ := h; subst he; replace hk := (hk.trans hc sb_).alloc (.cells #[.bool d2, .int .i8 es, .int .u64 EC] 53); replace HG1 := hid (kept_heap (hc.alloc (.cells #[.bool d2, .int .i8 es, .int .u64 EC] 53)) HG1.out); have HG2 := hid (heap_alloc_new w2 (.cells #[.bool d2, .int .i8 es, .int .u64 EC] 53)); clear hc e0 e1 e2; obtain ⟨g0, g1, g2, _, _, _⟩ := cell3 HG1.out; obtain ⟨j0, j1, j2, _, _, _⟩ := cell3 HG2.out))
 go_at_call 53
 refine (HSX.out _ (HE.out.kept (HC0.out.trans hk sb_))).mono ?_
 intro e w4 h
 obtain ⟨sg, o, hp, hc, ho⟩ := h
 have HPP := hid hp
 clear hp
 cases o with
 | none =>
  obtain ⟨t3, v3, he⟩ := ho
  have he2 : e = .returned (.tuple #[.agg #[.bool false, .int .i8 0, .int .u64 0], .iface t3 v3]) := he
  clear he
  subst he2
  replace hk := (hk.trans hc sb_).alloc (.cells #[.bool false, .int .i8 0, .int .u64 0] 53)
  clear hc g0 g1 g2 j0 j1 j2
  obtain ⟨r0, r1, r2, q0, q1, q2⟩ := cell3 (kept_heap hk HB2.out)
  obtain ⟨i0, i1⟩ := cell1 (kept_heap hk HB3.out)
  go_wp2_with fail
  refine leaves_cons (f := 52) (args := #[.pointer (some ⟨w.heap.size + 1 + 1, 0, none⟩), .pointer (some ⟨w.heap.size + 1 + 1 + 1, 0, none⟩)]) (by simp) (by simp [go_sem]) ?_
  refine (quoEx_idle _ _ _).mono ?_
  rintro e u' w'' ⟨rfl, rfl, rfl⟩
  exact ⟨.tuple #[.agg #[.bool false, .int .u64 0, .int .i64 0], .int .i64 1], fix_result rfl _ _ (w.heap.size + 1 + 1) (w.heap.size + 1 + 1 + 1) _ _ _ _ _ _ rfl rfl (fix_far (store3 (kept_heap hk HB2.out) _ _ _) (by omega)) (int_set (fix_near (kept_heap hk HB3.out) (by omega))), ⟨sg, none, HPP.out, rfl, fix_chg (HC0.out.trans hk sb_) (by omega) (by omega)⟩⟩
 | some kt =>
  obtain ⟨k, t⟩ := kt
  have ht := HPB.out _ _ _ HPP.out
  have HFX := hid (fun w => fix_any (sg && (k : Int) != 0) (k : Int) t ht w)
  have he2 : e = .returned (.tuple #[.agg #[.bool (sg && (k : Int) != 0), .int .i8 t, .int .u64 (k : Int)], .nilIface]) := ho
  clear ho ht
  obtain ⟨nb, hnb⟩ : ∃ b, (sg && (k : Int) != 0) = b := ⟨_, rfl⟩
  have HNB := hid hnb
  obtain ⟨K, hK⟩ : ∃ v : Int, (k : Int) = v := ⟨_, rfl⟩
  have HK := hid hK
  rw [hnb, hK] at he2 HFX
  subst he2
  clear hnb hK
  replace hk := (hk.trans hc sb_).alloc (.cells #[.bool nb, .int .i8 t, .int .u64 K] 53)
  clear hc g0 g1 g2 j0 j1 j2
  go_wp2_with (go_at_call 40; refine (HFX.out _).mono ?_; intro e w5 h; obtain ⟨he, hc⟩ := h; subst he; replace hk := hk.trans hc sb_; clear hc; obtain ⟨r0, r1, r2, q0, q1, q2⟩ := cell3 (kept_heap hk HB2.out); obtain ⟨i0, i1⟩ := cell1 (kept_heap hk HB3.out))
  refine leaves_cons (f := 52) (args := #[.pointer (some ⟨w.heap.size + 1 + 1, 0, none⟩), .pointer (some ⟨w.heap.size + 1 + 1 + 1, 0, none⟩)]) (by simp) (by simp [go_sem]) ?_
  refine (quoEx_idle _ _ _).mono ?_
  rintro e u' w'' ⟨rfl, rfl, rfl⟩
  exact ⟨.tuple #[.agg #[.bool nb, .int .u64 K, .int .i64 t], .int .i64 0], fix_result rfl _ _ (w.heap.size + 1 + 1) (w.heap.size + 1 + 1 + 1) _ _ _ _ _ _ rfl rfl (fix_far (store3 (kept_heap hk HB2.out) _ _ _) (by omega)) (int_set (fix_near (kept_heap hk HB3.out) (by omega))), ⟨sg, some (k, t), HPP.out, by rw [← HNB.out, ← HK.out]; rfl, fix_chg (HC0.out.trans hk sb_) (by omega) (by omega)⟩⟩
end Go.Proofs.YtldhfhloinlfaaaGreatDoor
namespace Go.Proofs.YtldhfhloinlfaaaGreatDoor
open Go.RowKit
set_option linter.unusedVariables false
theorem FixQuoExact_in (n1 n2 d1 d2 : Bool) (dc ec ds es : Nat) (m : Int) (hdc : dc < 10 ^ 19) (hec : ec < 10 ^ 19) (hds : ds ≤ 19) (hes : es ≤ 19) (hec0 : 0 < ec) (hd1 : (n1 && dc != 0) = d1) (hd2 : (n2 && ec != 0) = d2) (w : World) (he : EnvI w) :
  Calls Tryz.prog 25 #[.agg #[.bool n1, .int .u64 (dc : Int), .int .i64 (ds : Int)], .agg #[.bool n2, .int .u64 (ec : Int), .int .i64 (es : Int)], .int .i64 m] w (PO (GoodAt ((d1 != d2) && dc * 10 ^ es != 0) (dc * 10 ^ es) (10 ^ ds * ec) m) w) :=
 quoEx_gen n1 n2 d1 d2 dc ec ds es m hdc hec hds hes (by rw [nat_bne]; exact hd1) (by rw [nat_bne]; exact hd2) _ (fun _ _ _ h => h.places) w he
  (fun w1 he1 => QuoExact_in d1 d2 dc ec ds es m hdc hec hds hes hec0 w1 he1)
theorem FixQuoExact_zero (n1 n2 : Bool) (dc ec ds es : Nat) (m : Int) (hdc : dc < 10 ^ 19) (hec : ec < 10 ^ 19) (hds : ds ≤ 19) (hes : es ≤ 19) (hec0 : ec = 0) (w : World) (he : EnvI w) :
  Calls Tryz.prog 25 #[.agg #[.bool n1, .int .u64 (dc : Int), .int .i64 (ds : Int)], .agg #[.bool n2, .int .u64 (ec : Int), .int .i64 (es : Int)], .int .i64 m] w (PO (fun _ o => o = none) w) :=
 quoEx_gen n1 n2 _ _ dc ec ds es m hdc hec hds hes rfl rfl _ (fun _ _ _ h => by cases h) w he
  (fun w1 he1 => QuoExact_zero _ _ dc ec ds es m hdc hec hds hes hec0 w1 he1)
end Go.Proofs.YtldhfhloinlfaaaGreatDoor
namespace Go.Proofs.YtldhfhloinlfaaaGreatDoor
open Go.RowKit
set_option linter.unusedVariables false
set_option linter.unusedSimpArgs false
set_option maxRecDepth 20000
set_option maxHeartbeats 2000000 in
theorem lawQuoEx_out (n1 n2 : Bool) (v1 s1 v2 s2 m : Int) (hok : (okFix v1 s1 && okFix v2 s2) = false) (w : World) :
  Calls Tryz.prog 6 #[.agg #[.bool n1, .int .u64 v1, .int .i64 s1], .agg #[.bool n2, .int .u64 v2, .int .i64 s2], .int .i64 m] w (PV w (.bool true)) := by
 obtain ⟨HC0, HD, hB0, hB1⟩ := box2 w #[.bool n1, .int .u64 v1, .int .i64 s1] 24 #[.bool n2, .int .u64 v2, .int .i64 s2] 24
 have HSS := hid (fun (w1 : World) h => And.intro ((cell3 (kept_heap (w' := w1) h hB0)).1) (And.intro ((cell3 (kept_heap (w' := w1) h hB0)).2.1) (And.intro ((cell3 (kept_heap (w' := w1) h hB0)).2.2.1) (And.intro ((cell3 (kept_heap (w' := w1) h hB1)).1) (And.intro ((cell3 (kept_heap (w' := w1) h hB1)).2.1) ((cell3 (kept_heap (w' := w1) h hB1)).2.2.1))))))
 have HSL := hid (alloc_last (W := ((w.alloc (.cells #[.bool n1, .int .u64 v1, .int .i64 s1] 24)).alloc (.cells #[.bool n2, .int .u64 v2, .int .i64 s2] 24))) (x := (.cells #[.bool n1, .int .u64 v1, .int .i64 s1, .bool n2, .int .u64 v2, .int .i64 s2] 24)) (k := w.heap.size + 1 + 1) (by simp))
 have HFA := hid (FixAll_two n1 n2 v1 s1 v2 s2 HSL.out)
 rw [hok] at HFA
 clear hok hB0 hB1 HD
 have hk := (Chg.refl (fun _ => False) ((w.alloc (.cells #[.bool n1, .int .u64 v1, .int .i64 s1] 24)).alloc (.cells #[.bool n2, .int .u64 v2, .int .i64 s2] 24))).alloc (.cells #[.bool n1, .int .u64 v1, .int .i64 s1, .bool n2, .int .u64 v2, .int .i64 s2] 24)
 obtain ⟨d00_, d01_, d02_, d10_, d11_, d12_⟩ := HSS.out _ (Chg.refl _ _)
 go_enter Tryz.func6, Tryz.ntmps6
 go_wp2_with (go_at_call 12; refine HFA.out.mono ?_; intro e w1 h; obtain ⟨he, hc⟩ := h; subst he; replace hk := hk.trans hc sb_; clear hc; skip)
 go_ret
 exact ⟨rfl, HC0.out.trans hk sb_⟩
set_option maxHeartbeats 4000000 in
theorem lawQuoEx_zero (n1 n2 : Bool) (v1 s1 v2 s2 m : Int) (hok : (okFix v1 s1 && okFix v2 s2) = true) (hb5 : (v2 == 0) = true) (w : World) (he : EnvI w)
  (HS : ∀ w1, EnvI w1 → Calls Tryz.prog 25 #[.agg #[.bool n1, .int .u64 v1, .int .i64 s1], .agg #[.bool n2, .int .u64 v2, .int .i64 s2], .int .i64 m] w1 (PO (fun _ o => o = none) w1)) :
  Calls Tryz.prog 6 #[.agg #[.bool n1, .int .u64 v1, .int .i64 s1], .agg #[.bool n2, .int .u64 v2, .int .i64 s2], .int .i64 m] w (PV w (.bool true)) := by
 have HFS := hid HS
 have HE := hid he
 clear HS he
 obtain ⟨HC0, HD, hB0, hB1⟩ := box2 w #[.bool n1, .int .u64 v1, .int .i64 s1] 24 #[.bool n2, .int .u64 v2, .int .i64 s2] 24
 have HSS := hid (fun (w1 : World) h => And.intro ((cell3 (kept_heap (w' := w1) h hB0)).1) (And.intro ((cell3 (kept_heap (w' := w1) h hB0)).2.1) (And.intro ((cell3 (kept_heap (w' := w1) h hB0)).2.2.1) (And.intro ((cell3 (kept_heap (w' := w1) h hB1)).1) (And.intro ((cell3 (kept_heap (w' := w1) h hB1)).2.1) ((cell3 (kept_heap (w' := w1) h hB1)).2.2.1))))))
 have HSL := hid (alloc_last (W := ((w.alloc (.cells #[.bool n1, .int .u64 v1, .int .i64 s1] 24)).alloc (.cells #[.bool n2, .int .u64 v2, .int .i64 s2] 24))) (x := (.cells #[.bool n1, .int .u64 v1, .int .i64 s1, .bool n2, .int .u64 v2, .int .i64 s2] 24)) (k := w.heap.size + 1 + 1) (by simp))
 have HFA := hid (FixAll_two n1 n2 v1 s1 v2 s2 HSL.out)
 rw [hok] at HFA
 clear hok hB0 hB1 HD
 have hk := (Chg.refl (fun _ => False) ((w.alloc (.cells #[.bool n1, .int .u64 v1, .int .i64 s1] 24)).alloc (.cells #[.bool n2, .int .u64 v2, .int .i64 s2] 24))).alloc (.cells #[.bool n1, .int .u64 v1, .int .i64 s1, .bool n2, .int .u64 v2, .int .i64 s2] 24)
 obtain ⟨d00_, d01_, d02_, d10_, d11_, d12_⟩ := HSS.out _ (Chg.refl _ _)
 go_enter Tryz.func6, Tryz.ntmps6
 go_wp2_with (go_at_call 12; refine HFA.out.mono ?_; intro e w1 h; obtain ⟨he, hc⟩ := h; subst he; replace hk := hk.trans hc sb_; clear hc; clear d00_ d01_ d02_ d10_ d11_ d12_; obtain ⟨d00_, d01_, d02_, d10_, d11_, d12_⟩ := HSS.out _ hk)
 go_at_call 25
 refine (HFS.out _ (HE.out.kept (HC0.out.trans hk sb_))).mono ?_
 intro e w2 h
 obtain ⟨sg, o, hp, he, hc⟩ := h
 obtain ⟨b0, c0, s0, f0, hfo⟩ := fixOut_op sg o
 rw [hfo] at he
 subst he
 have h0 : fixOut sg none = .tuple #[.agg #[.bool b0, .int .u64 c0, .int .i64 s0], .int .i64 f0] := by rw [← hp]; exact hfo
 obtain rfl : f0 = 1 := by
  have := (fixOut_none rfl h0).2
  simpa using this
 clear h0
 replace hk := (hk.trans hc sb_).alloc (.cells #[.bool b0, .int .u64 c0, .int .i64 s0] 24)
 obtain ⟨g, hg⟩ : ∃ g, w2.heap.size = g := ⟨_, rfl⟩
 have hG := heap_alloc_new w2 (.cells #[.bool b0, .int .u64 c0, .int .i64 s0] 24)
 rw [hg] at hG
 have HG := hid hG
 clear hc hG hp hfo
 clear d00_ d01_ d02_ d10_ d11_ d12_
 obtain ⟨d00_, d01_, d02_, d10_, d11_, d12_⟩ := HSS.out _ hk
 obtain ⟨j0, j1, j2, _, _, _⟩ := cell3 HG.out
 go_wp2_with fail
 go_ret
 exact ⟨rfl, HC0.out.trans hk sb_⟩
set_option maxHeartbeats 4000000 in
theorem lawQuoEx_in (n1 n2 d1 d2 sb : Bool) (dc ec ds es : Nat) (v1 s1 v2 s2 m : Int) (hdc : dc < 10 ^ 19) (hds : ds ≤ 19) (hd1 : (n1 && dc != 0) = d1) (hec : ec < 10 ^ 19) (hes : es ≤ 19) (hd2 : (n2 && ec != 0) = d2) (NN XX : Nat) (P : Bool → Option (Nat × Nat) → Prop)
  (hv1 : (dc : Int) = v1) (hs1 : (ds : Int) = s1) (hv2 : (ec : Int) = v2) (hs2 : (es : Int) = s2) (hok : (okFix v1 s1 && okFix v2 s2) = true) (hb5 : (v2 == 0) = false) (w : World) (he : EnvI w)
  (HS : ∀ w1, EnvI w1 → Calls Tryz.prog 25 #[.agg #[.bool n1, .int .u64 v1, .int .i64 s1], .agg #[.bool n2, .int .u64 v2, .int .i64 s2], .int .i64 m] w1 (PO P w1)) (hsg : ((d1 != d2) && dc * 10 ^ es != 0) = sb) (hNN : dc * 10 ^ es = NN) (hXX : 10 ^ ds * ec = XX)
  (HGX : ∀ sg o b0 c0 s0 f0, P sg o → fixOut sg o = .tuple #[.agg #[.bool b0, .int .u64 c0, .int .i64 s0], .int .i64 f0] → ∀ (w1 : World) (A X : Option Addr) (n c k l : Nat), SN w1 A n c NN → SN w1 X k l XX → Calls Tryz.prog 14 #[.agg #[.bool b0, .int .u64 c0, .int .i64 s0], .int .i64 f0, .agg #[.bool sb, .slice A n c, .slice X k l], .int .i64 m] w1 (PV w1 (.bool true))) :
  Calls Tryz.prog 6 #[.agg #[.bool n1, .int .u64 v1, .int .i64 s1], .agg #[.bool n2, .int .u64 v2, .int .i64 s2], .int .i64 m] w (PV w (.bool true)) := by
 have up : ∀ {k : Nat}, k < 10 ^ 19 → k < 10 ^ 100 := fun h => Nat.lt_of_lt_of_le h (Nat.pow_le_pow_right (by omega) (by omega))
 have hp : ∀ {k : Nat}, k ≤ 19 → (10 : Nat) ^ k < 10 ^ 100 := fun h => Nat.pow_lt_pow_right (by omega) (by omega)
 have HN1 := hid (fun w1 => FixNum_any (w := w1) n1 d1 dc ds hdc hds hd1)
 rw [hv1, hs1] at HN1
 have HN2 := hid (fun w1 => FixNum_any (w := w1) n2 d2 ec es hec hes hd2)
 rw [hv2, hs2] at HN2
 have HIN := hid (fun (w1 : World) (A X : Option Addr) (n c k l : Nat) (h2 : SN w1 X k l (10 ^ es)) => FracInv_sn (A := A) (n := n) (c := c) d2 d2 h2 (by rw [bne_iff_ne.2 (Nat.ne_of_gt (pow10_pos es)), Bool.and_true]))
 have HML := hid (fun (w1 : World) (A B X Y : Option Addr) (n c k l p q i j : Nat) (h1 : SN w1 A n c dc) (h2 : SN w1 X k l (10 ^ ds)) (h3 : SN w1 B p q (10 ^ es)) (h4 : SN w1 Y i j ec) =>
  FracMul_any d1 d2 sb h1 h2 h3 h4 (up hdc) (hp hes) (hp hds) (up hec) hsg)
 rw [hNN, hXX] at HML
 have HFS := hid HS
 have HGV := hid HGX
 have HLV := hid (fun w1 he1 => gvLives_any2 w1 he1)
 have HE := hid he
 generalize 10 ^ ds = T1 at *
 generalize 10 ^ es = T2 at *
 clear HS HGX he hdc hds hd1 hec hes hd2 hv1 hv2 hs1 hs2 hsg up hp hNN hXX
 obtain ⟨HC0, HD, hB0, hB1⟩ := box2 w #[.bool n1, .int .u64 v1, .int .i64 s1] 24 #[.bool n2, .int .u64 v2, .int .i64 s2] 24
 have HSS := hid (fun (w1 : World) h => And.intro ((cell3 (kept_heap (w' := w1) h hB0)).1) (And.intro ((cell3 (kept_heap (w' := w1) h hB0)).2.1) (And.intro ((cell3 (kept_heap (w' := w1) h hB0)).2.2.1) (And.intro ((cell3 (kept_heap (w' := w1) h hB1)).1) (And.intro ((cell3 (kept_heap (w' := w1) h hB1)).2.1) ((cell3 (kept_heap (w' := w1) h hB1)).2.2.1))))))
 have HSL := hid (alloc_last (W := ((w.alloc (.cells #[.bool n1, .int .u64 v1, .int .i64 s1] 24)).alloc (.cells #[.bool n2, .int .u64 v2, .int .i64 s2] 24))) (x := (.cells #[.bool n1, .int .u64 v1, .int .i64 s1, .bool n2, .int .u64 v2, .int .i64 s2] 24)) (k := w.heap.size + 1 + 1) (by simp))
 have HFA := hid (FixAll_two n1 n2 v1 s1 v2 s2 HSL.out)
 rw [hok] at HFA
 clear hok hB0 hB1 HD
 have hk := (Chg.refl (fun _ => False) ((w.alloc (.cells #[.bool n1, .int .u64 v1, .int .i64 s1] 24)).alloc (.cells #[.bool n2, .int .u64 v2, .int .i64 s2] 24))).alloc (.cells #[.bool n1, .int .u64 v1, .int .i64 s1, .bool n2, .int .u64 v2, .int .i64 s2] 24)
 obtain ⟨d00_, d01_, d02_, d10_, d11_, d12_⟩ := HSS.out _ (Chg.refl _ _)
 go_enter Tryz.func6, Tryz.ntmps6
 go_wp2_with (go_at_call 12; refine HFA.out.mono ?_; intro e w1 h; obtain ⟨he, hc⟩ := h; subst he; replace hk := hk.trans hc sb_; clear hc; clear d00_ d01_ d02_ d10_ d11_ d12_; obtain ⟨d00_, d01_, d02_, d10_, d11_, d12_⟩ := HSS.out _ hk)
 go_at_call 25
 refine (HFS.out _ (HE.out.kept (HC0.out.trans hk sb_))).mono ?_
 intro e w2 h
 obtain ⟨sg, o, hp, he, hc⟩ := h
 obtain ⟨b0, c0, s0, f0, hfo⟩ := fixOut_op sg o
 rw [hfo] at he
 subst he
 have HGE := hid (HGV.out sg o b0 c0 s0 f0 hp hfo)
 replace hk := (hk.trans hc sb_).alloc (.cells #[.bool b0, .int .u64 c0, .int .i64 s0] 24)
 obtain ⟨g, hg⟩ : ∃ g, w2.heap.size = g := ⟨_, rfl⟩
 have hG := heap_alloc_new w2 (.cells #[.bool b0, .int .u64 c0, .int .i64 s0] 24)
 rw [hg] at hG
 have HG := hid hG
 clear hc hG hp hfo
 clear d00_ d01_ d02_ d10_ d11_ d12_
 obtain ⟨d00_, d01_, d02_, d10_, d11_, d12_⟩ := HSS.out _ hk
 obtain ⟨j0, j1, j2, _, _, _⟩ := cell3 HG.out
 go_wp2_with fail
 have hw6 := (Chg.refl (fun _ => False) (w2.alloc (.cells #[.bool b0, .int .u64 c0, .int .i64 s0] 24))).drew
 have hk := hk.drew
 have HS6 := hid (fun (w3 : World) h1 (h2 : Chg (fun _ => False) (w2.alloc (.cells #[.bool b0, .int .u64 c0, .int .i64 s0] 24)) w3) => And.intro ((HSS.out w3 h1).1) (And.intro ((HSS.out w3 h1).2.1) (And.intro ((HSS.out w3 h1).2.2.1) (And.intro ((HSS.out w3 h1).2.2.2.1) (And.intro ((HSS.out w3 h1).2.2.2.2.1) (And.intro ((HSS.out w3 h1).2.2.2.2.2) (And.intro ((cell3 (kept_heap h2 HG.out)).1) (And.intro ((cell3 (kept_heap h2 HG.out)).2.1) ((cell3 (kept_heap h2 HG.out)).2.2.1)))))))))
 first | (go_region_held3 (fun w' => w'.cell? ⟨w.heap.size, 0, none⟩ = some (.bool n1) ∧ w'.cell? ⟨w.heap.size, 1, none⟩ = some (.int .u64 v1) ∧ w'.cell? ⟨w.heap.size, 2, none⟩ = some (.int .i64 s1) ∧ w'.cell? ⟨w.heap.size + 1, 0, none⟩ = some (.bool n2) ∧ w'.cell? ⟨w.heap.size + 1, 1, none⟩ = some (.int .u64 v2) ∧ w'.cell? ⟨w.heap.size + 1, 2, none⟩ = some (.int .i64 s2) ∧ w'.cell? ⟨g, 0, none⟩ = some (.bool b0) ∧ w'.cell? ⟨g, 1, none⟩ = some (.int .u64 c0) ∧ w'.cell? ⟨g, 2, none⟩ = some (.int .i64 s0)) (first | with_reducible exact HS6.out _ hk hw6) (first | (go_at_call_of 15 (Value.agg #[Value.bool n1, Value.int .u64 v1, Value.int .i64 s1]); refine (HN1.out _).mono ?_; intro e w3 h; obtain ⟨A1, A1_, A2_, A2, A3_, A4_, he, hq1, hq2, hc⟩ := h; subst he; replace hk := hk.trans hc sb_; replace hw6 := hw6.trans hc sb_; (try replace HA1 := hid (HA1.out.kept hc)); (try replace HA2 := hid (HA2.out.kept hc)); (try replace HB1 := hid (HB1.out.kept hc)); (try replace HB2 := hid (HB2.out.kept hc)); (try replace HC1 := hid (HC1.out.kept hc)); (try replace HC2 := hid (HC2.out.kept hc)); have HA1 := hid hq1; have HA2 := hid hq2; clear hq1 hq2; clear hc) | (go_at_call_of 15 (Value.agg #[Value.bool n2, Value.int .u64 v2, Value.int .i64 s2]); refine (HN2.out _).mono ?_; intro e w3 h; obtain ⟨B1, B1_, B2_, B2, B3_, B4_, he, hq1, hq2, hc⟩ := h; subst he; replace hk := hk.trans hc sb_; replace hw6 := hw6.trans hc sb_; (try replace HA1 := hid (HA1.out.kept hc)); (try replace HA2 := hid (HA2.out.kept hc)); (try replace HB1 := hid (HB1.out.kept hc)); (try replace HB2 := hid (HB2.out.kept hc)); (try replace HC1 := hid (HC1.out.kept hc)); (try replace HC2 := hid (HC2.out.kept hc)); have HB1 := hid hq1; have HB2 := hid hq2; clear hq1 hq2; clear hc) | (go_at_call 22; refine (HIN.out _ _ _ _ _ _ _ HB2.out).mono ?_; intro e w3 h; obtain ⟨he, hc⟩ := h; subst he; replace hk := hk.trans hc sb_; replace hw6 := hw6.trans hc sb_; (try replace HA1 := hid (HA1.out.kept hc)); (try replace HA2 := hid (HA2.out.kept hc)); (try replace HB1 := hid (HB1.out.kept hc)); (try replace HB2 := hid (HB2.out.kept hc)); (try replace HC1 := hid (HC1.out.kept hc)); (try replace HC2 := hid (HC2.out.kept hc)); skip; clear hc) | (go_at_call 21; refine (HML.out _ _ _ _ _ _ _ _ _ _ _ _ _ HA1.out HA2.out HB2.out HB1.out).mono ?_; intro e w3 h; obtain ⟨C1, c1_, c2_, C2, c3_, c4_, he, hq1, hq2, hc⟩ := h; subst he; replace hk := hk.trans hc sb_; replace hw6 := hw6.trans hc sb_; (try replace HA1 := hid (HA1.out.kept hc)); (try replace HA2 := hid (HA2.out.kept hc)); (try replace HB1 := hid (HB1.out.kept hc)); (try replace HB2 := hid (HB2.out.kept hc)); (try replace HC1 := hid (HC1.out.kept hc)); (try replace HC2 := hid (HC2.out.kept hc)); have HC1 := hid hq1; have HC2 := hid hq2; clear hq1 hq2; clear hc) | (go_at_call 14; refine (HGE.out _ _ _ _ _ _ _ HC1.out HC2.out).mono ?_; intro e w3 h; obtain ⟨he, hc⟩ := h; subst he; replace hk := hk.trans hc sb_; replace hw6 := hw6.trans hc sb_; (try replace HA1 := hid (HA1.out.kept hc)); (try replace HA2 := hid (HA2.out.kept hc)); (try replace HB1 := hid (HB1.out.kept hc)); (try replace HB2 := hid (HB2.out.kept hc)); (try replace HC1 := hid (HC1.out.kept hc)); (try replace HC2 := hid (HC2.out.kept hc)); skip; clear hc) | (go_at_call 17; refine (HLV.out _ (HE.out.kept (HC0.out.trans hk sb_)).1).mono ?_; intro e w3 h; obtain ⟨he, hc⟩ := h; subst he; replace hk := hk.trans hc sb_; replace hw6 := hw6.trans hc sb_; (try replace HA1 := hid (HA1.out.kept hc)); (try replace HA2 := hid (HA2.out.kept hc)); (try replace HB1 := hid (HB1.out.kept hc)); (try replace HB2 := hid (HB2.out.kept hc)); (try replace HC1 := hid (HC1.out.kept hc)); (try replace HC2 := hid (HC2.out.kept hc)); skip; clear hc))) | fail
 all_goals (go_wp2_with fail; go_ret; exact ⟨rfl, HC0.out.trans hk sb_⟩)
theorem lawQuoEx_any (n1 n2 : Bool) (v1 s1 v2 s2 m : Int) (h1 : 0 ≤ v1) (h2 : 0 ≤ v2) (w : World) (he : EnvI w) :
  Calls Tryz.prog 6 #[.agg #[.bool n1, .int .u64 v1, .int .i64 s1], .agg #[.bool n2, .int .u64 v2, .int .i64 s2], .int .i64 m] w (PV w (.bool true)) := by
 cases hok : (okFix v1 s1 && okFix v2 s2) with
 | false => exact lawQuoEx_out n1 n2 v1 s1 v2 s2 m hok w
 | true =>
  have hok' := hok
  rw [Bool.and_eq_true] at hok'
  obtain ⟨k1, k2⟩ := hok'
  obtain ⟨dc, ds, rfl, rfl, a1, a2⟩ := okFix_nat h1 k1
  obtain ⟨ec, es, rfl, rfl, b1, b2⟩ := okFix_nat h2 k2
  by_cases hz : ec = 0
  ·exact lawQuoEx_zero n1 n2 _ _ _ _ m hok (by rw [hz]; rfl) w he (fun w1 he1 => FixQuoExact_zero n1 n2 dc ec ds es m a1 b1 a2 b2 hz w1 he1)
  ·have hx0 : 0 < 10 ^ ds * ec := Nat.mul_pos (pow10_pos _) (by omega)
   have hxx : 10 ^ ds * ec < 10 ^ 100 := Nat.lt_of_lt_of_le (mul100 (Nat.pow_lt_pow_right (a := 10) (by omega) (show ds < 20 by omega)) b1) (Nat.pow_le_pow_right (by omega) (by omega))
   have hnn : dc * 10 ^ es < 10 ^ 100 := Nat.lt_of_lt_of_le (mul100 a1 (Nat.pow_lt_pow_right (a := 10) (by omega) (show es < 20 by omega))) (Nat.pow_le_pow_right (by omega) (by omega))
   exact lawQuoEx_in n1 n2 _ _ _ dc ec ds es _ _ _ _ m a1 a2 rfl b1 b2 rfl _ _ _ rfl rfl rfl rfl hok (beq_eq_false_iff_ne.2 (by omega)) w he
    (fun w1 he1 => FixQuoExact_in n1 n2 _ _ dc ec ds es m a1 b1 a2 b2 (by omega) rfl rfl w1 he1) rfl rfl rfl
    (fun sg o b0 c0 s0 f0 hp hfo w1 A X n c k l ha hx => gvExact_good _ sg m o _ _ ha hx hnn hxx hx0 hp hfo)
end Go.Proofs.YtldhfhloinlfaaaGreatDoor
namespace Go.Proofs.YtldhfhloinlfaaaGreatDoor
open Go Go.ChangeShapes Go.WideShapes Go.ChangeAt Go.WideMaps Go.WideElems Go.RowKit
set_option maxRecDepth 100000 in
theorem liftedg (os : Os) (started : os.Started) (H : Type) (enc : TypeId × Value → H) :
  ReturnsInHanded {} Tryz.checked os 6 .any (fun w args => (Rows.fnFixQuoExactSpec.pre enc Tryz.prog Tryz.f6 [] false w args ∧ laidMetH Tryz.prog Rows.fnFixQuoExactRow.laid w) ∧ sizedMet enc Tryz.prog Tryz.f6 (OpenSpec.ofChange Rows.fnFixQuoExactSpec) false w args)
   (Rows.fnFixQuoExactSpec.post enc Tryz.prog Tryz.f6 false true false false) := by
 refine handed_shaped (C := Tryz.checked) (X := fun w _ => laidMetH Tryz.prog Rows.fnFixQuoExactRow.laid w) (fun _ _ _ hh h => h.of_heap hh) own0 started kr_ Tryz.func6
  (ChangeSpec.witness_shaped (enc := enc) (C := Tryz.checked) (os := os) (X := fun w _ => laidMetH Tryz.prog Rows.fnFixQuoExactRow.laid w) false (World.doorLaid Tryz.prog 400 os) #[.agg #[.bool false, .int .u64 0, .int .i64 0], .agg #[.bool false, .int .u64 0, .int .i64 0], .int .i64 0] 8 rfl (wit_shapedg os) (wit_okg os) (wit_preg os H enc) (wit_sizeg os H enc) (door_metq os _)) ?_
 intro W base args ds gs before hsh hval0 hW _ hL
 have hval : ∀ (j : Nat) t v, Tryz.f6.params[j]? = some t → args[j]? = some v → Value.okWide Tryz.prog W .any base t v := hval0
 have hW' := hW
 obtain ⟨p, q, hA0, hV, rfl, hfz, hnd⟩ := hW
 have hA : DataW.TrodAll enc Tryz.prog W 0 (fun _ => true) true Tryz.f6.params.toList args.toList ds p := hA0
 rw [Tryz.params6] at hA hval
 obtain ⟨v0, vs0, d0, ds0, p0, q0, hargs, rfl, rfl, h0, r0⟩ := trodAll_cons hA
 obtain ⟨v1, vs1, d1, ds1, p1, q1, rfl, rfl, rfl, h1, r1⟩ := trodAll_cons r0
 obtain ⟨v2, vs2, d2, ds2, p2, q2, rfl, rfl, rfl, h2, r2⟩ := trodAll_cons r1
 obtain ⟨rfl, rfl, rfl⟩ := trodAll_nil r2
 obtain rfl : args = #[v0, v1, v2] := by cases args; simp_all
 have k0 := h0
 have k1 := h1
 have k2 := h2
 obtain ⟨n1, c1, s1, rfl, w1, rfl⟩ := open_fix (hval 0 24 v0 rfl rfl) h0
 obtain ⟨n2, c2, s2, rfl, w2, rfl⟩ := open_fix (hval 1 24 v1 rfl rfl) h1
 obtain ⟨m, rfl, rfl, rfl, _⟩ := open_int Tryz.underlying3 (hval 2 3 v2 rfl rfl) h2
 have hlen : gs.length = 9 := trodVars_length hV
 match gs, hlen, hV, hW' with
 | [g1, g2, g3, g4, g5, g6, g7, g8, g9], _, hV, hW' =>
  refine (lawQuoEx_any n1 n2 c1 s1 c2 s2 m w1 w2 W (of_laidq hsh hL)).mono fun e W' hE => ?_
  obtain ⟨he, hc⟩ := hE
  subst he
  have hB := hc.below
  refine ⟨_, rfl, _, _, _, [], [], q, hW', ?_, ?_, ?_, hB.frame _, fun h => by cases h⟩
  ·exact trodAll_mk1 (shut_bool Tryz.underlying4 _)
  ·exact trodAll_mk3 (Below.trod laidOk kr_ (of_decide_eq_true kr_) k0 hB (fun x hx => by cases hx)) (Below.trod laidOk kr_ (of_decide_eq_true kr_) k1 hB (fun x hx => by cases hx)) (Below.trod laidOk kr_ (of_decide_eq_true kr_) k2 hB (fun x hx => by cases hx))
  ·exact vars_iface hB gScl tScl Tryz.underlying57 (fun _ _ h => vars_iface hB gOvf tOvf Tryz.underlying57 (fun _ _ h => vars_iface hB gInx tInx Tryz.underlying57 (fun _ _ h => Below.trodVars laidOk hB kr_ h) h) h) hV
theorem fnFixQuoExact_holds : Rows.FnFixQuoExactSaid :=
 OpenClaim.holds_of_wide 6 Tryz.f6 rfl rfl rfl rfl rfl rfl rfl ⟨rfl, rfl, rfl, rfl, rfl⟩ rfl rfl rfl rfl rfl row_funcg Tryz.func6 row_closedg
  (of_decide_eq_true kr_) (by unfold Func.isWrapper; first | (rw [if_pos (by decide +kernel)]; kernel_rfl) | (rw [if_neg (by decide +kernel)]; exact ⟨rfl, rfl⟩))
  (fun os started H enc _ => liftedg os started H enc)
theorem fnFixQuoExact_card : Rows.FnFixQuoExactCardSaid :=
 Claim7.holds_tied_plain_at .later [] [.data, .data, .data, .data, .data, .data, .data, .sentinel, .sentinel, .sentinel, .data] true Rows.fnFixQuoExactCard.stood.harness false
  fnFixQuoExact_holds (fun _ h => by cases h) row_wfg (fun _ h => by cases h) fnFixQuoExact_row_tie rfl ⟨rfl, rfl⟩ kr_ rfl
  (fun f fn hf hfn => by
   obtain rfl : f = 6 := Option.some.inj (row_funcg.symm.trans hf) |>.symm
   obtain rfl : fn = Tryz.f6 := (Option.some.inj (Tryz.func6.symm.trans hfn)).symm
   exact ⟨row_looksg, fun j t ht => by
    rw [Tryz.params6] at ht
    have hm : t ∈ [24, 24, 3] := by simpa using Array.mem_of_getElem? ht
    exact (show Tryz.prog.wantsStandIn t = false by simpa using List.all_eq_true.1 row_standg t hm)⟩)
  row_goesg
end Go.Proofs.YtldhfhloinlfaaaGreatDoor
