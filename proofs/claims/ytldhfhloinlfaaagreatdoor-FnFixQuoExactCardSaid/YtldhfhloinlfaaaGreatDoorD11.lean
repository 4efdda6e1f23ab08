/- Part 11 of the rest of the proof. -/
import Derived.Test.YtldhfhloinlfaaaGreatDoorProg
import Derived.Lib.Mul64
import Derived.WalkKit
import Derived.KernelRfl
import Derived.Deep.QuietTactic
import Derived.BigQuiet
import Derived.LaidEqlPtr
import Derived.Laws.IdiomCopy
import Derived.RegionTactic
import Derived.BigRegion
import Derived.StillTailTactics
import Derived.Deep.RegionWith
import Derived.Shelf.Small.Bits
import Derived.Shelf.Strconv.Itoa0
import Derived.Shelf.Bits.Mul64
import Derived.Deep.CutBlock
import Derived.Deep.DeepCutAuto
import Derived.Lib.AppendZeros
import Derived.Laws.AppendOwn
import Derived.OwnWalk
import Derived.Deep.CutRange
import Derived.Deep.RegionHeld3
import Derived.Below
import Derived.Deep.Draws
import Derived.Deep.AppendLies
import Derived.Maps.AppendAt
import Derived.Laws.BytesArg
import Derived.Laws.MakeOwn
import Derived.Laws.OwnMore
import Derived.Deep.OwnRows
import Derived.Tactics
import Derived.Lib.ConvBytes
import Derived.Laws.Slices
import Derived.RowKit3
import Derived.Deep.LoopGhost
import Derived.WideLaws
import Derived.Laws.Rows
import Derived.Lib.AppendStr
import Derived.ArgAppend
import Derived.OrdersHeld
import Derived.Laws.BitsLemmas
import Derived.RowKit
import Derived.Laws.StructEq
import Derived.Recover
import Derived.Test.YtldhfhloinlfaaaGreatDoorC00
import Derived.Test.YtldhfhloinlfaaaGreatDoorC01
import Derived.Test.YtldhfhloinlfaaaGreatDoorC02
import Derived.Test.YtldhfhloinlfaaaGreatDoorC03
import Derived.Test.YtldhfhloinlfaaaGreatDoorC04
import Derived.Test.YtldhfhloinlfaaaGreatDoorC05
import Derived.Test.YtldhfhloinlfaaaGreatDoorC06
import Derived.Test.YtldhfhloinlfaaaGreatDoorC07
import Derived.Test.YtldhfhloinlfaaaGreatDoorC08
import Derived.Test.YtldhfhloinlfaaaGreatDoorC09
import Derived.Test.YtldhfhloinlfaaaGreatDoorC10
import Derived.Test.YtldhfhloinlfaaaGreatDoorC11
import Derived.Test.YtldhfhloinlfaaaGreatDoorC12
import Derived.Test.YtldhfhloinlfaaaGreatDoorC13
import Derived.Test.YtldhfhloinlfaaaGreatDoorC14
import Derived.Test.YtldhfhloinlfaaaGreatDoorC15
import Derived.Test.YtldhfhloinlfaaaGreatDoorC16
import Derived.Test.YtldhfhloinlfaaaGreatDoorC17
import Derived.Test.YtldhfhloinlfaaaGreatDoorC18
import Derived.Test.YtldhfhloinlfaaaGreatDoorC20
import Derived.Test.YtldhfhloinlfaaaGreatDoorC21
import Derived.Test.YtldhfhloinlfaaaGreatDoorC22
import Derived.Test.YtldhfhloinlfaaaGreatDoorC23
import Derived.Test.YtldhfhloinlfaaaGreatDoorC35
import Derived.Test.YtldhfhloinlfaaaGreatDoorD00
import Derived.Test.YtldhfhloinlfaaaGreatDoorD10
namespace Go.Proofs.YtldhfhloinlfaaaGreatDoor
open Go.RowKit
set_option linter.unusedVariables false
set_option linter.unusedSimpArgs false
set_option maxRecDepth 20000
def PO (P : Bool → Option (Nat × Nat) → Prop) (w : World) (e : Ending) (w' : World) : Prop := ∃ sg o, P sg o ∧ e = .returned (fixOut sg o) ∧ Chg (fun _ => False) w w'
set_option maxHeartbeats 2000000 in
theorem ZzQuoSmall_gen (dn en : Bool) (dc ec m : Int) (ds es : Nat) (P : Bool → Option (Nat × Nat) → Prop) (w : World) (he : EnvI w)
  (HA : ∀ w1, EnvI w1 → Calls Tryz.prog 87 #[.agg #[.bool dn, .int .i8 ds, .int .u64 dc], .agg #[.bool en, .int .i8 es, .int .u64 ec], .int .i64 m] w1 (PX P w1)) :
  Calls Tryz.prog 51 #[.agg #[.bool dn, .int .i8 ds, .int .u64 dc], .agg #[.bool en, .int .i8 es, .int .u64 ec], .int .i64 m] w (PX P w) := by
 obtain ⟨HC0, HD, hB0, hB1, hB2⟩ := box3 w #[.bool dn, .int .i8 ds, .int .u64 dc] 53 #[.bool en, .int .i8 es, .int .u64 ec] 53 #[.bool false, .int .i8 0, .int .u64 0] 53
 have HZ := hid hB2
 have HAA := hid HA
 have HE := hid he
 obtain ⟨d0, d1, d2, _, _, _⟩ := cell3 hB0
 obtain ⟨e0, e1, e2, _, _, _⟩ := cell3 hB1
 clear hB0 hB1 hB2 HA he HD
 go_enter Tryz.func51, Tryz.ntmps51
 go_wp2_with (go_at_call 87; refine (HAA.out _ (HE.out.kept HC0.out)).mono ?_; intro e w1 h; obtain ⟨na, nb, nc, nv, he, hc, hp⟩ := h.op; subst he; have hk := hc; have HP := hid hp; clear hp h hc; obtain ⟨k0, k1, k2, f0, f1, f2⟩ := cell3 (kept_heap hk HZ.out))
 exact bodyPost_ret (v := .tuple #[.agg #[.bool na, .int .i8 nb, .int .u64 nc], nv]) (dec_result rfl _ _ (w.heap.size + 1 + 1) _ _ _ _ 53 rfl rfl (store3 (kept_heap hk HZ.out) _ _ _)) rfl (HP.out.move (chg3 (HC0.out.trans hk sb_) (by omega) _ _ _))
theorem quoSm_idle (p q : Addr) (w : World) : CallsD Tryz.prog 50 #[.pointer (some p), .pointer (some q)] .returning w fun e u' w' => e = .returned (.tuple #[]) ∧ u' = .returning ∧ w' = w := by
 refine callsD_of_wpS Tryz.func50 rfl fun c₀ cs hu => ?_
 apply wpS_seq
 apply wpS_region
 simp [wpOpsS, go_sem, recoverD, hu, Tryz.ntmps50, Exit.thenS]
 refine wpS_cond (t := false) (by simp [Act.eval, Array.replicate]) ?_
 simp only [Bool.false_eq_true, if_false]
 refine wpS_of_wp (wp_skip ?_)
 cases c₀
 simp_all [bodyPostS, results, Tryz.results50]
set_option maxHeartbeats 8000000 in
theorem quoSm_gen (n1 n2 d1 d2 : Bool) (dc ec ds es : Nat) (m : Int) (hdc : dc < 10 ^ 19) (hec : ec < 10 ^ 19) (hds : ds ≤ 19) (hes : es ≤ 19) (hd1 : (n1 && (dc : Int) != 0) = d1) (hd2 : (n2 && (ec : Int) != 0) = d2) (hm : ¬ (m < 0 ∨ 19 < m)) (hl0 : 0 < ec) (P : Bool → Option (Nat × Nat) → Prop) (hP : ∀ sg k t, P sg (some (k, t)) → t ≤ 19) (w : World) (he : EnvI w)
  (HS : ∀ w1, EnvI w1 → Calls Tryz.prog 51 #[.agg #[.bool d1, .int .i8 ds, .int .u64 (dc : Int)], .agg #[.bool d2, .int .i8 es, .int .u64 (ec : Int)], .int .i64 m] w1 (PX P w1)) :
  Calls Tryz.prog 23 #[.agg #[.bool n1, .int .u64 (dc : Int), .int .i64 (ds : Int)], .agg #[.bool n2, .int .u64 (ec : Int), .int .i64 (es : Int)], .int .i64 m] w (PO P w) := by
 have HF1 := hid (fun w => fixed_any n1 d1 (dc : Int) ds (fiN hdc) hds hd1 w)
 have HF2 := hid (fun w => fixed_any n2 d2 (ec : Int) es (fiN hec) hes hd2 w)
 have HE := hid he
 obtain ⟨DC, hDC⟩ : ∃ v : Int, (dc : Int) = v := ⟨_, rfl⟩
 obtain ⟨EC, hEC⟩ : ∃ v : Int, (ec : Int) = v := ⟨_, rfl⟩
 rw [hDC] at HF1
 rw [hEC] at HF2
 rw [hDC, hEC]
 rw [hDC, hEC] at HS
 have HSX := hid HS
 have HPB := hid hP
 have hb1 : decide (m < 0) = false := decide_eq_false (by omega)
 have hb2 : decide (19 < m) = false := decide_eq_false (by omega)
 have hb5 : (EC == 0) = false := by rw [← hEC]; exact beq_eq_false_iff_ne.2 (by omega)
 clear HS hP hdc hec hds hes hd1 hd2 he hDC hEC hm hl0
 obtain ⟨HC0, HD, hB0, hB1, hB2, hB3⟩ := box4 w #[.bool n1, .int .u64 DC, .int .i64 ds] 24 #[.bool n2, .int .u64 EC, .int .i64 es] 24 #[.bool false, .int .u64 0, .int .i64 0] 24 #[.int .i64 0] 3
 have HB1 := hid hB1
 have HB2 := hid hB2
 have HB3 := hid hB3
 have hk := Chg.refl (fun _ => False) ((((w.alloc (.cells #[.bool n1, .int .u64 DC, .int .i64 ds] 24)).alloc (.cells #[.bool n2, .int .u64 EC, .int .i64 es] 24)).alloc (.cells #[.bool false, .int .u64 0, .int .i64 0] 24)).alloc (.cells #[.int .i64 0] 3))
 obtain ⟨b0_, b1_, b2_, _, _, _⟩ := cell3 hB0
 clear hB0 hB1 hB2 hB3 HD
 have hmf : ∀ (fn : Fn) (first cap : Array Value) (w : World), (Instr.makeFunc fn first cap).run Tryz.prog w = .ok (.func fn first cap) w := fun _ _ _ _ => rfl
 go_enter_defers Tryz.func23, Tryz.ntmps23
 go_wp2_with (first | (go_at_call_of 38 (Value.agg #[Value.bool n1, Value.int .u64 DC, Value.int .i64 (ds : Int)]); refine (HF1.out _).mono ?_; intro e w1 h; obtain ⟨he, hc⟩ := h; subst he; replace hk := (hk.trans hc sb_).alloc (.cells #[.bool d1, .int .i8 ds, .int .u64 DC] 53); have HG1 := hid (heap_alloc_new w1 (.cells #[.bool d1, .int .i8 ds, .int .u64 DC] 53)); clear hc b0_ b1_ b2_; obtain ⟨e0, e1, e2, _, _, _⟩ := cell3 (kept_heap hk HB1.out)) | (go_at_call_of 38 (Value.agg #[Value.bool n2, Value.int .u64 EC, Value.int .i64 (es : Int)]); refine (HF2.out _).mono ?_; intro e w2 h; obtain ⟨he, hc⟩ := h; subst he; replace hk := (hk.trans hc sb_).alloc (.cells #[.bool d2, .int .i8 es, .int .u64 EC] 53); replace HG1 := hid (kept_heap (hc.alloc (.cells #[.bool d2, .int .i8 es, .int .u64 EC] 53)) HG1.out); have HG2 := hid (heap_alloc_new w2 (.cells #[.bool d2, .int .i8 es, .int .u64 EC] 53)); clear hc e0 e1 e2; obtain ⟨g0, g1, g2, _, _, _⟩ := cell3 HG1.out; obtain ⟨j0, j1, j2, _, _, _⟩ := cell3 HG2.out; obtain ⟨t0_, t1_, t2_, _, _, _⟩ := cell3 (kept_heap hk HB1.out)))
 go_at_call 51
 refine (HSX.out _ (HE.out.kept (HC0.out.trans hk sb_))).mono ?_
 intro e w4 h
 obtain ⟨sg, o, hp, hc, ho⟩ := h
 have HPP := hid hp
 clear hp
 cases o with
 | none =>
  obtain ⟨t3, v3, he⟩ := ho
  have he2 : e = .returned (.tuple #[.agg #[.bool false, .int .i8 0, .int .u64 0], .iface t3 v3]) := he
  clear he
  subst he2
  replace hk := (hk.trans hc sb_).alloc (.cells #[.bool false, .int .i8 0, .int .u64 0] 53)
  clear hc g0 g1 g2 j0 j1 j2 t0_ t1_ t2_
  obtain ⟨r0, r1, r2, q0, q1, q2⟩ := cell3 (kept_heap hk HB2.out)
  obtain ⟨i0, i1⟩ := cell1 (kept_heap hk HB3.out)
  go_wp2_with fail
  refine leaves_cons (f := 50) (args := #[.pointer (some ⟨w.heap.size + 1 + 1, 0, none⟩), .pointer (some ⟨w.heap.size + 1 + 1 + 1, 0, none⟩)]) (by simp) (by simp [go_sem]) ?_
  refine (quoSm_idle _ _ _).mono ?_
  rintro e u' w'' ⟨rfl, rfl, rfl⟩
  exact ⟨.tuple #[.agg #[.bool false, .int .u64 0, .int .i64 0], .int .i64 1], fix_result rfl _ _ (w.heap.size + 1 + 1) (w.heap.size + 1 + 1 + 1) _ _ _ _ _ _ rfl rfl (fix_far (store3 (kept_heap hk HB2.out) _ _ _) (by omega)) (int_set (fix_near (kept_heap hk HB3.out) (by omega))), ⟨sg, none, HPP.out, rfl, fix_chg (HC0.out.trans hk sb_) (by omega) (by omega)⟩⟩
 | some kt =>
  obtain ⟨k, t⟩ := kt
  have ht := HPB.out _ _ _ HPP.out
  have HFX := hid (fun w => fix_any (sg && (k : Int) != 0) (k : Int) t ht w)
  have he2 : e = .returned (.tuple #[.agg #[.bool (sg && (k : Int) != 0), .int .i8 t, .int .u64 (k : Int)], .nilIface]) := ho
  clear ho ht
  obtain ⟨nb, hnb⟩ : ∃ b, (sg && (k : Int) != 0) = b := ⟨_, rfl⟩
  have HNB := hid hnb
  obtain ⟨K, hK⟩ : ∃ v : Int, (k : Int) = v := ⟨_, rfl⟩
  have HK := hid hK
  rw [hnb, hK] at he2 HFX
  subst he2
  clear hnb hK
  replace hk := (hk.trans hc sb_).alloc (.cells #[.bool nb, .int .i8 t, .int .u64 K] 53)
  clear hc g0 g1 g2 j0 j1 j2 t0_ t1_ t2_
  go_wp2_with (go_at_call 40; refine (HFX.out _).mono ?_; intro e w5 h; obtain ⟨he, hc⟩ := h; subst he; replace hk := hk.trans hc sb_; clear hc; obtain ⟨r0, r1, r2, q0, q1, q2⟩ := cell3 (kept_heap hk HB2.out); obtain ⟨i0, i1⟩ := cell1 (kept_heap hk HB3.out))
  refine leaves_cons (f := 50) (args := #[.pointer (some ⟨w.heap.size + 1 + 1, 0, none⟩), .pointer (some ⟨w.heap.size + 1 + 1 + 1, 0, none⟩)]) (by simp) (by simp [go_sem]) ?_
  refine (quoSm_idle _ _ _).mono ?_
  rintro e u' w'' ⟨rfl, rfl, rfl⟩
  exact ⟨.tuple #[.agg #[.bool nb, .int .u64 K, .int .i64 t], .int .i64 0], fix_result rfl _ _ (w.heap.size + 1 + 1) (w.heap.size + 1 + 1 + 1) _ _ _ _ _ _ rfl rfl (fix_far (store3 (kept_heap hk HB2.out) _ _ _) (by omega)) (int_set (fix_near (kept_heap hk HB3.out) (by omega))), ⟨sg, some (k, t), HPP.out, by rw [← HNB.out, ← HK.out]; rfl, fix_chg (HC0.out.trans hk sb_) (by omega) (by omega)⟩⟩
set_option maxHeartbeats 8000000 in
theorem quoSm_out (n1 n2 d1 d2 : Bool) (dc ec ds es : Nat) (m : Int) (hdc : dc < 10 ^ 19) (hec : ec < 10 ^ 19) (hds : ds ≤ 19) (hes : es ≤ 19) (hd1 : (n1 && (dc : Int) != 0) = d1) (hd2 : (n2 && (ec : Int) != 0) = d2) (hm : m < 0 ∨ 19 < m) (w : World) :
  Calls Tryz.prog 23 #[.agg #[.bool n1, .int .u64 (dc : Int), .int .i64 (ds : Int)], .agg #[.bool n2, .int .u64 (ec : Int), .int .i64 (es : Int)], .int .i64 m] w (PV w (.tuple #[.agg #[.bool false, .int .u64 0, .int .i64 0], .int .i64 3])) := by
 have HF1 := hid (fun w => fixed_any n1 d1 (dc : Int) ds (fiN hdc) hds hd1 w)
 have HF2 := hid (fun w => fixed_any n2 d2 (ec : Int) es (fiN hec) hes hd2 w)
 obtain ⟨DC, hDC⟩ : ∃ v : Int, (dc : Int) = v := ⟨_, rfl⟩
 obtain ⟨EC, hEC⟩ : ∃ v : Int, (ec : Int) = v := ⟨_, rfl⟩
 rw [hDC] at HF1
 rw [hEC] at HF2
 rw [hDC, hEC]
 obtain ⟨b1, hb1⟩ : ∃ b, decide (m < 0) = b := ⟨_, rfl⟩
 have hb2 : b1 = false → decide (19 < m) = true := by intro h; subst h; exact decide_eq_true (by have := of_decide_eq_false hb1; omega)
 clear hdc hec hds hes hd1 hd2 hDC hEC hm
 obtain ⟨HC0, HD, hB0, hB1, hB2, hB3⟩ := box4 w #[.bool n1, .int .u64 DC, .int .i64 ds] 24 #[.bool n2, .int .u64 EC, .int .i64 es] 24 #[.bool false, .int .u64 0, .int .i64 0] 24 #[.int .i64 0] 3
 have HB1 := hid hB1
 have HB2 := hid hB2
 have HB3 := hid hB3
 have hk := Chg.refl (fun _ => False) ((((w.alloc (.cells #[.bool n1, .int .u64 DC, .int .i64 ds] 24)).alloc (.cells #[.bool n2, .int .u64 EC, .int .i64 es] 24)).alloc (.cells #[.bool false, .int .u64 0, .int .i64 0] 24)).alloc (.cells #[.int .i64 0] 3))
 obtain ⟨b0_, b1_, b2_, _, _, _⟩ := cell3 hB0
 clear hB0 hB1 hB2 hB3 HD
 have hmf : ∀ (fn : Fn) (first cap : Array Value) (w : World), (Instr.makeFunc fn first cap).run Tryz.prog w = .ok (.func fn first cap) w := fun _ _ _ _ => rfl
 cases b1 with
 | true =>
  go_enter_defers Tryz.func23, Tryz.ntmps23
  go_wp2_with (first | (go_at_call_of 38 (Value.agg #[Value.bool n1, Value.int .u64 DC, Value.int .i64 (ds : Int)]); refine (HF1.out _).mono ?_; intro e w1 h; obtain ⟨he, hc⟩ := h; subst he; replace hk := (hk.trans hc sb_).alloc (.cells #[.bool d1, .int .i8 ds, .int .u64 DC] 53); have HG1 := hid (heap_alloc_new w1 (.cells #[.bool d1, .int .i8 ds, .int .u64 DC] 53)); clear hc b0_ b1_ b2_; obtain ⟨e0, e1, e2, _, _, _⟩ := cell3 (kept_heap hk HB1.out)) | (go_at_call_of 38 (Value.agg #[Value.bool n2, Value.int .u64 EC, Value.int .i64 (es : Int)]); refine (HF2.out _).mono ?_; intro e w2 h; obtain ⟨he, hc⟩ := h; subst he; replace hk := (hk.trans hc sb_).alloc (.cells #[.bool d2, .int .i8 es, .int .u64 EC] 53); replace HG1 := hid (kept_heap (hc.alloc (.cells #[.bool d2, .int .i8 es, .int .u64 EC] 53)) HG1.out); have HG2 := hid (heap_alloc_new w2 (.cells #[.bool d2, .int .i8 es, .int .u64 EC] 53)); clear hc e0 e1 e2; obtain ⟨g0, g1, g2, _, _, _⟩ := cell3 HG1.out; obtain ⟨j0, j1, j2, _, _, _⟩ := cell3 HG2.out; obtain ⟨t0_, t1_, t2_, _, _, _⟩ := cell3 (kept_heap hk HB1.out); obtain ⟨r0, r1, r2, q0, q1, q2⟩ := cell3 (kept_heap hk HB2.out); obtain ⟨i0, i1⟩ := cell1 (kept_heap hk HB3.out)))
  refine leaves_cons (f := 50) (args := #[.pointer (some ⟨w.heap.size + 1 + 1, 0, none⟩), .pointer (some ⟨w.heap.size + 1 + 1 + 1, 0, none⟩)]) (by simp) (by simp [go_sem]) ?_
  refine (quoSm_idle _ _ _).mono ?_
  rintro e u' w'' ⟨rfl, rfl, rfl⟩
  exact ⟨.tuple #[.agg #[.bool false, .int .u64 0, .int .i64 0], .int .i64 3], fix_result rfl _ _ (w.heap.size + 1 + 1) (w.heap.size + 1 + 1 + 1) _ _ _ _ _ _ rfl rfl (fix_far (store3 (kept_heap hk HB2.out) _ _ _) (by omega)) (int_set (fix_near (kept_heap hk HB3.out) (by omega))), rfl, fix_chg (HC0.out.trans hk sb_) (by omega) (by omega)⟩
 | false =>
  have hb3 := hb2 rfl
  go_enter_defers Tryz.func23, Tryz.ntmps23
  go_wp2_with (first | (go_at_call_of 38 (Value.agg #[Value.bool n1, Value.int .u64 DC, Value.int .i64 (ds : Int)]); refine (HF1.out _).mono ?_; intro e w1 h; obtain ⟨he, hc⟩ := h; subst he; replace hk := (hk.trans hc sb_).alloc (.cells #[.bool d1, .int .i8 ds, .int .u64 DC] 53); have HG1 := hid (heap_alloc_new w1 (.cells #[.bool d1, .int .i8 ds, .int .u64 DC] 53)); clear hc b0_ b1_ b2_; obtain ⟨e0, e1, e2, _, _, _⟩ := cell3 (kept_heap hk HB1.out)) | (go_at_call_of 38 (Value.agg #[Value.bool n2, Value.int .u64 EC, Value.int .i64 (es : Int)]); refine (HF2.out _).mono ?_; intro e w2 h; obtain ⟨he, hc⟩ := h; subst he; replace hk := (hk.trans hc sb_).alloc (.cells #[.bool d2, .int .i8 es, .int .u64 EC] 53); replace HG1 := hid (kept_heap (hc.alloc (.cells #[.bool d2, .int .i8 es, .int .u64 EC] 53)) HG1.out); have HG2 := hid (heap_alloc_new w2 (.cells #[.bool d2, .int .i8 es, .int .u64 EC] 53)); clear hc e0 e1 e2; obtain ⟨g0, g1, g2, _, _, _⟩ := cell3 HG1.out; obtain ⟨j0, j1, j2, _, _, _⟩ := cell3 HG2.out; obtain ⟨t0_, t1_, t2_, _, _, _⟩ := cell3 (kept_heap hk HB1.out); obtain ⟨r0, r1, r2, q0, q1, q2⟩ := cell3 (kept_heap hk HB2.out); obtain ⟨i0, i1⟩ := cell1 (kept_heap hk HB3.out)))
  refine leaves_cons (f := 50) (args := #[.pointer (some ⟨w.heap.size + 1 + 1, 0, none⟩), .pointer (some ⟨w.heap.size + 1 + 1 + 1, 0, none⟩)]) (by simp) (by simp [go_sem]) ?_
  refine (quoSm_idle _ _ _).mono ?_
  rintro e u' w'' ⟨rfl, rfl, rfl⟩
  exact ⟨.tuple #[.agg #[.bool false, .int .u64 0, .int .i64 0], .int .i64 3], fix_result rfl _ _ (w.heap.size + 1 + 1) (w.heap.size + 1 + 1 + 1) _ _ _ _ _ _ rfl rfl (fix_far (store3 (kept_heap hk HB2.out) _ _ _) (by omega)) (int_set (fix_near (kept_heap hk HB3.out) (by omega))), rfl, fix_chg (HC0.out.trans hk sb_) (by omega) (by omega)⟩
end Go.Proofs.YtldhfhloinlfaaaGreatDoor
