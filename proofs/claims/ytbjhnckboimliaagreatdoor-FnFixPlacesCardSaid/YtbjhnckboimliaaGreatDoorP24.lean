/- Part 24 of the proof. -/
import Derived.Lib.MinMax
import Derived.Test.YtbjhnckboimliaaGreatDoorP23
namespace Go.Proofs.YtbjhnckboimliaaGreatDoor
open Go.RowKit
set_option linter.unusedVariables false
set_option linter.unusedSimpArgs false
set_option maxRecDepth 20000
set_option maxHeartbeats 4000000 in
theorem Mul_gen (dn en : Bool) (DC EC : Int) (ds es : Nat) (P : Bool → Option (Nat × Nat) → Prop) (w : World) (he : EnvD w)
  (HA : ∀ w1, EnvD w1 → Calls Tryz.prog 73 #[.agg #[.bool dn, .int .i8 ds, .int .u64 DC], .agg #[.bool en, .int .i8 es, .int .u64 EC], .int .i64 0] w1 (PX P w1)) :
  Calls Tryz.prog 44 #[.agg #[.bool dn, .int .i8 ds, .int .u64 DC], .agg #[.bool en, .int .i8 es, .int .u64 EC]] w (PX P w) := by
 have HAA := hid HA
 have HE := hid he
 clear HA he
 obtain ⟨HB, HBX, HC0, hk⟩ := bx3 w dn ds DC en es EC
 obtain ⟨d0, d1, d2, e0, e1, e2, r0, r1, r2, q0, q1, q2⟩ := HB.out _ (hk)
 go_enter Tryz.func44, Tryz.ntmps44
 go_wp2_with (go_at_call 73; refine (HAA.out _ (HE.out.kept (HC0.out.trans hk sb_))).mono ?_; intro e w1 h; obtain ⟨na, nb, nc, nv, he1, hc1, hp⟩ := h.op; subst he1; replace hk := hk.trans hc1 sb_; clear h hc1; have HP := hid hp; clear hp; clear d0 d1 d2 e0 e1 e2 r0 r1 r2 q0 q1 q2; obtain ⟨d0, d1, d2, e0, e1, e2, r0, r1, r2, q0, q1, q2⟩ := HB.out _ (hk))
 exact bodyPost_ret (v := .tuple #[.agg #[.bool na, .int .i8 nb, .int .u64 nc], nv]) (dec_result rfl _ _ (w.heap.size + 1 + 1) _ _ _ _ 55 rfl rfl (store3 (HBX.out _ hk) _ _ _)) rfl (HP.out.move (chg3 (HC0.out.trans hk sb_) (by omega) _ _ _))
set_option maxHeartbeats 4000000 in
theorem Sub_gen (dn en en2 : Bool) (DC EC : Int) (ds es : Nat) (hEC : Fi EC) (hes : es ≤ 19) (hen : (!en && EC != 0) = en2) (P : Bool → Option (Nat × Nat) → Prop) (w : World) (he : EnvD w)
  (HA : ∀ w1, EnvD w1 → Calls Tryz.prog 62 #[.agg #[.bool dn, .int .i8 ds, .int .u64 DC], .agg #[.bool en2, .int .i8 es, .int .u64 EC], .int .i64 0] w1 (PX P w1)) :
  Calls Tryz.prog 42 #[.agg #[.bool dn, .int .i8 ds, .int .u64 DC], .agg #[.bool en, .int .i8 es, .int .u64 EC]] w (PX P w) := by
 have hn := fun w => Neg_any en EC es hEC hes w
 rw [hen] at hn
 have HN := hid hn
 have HAA := hid HA
 have HE := hid he
 clear HA he hn hEC hes hen
 obtain ⟨HB, HBX, HC0, hk⟩ := bx3 w dn ds DC en es EC
 have HSS := hid (fun w' (h : Chg (fun _ => False) (((w.alloc (.cells #[.bool dn, .int .i8 ds, .int .u64 DC] 55)).alloc (.cells #[.bool en, .int .i8 es, .int .u64 EC] 55)).alloc (.cells #[.bool false, .int .i8 0, .int .u64 0] 55)) w') => (show w'.cell? ⟨w.heap.size, 0, none⟩ = some (.bool dn) ∧ w'.cell? ⟨w.heap.size, 1, none⟩ = some (.int .i8 ds) ∧ w'.cell? ⟨w.heap.size, 2, none⟩ = some (.int .u64 DC) ∧ w'.cell? ⟨w.heap.size + 1, 0, none⟩ = some (.bool en) ∧ w'.cell? ⟨w.heap.size + 1, 1, none⟩ = some (.int .i8 es) ∧ w'.cell? ⟨w.heap.size + 1, 2, none⟩ = some (.int .u64 EC) from ⟨(HB.out _ h).1, (HB.out _ h).2.1, (HB.out _ h).2.2.1, (HB.out _ h).2.2.2.1, (HB.out _ h).2.2.2.2.1, (HB.out _ h).2.2.2.2.2.1⟩))
 have HST := hid (fun w1 x0 x1 x2 h => And.intro (fr_ (w.heap.size + 1 + 1) x0 x1 x2 (HSS.out w1 h).1) (And.intro (fr_ (w.heap.size + 1 + 1) x0 x1 x2 (HSS.out w1 h).2.1) (And.intro (fr_ (w.heap.size + 1 + 1) x0 x1 x2 (HSS.out w1 h).2.2.1) (And.intro (fr_ (w.heap.size + 1 + 1) x0 x1 x2 (HSS.out w1 h).2.2.2.1) (And.intro (fr_ (w.heap.size + 1 + 1) x0 x1 x2 (HSS.out w1 h).2.2.2.2.1) (fr_ (w.heap.size + 1 + 1) x0 x1 x2 (HSS.out w1 h).2.2.2.2.2))))))
 have hk := hk.drew
 go_enter Tryz.func42, Tryz.ntmps42
 go_wp2_with fail
 first | (go_region_held3 (fun w' => w'.cell? ⟨w.heap.size, 0, none⟩ = some (.bool dn) ∧ w'.cell? ⟨w.heap.size, 1, none⟩ = some (.int .i8 ds) ∧ w'.cell? ⟨w.heap.size, 2, none⟩ = some (.int .u64 DC) ∧ w'.cell? ⟨w.heap.size + 1, 0, none⟩ = some (.bool en) ∧ w'.cell? ⟨w.heap.size + 1, 1, none⟩ = some (.int .i8 es) ∧ w'.cell? ⟨w.heap.size + 1, 2, none⟩ = some (.int .u64 EC)) (first | with_reducible exact HSS.out _ hk | with_reducible exact HST.out _ _ _ _ hk | go_keep) (first | (go_at_call 63; refine (HN.out _).mono ?_; intro e w1 h; obtain ⟨he1, hc1⟩ := h; subst he1; replace hk := hk.trans hc1 sb_; clear hc1; obtain ⟨r0, r1, r2, q0, q1, q2⟩ := cell3 (HBX.out _ hk)) | (go_at_call 62; refine (HAA.out _ (HE.out.kept (HC0.out.trans hk sb_))).mono ?_; intro e w1 h; obtain ⟨na, nb, nc, nv, he1, hc1, hp⟩ := h.op; subst he1; replace hk := hk.trans hc1 sb_; clear h hc1; have HP := hid hp; clear hp; obtain ⟨r0, r1, r2, q0, q1, q2⟩ := cell3 (HBX.out _ hk)))) | fail
 all_goals (go_wp2_with fail; refine bodyPost_ret (v := .tuple #[.agg #[.bool na, .int .i8 nb, .int .u64 nc], nv]) (dec_result rfl _ _ (w.heap.size + 1 + 1) _ _ _ _ 55 rfl rfl (store3 (HBX.out _ hk) _ _ _)) rfl (HP.out.move (chg3 (HC0.out.trans hk sb_) (by omega) _ _ _)))
def PO (P : Bool → Option (Nat × Nat) → Prop) (w : World) (e : Ending) (w' : World) : Prop := ∃ sg o, P sg o ∧ e = .returned (fixOut sg o) ∧ Chg (fun _ => False) w w'
theorem fxAdd_idle (p q : Addr) (w : World) : CallsD Tryz.prog 39 #[.pointer (some p), .pointer (some q)] .returning w fun e u' w' => e = .returned (.tuple #[]) ∧ u' = .returning ∧ w' = w := by
 refine callsD_of_wpS Tryz.func39 rfl fun c₀ cs hu => ?_
 apply wpS_seq
 apply wpS_region
 simp [wpOpsS, go_sem, recoverD, hu, Tryz.ntmps39, Exit.thenS]
 refine wpS_cond (t := false) (by simp [Act.eval, Array.replicate]) ?_
 simp only [Bool.false_eq_true, if_false]
 refine wpS_of_wp (wp_skip ?_)
 cases c₀
 simp_all [bodyPostS, results, Tryz.results39]
set_option maxHeartbeats 8000000 in
theorem fxAdd_gen (n1 n2 d1 d2 : Bool) (dc ec ds es : Nat) (hdc : dc < 10 ^ 19) (hec : ec < 10 ^ 19) (hds : ds ≤ 19) (hes : es ≤ 19) (hd1 : (n1 && (dc : Int) != 0) = d1) (hd2 : (n2 && (ec : Int) != 0) = d2) (P : Bool → Option (Nat × Nat) → Prop) (hP : ∀ sg k t, P sg (some (k, t)) → t ≤ 19) (w : World) (he : EnvD w)
  (HS : ∀ w1, EnvD w1 → Calls Tryz.prog 40 #[.agg #[.bool d1, .int .i8 ds, .int .u64 (dc : Int)], .agg #[.bool d2, .int .i8 es, .int .u64 (ec : Int)]] w1 (PX P w1)) :
  Calls Tryz.prog 16 #[.agg #[.bool n1, .int .u64 (dc : Int), .int .i64 (ds : Int)], .agg #[.bool n2, .int .u64 (ec : Int), .int .i64 (es : Int)]] w (PO P w) := by
 have HF1 := hid (fun w => fixed_any n1 d1 (dc : Int) ds (fiN hdc) hds hd1 w)
 have HF2 := hid (fun w => fixed_any n2 d2 (ec : Int) es (fiN hec) hes hd2 w)
 have HE := hid he
 obtain ⟨DC, hDC⟩ : ∃ v : Int, (dc : Int) = v := ⟨_, rfl⟩
 obtain ⟨EC, hEC⟩ : ∃ v : Int, (ec : Int) = v := ⟨_, rfl⟩
 rw [hDC] at HF1
 rw [hEC] at HF2
 rw [hDC, hEC]
 rw [hDC, hEC] at HS
 have HSX := hid HS
 have HPB := hid hP
 clear HS hP hdc hec hds hes hd1 hd2 he hDC hEC
 obtain ⟨HC0, HD, hB0, hB1, hB2, hB3⟩ := box4 w #[.bool n1, .int .u64 DC, .int .i64 ds] 24 #[.bool n2, .int .u64 EC, .int .i64 es] 24 #[.bool false, .int .u64 0, .int .i64 0] 24 #[.int .i64 0] 3
 have HB1 := hid hB1
 have HB2 := hid hB2
 have HB3 := hid hB3
 have hk := Chg.refl (fun _ => False) ((((w.alloc (.cells #[.bool n1, .int .u64 DC, .int .i64 ds] 24)).alloc (.cells #[.bool n2, .int .u64 EC, .int .i64 es] 24)).alloc (.cells #[.bool false, .int .u64 0, .int .i64 0] 24)).alloc (.cells #[.int .i64 0] 3))
 obtain ⟨b0_, b1_, b2_, _, _, _⟩ := cell3 hB0
 clear hB0 hB1 hB2 hB3 HD
 have hmf : ∀ (fn : Fn) (first cap : Array Value) (w : World), (Instr.makeFunc fn first cap).run Tryz.prog w = .ok (.func fn first cap) w := fun _ _ _ _ => rfl
 go_enter_defers Tryz.func16, Tryz.ntmps16
 go_wp2_with (first | (go_at_call_of 32 (Value.agg #[Value.bool n1, Value.int .u64 DC, Value.int .i64 (ds : Int)]); refine (HF1.out _).mono ?_; intro e w1 h; obtain ⟨he, hc⟩ := h; subst he; replace hk := (hk.trans hc sb_).alloc (.cells #[.bool d1, .int .i8 ds, .int .u64 DC] 55); have HG1 := hid (heap_alloc_new w1 (.cells #[.bool d1, .int .i8 ds, .int .u64 DC] 55)); clear hc b0_ b1_ b2_; obtain ⟨e0, e1, e2, _, _, _⟩ := cell3 (kept_heap hk HB1.out)) | (go_at_call_of 32 (Value.agg #[Value.bool n2, Value.int .u64 EC, Value.int .i64 (es : Int)]); refine (HF2.out _).mono ?_; intro e w2 h; obtain ⟨he, hc⟩ := h; subst he; replace hk := (hk.trans hc sb_).alloc (.cells #[.bool d2, .int .i8 es, .int .u64 EC] 55); replace HG1 := hid (kept_heap (hc.alloc (.cells #[.bool d2, .int .i8 es, .int .u64 EC] 55)) HG1.out); have HG2 := hid (heap_alloc_new w2 (.cells #[.bool d2, .int .i8 es, .int .u64 EC] 55)); clear hc e0 e1 e2; obtain ⟨g0, g1, g2, _, _, _⟩ := cell3 HG1.out; obtain ⟨j0, j1, j2, _, _, _⟩ := cell3 HG2.out))
 go_at_call 40
 refine (HSX.out _ (HE.out.kept (HC0.out.trans hk sb_))).mono ?_
 intro e w4 h
 obtain ⟨sg, o, hp, hc, ho⟩ := h
 have HPP := hid hp
 clear hp
 cases o with
 | none =>
  obtain ⟨t3, v3, he⟩ := ho
  have he2 : e = .returned (.tuple #[.agg #[.bool false, .int .i8 0, .int .u64 0], .iface t3 v3]) := he
  clear he
  subst he2
  replace hk := (hk.trans hc sb_).alloc (.cells #[.bool false, .int .i8 0, .int .u64 0] 55)
  clear hc g0 g1 g2 j0 j1 j2
  obtain ⟨r0, r1, r2, q0, q1, q2⟩ := cell3 (kept_heap hk HB2.out)
  obtain ⟨i0, i1⟩ := cell1 (kept_heap hk HB3.out)
  go_wp2_with fail
  refine leaves_cons (f := 39) (args := #[.pointer (some ⟨w.heap.size + 1 + 1, 0, none⟩), .pointer (some ⟨w.heap.size + 1 + 1 + 1, 0, none⟩)]) (by simp) (by simp [go_sem]) ?_
  refine (fxAdd_idle _ _ _).mono ?_
  rintro e u' w'' ⟨rfl, rfl, rfl⟩
  exact ⟨.tuple #[.agg #[.bool false, .int .u64 0, .int .i64 0], .int .i64 1], fix_result rfl _ _ (w.heap.size + 1 + 1) (w.heap.size + 1 + 1 + 1) _ _ _ _ _ _ rfl rfl (fix_far (store3 (kept_heap hk HB2.out) _ _ _) (by omega)) (int_set (fix_near (kept_heap hk HB3.out) (by omega))), ⟨sg, none, HPP.out, rfl, fix_chg (HC0.out.trans hk sb_) (by omega) (by omega)⟩⟩
 | some kt =>
  obtain ⟨k, t⟩ := kt
  have ht := HPB.out _ _ _ HPP.out
  have HFX := hid (fun w => fix_any (sg && (k : Int) != 0) (k : Int) t ht w)
  have he2 : e = .returned (.tuple #[.agg #[.bool (sg && (k : Int) != 0), .int .i8 t, .int .u64 (k : Int)], .nilIface]) := ho
  clear ho ht
  obtain ⟨nb, hnb⟩ : ∃ b, (sg && (k : Int) != 0) = b := ⟨_, rfl⟩
  have HNB := hid hnb
  obtain ⟨K, hK⟩ : ∃ v : Int, (k : Int) = v := ⟨_, rfl⟩
  have HK := hid hK
  rw [hnb, hK] at he2 HFX
  subst he2
  clear hnb hK
  replace hk := (hk.trans hc sb_).alloc (.cells #[.bool nb, .int .i8 t, .int .u64 K] 55)
  clear hc g0 g1 g2 j0 j1 j2
  go_wp2_with (go_at_call 34; refine (HFX.out _).mono ?_; intro e w5 h; obtain ⟨he, hc⟩ := h; subst he; replace hk := hk.trans hc sb_; clear hc; obtain ⟨r0, r1, r2, q0, q1, q2⟩ := cell3 (kept_heap hk HB2.out); obtain ⟨i0, i1⟩ := cell1 (kept_heap hk HB3.out))
  refine leaves_cons (f := 39) (args := #[.pointer (some ⟨w.heap.size + 1 + 1, 0, none⟩), .pointer (some ⟨w.heap.size + 1 + 1 + 1, 0, none⟩)]) (by simp) (by simp [go_sem]) ?_
  refine (fxAdd_idle _ _ _).mono ?_
  rintro e u' w'' ⟨rfl, rfl, rfl⟩
  exact ⟨.tuple #[.agg #[.bool nb, .int .u64 K, .int .i64 t], .int .i64 0], fix_result rfl _ _ (w.heap.size + 1 + 1) (w.heap.size + 1 + 1 + 1) _ _ _ _ _ _ rfl rfl (fix_far (store3 (kept_heap hk HB2.out) _ _ _) (by omega)) (int_set (fix_near (kept_heap hk HB3.out) (by omega))), ⟨sg, some (k, t), HPP.out, by rw [← HNB.out, ← HK.out]; rfl, fix_chg (HC0.out.trans hk sb_) (by omega) (by omega)⟩⟩
theorem fxSub_idle (p q : Addr) (w : World) : CallsD Tryz.prog 41 #[.pointer (some p), .pointer (some q)] .returning w fun e u' w' => e = .returned (.tuple #[]) ∧ u' = .returning ∧ w' = w := by
 refine callsD_of_wpS Tryz.func41 rfl fun c₀ cs hu => ?_
 apply wpS_seq
 apply wpS_region
 simp [wpOpsS, go_sem, recoverD, hu, Tryz.ntmps41, Exit.thenS]
 refine wpS_cond (t := false) (by simp [Act.eval, Array.replicate]) ?_
 simp only [Bool.false_eq_true, if_false]
 refine wpS_of_wp (wp_skip ?_)
 cases c₀
 simp_all [bodyPostS, results, Tryz.results41]
set_option maxHeartbeats 8000000 in
theorem fxSub_gen (n1 n2 d1 d2 : Bool) (dc ec ds es : Nat) (hdc : dc < 10 ^ 19) (hec : ec < 10 ^ 19) (hds : ds ≤ 19) (hes : es ≤ 19) (hd1 : (n1 && (dc : Int) != 0) = d1) (hd2 : (n2 && (ec : Int) != 0) = d2) (P : Bool → Option (Nat × Nat) → Prop) (hP : ∀ sg k t, P sg (some (k, t)) → t ≤ 19) (w : World) (he : EnvD w)
  (HS : ∀ w1, EnvD w1 → Calls Tryz.prog 42 #[.agg #[.bool d1, .int .i8 ds, .int .u64 (dc : Int)], .agg #[.bool d2, .int .i8 es, .int .u64 (ec : Int)]] w1 (PX P w1)) :
  Calls Tryz.prog 17 #[.agg #[.bool n1, .int .u64 (dc : Int), .int .i64 (ds : Int)], .agg #[.bool n2, .int .u64 (ec : Int), .int .i64 (es : Int)]] w (PO P w) := by
 have HF1 := hid (fun w => fixed_any n1 d1 (dc : Int) ds (fiN hdc) hds hd1 w)
 have HF2 := hid (fun w => fixed_any n2 d2 (ec : Int) es (fiN hec) hes hd2 w)
 have HE := hid he
 obtain ⟨DC, hDC⟩ : ∃ v : Int, (dc : Int) = v := ⟨_, rfl⟩
 obtain ⟨EC, hEC⟩ : ∃ v : Int, (ec : Int) = v := ⟨_, rfl⟩
 rw [hDC] at HF1
 rw [hEC] at HF2
 rw [hDC, hEC]
 rw [hDC, hEC] at HS
 have HSX := hid HS
 have HPB := hid hP
 clear HS hP hdc hec hds hes hd1 hd2 he hDC hEC
 obtain ⟨HC0, HD, hB0, hB1, hB2, hB3⟩ := box4 w #[.bool n1, .int .u64 DC, .int .i64 ds] 24 #[.bool n2, .int .u64 EC, .int .i64 es] 24 #[.bool false, .int .u64 0, .int .i64 0] 24 #[.int .i64 0] 3
 have HB1 := hid hB1
 have HB2 := hid hB2
 have HB3 := hid hB3
 have hk := Chg.refl (fun _ => False) ((((w.alloc (.cells #[.bool n1, .int .u64 DC, .int .i64 ds] 24)).alloc (.cells #[.bool n2, .int .u64 EC, .int .i64 es] 24)).alloc (.cells #[.bool false, .int .u64 0, .int .i64 0] 24)).alloc (.cells #[.int .i64 0] 3))
 obtain ⟨b0_, b1_, b2_, _, _, _⟩ := cell3 hB0
 clear hB0 hB1 hB2 hB3 HD
 have hmf : ∀ (fn : Fn) (first cap : Array Value) (w : World), (Instr.makeFunc fn first cap).run Tryz.prog w = .ok (.func fn first cap) w := fun _ _ _ _ => rfl
 go_enter_defers Tryz.func17, Tryz.ntmps17
 go_wp2_with (first | (go_at_call_of 32 (Value.agg #[Value.bool n1, Value.int .u64 DC, Value.int .i64 (ds : Int)]); refine (HF1.out _).mono ?_; intro e w1 h; obtain ⟨he, hc⟩ := h; subst he; replace hk := (hk.trans hc sb_).alloc (.cells #[.bool d1, .int .i8 ds, .int .u64 DC] 55); have HG1 := hid (heap_alloc_new w1 (.cells #[.bool d1, .int .i8 ds, .int .u64 DC] 55)); clear hc b0_ b1_ b2_; obtain ⟨e0, e1, e2, _, _, _⟩ := cell3 (kept_heap hk HB1.out)) | (go_at_call_of 32 (Value.agg #[Value.bool n2, Value.int .u64 EC, Value.int .i64 (es : Int)]); refine (HF2.out _).mono ?_; intro e w2 h; obtain ⟨he, hc⟩ := h; subst he; replace hk := (hk.trans hc sb_).alloc (.cells #[.bool d2, .int .i8 es, .int .u64 EC] 55); replace HG1 := hid (kept_heap (hc.alloc (.cells #[.bool d2, .int .i8 es, .int .u64 EC] 55)) HG1.out); have HG2 := hid (heap_alloc_new w2 (.cells #[.bool d2, .int .i8 es, .int .u64 EC] 55)); clear hc e0 e1 e2; obtain ⟨g0, g1, g2, _, _, _⟩ := cell3 HG1.out; obtain ⟨j0, j1, j2, _, _, _⟩ := cell3 HG2.out))
 go_at_call 42
 refine (HSX.out _ (HE.out.kept (HC0.out.trans hk sb_))).mono ?_
 intro e w4 h
 obtain ⟨sg, o, hp, hc, ho⟩ := h
 have HPP := hid hp
 clear hp
 cases o with
 | none =>
  obtain ⟨t3, v3, he⟩ := ho
  have he2 : e = .returned (.tuple #[.agg #[.bool false, .int .i8 0, .int .u64 0], .iface t3 v3]) := he
  clear he
  subst he2
  replace hk := (hk.trans hc sb_).alloc (.cells #[.bool false, .int .i8 0, .int .u64 0] 55)
  clear hc g0 g1 g2 j0 j1 j2
  obtain ⟨r0, r1, r2, q0, q1, q2⟩ := cell3 (kept_heap hk HB2.out)
  obtain ⟨i0, i1⟩ := cell1 (kept_heap hk HB3.out)
  go_wp2_with fail
  refine leaves_cons (f := 41) (args := #[.pointer (some ⟨w.heap.size + 1 + 1, 0, none⟩), .pointer (some ⟨w.heap.size + 1 + 1 + 1, 0, none⟩)]) (by simp) (by simp [go_sem]) ?_
  refine (fxSub_idle _ _ _).mono ?_
  rintro e u' w'' ⟨rfl, rfl, rfl⟩
  exact ⟨.tuple #[.agg #[.bool false, .int .u64 0, .int .i64 0], .int .i64 1], fix_result rfl _ _ (w.heap.size + 1 + 1) (w.heap.size + 1 + 1 + 1) _ _ _ _ _ _ rfl rfl (fix_far (store3 (kept_heap hk HB2.out) _ _ _) (by omega)) (int_set (fix_near (kept_heap hk HB3.out) (by omega))), ⟨sg, none, HPP.out, rfl, fix_chg (HC0.out.trans hk sb_) (by omega) (by omega)⟩⟩
 | some kt =>
  obtain ⟨k, t⟩ := kt
  have ht := HPB.out _ _ _ HPP.out
  have HFX := hid (fun w => fix_any (sg && (k : Int) != 0) (k : Int) t ht w)
  have he2 : e = .returned (.tuple #[.agg #[.bool (sg && (k : Int) != 0), .int .i8 t, .int .u64 (k : Int)], .nilIface]) := ho
  clear ho ht
  obtain ⟨nb, hnb⟩ : ∃ b, (sg && (k : Int) != 0) = b := ⟨_, rfl⟩
  have HNB := hid hnb
  obtain ⟨K, hK⟩ : ∃ v : Int, (k : Int) = v := ⟨_, rfl⟩
  have HK := hid hK
  rw [hnb, hK] at he2 HFX
  subst he2
  clear hnb hK
  replace hk := (hk.trans hc sb_).alloc (.cells #[.bool nb, .int .i8 t, .int .u64 K] 55)
  clear hc g0 g1 g2 j0 j1 j2
  go_wp2_with (go_at_call 34; refine (HFX.out _).mono ?_; intro e w5 h; obtain ⟨he, hc⟩ := h; subst he; replace hk := hk.trans hc sb_; clear hc; obtain ⟨r0, r1, r2, q0, q1, q2⟩ := cell3 (kept_heap hk HB2.out); obtain ⟨i0, i1⟩ := cell1 (kept_heap hk HB3.out))
  refine leaves_cons (f := 41) (args := #[.pointer (some ⟨w.heap.size + 1 + 1, 0, none⟩), .pointer (some ⟨w.heap.size + 1 + 1 + 1, 0, none⟩)]) (by simp) (by simp [go_sem]) ?_
  refine (fxSub_idle _ _ _).mono ?_
  rintro e u' w'' ⟨rfl, rfl, rfl⟩
  exact ⟨.tuple #[.agg #[.bool nb, .int .u64 K, .int .i64 t], .int .i64 0], fix_result rfl _ _ (w.heap.size + 1 + 1) (w.heap.size + 1 + 1 + 1) _ _ _ _ _ _ rfl rfl (fix_far (store3 (kept_heap hk HB2.out) _ _ _) (by omega)) (int_set (fix_near (kept_heap hk HB3.out) (by omega))), ⟨sg, some (k, t), HPP.out, by rw [← HNB.out, ← HK.out]; rfl, fix_chg (HC0.out.trans hk sb_) (by omega) (by omega)⟩⟩
theorem fxMul_idle (p q : Addr) (w : World) : CallsD Tryz.prog 43 #[.pointer (some p), .pointer (some q)] .returning w fun e u' w' => e = .returned (.tuple #[]) ∧ u' = .returning ∧ w' = w := by
 refine callsD_of_wpS Tryz.func43 rfl fun c₀ cs hu => ?_
 apply wpS_seq
 apply wpS_region
 simp [wpOpsS, go_sem, recoverD, hu, Tryz.ntmps43, Exit.thenS]
 refine wpS_cond (t := false) (by simp [Act.eval, Array.replicate]) ?_
 simp only [Bool.false_eq_true, if_false]
 refine wpS_of_wp (wp_skip ?_)
 cases c₀
 simp_all [bodyPostS, results, Tryz.results43]
set_option maxHeartbeats 8000000 in
theorem fxMul_gen (n1 n2 d1 d2 : Bool) (dc ec ds es : Nat) (hdc : dc < 10 ^ 19) (hec : ec < 10 ^ 19) (hds : ds ≤ 19) (hes : es ≤ 19) (hd1 : (n1 && (dc : Int) != 0) = d1) (hd2 : (n2 && (ec : Int) != 0) = d2) (P : Bool → Option (Nat × Nat) → Prop) (hP : ∀ sg k t, P sg (some (k, t)) → t ≤ 19) (w : World) (he : EnvD w)
  (HS : ∀ w1, EnvD w1 → Calls Tryz.prog 44 #[.agg #[.bool d1, .int .i8 ds, .int .u64 (dc : Int)], .agg #[.bool d2, .int .i8 es, .int .u64 (ec : Int)]] w1 (PX P w1)) :
  Calls Tryz.prog 18 #[.agg #[.bool n1, .int .u64 (dc : Int), .int .i64 (ds : Int)], .agg #[.bool n2, .int .u64 (ec : Int), .int .i64 (es : Int)]] w (PO P w) := by
 have HF1 := hid (fun w => fixed_any n1 d1 (dc : Int) ds (fiN hdc) hds hd1 w)
 have HF2 := hid (fun w => fixed_any n2 d2 (ec : Int) es (fiN hec) hes hd2 w)
 have HE := hid he
 obtain ⟨DC, hDC⟩ : ∃ v : Int, (dc : Int) = v := ⟨_, rfl⟩
 obtain ⟨EC, hEC⟩ : ∃ v : Int, (ec : Int) = v := ⟨_, rfl⟩
 rw [hDC] at HF1
 rw [hEC] at HF2
 rw [hDC, hEC]
 rw [hDC, hEC] at HS
 have HSX := hid HS
 have HPB := hid hP
 clear HS hP hdc hec hds hes hd1 hd2 he hDC hEC
 obtain ⟨HC0, HD, hB0, hB1, hB2, hB3⟩ := box4 w #[.bool n1, .int .u64 DC, .int .i64 ds] 24 #[.bool n2, .int .u64 EC, .int .i64 es] 24 #[.bool false, .int .u64 0, .int .i64 0] 24 #[.int .i64 0] 3
 have HB1 := hid hB1
 have HB2 := hid hB2
 have HB3 := hid hB3
 have hk := Chg.refl (fun _ => False) ((((w.alloc (.cells #[.bool n1, .int .u64 DC, .int .i64 ds] 24)).alloc (.cells #[.bool n2, .int .u64 EC, .int .i64 es] 24)).alloc (.cells #[.bool false, .int .u64 0, .int .i64 0] 24)).alloc (.cells #[.int .i64 0] 3))
 obtain ⟨b0_, b1_, b2_, _, _, _⟩ := cell3 hB0
 clear hB0 hB1 hB2 hB3 HD
 have hmf : ∀ (fn : Fn) (first cap : Array Value) (w : World), (Instr.makeFunc fn first cap).run Tryz.prog w = .ok (.func fn first cap) w := fun _ _ _ _ => rfl
 go_enter_defers Tryz.func18, Tryz.ntmps18
 go_wp2_with (first | (go_at_call_of 32 (Value.agg #[Value.bool n1, Value.int .u64 DC, Value.int .i64 (ds : Int)]); refine (HF1.out _).mono ?_; intro e w1 h; obtain ⟨he, hc⟩ := h; subst he; replace hk := (hk.trans hc sb_).alloc (.cells #[.bool d1, .int .i8 ds, .int .u64 DC] 55); have HG1 := hid (heap_alloc_new w1 (.cells #[.bool d1, .int .i8 ds, .int .u64 DC] 55)); clear hc b0_ b1_ b2_; obtain ⟨e0, e1, e2, _, _, _⟩ := cell3 (kept_heap hk HB1.out)) | (go_at_call_of 32 (Value.agg #[Value.bool n2, Value.int .u64 EC, Value.int .i64 (es : Int)]); refine (HF2.out _).mono ?_; intro e w2 h; obtain ⟨he, hc⟩ := h; subst he; replace hk := (hk.trans hc sb_).alloc (.cells #[.bool d2, .int .i8 es, .int .u64 EC] 55); replace HG1 := hid (kept_heap (hc.alloc (.cells #[.bool d2, .int .i8 es, .int .u64 EC] 55)) HG1.out); have HG2 := hid (heap_alloc_new w2 (.cells #[.bool d2, .int .i8 es, .int .u64 EC] 55)); clear hc e0 e1 e2; obtain ⟨g0, g1, g2, _, _, _⟩ := cell3 HG1.out; obtain ⟨j0, j1, j2, _, _, _⟩ := cell3 HG2.out))
 go_at_call 44
 refine (HSX.out _ (HE.out.kept (HC0.out.trans hk sb_))).mono ?_
 intro e w4 h
 obtain ⟨sg, o, hp, hc, ho⟩ := h
 have HPP := hid hp
 clear hp
 cases o with
 | none =>
  obtain ⟨t3, v3, he⟩ := ho
  have he2 : e = .returned (.tuple #[.agg #[.bool false, .int .i8 0, .int .u64 0], .iface t3 v3]) := he
  clear he
  subst he2
  replace hk := (hk.trans hc sb_).alloc (.cells #[.bool false, .int .i8 0, .int .u64 0] 55)
  clear hc g0 g1 g2 j0 j1 j2
  obtain ⟨r0, r1, r2, q0, q1, q2⟩ := cell3 (kept_heap hk HB2.out)
  obtain ⟨i0, i1⟩ := cell1 (kept_heap hk HB3.out)
  go_wp2_with fail
  refine leaves_cons (f := 43) (args := #[.pointer (some ⟨w.heap.size + 1 + 1, 0, none⟩), .pointer (some ⟨w.heap.size + 1 + 1 + 1, 0, none⟩)]) (by simp) (by simp [go_sem]) ?_
  refine (fxMul_idle _ _ _).mono ?_
  rintro e u' w'' ⟨rfl, rfl, rfl⟩
  exact ⟨.tuple #[.agg #[.bool false, .int .u64 0, .int .i64 0], .int .i64 1], fix_result rfl _ _ (w.heap.size + 1 + 1) (w.heap.size + 1 + 1 + 1) _ _ _ _ _ _ rfl rfl (fix_far (store3 (kept_heap hk HB2.out) _ _ _) (by omega)) (int_set (fix_near (kept_heap hk HB3.out) (by omega))), ⟨sg, none, HPP.out, rfl, fix_chg (HC0.out.trans hk sb_) (by omega) (by omega)⟩⟩
 | some kt =>
  obtain ⟨k, t⟩ := kt
  have ht := HPB.out _ _ _ HPP.out
  have HFX := hid (fun w => fix_any (sg && (k : Int) != 0) (k : Int) t ht w)
  have he2 : e = .returned (.tuple #[.agg #[.bool (sg && (k : Int) != 0), .int .i8 t, .int .u64 (k : Int)], .nilIface]) := ho
  clear ho ht
  obtain ⟨nb, hnb⟩ : ∃ b, (sg && (k : Int) != 0) = b := ⟨_, rfl⟩
  have HNB := hid hnb
  obtain ⟨K, hK⟩ : ∃ v : Int, (k : Int) = v := ⟨_, rfl⟩
  have HK := hid hK
  rw [hnb, hK] at he2 HFX
  subst he2
  clear hnb hK
  replace hk := (hk.trans hc sb_).alloc (.cells #[.bool nb, .int .i8 t, .int .u64 K] 55)
  clear hc g0 g1 g2 j0 j1 j2
  go_wp2_with (go_at_call 34; refine (HFX.out _).mono ?_; intro e w5 h; obtain ⟨he, hc⟩ := h; subst he; replace hk := hk.trans hc sb_; clear hc; obtain ⟨r0, r1, r2, q0, q1, q2⟩ := cell3 (kept_heap hk HB2.out); obtain ⟨i0, i1⟩ := cell1 (kept_heap hk HB3.out))
  refine leaves_cons (f := 43) (args := #[.pointer (some ⟨w.heap.size + 1 + 1, 0, none⟩), .pointer (some ⟨w.heap.size + 1 + 1 + 1, 0, none⟩)]) (by simp) (by simp [go_sem]) ?_
  refine (fxMul_idle _ _ _).mono ?_
  rintro e u' w'' ⟨rfl, rfl, rfl⟩
  exact ⟨.tuple #[.agg #[.bool nb, .int .u64 K, .int .i64 t], .int .i64 0], fix_result rfl _ _ (w.heap.size + 1 + 1) (w.heap.size + 1 + 1 + 1) _ _ _ _ _ _ rfl rfl (fix_far (store3 (kept_heap hk HB2.out) _ _ _) (by omega)) (int_set (fix_near (kept_heap hk HB3.out) (by omega))), ⟨sg, some (k, t), HPP.out, by rw [← HNB.out, ← HK.out]; rfl, fix_chg (HC0.out.trans hk sb_) (by omega) (by omega)⟩⟩
end Go.Proofs.YtbjhnckboimliaaGreatDoor
namespace Go.Proofs.YtbjhnckboimliaaGreatDoor
set_option linter.unusedVariables false
theorem room_congr {E : Nat} {f g : Nat → Nat} : ∀ {k : Nat}, (∀ n, n ≤ k → f n = g n) → room E f k = room E g k
 | 0, h => by unfold room; rw [h 0 (Nat.le_refl _)]
 | k + 1, h => by unfold room; rw [h (k + 1) (Nat.le_refl _), room_congr (fun n hn => h n (by omega))]
end Go.Proofs.YtbjhnckboimliaaGreatDoor
namespace Go.Proofs.YtbjhnckboimliaaGreatDoor
open Go.RowKit
set_option linter.unusedVariables false
def From0 (neg : Bool) (C S : Nat) (sg : Bool) (o : Option (Nat × Nat)) : Prop := sg = neg ∧ o = from19 (10 ^ 19) 2 C S 0
theorem From0.places {neg : Bool} {C S : Nat} {sg : Bool} {k t : Nat} (h : From0 neg C S sg (some (k, t))) : t ≤ 19 := (from19_bd (by omega) h.2.symm).1
theorem padd_px {w w' : World} {dn en : Bool} {dc ds ec es : Nat} {e : Ending} (h : PAdd w dn dc ds en ec es 0 e w') : PX (From0 (sumD dn dc ds en ec es).1 (sumD dn dc ds en ec es).2 (mxp ds es)) w e w' := by
 unfold PAdd at h
 rw [if_neg (by omega)] at h
 exact ⟨_, _, ⟨rfl, rfl⟩, h⟩
theorem FixAdd_any (n1 n2 d1 d2 : Bool) (dc ec ds es : Nat) (hdc : dc < 10 ^ 19) (hec : ec < 10 ^ 19) (hds : ds ≤ 19) (hes : es ≤ 19) (hd1 : (n1 && dc != 0) = d1) (hd2 : (n2 && ec != 0) = d2) (w : World) (he : EnvD w) :
  Calls Tryz.prog 16 #[.agg #[.bool n1, .int .u64 (dc : Int), .int .i64 (ds : Int)], .agg #[.bool n2, .int .u64 (ec : Int), .int .i64 (es : Int)]] w (PO (From0 (sumD d1 dc ds d2 ec es).1 (sumD d1 dc ds d2 ec es).2 (mxp ds es)) w) :=
 fxAdd_gen n1 n2 d1 d2 dc ec ds es hdc hec hds hes (by rw [nat_bne]; exact hd1) (by rw [nat_bne]; exact hd2) _ (fun _ _ _ h => h.places) w he
  (fun w1 he1 => (Add_any d1 d2 dc ec ds es hdc hec hds hes w1 he1).mono (fun _ _ h => padd_px h))
theorem FixSub_any (n1 n2 d1 d2 e2 : Bool) (dc ec ds es : Nat) (hdc : dc < 10 ^ 19) (hec : ec < 10 ^ 19) (hds : ds ≤ 19) (hes : es ≤ 19) (hd1 : (n1 && dc != 0) = d1) (hd2 : (n2 && ec != 0) = d2) (he2 : (!d2 && ec != 0) = e2) (w : World) (he : EnvD w) :
  Calls Tryz.prog 17 #[.agg #[.bool n1, .int .u64 (dc : Int), .int .i64 (ds : Int)], .agg #[.bool n2, .int .u64 (ec : Int), .int .i64 (es : Int)]] w (PO (From0 (sumD d1 dc ds e2 ec es).1 (sumD d1 dc ds e2 ec es).2 (mxp ds es)) w) :=
 fxSub_gen n1 n2 d1 d2 dc ec ds es hdc hec hds hes (by rw [nat_bne]; exact hd1) (by rw [nat_bne]; exact hd2) _ (fun _ _ _ h => h.places) w he
  (fun w1 he1 => Sub_gen d1 d2 e2 _ _ _ _ (fiN hec) hes (by rw [nat_bne]; exact he2) _ w1 he1 (fun w2 h2 => (AddExact_all d1 e2 dc ec ds es 0 hdc hec hds hes w2 h2).mono (fun _ _ h => padd_px h)))
theorem FixMul_any (n1 n2 d1 d2 : Bool) (dc ec ds es : Nat) (hdc : dc < 10 ^ 19) (hec : ec < 10 ^ 19) (hds : ds ≤ 19) (hes : es ≤ 19) (hd1 : (n1 && dc != 0) = d1) (hd2 : (n2 && ec != 0) = d2) (w : World) (he : EnvD w) :
  Calls Tryz.prog 18 #[.agg #[.bool n1, .int .u64 (dc : Int), .int .i64 (ds : Int)], .agg #[.bool n2, .int .u64 (ec : Int), .int .i64 (es : Int)]] w (PO (From0 (d1 != d2) (dc * ec) (ds + es)) w) := by
 refine fxMul_gen n1 n2 d1 d2 dc ec ds es hdc hec hds hes (by rw [nat_bne]; exact hd1) (by rw [nat_bne]; exact hd2) _ (fun _ _ _ h => h.places) w he
  (fun w1 he1 => Mul_gen _ _ _ _ _ _ _ w1 he1 (fun w2 h2 => ?_))
 refine mulEx_in d1 d2 dc ec ds es 0 (by omega) hdc hec hds hes _ (fun sg o => o = none ∨ From0 (d1 != d2) (dc * ec) (ds + es) sg o) w2 h2 (fun sg k t h => h.resolve_left (by simp)) ?_ ?_
 ·intro w3 h3
  refine mulFint_gen d1 d2 (d1 != d2) dc ec ds es 0 hdc hec hds hes rfl _ w3 h3 (fun hX w4 h4 => ?_) (.inl rfl)
  refine (newFromFint_all (d1 != d2) ((dc * ec : Nat) : Int) (ds + es) 0 (fiN hX) (by omega) (by omega) w4 h4).mono (fun e w' h => ?_)
  obtain ⟨hc, h | ⟨k, t, h1, h5⟩⟩ := PFE.of hX (by omega) h
  ·exact ⟨false, none, .inl rfl, hc, h⟩
  ·exact ⟨_, some (k, t), .inr ⟨rfl, h1.symm⟩, hc, h5⟩
 ·exact fun w3 h3 => (mulBint_any d1 d2 (d1 != d2) dc ec ds es 0 hdc hec hds hes (by omega) rfl w3 h3).mono (fun e w' h => ⟨_, _, ⟨rfl, rfl⟩, h⟩)
end Go.Proofs.YtbjhnckboimliaaGreatDoor
namespace Go.Proofs.YtbjhnckboimliaaGreatDoor
open Go.RowKit
set_option linter.unusedVariables false
set_option linter.unusedSimpArgs false
set_option maxRecDepth 20000
theorem fixOut_none {out f : Value} {sg : Bool} {o : Option (Nat × Nat)} (h : o = none) (hv : fixOut sg o = .tuple #[out, f]) : out = .agg #[.bool false, .int .u64 0, .int .i64 0] ∧ f = .int .i64 1 := by
 subst h
 unfold fixOut at hv
 simp only [Value.tuple.injEq, Array.mk.injEq, List.cons.injEq, and_true] at hv
 exact ⟨hv.1.symm, hv.2.symm⟩
theorem fixOut_some {out f : Value} {sg : Bool} {k t : Nat} (hv : fixOut sg (some (k, t)) = .tuple #[out, f]) : out = .agg #[.bool (sg && k != 0), .int .u64 (k : Int), .int .i64 (t : Int)] ∧ f = .int .i64 0 := by
 unfold fixOut at hv
 simp only [Value.tuple.injEq, Array.mk.injEq, List.cons.injEq, and_true] at hv
 rw [nat_bne] at hv
 exact ⟨hv.1.symm, hv.2.symm⟩
set_option maxHeartbeats 2000000 in
theorem plcIs_one (b sb : Bool) (v s p : Int) (A X : Option Addr) (n c k l : Nat) (w : World) :
  Calls Tryz.prog 14 #[.agg #[.bool b, .int .u64 v, .int .i64 s], .int .i64 1, .agg #[.bool sb, .slice A n c, .slice X k l], .int .i64 p] w (PV w (.bool true)) := by
 have hk := ((Chg.refl (fun _ => False) w).alloc (.cells #[.bool b, .int .u64 v, .int .i64 s] 24)).alloc (.cells #[.bool sb, .slice A n c, .slice X k l] 34)
 go_enter Tryz.func14, Tryz.ntmps14
 go_wp2_with fail
 go_region
 all_goals (go_wp2_with fail; go_ret; exact ⟨rfl, hk.drew⟩)
set_option maxHeartbeats 2000000 in
theorem plcIs_zero (b sb : Bool) (v s p R : Int) (A X : Option Addr) (n c k l : Nat) (w : World) (hs : s = min p R)
  (HR : ∀ w1, Chg (fun _ => False) w w1 → Calls Tryz.prog 15 #[.agg #[.bool sb, .slice A n c, .slice X k l]] w1 (PV w1 (.int .i64 R))) :
  Calls Tryz.prog 14 #[.agg #[.bool b, .int .u64 v, .int .i64 s], .int .i64 0, .agg #[.bool sb, .slice A n c, .slice X k l], .int .i64 p] w (PV w (.bool true)) := by
 have HRM := hid HR
 have hse : (s == min p R) = true := beq_iff_eq.2 hs
 have hse2 : (min p R == s) = true := beq_iff_eq.2 hs.symm
 clear hs HR
 have hk := ((Chg.refl (fun _ => False) w).alloc (.cells #[.bool b, .int .u64 v, .int .i64 s] 24)).alloc (.cells #[.bool sb, .slice A n c, .slice X k l] 34)
 obtain ⟨HC0, HD, hB0, hB1⟩ := box2 w #[.bool b, .int .u64 v, .int .i64 s] 24 #[.bool sb, .slice A n c, .slice X k l] 34
 have HSS := hid (fun (w1 : World) h => d3_ (cell3 (kept_heap (w' := w1) h hB0)) (c3_ (cell3 (kept_heap (w' := w1) h hB1))))
 clear hB0 hB1 HD hk
 have hk := Chg.refl (fun _ => False) ((w.alloc (.cells #[.bool b, .int .u64 v, .int .i64 s] 24)).alloc (.cells #[.bool sb, .slice A n c, .slice X k l] 34))
 obtain ⟨d00_, d01_, d02_, d10_, d11_, d12_⟩ := HSS.out _ hk
 go_enter Tryz.func14, Tryz.ntmps14
 go_wp2_with fail
 have hk := hk.drew
 first | (go_region_held3 (fun w' => w'.cell? ⟨w.heap.size, 0, none⟩ = some (.bool b) ∧ w'.cell? ⟨w.heap.size, 1, none⟩ = some (.int .u64 v) ∧ w'.cell? ⟨w.heap.size, 2, none⟩ = some (.int .i64 s) ∧ w'.cell? ⟨w.heap.size + 1, 0, none⟩ = some (.bool sb) ∧ w'.cell? ⟨w.heap.size + 1, 1, none⟩ = some (.slice A n c) ∧ w'.cell? ⟨w.heap.size + 1, 2, none⟩ = some (.slice X k l)) (first | with_reducible exact HSS.out _ hk) (first | (go_at_call 15; refine (HRM.out _ (HC0.out.trans hk sb_)).mono ?_; intro e w3 h; obtain ⟨he, hc⟩ := h; subst he; replace hk := hk.trans hc sb_; clear hc))) | fail
 all_goals (go_wp2_with fail; go_ret; exact ⟨rfl, HC0.out.trans hk sb_⟩)
theorem plcIs_any {w : World} {A X : Option Addr} {n c k l a x : Nat} (sb ng sg : Bool) (C S : Nat) (o : Option (Nat × Nat)) (b0 : Bool) (c0 s0 f0 p : Int) (ha : SN w A n c a) (hx : SN w X k l x) (ha1 : a < tn 850) (hx1 : x < tn 850) (hx0 : 0 < x)
  (hat : ∀ n, n ≤ 19 → atP a x n = rnd C S n) (ho : From0 ng C S sg o) (hv : fixOut sg o = .tuple #[.agg #[.bool b0, .int .u64 c0, .int .i64 s0], .int .i64 f0]) (hp : p = S) :
  Calls Tryz.prog 14 #[.agg #[.bool b0, .int .u64 c0, .int .i64 s0], .int .i64 f0, .agg #[.bool sb, .slice A n c, .slice X k l], .int .i64 p] w (PV w (.bool true)) := by
 obtain ⟨_, ho⟩ := ho
 cases o with
 | none =>
  obtain ⟨-, h2⟩ := fixOut_none rfl hv
  obtain rfl : f0 = 1 := by simpa using h2
  exact plcIs_one _ _ _ _ _ _ _ _ _ _ _ _
 | some kt =>
  obtain ⟨kk, t⟩ := kt
  obtain ⟨h1, h2⟩ := fixOut_some hv
  obtain rfl : f0 = 0 := by simpa using h2
  have hs : s0 = (t : Int) := by
   simp only [Value.agg.injEq, Array.mk.injEq, List.cons.injEq, Value.int.injEq, true_and, and_true] at h1
   exact h1.2.2
  refine plcIs_zero _ _ _ _ _ (roomI a x) _ _ _ _ _ _ _ ?_ (fun w1 h => Room_any _ (ha.kept h) (hx.kept h) ha1 hx1 ⟨hx0⟩)
  have hrm : room (10 ^ 19) (atP a x) 19 = room (10 ^ 19) (rnd C S) 19 := room_congr hat
  cases hroom : room (10 ^ 19) (rnd C S) 19 with
  | none =>
   have := (from19_right pow19 0 C S 0 (by omega)).1 hroom
   rw [← ho] at this
   cases this
  | some R =>
   rw [roomI_some (hrm.trans hroom), hs, from19_places pow19 ho.symm hroom, hp]
   omega
end Go.Proofs.YtbjhnckboimliaaGreatDoor
namespace Go.Proofs.YtbjhnckboimliaaGreatDoor
open Go.RowKit Go.Proofs.YtbjhnckboimliaaGreatDoorW.PrintWords
set_option linter.unusedVariables false
set_option linter.unusedSimpArgs false
theorem hand_ (w : World) (o : Obj) : (w.alloc o).drew.heap[w.heap.size]? = some o := heap_alloc_new w o
theorem nb_ (w : World) (o : Obj) : (w.alloc o).heap.size = w.heap.size + 1 := by simp
theorem hal2_ (w : World) (o o' : Obj) : ((w.alloc o).alloc o').heap[w.heap.size]? = some o := alloc_old (heap_alloc_new w o)
theorem hal3_ (w : World) (o o' : Obj) : ((w.alloc o).alloc o').heap[w.heap.size + 1]? = some o' := alloc_last (nb_ w o)
theorem hand2_ (w : World) (o o' : Obj) : ((w.alloc o).alloc o').drew.heap[w.heap.size]? = some o := hal2_ w o o'
theorem hand3_ (w : World) (o o' : Obj) : ((w.alloc o).alloc o').drew.heap[w.heap.size + 1]? = some o' := hal3_ w o o'
theorem SN.set3 {w : World} {A : Option Addr} {n c a k : Nat} {b : Bool} {A1 A2 : Option Addr} {l1 c1 l2 c2 : Nat} {T : TypeId} (h : SN w A n c a) (hk : w.heap[k]? = some (.cells #[.bool b, .slice A1 l1 c1, .slice A2 l2 c2] T (0, 0))) (x y z : Value) :
  SN (((w.setCell ⟨k, 0, none⟩ x).setCell ⟨k, 1, none⟩ y).setCell ⟨k, 2, none⟩ z) A n c a := by
 obtain ⟨xs, h1, h2, ⟨e1, e2, h3⟩, h4⟩ := h
 refine ⟨xs, h1, h2, ⟨e1, e2, fun hn => ?_⟩, h4⟩
 obtain ⟨ad, e, hc⟩ := h3 hn
 refine ⟨ad, e, fun j p hp => ?_⟩
 obtain ⟨cs, g1, g2, g3⟩ := hc j p hp
 refine ⟨cs, g1, g2, fun i u hu => ?_⟩
 have g4 := g3 i u hu
 have hcs : cs = [.int .u32 p] := g2
 subst hcs
 have hi : i = 0 := by
  have := (List.getElem?_eq_some_iff.1 hu).1
  simp only [List.length_cons, List.length_nil] at this
  omega
 subst hi
 simp only [List.getElem?_cons_zero, Option.some.injEq] at hu
 subst hu
 have dsz : (Kd.int .u32).sz = 1 := rfl
 generalize ad.add (j * (Kd.int .u32).sz + 0) = q at g4 ⊢
 have hne : q.block ≠ k := by
  intro hb
  unfold World.cell? at g4
  rw [hb, hk] at g4
  have g5 : q.spot.isSome = false := by
   cases hs : q.spot.isSome with
   | false => rfl
   | true => rw [hs] at g4; cases g4
  simp only [g5, Bool.false_eq_true, if_false] at g4
  have hl := (Array.getElem?_eq_some_iff.1 g4).1
  simp only [List.size_toArray, List.length_cons, List.length_nil] at hl
  obtain h | h | h : q.off = 0 ∨ q.off = 1 ∨ q.off = 2 := by omega
  all_goals (rw [h] at g4; cases g4)
 unfold World.cell? at g4 ⊢
 rw [Below.heap_setCell _ _ _ _ (by simpa using hne), Below.heap_setCell _ _ _ _ (by simpa using hne), Below.heap_setCell _ _ _ _ (by simpa using hne)]
 exact g4
def XY (W : World) (d1 d2 : Bool) (C1 T1 C2 T2 : Nat) (v5 v6 : Value) (wx : World) : Prop :=
 ∃ (k5 k6 : Nat) (A1 : Option Addr) (n1 c1 : Nat) (A2 : Option Addr) (n2 c2 : Nat) (B1 : Option Addr) (m1 e1 : Nat) (B2 : Option Addr) (m2 e2 : Nat),
  v5 = .pointer (some ⟨k5, 0, none⟩) ∧ v6 = .pointer (some ⟨k6, 0, none⟩) ∧
  wx.heap[k5]? = some (.cells #[.bool d1, .slice A1 n1 c1, .slice A2 n2 c2] 34 (0, 0)) ∧ wx.heap[k6]? = some (.cells #[.bool d2, .slice B1 m1 e1, .slice B2 m2 e2] 34 (0, 0)) ∧
  SN wx A1 n1 c1 C1 ∧ SN wx A2 n2 c2 T1 ∧ SN wx B1 m1 e1 C2 ∧ SN wx B2 m2 e2 T2 ∧ Chg (fun _ => False) W wx
section
variable {W w : World} {d1 d2 : Bool} {C1 T1 C2 T2 : Nat} {A1 A2 B1 B2 : Option Addr} {n1 c1 n2 c2 m1 e1 m2 e2 : Nat}
 (hA1 : SN w A1 n1 c1 C1) (hA2 : SN w A2 n2 c2 T1) (hB1 : SN w B1 m1 e1 C2) (hB2 : SN w B2 m2 e2 T2) (hk : Chg (fun _ => False) W w)
include hA1 hA2 hB1 hB2 hk
theorem xy_56 : XY W d1 d2 C1 T1 C2 T2 (.pointer (some ⟨w.heap.size, 0, none⟩)) (.pointer (some ⟨w.heap.size + 1, 0, none⟩)) ((w.alloc (.cells #[.bool d1, .slice A1 n1 c1, .slice A2 n2 c2] 34)).alloc (.cells #[.bool d2, .slice B1 m1 e1, .slice B2 m2 e2] 34)) := by
 have h2 := ((Chg.refl (fun _ => False) w).alloc (.cells #[.bool d1, .slice A1 n1 c1, .slice A2 n2 c2] 34)).alloc (.cells #[.bool d2, .slice B1 m1 e1, .slice B2 m2 e2] 34)
 exact ⟨_, _, _, _, _, _, _, _, _, _, _, _, _, _, rfl, rfl, hal2_ _ _ _, hal3_ _ _ _, hA1.kept h2, hA2.kept h2, hB1.kept h2, hB2.kept h2, hk.trans h2 sb_⟩
theorem xy_65 : XY W d1 d2 C1 T1 C2 T2 (.pointer (some ⟨w.heap.size + 1, 0, none⟩)) (.pointer (some ⟨w.heap.size, 0, none⟩)) ((w.alloc (.cells #[.bool d2, .slice B1 m1 e1, .slice B2 m2 e2] 34)).alloc (.cells #[.bool d1, .slice A1 n1 c1, .slice A2 n2 c2] 34)) := by
 have h2 := ((Chg.refl (fun _ => False) w).alloc (.cells #[.bool d2, .slice B1 m1 e1, .slice B2 m2 e2] 34)).alloc (.cells #[.bool d1, .slice A1 n1 c1, .slice A2 n2 c2] 34)
 exact ⟨_, _, _, _, _, _, _, _, _, _, _, _, _, _, rfl, rfl, hal3_ _ _ _, hal2_ _ _ _, hA1.kept h2, hA2.kept h2, hB1.kept h2, hB2.kept h2, hk.trans h2 sb_⟩
theorem xy_e5 {k : Nat} {b : Bool} {E F : Option Addr} {i j p q : Nat} (h5 : w.heap[k]? = some (.cells #[.bool b, .slice E i j, .slice F p q] 34 (0, 0))) (hW : W.heap.size ≤ k) :
  XY W d1 d2 C1 T1 C2 T2 (.pointer (some ⟨k, 0, none⟩)) (.pointer (some ⟨w.heap.size, 0, none⟩)) ((((w.setCell ⟨k, 0, none⟩ (.bool d1)).setCell ⟨k, 1, none⟩ (.slice A1 n1 c1)).setCell ⟨k, 2, none⟩ (.slice A2 n2 c2)).alloc (.cells #[.bool d2, .slice B1 m1 e1, .slice B2 m2 e2] 34)) := by
 have h2 := (Chg.refl (fun _ => False) (((w.setCell ⟨k, 0, none⟩ (.bool d1)).setCell ⟨k, 1, none⟩ (.slice A1 n1 c1)).setCell ⟨k, 2, none⟩ (.slice A2 n2 c2))).alloc (.cells #[.bool d2, .slice B1 m1 e1, .slice B2 m2 e2] 34)
 have hs : (((w.setCell ⟨k, 0, none⟩ (.bool d1)).setCell ⟨k, 1, none⟩ (.slice A1 n1 c1)).setCell ⟨k, 2, none⟩ (.slice A2 n2 c2)).heap.size = w.heap.size := by simp [World.setCell]
 exact ⟨_, _, _, _, _, _, _, _, _, _, _, _, _, _, rfl, rfl, alloc_old (store3 h5 _ _ _), alloc_last hs, (hA1.set3 h5 _ _ _).kept h2, (hA2.set3 h5 _ _ _).kept h2, (hB1.set3 h5 _ _ _).kept h2, (hB2.set3 h5 _ _ _).kept h2, (chg3 hk hW _ _ _).trans h2 sb_⟩
theorem xy_e6 {k : Nat} {b : Bool} {E F : Option Addr} {i j p q : Nat} (h6 : w.heap[k]? = some (.cells #[.bool b, .slice E i j, .slice F p q] 34 (0, 0))) (hW : W.heap.size ≤ k) :
  XY W d1 d2 C1 T1 C2 T2 (.pointer (some ⟨w.heap.size, 0, none⟩)) (.pointer (some ⟨k, 0, none⟩)) ((((w.setCell ⟨k, 0, none⟩ (.bool d2)).setCell ⟨k, 1, none⟩ (.slice B1 m1 e1)).setCell ⟨k, 2, none⟩ (.slice B2 m2 e2)).alloc (.cells #[.bool d1, .slice A1 n1 c1, .slice A2 n2 c2] 34)) := by
 have h2 := (Chg.refl (fun _ => False) (((w.setCell ⟨k, 0, none⟩ (.bool d2)).setCell ⟨k, 1, none⟩ (.slice B1 m1 e1)).setCell ⟨k, 2, none⟩ (.slice B2 m2 e2))).alloc (.cells #[.bool d1, .slice A1 n1 c1, .slice A2 n2 c2] 34)
 have hs : (((w.setCell ⟨k, 0, none⟩ (.bool d2)).setCell ⟨k, 1, none⟩ (.slice B1 m1 e1)).setCell ⟨k, 2, none⟩ (.slice B2 m2 e2)).heap.size = w.heap.size := by simp [World.setCell]
 exact ⟨_, _, _, _, _, _, _, _, _, _, _, _, _, _, rfl, rfl, alloc_last hs, alloc_old (store3 h6 _ _ _), (hA1.set3 h6 _ _ _).kept h2, (hA2.set3 h6 _ _ _).kept h2, (hB1.set3 h6 _ _ _).kept h2, (hB2.set3 h6 _ _ _).kept h2, (chg3 hk hW _ _ _).trans h2 sb_⟩
theorem xy_ee {k l : Nat} {b b' : Bool} {E F E' F' : Option Addr} {i j p q i' j' p' q' : Nat} (h5 : w.heap[k]? = some (.cells #[.bool b, .slice E i j, .slice F p q] 34 (0, 0))) (h6 : w.heap[l]? = some (.cells #[.bool b', .slice E' i' j', .slice F' p' q'] 34 (0, 0))) (hne : k ≠ l) (hW : W.heap.size ≤ k) (hW' : W.heap.size ≤ l) :
  XY W d1 d2 C1 T1 C2 T2 (.pointer (some ⟨k, 0, none⟩)) (.pointer (some ⟨l, 0, none⟩)) ((((((w.setCell ⟨k, 0, none⟩ (.bool d1)).setCell ⟨k, 1, none⟩ (.slice A1 n1 c1)).setCell ⟨k, 2, none⟩ (.slice A2 n2 c2)).setCell ⟨l, 0, none⟩ (.bool d2)).setCell ⟨l, 1, none⟩ (.slice B1 m1 e1)).setCell ⟨l, 2, none⟩ (.slice B2 m2 e2)) := by
 have f : ∀ {w : World} {z y : Nat} (x y' z' : Value), y ≠ z → (((w.setCell ⟨z, 0, none⟩ x).setCell ⟨z, 1, none⟩ y').setCell ⟨z, 2, none⟩ z').heap[y]? = w.heap[y]? := by
  intro w z y x y' z' h
  rw [Below.heap_setCell _ _ _ _ (by simpa using h), Below.heap_setCell _ _ _ _ (by simpa using h), Below.heap_setCell _ _ _ _ (by simpa using h)]
 have h6' := (f (w := w) (.bool d1) (.slice A1 n1 c1) (.slice A2 n2 c2) (Ne.symm hne)).trans h6
 exact ⟨_, _, _, _, _, _, _, _, _, _, _, _, _, _, rfl, rfl, (f _ _ _ hne).trans (store3 h5 _ _ _), store3 h6' _ _ _, (hA1.set3 h5 _ _ _).set3 h6' _ _ _, (hA2.set3 h5 _ _ _).set3 h6' _ _ _, (hB1.set3 h5 _ _ _).set3 h6' _ _ _, (hB2.set3 h5 _ _ _).set3 h6' _ _ _, chg3 (chg3 hk hW _ _ _) hW' _ _ _⟩
end
end Go.Proofs.YtbjhnckboimliaaGreatDoor
namespace Go.Proofs.YtbjhnckboimliaaGreatDoor
open Go.RowKit
set_option linter.unusedVariables false
set_option linter.unusedSimpArgs false
set_option maxRecDepth 20000
set_option maxHeartbeats 4000000 in
theorem FracMul_any {w : World} {A B D1 D2 : Option Addr} {n c m d p1 q1 p2 q2 a b x y : Nat} (n1 n2 sb : Bool) (ha : SN w A n c a) (hx : SN w D1 p1 q1 x) (hb : SN w B m d b) (hy : SN w D2 p2 q2 y)
  (ha1 : a < tn 850) (hb1 : b < tn 850) (hx1 : x < tn 850) (hy1 : y < tn 850) (hsb : ((n1 != n2) && a * b != 0) = sb) :
  Calls Tryz.prog 20 #[.agg #[.bool n1, .slice A n c, .slice D1 p1 q1], .agg #[.bool n2, .slice B m d, .slice D2 p2 q2]] w (PFN w sb (a * b) (x * y)) := by
 have HM1 := hid (fun w1 (h : Chg (fun _ => False) w w1) => WholeMul_any n1 n2 sb (ha.kept h) (hb.kept h) (up240 ha1 (by omega)) (up240 hb1 (by omega)) hsb)
 have HM3 := hid (fun w1 (h : Chg (fun _ => False) w w1) => NatMul_any (hx.kept h) (hy.kept h) (up243 hx1 (by omega)) (up243 hy1 (by omega)))
 obtain ⟨P, hPe⟩ : ∃ P, a * b = P := ⟨_, rfl⟩
 obtain ⟨R, hRe⟩ : ∃ R, x * y = R := ⟨_, rfl⟩
 rw [hPe] at HM1
 rw [hRe] at HM3
 rw [hPe, hRe]
 clear ha hb hx hy ha1 hb1 hx1 hy1 hsb hPe hRe
 obtain ⟨HC0, HD, hB0, hB1, hB2⟩ := box3 w #[.bool n1, .slice A n c, .slice D1 p1 q1] 34 #[.bool n2, .slice B m d, .slice D2 p2 q2] 34 #[.bool false, .slice none 0 0, .slice none 0 0] 34
 have HZ := hid hB2
 have HSS := hid (fun (w1 : World) h => d3_ (cell3 (kept_heap (w' := w1) h hB0)) (c3_ (cell3 (kept_heap (w' := w1) h hB1))))
 have HST := hid (fun w1 x0 x1 x2 h => And.intro (fr_ (w.heap.size + 1 + 1) x0 x1 x2 (HSS.out w1 h).1) (And.intro (fr_ (w.heap.size + 1 + 1) x0 x1 x2 (HSS.out w1 h).2.1) (And.intro (fr_ (w.heap.size + 1 + 1) x0 x1 x2 (HSS.out w1 h).2.2.1) (And.intro (fr_ (w.heap.size + 1 + 1) x0 x1 x2 (HSS.out w1 h).2.2.2.1) (And.intro (fr_ (w.heap.size + 1 + 1) x0 x1 x2 (HSS.out w1 h).2.2.2.2.1) (fr_ (w.heap.size + 1 + 1) x0 x1 x2 (HSS.out w1 h).2.2.2.2.2))))))
 clear hB0 hB1 hB2
 have hk := HD.out
 go_enter Tryz.func20, Tryz.ntmps20
 go_wp2_with fail
 first | (go_region_held3 (fun w' => w'.cell? ⟨w.heap.size, 0, none⟩ = some (.bool n1) ∧ w'.cell? ⟨w.heap.size, 1, none⟩ = some (.slice A n c) ∧ w'.cell? ⟨w.heap.size, 2, none⟩ = some (.slice D1 p1 q1) ∧ w'.cell? ⟨w.heap.size + 1, 0, none⟩ = some (.bool n2) ∧ w'.cell? ⟨w.heap.size + 1, 1, none⟩ = some (.slice B m d) ∧ w'.cell? ⟨w.heap.size + 1, 2, none⟩ = some (.slice D2 p2 q2)) (first | with_reducible exact HSS.out _ hk | with_reducible exact HST.out _ _ _ _ hk | go_keep) (first | (go_at_call 45; refine (HM1.out _ (HC0.out.trans hk sb_)).mono ?_; intro e w1 h; obtain ⟨E1, k1_, l1_, he, hsn, hc⟩ := h; subst he; replace hk := hk.trans hc sb_; (try replace HN1 := hid (HN1.out.kept hc)); (try replace HN3 := hid (HN3.out.kept hc)); have HN1 := hid hsn; clear hsn; clear hc; obtain ⟨k0, k1, k2, f0, f1, f2⟩ := cell3 (kept_heap hk HZ.out)) | (go_at_call 47; refine (HM3.out _ (HC0.out.trans hk sb_)).mono ?_; intro e w1 h; obtain ⟨E3, k3_, l3_, he, hsn, hc⟩ := h; subst he; replace hk := hk.trans hc sb_; (try replace HN1 := hid (HN1.out.kept hc)); (try replace HN3 := hid (HN3.out.kept hc)); have HN3 := hid hsn; clear hsn; clear hc; obtain ⟨k0, k1, k2, f0, f1, f2⟩ := cell3 (kept_heap hk HZ.out)))) | fail
 all_goals (go_wp2_with fail; refine bodyPost_ret (v := .agg #[.bool sb, .slice E1 k1_ l1_, .slice E3 k3_ l3_]) (by rw [results_cell_row rfl _ _ (w.heap.size + 1 + 1) _ _ _ _ rfl (store3 (kept_heap hk HZ.out) _ _ _) Tryz.underlying34 rfl frac_size]) rfl ⟨E1, k1_, l1_, E3, k3_, l3_, rfl, sn_end3 HN1.out (kept_heap hk HZ.out) (by simp) _ _ _, sn_end3 HN3.out (kept_heap hk HZ.out) (by simp) _ _ _, chg3 (HC0.out.trans hk sb_) (by omega) _ _ _⟩)
end Go.Proofs.YtbjhnckboimliaaGreatDoor
