/- Part 22 of the proof. -/
import Derived.Recover
import Derived.Lib.SmallJoins
import Derived.OpenVars
import Derived.Test.YtbjhnckboimliaaGreatDoorChecked
import Derived.Test.YtbjhnckboimliaaGreatDoorP21
namespace Go.Proofs.YtbjhnckboimliaaGreatDoor
open Go.RowKit
set_option linter.unusedVariables false
set_option linter.unusedSimpArgs false
set_option maxRecDepth 20000
theorem addIdle (p q : Addr) (w : World) : CallsD Tryz.prog 39 #[.pointer (some p), .pointer (some q)] .returning w fun e u' w' => e = .returned (.tuple #[]) ∧ u' = .returning ∧ w' = w := by
 refine callsD_of_wpS Tryz.func39 rfl fun c₀ cs hu => ?_
 apply wpS_seq
 apply wpS_region
 simp [wpOpsS, go_sem, recoverD, hu, Tryz.ntmps39, Exit.thenS]
 refine wpS_cond (t := false) (by simp [Act.eval, Array.replicate]) ?_
 simp only [Bool.false_eq_true, if_false]
 refine wpS_of_wp (wp_skip ?_)
 cases c₀
 simp_all [bodyPostS, results, Tryz.results39]
theorem results_two {fn : Func} {p u : Tmp} {ty ty2 : TypeId} (h : fn.results = #[.cell p ty, .cell u ty2]) (tmps : Array Value) (P : Program) (w : World) :
  (results fn tmps).run P w =
   ((asAddr (tmps.getD p undef)).run P w).andThen fun a w₁ => ((loadVar ty a).run P w₁).andThen fun v w₂ => ((asAddr (tmps.getD u undef)).run P w₂).andThen fun a2 w₃ => ((loadVar ty2 a2).run P w₃).andThen fun v2 w₄ => .ok (.tuple #[v, v2]) w₄ := by
 simp only [results, h]
 simp [Sem.run_bind, Result.andThen]
theorem fix_result {fn : Func} {p u : Tmp} (h : fn.results = #[.cell p 24, .cell u 3]) (tmps : Array Value) (w : World) (g g2 : Nat) (a b d v : Value) (T T2 : TypeId)
  (hp : tmps.getD p undef = .pointer (some ⟨g, 0, none⟩)) (hu : tmps.getD u undef = .pointer (some ⟨g2, 0, none⟩)) (hg : w.heap[g]? = some (.cells #[a, b, d] T (0, 0))) (hg2 : w.heap[g2]? = some (.cells #[v] T2 (0, 0))) :
  (results fn tmps).run Tryz.prog w = .ok (.tuple #[.agg #[a, b, d], v]) w := by
 have hl := run_loadVar_row (P := Tryz.prog) w g T 24 #[a, b, d] (0, 0) _ hg Tryz.underlying24 rfl fix_size
 have hc : w.cell? ⟨g2, 0, none⟩ = some v := by simp [World.cell?, hg2]
 have hl2 : (loadVar 3 ⟨g2, 0, none⟩).run Tryz.prog w = .ok v w := by simp [go_sem, hc]
 rw [results_two h, hp, hu]
 simp [asAddr, hl, hl2, Result.andThen]
theorem cell1 {w1 : World} {z : Nat} {x0 : Value} {T : TypeId} (hh : w1.heap[z]? = some (.cells #[x0] T (0, 0))) : w1.cell? ⟨z, 0, none⟩ = some x0 ∧ w1.frozen? ⟨z, 0, none⟩ = false := by
 refine ⟨?_, ?_⟩ <;> simp [World.cell?, World.frozen?, hh]
theorem fix_far {w1 : World} {z y : Nat} {o : Obj} {v : Value} (h : w1.heap[z]? = some o) (hne : z ≠ y) : (w1.setCell ⟨y, 0, none⟩ v).heap[z]? = some o := by
 rw [Below.heap_setCell _ _ _ _ (by simpa using hne)]; exact h
theorem fix_far' {w1 : World} {z y i : Nat} {o : Obj} {v : Value} (h : w1.heap[z]? = some o) (hne : z ≠ y) : (w1.setCell ⟨y, i, none⟩ v).heap[z]? = some o := by
 rw [Below.heap_setCell _ _ _ _ (by simpa using hne)]; exact h
theorem fix_near {w1 : World} {z y : Nat} {o : Obj} {a b c : Value} (h : w1.heap[z]? = some o) (hne : z ≠ y) : (((w1.setCell ⟨y, 0, none⟩ a).setCell ⟨y, 1, none⟩ b).setCell ⟨y, 2, none⟩ c).heap[z]? = some o :=
 fix_far' (fix_far' (fix_far' h hne) hne) hne
theorem int_set {w1 : World} {z : Nat} {x v : Value} {T : TypeId} (h : w1.heap[z]? = some (.cells #[x] T (0, 0))) : (w1.setCell ⟨z, 0, none⟩ v).heap[z]? = some (.cells #[v] T (0, 0)) := by
 simp [World.setCell, Array.getElem?_modify, h]
theorem fix_chg {w w1 : World} {z y : Nat} {a b c v : Value} (h : Chg (fun _ => False) w w1) (hz : w.heap.size ≤ z) (hy : w.heap.size ≤ y) : Chg (fun _ => False) w ((((w1.setCell ⟨z, 0, none⟩ a).setCell ⟨z, 1, none⟩ b).setCell ⟨z, 2, none⟩ c).setCell ⟨y, 0, none⟩ v) :=
 Chg.setCell (p := ⟨y, 0, none⟩) (chg3 h hz a b c) (fun h => by simp only at h; omega) v
def fixOut (n : Bool) (o : Option (Nat × Nat)) : Value := match o with
 | some (k, t) => .tuple #[.agg #[.bool (n && (k : Int) != 0), .int .u64 (k : Int), .int .i64 (t : Int)], .int .i64 0]
 | none => .tuple #[.agg #[.bool false, .int .u64 0, .int .i64 0], .int .i64 1]
set_option maxHeartbeats 2000000 in
theorem Add_any (dn en : Bool) (dc ec ds es : Nat) (hdc : dc < 10 ^ 19) (hec : ec < 10 ^ 19) (hds : ds ≤ 19) (hes : es ≤ 19) (w : World) (he : EnvD w) :
  Calls Tryz.prog 40 #[.agg #[.bool dn, .int .i8 ds, .int .u64 (dc : Int)], .agg #[.bool en, .int .i8 es, .int .u64 (ec : Int)]] w (PAdd w dn dc ds en ec es 0) := by
 have HA := hid (fun w1 (he : EnvD w1) => AddExact_all dn en dc ec ds es 0 hdc hec hds hes w1 he)
 have HE := hid he
 obtain ⟨DC, hDC⟩ : ∃ v : Int, (dc : Int) = v := ⟨_, rfl⟩
 obtain ⟨EC, hEC⟩ : ∃ v : Int, (ec : Int) = v := ⟨_, rfl⟩
 rw [hDC, hEC] at HA
 rw [hDC, hEC]
 clear hdc hec hds hes he hDC hEC
 obtain ⟨HC0, HD, hB0, hB1, hB2⟩ := box3 w #[.bool dn, .int .i8 ds, .int .u64 DC] 55 #[.bool en, .int .i8 es, .int .u64 EC] 55 #[.bool false, .int .i8 0, .int .u64 0] 55
 have HZ := hid hB2
 have HSS := hid (fun (w1 : World) h => d3_ (cell3 (kept_heap (w' := w1) h hB0)) (c3_ (cell3 (kept_heap (w' := w1) h hB1))))
 have HST := hid (fun w1 x0 x1 x2 h => And.intro (fr_ (w.heap.size + 1 + 1) x0 x1 x2 (HSS.out w1 h).1) (And.intro (fr_ (w.heap.size + 1 + 1) x0 x1 x2 (HSS.out w1 h).2.1) (And.intro (fr_ (w.heap.size + 1 + 1) x0 x1 x2 (HSS.out w1 h).2.2.1) (And.intro (fr_ (w.heap.size + 1 + 1) x0 x1 x2 (HSS.out w1 h).2.2.2.1) (And.intro (fr_ (w.heap.size + 1 + 1) x0 x1 x2 (HSS.out w1 h).2.2.2.2.1) (fr_ (w.heap.size + 1 + 1) x0 x1 x2 (HSS.out w1 h).2.2.2.2.2))))))
 clear hB0 hB1 hB2
 have hk := Chg.refl (fun _ => False) (((w.alloc (.cells #[.bool dn, .int .i8 ds, .int .u64 DC] 55)).alloc (.cells #[.bool en, .int .i8 es, .int .u64 EC] 55)).alloc (.cells #[.bool false, .int .i8 0, .int .u64 0] 55))
 obtain ⟨d0, d1, d2, e0, e1, e2⟩ := HSS.out _ hk
 go_enter Tryz.func40, Tryz.ntmps40
 go_wp2_with (go_at_call 62; refine (HA.out _ (HE.out.kept (HC0.out.trans hk sb_))).mono ?_; intro e w1 h; obtain ⟨na, nb, nc, nv, he, hc, hp⟩ := h.op; subst he; replace hk := hk.trans hc sb_; skip; have HP := hid hp; clear hp; clear hc; obtain ⟨k0, k1, k2, f0, f1, f2⟩ := cell3 (kept_heap hk HZ.out))
 refine bodyPost_ret (v := .tuple #[.agg #[.bool na, .int .i8 nb, .int .u64 nc], nv]) (dec_result rfl _ _ (w.heap.size + 1 + 1) _ _ _ _ 55 rfl rfl (store3 (kept_heap hk HZ.out) _ _ _)) rfl (HP.out.move (chg3 (HC0.out.trans hk sb_) (by omega) _ _ _))
set_option maxHeartbeats 4000000 in
theorem FixAdd_ok (n1 n2 d1 d2 : Bool) (dc ec ds es : Nat) (hdc : dc < 10 ^ 19) (hec : ec < 10 ^ 19) (hds : ds ≤ 19) (hes : es ≤ 19) (hd1 : (n1 && (dc : Int) != 0) = d1) (hd2 : (n2 && (ec : Int) != 0) = d2) (w : World) (he : EnvD w)
  (nb : Bool) (k : Int) (t : Nat) (ht : t ≤ 19) (HS : ∀ w1, EnvD w1 → Calls Tryz.prog 40 #[.agg #[.bool d1, .int .i8 ds, .int .u64 (dc : Int)], .agg #[.bool d2, .int .i8 es, .int .u64 (ec : Int)]] w1 (fun e w' => e = .returned (.tuple #[.agg #[.bool nb, .int .i8 t, .int .u64 k], .nilIface]) ∧ Chg (fun _ => False) w1 w')) :
  Calls Tryz.prog 16 #[.agg #[.bool n1, .int .u64 (dc : Int), .int .i64 (ds : Int)], .agg #[.bool n2, .int .u64 (ec : Int), .int .i64 (es : Int)]] w (PV w (.tuple #[.agg #[.bool nb, .int .u64 k, .int .i64 t], .int .i64 0])) := by
 have HF1 := hid (fun w => fixed_any n1 d1 (dc : Int) ds (fiN hdc) hds hd1 w)
 have HF2 := hid (fun w => fixed_any n2 d2 (ec : Int) es (fiN hec) hes hd2 w)
 have HE := hid he
 obtain ⟨DC, hDC⟩ : ∃ v : Int, (dc : Int) = v := ⟨_, rfl⟩
 obtain ⟨EC, hEC⟩ : ∃ v : Int, (ec : Int) = v := ⟨_, rfl⟩
 rw [hDC] at HF1
 rw [hEC] at HF2
 rw [hDC, hEC] at HS
 rw [hDC, hEC]
 have HSX := hid HS
 clear HS hdc hec hds hes hd1 hd2 he hDC hEC
 have HFX := hid (fun w => fix_any nb k t ht w)
 clear ht
 have HC0 := hid (((((Chg.refl (fun _ => False) w).alloc (.cells #[.bool n1, .int .u64 DC, .int .i64 ds] 24)).alloc (.cells #[.bool n2, .int .u64 EC, .int .i64 es] 24)).alloc (.cells #[.bool false, .int .u64 0, .int .i64 0] 24)).alloc (.cells #[.int .i64 0] 3))
 have hB1 : ((((w.alloc (.cells #[.bool n1, .int .u64 DC, .int .i64 ds] 24)).alloc (.cells #[.bool n2, .int .u64 EC, .int .i64 es] 24)).alloc (.cells #[.bool false, .int .u64 0, .int .i64 0] 24)).alloc (.cells #[.int .i64 0] 3)).heap[w.heap.size + 1]? = some (.cells #[.bool n2, .int .u64 EC, .int .i64 es] 24 (0, 0)) := by
  rw [Below.heap_alloc _ _ _ (by first | (simp; done) | (simp; omega))]
  rw [Below.heap_alloc _ _ _ (by first | (simp; done) | (simp; omega))]
  have := heap_alloc_new (w.alloc (.cells #[.bool n1, .int .u64 DC, .int .i64 ds] 24)) (.cells #[.bool n2, .int .u64 EC, .int .i64 es] 24)
  simpa using this
 have HB1 := hid hB1
 clear hB1
 have hB2 : ((((w.alloc (.cells #[.bool n1, .int .u64 DC, .int .i64 ds] 24)).alloc (.cells #[.bool n2, .int .u64 EC, .int .i64 es] 24)).alloc (.cells #[.bool false, .int .u64 0, .int .i64 0] 24)).alloc (.cells #[.int .i64 0] 3)).heap[w.heap.size + 1 + 1]? = some (.cells #[.bool false, .int .u64 0, .int .i64 0] 24 (0, 0)) := by
  rw [Below.heap_alloc _ _ _ (by first | (simp; done) | (simp; omega))]
  have := heap_alloc_new ((w.alloc (.cells #[.bool n1, .int .u64 DC, .int .i64 ds] 24)).alloc (.cells #[.bool n2, .int .u64 EC, .int .i64 es] 24)) (.cells #[.bool false, .int .u64 0, .int .i64 0] 24)
  simpa using this
 have HB2 := hid hB2
 clear hB2
 have hB3 : ((((w.alloc (.cells #[.bool n1, .int .u64 DC, .int .i64 ds] 24)).alloc (.cells #[.bool n2, .int .u64 EC, .int .i64 es] 24)).alloc (.cells #[.bool false, .int .u64 0, .int .i64 0] 24)).alloc (.cells #[.int .i64 0] 3)).heap[w.heap.size + 1 + 1 + 1]? = some (.cells #[.int .i64 0] 3 (0, 0)) := by
  have := heap_alloc_new (((w.alloc (.cells #[.bool n1, .int .u64 DC, .int .i64 ds] 24)).alloc (.cells #[.bool n2, .int .u64 EC, .int .i64 es] 24)).alloc (.cells #[.bool false, .int .u64 0, .int .i64 0] 24)) (.cells #[.int .i64 0] 3)
  simpa using this
 have HB3 := hid hB3
 clear hB3
 have hk := Chg.refl (fun _ => False) ((((w.alloc (.cells #[.bool n1, .int .u64 DC, .int .i64 ds] 24)).alloc (.cells #[.bool n2, .int .u64 EC, .int .i64 es] 24)).alloc (.cells #[.bool false, .int .u64 0, .int .i64 0] 24)).alloc (.cells #[.int .i64 0] 3))
 have hmf : ∀ (fn : Fn) (first cap : Array Value) (w : World), (Instr.makeFunc fn first cap).run Tryz.prog w = .ok (.func fn first cap) w := fun _ _ _ _ => rfl
 go_enter_defers Tryz.func16, Tryz.ntmps16
 go_wp2_with (first | (go_at_call_of 32 (Value.agg #[Value.bool n1, Value.int .u64 DC, Value.int .i64 (ds : Int)]); refine (HF1.out _).mono ?_; intro e w1 h; obtain ⟨he, hc⟩ := h; subst he; replace hk := (hk.trans hc sb_).alloc (.cells #[.bool d1, .int .i8 ds, .int .u64 DC] 55); have HG1 := hid (heap_alloc_new w1 (.cells #[.bool d1, .int .i8 ds, .int .u64 DC] 55)); clear hc; obtain ⟨e0, e1, e2, _, _, _⟩ := cell3 (kept_heap hk HB1.out)) | (go_at_call_of 32 (Value.agg #[Value.bool n2, Value.int .u64 EC, Value.int .i64 (es : Int)]); refine (HF2.out _).mono ?_; intro e w2 h; obtain ⟨he, hc⟩ := h; subst he; replace hk := (hk.trans hc sb_).alloc (.cells #[.bool d2, .int .i8 es, .int .u64 EC] 55); replace HG1 := hid (kept_heap (hc.alloc (.cells #[.bool d2, .int .i8 es, .int .u64 EC] 55)) HG1.out); have HG2 := hid (heap_alloc_new w2 (.cells #[.bool d2, .int .i8 es, .int .u64 EC] 55)); clear hc e0 e1 e2; obtain ⟨g0, g1, g2, _, _, _⟩ := cell3 HG1.out; obtain ⟨j0, j1, j2, _, _, _⟩ := cell3 HG2.out) | (go_at_call 40; refine (HSX.out _ (HE.out.kept (HC0.out.trans hk sb_))).mono ?_; intro e w3 h; obtain ⟨he, hc⟩ := h; subst he; replace hk := (hk.trans hc sb_).alloc (.cells #[.bool nb, .int .i8 t, .int .u64 k] 55); clear hc g0 g1 g2 j0 j1 j2) | (go_at_call 34; refine (HFX.out _).mono ?_; intro e w4 h; obtain ⟨he, hc⟩ := h; subst he; replace hk := hk.trans hc sb_; clear hc; obtain ⟨r0, r1, r2, q0, q1, q2⟩ := cell3 (kept_heap hk HB2.out); obtain ⟨i0, i1⟩ := cell1 (kept_heap hk HB3.out)))
 refine leaves_cons (f := 39) (args := #[.pointer (some ⟨w.heap.size + 1 + 1, 0, none⟩), .pointer (some ⟨w.heap.size + 1 + 1 + 1, 0, none⟩)]) (by simp) (by simp [go_sem]) ?_
 refine (addIdle _ _ _).mono ?_
 rintro e u' w'' ⟨rfl, rfl, rfl⟩
 exact ⟨.tuple #[.agg #[.bool nb, .int .u64 k, .int .i64 t], .int .i64 0], fix_result rfl _ _ (w.heap.size + 1 + 1) (w.heap.size + 1 + 1 + 1) _ _ _ _ _ _ rfl rfl (fix_far (store3 (kept_heap hk HB2.out) _ _ _) (by omega)) (int_set (fix_near (kept_heap hk HB3.out) (by omega))), rfl, fix_chg (HC0.out.trans hk sb_) (by omega) (by omega)⟩
def okFix (v s : Int) : Bool := decide (v ≤ 9999999999999999999) && (decide (0 ≤ s) && decide (s ≤ 19))
theorem cell6 {w : World} {b : Nat} {x0 x1 x2 x3 x4 x5 : Value} {T : TypeId} (h : w.heap[b]? = some (.cells #[x0, x1, x2, x3, x4, x5] T (0, 0))) :
  w.cell? ⟨b, 0, none⟩ = some x0 ∧ w.cell? ⟨b, 1, none⟩ = some x1 ∧ w.cell? ⟨b, 2, none⟩ = some x2 ∧ w.cell? ⟨b, 3, none⟩ = some x3 ∧ w.cell? ⟨b, 4, none⟩ = some x4 ∧ w.cell? ⟨b, 5, none⟩ = some x5 := by
 refine ⟨?_, ?_, ?_, ?_, ?_, ?_⟩ <;> simp [World.cell?, h]
set_option maxHeartbeats 2000000 in
theorem FixAll_two {w : World} {b : Nat} {T : TypeId} (n1 n2 : Bool) (v1 s1 v2 s2 : Int) (h : w.heap[b]? = some (.cells #[.bool n1, .int .u64 v1, .int .i64 s1, .bool n2, .int .u64 v2, .int .i64 s2] T (0, 0))) :
  Calls Tryz.prog 8 #[.slice (some ⟨b, 0, none⟩) 2 2] w (PV w (.bool (okFix v1 s1 && okFix v2 s2))) := by
 have H1 := hid (fun w => FixIs_any n1 v1 s1 w)
 have H2 := hid (fun w => FixIs_any n2 v2 s2 w)
 have HB := hid (fun w1 (k : Chg (fun _ => False) w w1) => cell6 (kept_heap k h))
 obtain ⟨o1, ho1⟩ : ∃ o, okFix v1 s1 = o := ⟨_, rfl⟩
 obtain ⟨o2, ho2⟩ : ∃ o, okFix v2 s2 = o := ⟨_, rfl⟩
 unfold okFix at ho1 ho2
 rw [ho1] at H1
 rw [ho2] at H2
 unfold okFix
 rw [ho1, ho2]
 clear ho1 ho2 h
 have hk := Chg.refl (fun _ => False) w
 obtain ⟨c0, c1, c2, c3, c4, c5⟩ := HB.out _ hk
 cases o1 with
 | false =>
  go_enter Tryz.func8, Tryz.ntmps8
  go_wp2
  refine wp_loop_rounds 1 ?_
  rw [rounds_succ]
  go_wp2_with (first | (go_at_call_of 30 (Value.agg #[Value.bool n1, Value.int .u64 v1, Value.int .i64 s1]); refine (H1.out _).mono ?_; intro e w1 k; obtain ⟨he, hc⟩ := k; subst he; replace hk := (hk.alloc _).trans hc sb_; clear hc c0 c1 c2 c3 c4 c5; obtain ⟨c0, c1, c2, c3, c4, c5⟩ := HB.out _ hk))
  go_ret
  exact ⟨rfl, hk⟩
 | true =>
  cases o2 with
  | false =>
   go_enter Tryz.func8, Tryz.ntmps8
   go_wp2
   refine wp_loop_rounds 2 ?_
   rw [rounds_succ]
   go_wp2_with (first | (go_at_call_of 30 (Value.agg #[Value.bool n1, Value.int .u64 v1, Value.int .i64 s1]); refine (H1.out _).mono ?_; intro e w1 k; obtain ⟨he, hc⟩ := k; subst he; replace hk := (hk.alloc _).trans hc sb_; clear hc c0 c1 c2 c3 c4 c5; obtain ⟨c0, c1, c2, c3, c4, c5⟩ := HB.out _ hk))
   rw [rounds_succ]
   go_wp2_with (first | (go_at_call_of 30 (Value.agg #[Value.bool n2, Value.int .u64 v2, Value.int .i64 s2]); refine (H2.out _).mono ?_; intro e w1 k; obtain ⟨he, hc⟩ := k; subst he; replace hk := (hk.alloc _).trans hc sb_; clear hc c0 c1 c2 c3 c4 c5; obtain ⟨c0, c1, c2, c3, c4, c5⟩ := HB.out _ hk))
   go_ret
   exact ⟨rfl, hk⟩
  | true =>
   go_enter Tryz.func8, Tryz.ntmps8
   go_wp2
   refine wp_loop_rounds 3 ?_
   rw [rounds_succ]
   go_wp2_with (first | (go_at_call_of 30 (Value.agg #[Value.bool n1, Value.int .u64 v1, Value.int .i64 s1]); refine (H1.out _).mono ?_; intro e w1 k; obtain ⟨he, hc⟩ := k; subst he; replace hk := (hk.alloc _).trans hc sb_; clear hc c0 c1 c2 c3 c4 c5; obtain ⟨c0, c1, c2, c3, c4, c5⟩ := HB.out _ hk))
   rw [rounds_succ]
   go_wp2_with (first | (go_at_call_of 30 (Value.agg #[Value.bool n2, Value.int .u64 v2, Value.int .i64 s2]); refine (H2.out _).mono ?_; intro e w1 k; obtain ⟨he, hc⟩ := k; subst he; replace hk := (hk.alloc _).trans hc sb_; clear hc c0 c1 c2 c3 c4 c5; obtain ⟨c0, c1, c2, c3, c4, c5⟩ := HB.out _ hk))
   rw [rounds_succ]
   go_wp2_with fail
   go_ret
   exact ⟨rfl, hk⟩
theorem sumS_scale (p q : Bool) (A B t : Nat) (ht : 0 < t) : sumS p (A * t) q (B * t) = ((sumS p A q B).1, (sumS p A q B).2 * t) := by
 unfold sumS
 by_cases h : p = q
 ·rw [if_pos h, if_pos h, Nat.add_mul]
 ·rw [if_neg h, if_neg h]
  by_cases h2 : A < B
  ·rw [if_pos h2, if_pos (Nat.mul_lt_mul_of_pos_right h2 ht), Nat.sub_mul]
  ·rw [if_neg h2, if_neg (by have := Nat.mul_le_mul_right t (Nat.le_of_not_lt h2); omega), Nat.sub_mul]
def mnp (a b : Nat) : Nat := if a < b then a else b
theorem mxmn (a b : Nat) : mxp a b + mnp a b = a + b := by unfold mxp mnp; split <;> omega
theorem mx_l (a b : Nat) : a ≤ mxp a b := by unfold mxp; split <;> omega
theorem mx_r (a b : Nat) : b ≤ mxp a b := by unfold mxp; split <;> omega
theorem mx_le {a b k : Nat} (ha : a ≤ k) (hb : b ≤ k) : mxp a b ≤ k := by unfold mxp; split <;> omega
theorem mn_le {a b k : Nat} (ha : a ≤ k) (hb : b ≤ k) : mnp a b ≤ k := by unfold mnp; split <;> omega
theorem bool_nz (b : Bool) (x t : Nat) (ht : 0 < t) (h : (b && x != 0) = b) : (b && x * t != 0) = b := by
 cases b with
 | false => rfl
 | true =>
  rw [Bool.true_and] at *
  have : x ≠ 0 := bne_iff_ne.1 h
  exact bne_iff_ne.2 (Nat.mul_ne_zero this (by omega))
theorem frac_parts (d1 e2 : Bool) (dc ec ds es : Nat) (h1 : (d1 && dc != 0) = d1) (h2 : (e2 && ec != 0) = e2) :
  sumS (d1 && dc * 10 ^ es != 0) (dc * 10 ^ es) (e2 && ec * 10 ^ ds != 0) (ec * 10 ^ ds) = ((sumD d1 dc ds e2 ec es).1, (sumD d1 dc ds e2 ec es).2 * 10 ^ mnp ds es) ∧ 10 ^ ds * 10 ^ es = 10 ^ mxp ds es * 10 ^ mnp ds es := by
 have hm := mxmn ds es
 have hl := mx_l ds es
 have hr := mx_r ds es
 rw [bool_nz d1 dc _ (pow10_pos _) h1, bool_nz e2 ec _ (pow10_pos _) h2]
 constructor
 ·unfold sumD
  rw [← sumS_scale _ _ _ _ _ (pow10_pos _), Nat.mul_assoc, ← Nat.pow_add, Nat.mul_assoc, ← Nat.pow_add, show mxp ds es - ds + mnp ds es = es by omega, show mxp ds es - es + mnp ds es = ds by omega]
 ·rw [← Nat.pow_add, ← Nat.pow_add, hm]
theorem atP_rnd (c S t n : Nat) : atP (c * 10 ^ t) (10 ^ S * 10 ^ t) n = rnd c S n := by
 unfold atP rnd
 rw [show c * 10 ^ t * 10 ^ n = c * 10 ^ n * 10 ^ t by rw [Nat.mul_assoc, Nat.mul_comm (10 ^ t), ← Nat.mul_assoc]]
 exact rhe_scale (pow10_pos _) (pow10_pos _)
theorem fixOut_op (n : Bool) (o : Option (Nat × Nat)) : ∃ (b0 : Bool) (c0 s0 f0 : Int), fixOut n o = .tuple #[.agg #[.bool b0, .int .u64 c0, .int .i64 s0], .int .i64 f0] := by
 cases o with
 | none => exact ⟨_, _, _, _, rfl⟩
 | some kt => exact ⟨_, _, _, _, rfl⟩
theorem okFix_nat {v s : Int} (h0 : 0 ≤ v) (h : okFix v s = true) : ∃ c t : Nat, (c : Int) = v ∧ (t : Int) = s ∧ c < 10 ^ 19 ∧ t ≤ 19 := by
 unfold okFix at h
 simp only [Bool.and_eq_true, decide_eq_true_eq] at h
 obtain ⟨h1, h2, h3⟩ := h
 have e : (10 : Nat) ^ 19 = 10000000000000000000 := by decide
 exact ⟨v.toNat, s.toNat, by omega, by omega, by omega, by omega⟩
end Go.Proofs.YtbjhnckboimliaaGreatDoor
namespace Go.Proofs.YtbjhnckboimliaaGreatDoor
open Go.ChangeShapes Go.WideShapes Go.ChangeAt Go.WideMaps Go.WideElems Go.RowKit
theorem gDiv : Tryz.prog.globalNamed "given.example/pub-alexandrine/pub/bigall.divRecursiveThreshold" = some 7 := by kernel_rfl
theorem gKar : Tryz.prog.globalNamed "given.example/pub-alexandrine/pub/bigall.karatsubaThreshold" = some 6 := by kernel_rfl
theorem gOvf : Tryz.prog.globalNamed "given.example/pub-alexandrine/pub/govalues.errDecimalOverflow" = some 0 := by kernel_rfl
theorem gPow : Tryz.prog.globalNamed "given.example/pub-alexandrine/pub/govalues.pow10" = some 3 := by kernel_rfl
theorem tDiv : (Tryz.prog.globals[7]?).map (·.type) = some 3 := by kernel_rfl
theorem tKar : (Tryz.prog.globals[6]?).map (·.type) = some 3 := by kernel_rfl
theorem tOvf : (Tryz.prog.globals[0]?).map (·.type) = some 59 := by kernel_rfl
theorem tPow : (Tryz.prog.globals[3]?).map (·.type) = some 121 := by kernel_rfl
theorem of_laid {W : World} (hsh : W.ShapedOpen Tryz.prog) (h : laidMetH Tryz.prog Rows.fnFixSubExactRow.laid W) : EnvD W := by
 rw [MakeChecks.laidMetH_plain _ _ _ kr_] at h
 obtain ⟨ps, ⟨_, _, _, _, _, _, _, _, _, _, ⟨_, _, _, _, _, _, _, _, _, _, ⟨_, _, _, _, _, _, _, _, _, _, ⟨g3, t3, cs3, f3, p3, q3, hg3, ht3, hv3, hd3, ⟨g4, t4, cs4, f4, p4, q4, hg4, ht4, hv4, hd4, ⟨_, _, _, _, _, _, _, _, _, _, ⟨_, _, _, _, _, _, _, _, _, _, ⟨g7, t7, cs7, f7, p7, q7, hg7, ht7, hv7, hd7, ⟨_, _, _, _, _, _, _, _, _, _, ⟨g9, t9, cs9, f9, p9, q9, hg9, ht9, hv9, hd9, hrest, _⟩, _⟩, _⟩, _⟩, _⟩, _⟩, _⟩, _⟩, _⟩, _⟩, hps, _⟩ := h
 obtain rfl := Option.some.inj (gDiv.symm.trans hg3)
 obtain rfl := Option.some.inj (gKar.symm.trans hg4)
 obtain rfl := Option.some.inj (gOvf.symm.trans hg7)
 obtain rfl := Option.some.inj (gPow.symm.trans hg9)
 obtain rfl := Option.some.inj (tDiv.symm.trans ht3)
 obtain rfl := Option.some.inj (tKar.symm.trans ht4)
 have hdiv : W.cell? ⟨7, 0, none⟩ = some (.int .i64 40) := by
  obtain ⟨k, e1, e2, _⟩ := DataW.trod_int Tryz.underlying3 hd3
  have hk : k = 40 := by
   have := congrArg Prod.fst e2
   simpa [Rows.laid_given_example_pub_alexandrine_pub_bigall_divRecursiveThreshold] using this.symm
  subst hk
  have := World.var?_cell hg3 hv3 0
  obtain ⟨l1⟩ := cs3
  simp at e1
  subst e1
  simpa using this
 have hkar : W.cell? ⟨6, 0, none⟩ = some (.int .i64 40) := by
  obtain ⟨k, e1, e2, _⟩ := DataW.trod_int Tryz.underlying3 hd4
  have hk : k = 40 := by
   have := congrArg Prod.fst e2
   simpa [Rows.laid_given_example_pub_alexandrine_pub_bigall_karatsubaThreshold] using this.symm
  subst hk
  have := World.var?_cell hg4 hv4 0
  obtain ⟨l1⟩ := cs4
  simp at e1
  subst e1
  simpa using this
 have htab : Tab W := by
  obtain rfl := Option.some.inj (tPow.symm.trans ht9)
  obtain ⟨xs, m, _, hx, hlen, hn, hel⟩ := DataW.trod_array Tryz.underlying121 hd9
  have c1 : Tryz.prog.cellsOf 53 = 1 := by kernel_rfl
  rw [c1] at hel
  have hxs := congrArg Prod.fst hx
  simp only [Rows.laid_given_example_pub_alexandrine_pub_govalues_pow10, DataW.agg.injEq] at hxs
  intro k hk
  have hk' := hel k hk
  have hxk : (xs.map (·.1))[k]? = some (.lit (.int .u64 (10 ^ k))) := by
   rw [← hxs]
   have : ∀ j : Fin 20, ([DataW.lit (.int .u64 1), .lit (.int .u64 10), .lit (.int .u64 100), .lit (.int .u64 1000), .lit (.int .u64 10000), .lit (.int .u64 100000), .lit (.int .u64 1000000), .lit (.int .u64 10000000), .lit (.int .u64 100000000), .lit (.int .u64 1000000000), .lit (.int .u64 10000000000), .lit (.int .u64 100000000000), .lit (.int .u64 1000000000000), .lit (.int .u64 10000000000000), .lit (.int .u64 100000000000000), .lit (.int .u64 1000000000000000), .lit (.int .u64 10000000000000000), .lit (.int .u64 100000000000000000), .lit (.int .u64 1000000000000000000), .lit (.int .u64 10000000000000000000)] : List (DataW Unit))[(j : Nat)]? = some (.lit (.int .u64 (10 ^ (j : Nat)))) := by
    rintro ⟨j, hj⟩
    rcases (show j = 0 ∨ j = 1 ∨ j = 2 ∨ j = 3 ∨ j = 4 ∨ j = 5 ∨ j = 6 ∨ j = 7 ∨ j = 8 ∨ j = 9 ∨ j = 10 ∨ j = 11 ∨ j = 12 ∨ j = 13 ∨ j = 14 ∨ j = 15 ∨ j = 16 ∨ j = 17 ∨ j = 18 ∨ j = 19 by omega) with rfl | rfl | rfl | rfl | rfl | rfl | rfl | rfl | rfl | rfl | rfl | rfl | rfl | rfl | rfl | rfl | rfl | rfl | rfl | rfl <;> rfl
   exact this ⟨k, hk⟩
  rw [List.getElem?_map] at hxk
  cases hy : xs[k]? with
  | none => rw [hy] at hxk; cases hxk
  | some y =>
   rw [hy] at hxk
   simp only [Option.map_some, Option.some.injEq] at hxk
   rw [hy] at hk'
   obtain ⟨z, e1, e2, _⟩ := DataW.trod_int Tryz.underlying53 hk'
   have hz : z = 10 ^ k := by
    have := congrArg Prod.fst e2
    rw [hxk] at this
    simpa using this.symm
   subst hz
   have := World.var?_cell hg9 hv9 k
   rw [this]
   rw [Nat.mul_one] at e1
   have h3 : (cs9.toList.drop k)[0]? = some (.int .u64 (10 ^ k)) := by
    have := congrArg (fun l => l[0]?) e1
    simpa using this
   simpa using h3
 have hovf : ∃ u y, W.cell? ⟨0, 0, none⟩ = some (.iface u y) := by
  obtain rfl := Option.some.inj (tOvf.symm.trans ht7)
  obtain ⟨_, u, y, e1, _, _⟩ := iface_of_trod Tryz.underlying59 hd7
  have := World.var?_cell hg7 hv7 0
  obtain ⟨l1⟩ := cs7
  simp at e1
  subst e1
  exact ⟨u, y, by simpa using this⟩
 refine ⟨⟨htab, hkar, hdiv, fun xs hr => ?_⟩, hovf⟩
 obtain ⟨cs, t, k1, k2⟩ := pow_typed hsh
 have := hr.1.symm.trans k1
 simp only [Option.some.injEq, Obj.cells.injEq] at this
 exact k2 this.2.1.symm
end Go.Proofs.YtbjhnckboimliaaGreatDoor
namespace Go.Proofs.YtbjhnckboimliaaGreatDoor
open Go Go.ChangeShapes Go.WideShapes Go.ChangeAt Go.WideMaps Go.WideElems Go.RowKit Go.Joins
theorem trod_iface {H : Type} {enc : TypeId × Value → H} {P : Program} {W W' : World} {ti : TypeId} {ms : Array (String × TypeId)} {fuel : Nat} {cs : List Value} {x : DataW H × List MemPlace} {sp sp' : Nat → Bool}
  (hi : P.underlying ti = some (.interface ms)) (h : DataW.trod enc P W 0 sp true fuel ti cs = some x) : DataW.trod enc P W' 0 sp' true fuel ti cs = some x := by
 cases fuel with
 | zero => simp [DataW.trod] at h
 | succ f =>
  match cs, h with
  | [], h => simp [DataW.trod, hi] at h
  | _ :: _ :: _, h => simp [DataW.trod, hi] at h
  | [c], h => cases c <;> simp_all [DataW.trod]
theorem vars_iface {H : Type} {enc : TypeId × Value → H} {P : Program} {W W' : World} (hb : Below W.heap.size W W') {n : String} {ns : List String} {g : Nat} {ti : TypeId} {ms : Array (String × TypeId)} {sp sp' : Nat → Bool}
  (hn : P.globalNamed n = some g) (ht : (P.globals[g]?).map (·.type) = some ti) (hi : P.underlying ti = some (.interface ms))
  (hr : ∀ (gs : List (DataW H)) (q : List MemPlace), DataW.TrodVars enc P W sp ns gs q → DataW.TrodVars enc P W' sp' ns gs q) {gs : List (DataW H)} {ps : List MemPlace} (h : DataW.TrodVars enc P W sp (n :: ns) gs ps) :
  DataW.TrodVars enc P W' sp' (n :: ns) gs ps := by
 cases gs with
 | nil => exact h.elim
 | cons d ds =>
  obtain ⟨g0, t, cs, fuel, p, q, h1, h2, h3, h4, hs, e⟩ := h
  obtain rfl := Option.some.inj (hn.symm.trans h1)
  obtain rfl := Option.some.inj (ht.symm.trans h2)
  refine ⟨g, ti, cs, fuel, p, q, h1, h2, ?_, trod_iface hi h4, hr _ _ hs, e⟩
  unfold World.var? at h3 ⊢
  rw [h1] at h3 ⊢
  simp only [Option.bind_some] at h3 ⊢
  have hg : g < W.heap.size := by
   cases hh : W.heap[g]? with
   | none => rw [hh] at h3; cases h3
   | some o => exact (Array.getElem?_eq_some_iff.1 hh).1
  rw [hb.block g hg]; exact h3
theorem trodVars_length {H : Type} {enc : TypeId × Value → H} {P : Program} {W : World} {sp : Nat → Bool} : ∀ {ns : List String} {gs : List (DataW H)} {ps : List MemPlace}, DataW.TrodVars enc P W sp ns gs ps → gs.length = ns.length
 | [], [], _, _ => rfl
 | [], _ :: _, _, h => h.elim
 | _ :: _, [], _, h => h.elim
 | _ :: ns, _ :: ds, _, h => by
  obtain ⟨_, _, _, _, _, _, _, _, _, _, hs, _⟩ := h
  simp [trodVars_length hs]
theorem gScl : Tryz.prog.globalNamed "given.example/pub-alexandrine/pub/govalues.errScaleRange" = some 2 := by kernel_rfl
theorem tScl : (Tryz.prog.globals[2]?).map (·.type) = some 59 := by kernel_rfl
theorem laidOk : laidOutB Tryz.prog = true := by kernel_rfl
theorem fixCells : Tryz.prog.cellsOf 24 = 3 := by kernel_rfl
set_option maxRecDepth 100000 in
theorem open_fix {H : Type} {enc : TypeId × Value → H} {W : World} {base b0 : Nat} {sp : Nat → Bool} {held : Bool} {v : Value} {d : DataW H} {p : List MemPlace} (hv : Value.okWide Tryz.prog W .any b0 24 v) (h : DataW.Trod enc Tryz.prog W base sp held 24 v d p) :
  ∃ (n : Bool) (c s : Int), v = .agg #[.bool n, .int .u64 c, .int .i64 s] ∧ 0 ≤ c ∧ p = [] := by
 obtain ⟨c0, c1, c2, y0, y1, y2, m, rfl, rfl, rfl, hy0, hy1, hy2⟩ := open_agg3 Tryz.underlying24 kr_ fixCells hv h
 obtain ⟨x, e0, rfl⟩ := DataW.trod_bool Tryz.underlying4 hy0
 obtain ⟨y, e1, rfl, wy⟩ := DataW.trod_int Tryz.underlying22 hy1
 obtain ⟨f, e2, rfl, wf⟩ := DataW.trod_int Tryz.underlying3 hy2
 simp at e0 e1 e2
 subst e0 e1 e2
 refine ⟨x, y, f, rfl, ?_, rfl⟩
 simp [Lit.wf] at wy
 exact wy.1
end Go.Proofs.YtbjhnckboimliaaGreatDoor
namespace Go.Proofs.YtbjhnckboimliaaGreatDoor
open Go Go.ChangeShapes Go.WideShapes Go.ChangeAt Go.WideMaps Go.WideElems Go.RowKit
set_option maxRecDepth 100000
theorem wit_shapedl (os : Os) : (((World.doorLaid Tryz.prog 400 os).forCall (fun _ _ => 0) ⟨#[], #[.agg #[.bool false, .int .u64 0, .int .i64 0], .agg #[.bool false, .int .u64 0, .int .i64 0]], []⟩)).Shaped Tryz.prog :=
 World.shaped_of_RefB (by as_aux_lemma => kernel_rfl) (by as_aux_lemma => kernel_rfl)
theorem wit_okl (os : Os) : Input.okWideB Tryz.prog ((World.doorLaid Tryz.prog 400 os).forCall (fun _ _ => 0) ⟨#[], #[.agg #[.bool false, .int .u64 0, .int .i64 0], .agg #[.bool false, .int .u64 0, .int .i64 0]], []⟩) 4 ⟨#[], #[.agg #[.bool false, .int .u64 0, .int .i64 0], .agg #[.bool false, .int .u64 0, .int .i64 0]], []⟩ = true := by kernel_rfl
theorem wit_prel (os : Os) (H : Type) (enc : TypeId × Value → H) : Rows.fnFixPlacesSpec.preB enc Tryz.prog Tryz.f4 [] false (((World.doorLaid Tryz.prog 400 os).forCall (fun _ _ => 0) ⟨#[], #[.agg #[.bool false, .int .u64 0, .int .i64 0], .agg #[.bool false, .int .u64 0, .int .i64 0]], []⟩)).memory #[.agg #[.bool false, .int .u64 0, .int .i64 0], .agg #[.bool false, .int .u64 0, .int .i64 0]] 8 = true := by kernel_rfl
theorem wit_sizel (os : Os) (H : Type) (enc : TypeId × Value → H) : Rows.fnFixPlacesSpec.sizedB enc Tryz.prog Tryz.f4 false (((World.doorLaid Tryz.prog 400 os).forCall (fun _ _ => 0) ⟨#[], #[.agg #[.bool false, .int .u64 0, .int .i64 0], .agg #[.bool false, .int .u64 0, .int .i64 0]], []⟩)).memory #[.agg #[.bool false, .int .u64 0, .int .i64 0], .agg #[.bool false, .int .u64 0, .int .i64 0]] 8 = true := by kernel_rfl
end Go.Proofs.YtbjhnckboimliaaGreatDoor
