/- Part 20 of the proof. -/
import Derived.Recover
import Derived.Test.YtbjhnckboimliaaGreatDoorQ19
namespace Go.Proofs.YtbjhnckboimliaaGreatDoor
open Go.RowKit
set_option linter.unusedVariables false
set_option linter.unusedSimpArgs false
set_option maxRecDepth 20000
theorem fiN {a : Nat} (h : a < 10 ^ 19) : Fi (a : Int) := by
 have e : (10 : Nat) ^ 19 = 10000000000000000000 := by decide
 exact ⟨by omega, by omega⟩
theorem fiN_iff {a : Nat} : (a : Int) ≤ 9999999999999999999 ↔ a < 10 ^ 19 := by
 have : (10 : Nat) ^ 19 = 10000000000000000000 := by decide
 omega
def Var3 (w0 w1 : World) (g : Nat) (a b d : Value) : Prop := Chg (fun _ => False) w0 w1 ∧ w0.heap.size ≤ g ∧ w1.heap[g]? = some (.cells #[a, b, d] 55 (0, 0))
theorem Var3.mk' {w0 w1 : World} (h : Chg (fun _ => False) w0 w1) (a b d : Value) : Var3 w0 (w1.alloc (.cells #[a, b, d] 55)) w1.heap.size a b d :=
 ⟨h.alloc _, h.size, heap_alloc_new _ _⟩
set_option maxHeartbeats 2000000 in
theorem addExact_ok (dn en : Bool) (dc ec ds es m : Nat) (hm : m ≤ 19) (w : World) (k : Int) (t : Nat) (nb : Bool)
  (HA : Hid (Calls Tryz.prog 86 #[.agg #[.bool dn, .int .i8 ds, .int .u64 (dc : Int)], .agg #[.bool en, .int .i8 es, .int .u64 (ec : Int)], .int .i64 m] (((w.alloc (.cells #[.bool dn, .int .i8 ds, .int .u64 (dc : Int)] 55)).alloc (.cells #[.bool en, .int .i8 es, .int .u64 (ec : Int)] 55)).alloc (.cells #[.bool false, .int .i8 0, .int .u64 0] 55))
   (fun e w' => e = .returned (.tuple #[.agg #[.bool nb, .int .i8 t, .int .u64 k], .nilIface]) ∧ Chg (fun _ => False) (((w.alloc (.cells #[.bool dn, .int .i8 ds, .int .u64 (dc : Int)] 55)).alloc (.cells #[.bool en, .int .i8 es, .int .u64 (ec : Int)] 55)).alloc (.cells #[.bool false, .int .i8 0, .int .u64 0] 55)) w'))) :
  Calls Tryz.prog 62 #[.agg #[.bool dn, .int .i8 ds, .int .u64 (dc : Int)], .agg #[.bool en, .int .i8 es, .int .u64 (ec : Int)], .int .i64 m] w
   (fun e w' => e = .returned (.tuple #[.agg #[.bool nb, .int .i8 t, .int .u64 k], .nilIface]) ∧ Chg (fun _ => False) w w') := by
 have HBS := hid (Bx.start w dn ds (dc : Int) en es (ec : Int))
 have HC0 := hid (start3 w (.cells #[.bool dn, .int .i8 ds, .int .u64 (dc : Int)] 55) (.cells #[.bool en, .int .i8 es, .int .u64 (ec : Int)] 55) (.cells #[.bool false, .int .i8 0, .int .u64 0] 55))
 have hb1 : decide ((m : Int) < 0) = false := decide_eq_false (by omega)
 have hb2 : decide ((19 : Int) < (m : Int)) = false := decide_eq_false (by omega)
 obtain ⟨d0, d1, d2, e0, e1, e2, r0, r1, r2, q0, q1, q2⟩ := HBS.out.facts
 go_enter Tryz.func62, Tryz.ntmps62
 go_upto_region 3 with fail
 go_cut [8, 9] from 18 to 24 (fun a b wx => ∃ g : Nat, a = .pointer (some ⟨g, 0, none⟩) ∧ b = .nilIface ∧ Hid (Var3 (((w.alloc (.cells #[.bool dn, .int .i8 ds, .int .u64 (dc : Int)] 55)).alloc (.cells #[.bool en, .int .i8 es, .int .u64 (ec : Int)] 55)).alloc (.cells #[.bool false, .int .i8 0, .int .u64 0] 55)) wx g (.bool nb) (.int .i8 t) (.int .u64 k)))
 case first =>
  go_wp2_with fail
  go_at_call 86
  refine HA.out.mono ?_
  intro e w1 h
  obtain ⟨he1, hk⟩ := h
  subst he1
  clear d0 d1 d2 e0 e1 e2 r0 r1 r2 q0 q1 q2
  have HK := hid hk
  clear hk
  go_wp2_with fail
  go_meet
  exact ⟨w1.heap.size, rfl, rfl, Var3.mk' HK.out _ _ _⟩
 case rest =>
  obtain ⟨g, he1, he2, hv⟩ := hcut
  subst he1
  subst he2
  have HV := hid hv
  clear hv d0 d1 d2 e0 e1 e2 r0 r1 r2 q0 q1 q2
  obtain ⟨d0, d1, d2, e0, e1, e2, r0, r1, r2, q0, q1, q2⟩ := (HBS.out.kept HV.out.out.1).facts
  obtain ⟨k0, k1, k2, l0, l1, l2⟩ := cell3 HV.out.out.2.2
  go_wp2_with fail
  refine bodyPost_ret (v := .tuple #[.agg #[.bool nb, .int .i8 t, .int .u64 k], .nilIface]) (dec_result rfl _ _ (w.heap.size + 1 + 1) _ _ _ _ 55 rfl rfl (store3 (HBS.out.kept HV.out.out.1).h2 _ _ _)) rfl ⟨rfl, chg3 (HC0.out.trans HV.out.out.1 sb_) (by omega) _ _ _⟩
theorem Coef_any (neg : Bool) (c : Int) (s : Nat) (w : World) :
  Calls Tryz.prog 65 #[.agg #[.bool neg, .int .i8 s, .int .u64 c]] w (fun e w' => e = .returned (.int .u64 c) ∧ Chg (fun _ => False) w w') := by
 go_enter Tryz.func65, Tryz.ntmps65
 go_wp2_with fail
 go_ret
 exact ⟨rfl, (Chg.refl _ _).alloc _⟩
theorem ZzMake_any (neg nb : Bool) (c : Int) (s : Nat) (hc : Fi c) (hs : s ≤ 19) (hnb : (neg && c != 0) = nb) (w : World) :
  Calls Tryz.prog 61 #[.bool neg, .int .u64 c, .int .i64 s] w (fun e w' => e = .returned (.tuple #[.agg #[.bool nb, .int .i8 s, .int .u64 c], .nilIface]) ∧ Chg (fun _ => False) w w') := by
 have HN := hid (fun w => newSafe_flat neg nb c s hc hs hnb w)
 have HZ := hid (heap_alloc_new w (.cells #[.bool false, .int .i8 0, .int .u64 0] 55))
 have HC0 := hid ((Chg.refl (fun _ => False) w).alloc (.cells #[.bool false, .int .i8 0, .int .u64 0] 55))
 clear hc hs hnb
 go_enter Tryz.func61, Tryz.ntmps61
 go_wp2_with (go_at_call 85; refine (HN.out _).mono ?_; intro e w1 h; obtain ⟨he, hc⟩ := h; subst he; have hk := hc; clear hc; obtain ⟨k0, k1, k2, f0, f1, f2⟩ := cell3 (kept_heap hk HZ.out))
 refine bodyPost_ret (v := .tuple #[.agg #[.bool nb, .int .i8 s, .int .u64 c], .nilIface]) (dec_result rfl _ _ w.heap.size _ _ _ _ 55 rfl rfl (store3 (kept_heap hk HZ.out) _ _ _)) rfl ⟨rfl, chg3 (HC0.out.trans hk sb_) (Nat.le_refl _) _ _ _⟩
theorem fix_size : (Tryz.prog.info? 24).map (·.size) = some 3 := by kernel_rfl
set_option maxHeartbeats 2000000 in
theorem fix_any (n1 : Bool) (c : Int) (s : Nat) (hs : s ≤ 19) (w : World) :
  Calls Tryz.prog 34 #[.agg #[.bool n1, .int .i8 s, .int .u64 c]] w (PV w (.agg #[.bool n1, .int .u64 c, .int .i64 s])) := by
 have H1 := hid (fun w => IsNeg_any n1 c s w)
 have H2 := hid (fun w => Coef_any n1 c s w)
 have H3 := hid (fun w => Scale_any n1 c s hs w)
 clear hs
 obtain ⟨HC0, HD, hB0, hB1⟩ := box2 w #[.bool n1, .int .i8 s, .int .u64 c] 55 #[.bool false, .int .u64 0, .int .i64 0] 24
 have HZ := hid hB1
 have HSS := hid (fun (w1 : World) h => c3_ (cell3 (kept_heap (w' := w1) h hB0)))
 have HST := hid (fun w1 x0 x1 x2 h => And.intro (fr_ (w.heap.size + 1) x0 x1 x2 (HSS.out w1 h).1) (And.intro (fr_ (w.heap.size + 1) x0 x1 x2 (HSS.out w1 h).2.1) (fr_ (w.heap.size + 1) x0 x1 x2 (HSS.out w1 h).2.2)))
 clear hB0 hB1
 have hk := HD.out
 go_enter Tryz.func34, Tryz.ntmps34
 go_wp2_with fail
 first | (go_region_held3 (fun w' => w'.cell? ⟨w.heap.size, 0, none⟩ = some (.bool n1) ∧ w'.cell? ⟨w.heap.size, 1, none⟩ = some (.int .i8 s) ∧ w'.cell? ⟨w.heap.size, 2, none⟩ = some (.int .u64 c)) (first | with_reducible exact HSS.out _ hk | with_reducible exact HST.out _ _ _ _ hk | go_keep) (first | (go_at_call 64; refine (H1.out _).mono ?_; intro e w1 h; obtain ⟨he, hc⟩ := h; subst he; replace hk := hk.trans hc sb_; skip; skip; clear hc; obtain ⟨k0, k1, k2, f0, f1, f2⟩ := cell3 (kept_heap hk HZ.out)) | (go_at_call 65; refine (H2.out _).mono ?_; intro e w1 h; obtain ⟨he, hc⟩ := h; subst he; replace hk := hk.trans hc sb_; skip; skip; clear hc; obtain ⟨k0, k1, k2, f0, f1, f2⟩ := cell3 (kept_heap hk HZ.out)) | (go_at_call 66; refine (H3.out _).mono ?_; intro e w1 h; obtain ⟨he, hc⟩ := h; subst he; replace hk := hk.trans hc sb_; skip; skip; clear hc; obtain ⟨k0, k1, k2, f0, f1, f2⟩ := cell3 (kept_heap hk HZ.out)))) | fail
 all_goals (go_wp2_with fail; refine bodyPost_ret (v := .agg #[.bool n1, .int .u64 c, .int .i64 s]) (by rw [results_cell_row rfl _ _ (w.heap.size + 1) _ _ _ _ rfl (store3 (kept_heap hk HZ.out) _ _ _) Tryz.underlying24 rfl fix_size]) rfl ⟨rfl, chg3 (HC0.out.trans hk sb_) (by omega) _ _ _⟩)
set_option maxHeartbeats 2000000 in
theorem fixed_any (n1 nb : Bool) (c : Int) (s : Nat) (hc : Fi c) (hs : s ≤ 19) (hnb : (n1 && c != 0) = nb) (w : World) :
  Calls Tryz.prog 32 #[.agg #[.bool n1, .int .u64 c, .int .i64 s]] w (PV w (.tuple #[.agg #[.bool nb, .int .i8 s, .int .u64 c], .bool true])) := by
 have HM := hid (fun w => ZzMake_any n1 nb c s hc hs hnb w)
 clear hc hs hnb
 obtain ⟨HC0, HD, hB0, hB1⟩ := box2 w #[.bool n1, .int .u64 c, .int .i64 s] 24 #[.bool false, .int .i8 0, .int .u64 0] 55
 have HZ := hid hB1
 have HSS := hid (fun (w1 : World) h => c3_ (cell3 (kept_heap (w' := w1) h hB0)))
 have HST := hid (fun w1 x0 x1 x2 h => And.intro (fr_ (w.heap.size + 1) x0 x1 x2 (HSS.out w1 h).1) (And.intro (fr_ (w.heap.size + 1) x0 x1 x2 (HSS.out w1 h).2.1) (fr_ (w.heap.size + 1) x0 x1 x2 (HSS.out w1 h).2.2)))
 clear hB0 hB1
 have hk := Chg.refl (fun _ => False) ((w.alloc (.cells #[.bool n1, .int .u64 c, .int .i64 s] 24)).alloc (.cells #[.bool false, .int .i8 0, .int .u64 0] 55))
 obtain ⟨d0, d1, d2⟩ := HSS.out _ hk
 go_enter Tryz.func32, Tryz.ntmps32
 go_wp2_with (go_at_call 61; refine (HM.out _).mono ?_; intro e w1 h; obtain ⟨he, hc⟩ := h; subst he; replace hk := hk.trans hc sb_; have HG := hid (heap_alloc_new w1 (.cells #[.bool nb, .int .i8 s, .int .u64 c] 55)); have hk2 := hk.alloc (.cells #[.bool nb, .int .i8 s, .int .u64 c] 55); clear hc d0 d1 d2; obtain ⟨k0, k1, k2, f0, f1, f2⟩ := cell3 (kept_heap hk2 HZ.out); obtain ⟨g0, g1, g2, _, _, _⟩ := cell3 HG.out)
 go_region
 all_goals (go_wp2_with fail; refine bodyPost_ret (v := .tuple #[.agg #[.bool nb, .int .i8 s, .int .u64 c], .bool true]) (dec_result rfl _ _ (w.heap.size + 1) _ _ _ _ 55 rfl rfl (store3 (kept_heap hk2.drew HZ.out) _ _ _)) rfl ⟨rfl, chg3 (HC0.out.trans hk2.drew sb_) (by omega) _ _ _⟩)
theorem addIdle (p q : Addr) (w : World) : CallsD Tryz.prog 39 #[.pointer (some p), .pointer (some q)] .returning w fun e u' w' => e = .returned (.tuple #[]) ∧ u' = .returning ∧ w' = w := by
 refine callsD_of_wpS Tryz.func39 rfl fun c₀ cs hu => ?_
 apply wpS_seq
 apply wpS_region
 simp [wpOpsS, go_sem, recoverD, hu, Tryz.ntmps39, Exit.thenS]
 refine wpS_cond (t := false) (by simp [Act.eval, Array.replicate]) ?_
 simp only [Bool.false_eq_true, if_false]
 refine wpS_of_wp (wp_skip ?_)
 cases c₀
 simp_all [bodyPostS, results, Tryz.results39]
theorem results_two {fn : Func} {p u : Tmp} {ty ty2 : TypeId} (h : fn.results = #[.cell p ty, .cell u ty2]) (tmps : Array Value) (P : Program) (w : World) :
  (results fn tmps).run P w =
   ((asAddr (tmps.getD p undef)).run P w).andThen fun a w₁ => ((loadVar ty a).run P w₁).andThen fun v w₂ => ((asAddr (tmps.getD u undef)).run P w₂).andThen fun a2 w₃ => ((loadVar ty2 a2).run P w₃).andThen fun v2 w₄ => .ok (.tuple #[v, v2]) w₄ := by
 simp only [results, h]
 simp [Sem.run_bind, Result.andThen]
theorem fix_result {fn : Func} {p u : Tmp} (h : fn.results = #[.cell p 24, .cell u 3]) (tmps : Array Value) (w : World) (g g2 : Nat) (a b d v : Value) (T T2 : TypeId)
  (hp : tmps.getD p undef = .pointer (some ⟨g, 0, none⟩)) (hu : tmps.getD u undef = .pointer (some ⟨g2, 0, none⟩)) (hg : w.heap[g]? = some (.cells #[a, b, d] T (0, 0))) (hg2 : w.heap[g2]? = some (.cells #[v] T2 (0, 0))) :
  (results fn tmps).run Tryz.prog w = .ok (.tuple #[.agg #[a, b, d], v]) w := by
 have hl := run_loadVar_row (P := Tryz.prog) w g T 24 #[a, b, d] (0, 0) _ hg Tryz.underlying24 rfl fix_size
 have hc : w.cell? ⟨g2, 0, none⟩ = some v := by simp [World.cell?, hg2]
 have hl2 : (loadVar 3 ⟨g2, 0, none⟩).run Tryz.prog w = .ok v w := by simp [go_sem, hc]
 rw [results_two h, hp, hu]
 simp [asAddr, hl, hl2, Result.andThen]
theorem cell1 {w1 : World} {z : Nat} {x0 : Value} {T : TypeId} (hh : w1.heap[z]? = some (.cells #[x0] T (0, 0))) : w1.cell? ⟨z, 0, none⟩ = some x0 ∧ w1.frozen? ⟨z, 0, none⟩ = false := by
 refine ⟨?_, ?_⟩ <;> simp [World.cell?, World.frozen?, hh]
theorem fix_far {w1 : World} {z y : Nat} {o : Obj} {v : Value} (h : w1.heap[z]? = some o) (hne : z ≠ y) : (w1.setCell ⟨y, 0, none⟩ v).heap[z]? = some o := by
 rw [Below.heap_setCell _ _ _ _ (by simpa using hne)]; exact h
theorem fix_far' {w1 : World} {z y i : Nat} {o : Obj} {v : Value} (h : w1.heap[z]? = some o) (hne : z ≠ y) : (w1.setCell ⟨y, i, none⟩ v).heap[z]? = some o := by
 rw [Below.heap_setCell _ _ _ _ (by simpa using hne)]; exact h
theorem fix_near {w1 : World} {z y : Nat} {o : Obj} {a b c : Value} (h : w1.heap[z]? = some o) (hne : z ≠ y) : (((w1.setCell ⟨y, 0, none⟩ a).setCell ⟨y, 1, none⟩ b).setCell ⟨y, 2, none⟩ c).heap[z]? = some o :=
 fix_far' (fix_far' (fix_far' h hne) hne) hne
theorem int_set {w1 : World} {z : Nat} {x v : Value} {T : TypeId} (h : w1.heap[z]? = some (.cells #[x] T (0, 0))) : (w1.setCell ⟨z, 0, none⟩ v).heap[z]? = some (.cells #[v] T (0, 0)) := by
 simp [World.setCell, Array.getElem?_modify, h]
theorem fix_chg {w w1 : World} {z y : Nat} {a b c v : Value} (h : Chg (fun _ => False) w w1) (hz : w.heap.size ≤ z) (hy : w.heap.size ≤ y) : Chg (fun _ => False) w ((((w1.setCell ⟨z, 0, none⟩ a).setCell ⟨z, 1, none⟩ b).setCell ⟨z, 2, none⟩ c).setCell ⟨y, 0, none⟩ v) :=
 Chg.setCell (p := ⟨y, 0, none⟩) (chg3 h hz a b c) (fun h => by simp only at h; omega) v
def fixOut (n : Bool) (o : Option (Nat × Nat)) : Value := match o with
 | some (k, t) => .tuple #[.agg #[.bool (n && (k : Int) != 0), .int .u64 (k : Int), .int .i64 (t : Int)], .int .i64 0]
 | none => .tuple #[.agg #[.bool false, .int .u64 0, .int .i64 0], .int .i64 1]
set_option maxHeartbeats 4000000 in
theorem FixAdd_ok (n1 n2 d1 d2 : Bool) (dc ec ds es : Nat) (hdc : dc < 10 ^ 19) (hec : ec < 10 ^ 19) (hds : ds ≤ 19) (hes : es ≤ 19) (hd1 : (n1 && (dc : Int) != 0) = d1) (hd2 : (n2 && (ec : Int) != 0) = d2) (w : World) (he : EnvD w)
  (nb : Bool) (k : Int) (t : Nat) (ht : t ≤ 19) (HS : ∀ w1, EnvD w1 → Calls Tryz.prog 40 #[.agg #[.bool d1, .int .i8 ds, .int .u64 (dc : Int)], .agg #[.bool d2, .int .i8 es, .int .u64 (ec : Int)]] w1 (fun e w' => e = .returned (.tuple #[.agg #[.bool nb, .int .i8 t, .int .u64 k], .nilIface]) ∧ Chg (fun _ => False) w1 w')) :
  Calls Tryz.prog 16 #[.agg #[.bool n1, .int .u64 (dc : Int), .int .i64 (ds : Int)], .agg #[.bool n2, .int .u64 (ec : Int), .int .i64 (es : Int)]] w (PV w (.tuple #[.agg #[.bool nb, .int .u64 k, .int .i64 t], .int .i64 0])) := by
 have HF1 := hid (fun w => fixed_any n1 d1 (dc : Int) ds (fiN hdc) hds hd1 w)
 have HF2 := hid (fun w => fixed_any n2 d2 (ec : Int) es (fiN hec) hes hd2 w)
 have HE := hid he
 obtain ⟨DC, hDC⟩ : ∃ v : Int, (dc : Int) = v := ⟨_, rfl⟩
 obtain ⟨EC, hEC⟩ : ∃ v : Int, (ec : Int) = v := ⟨_, rfl⟩
 rw [hDC] at HF1
 rw [hEC] at HF2
 rw [hDC, hEC] at HS
 rw [hDC, hEC]
 have HSX := hid HS
 clear HS hdc hec hds hes hd1 hd2 he hDC hEC
 have HFX := hid (fun w => fix_any nb k t ht w)
 clear ht
 have HC0 := hid (((((Chg.refl (fun _ => False) w).alloc (.cells #[.bool n1, .int .u64 DC, .int .i64 ds] 24)).alloc (.cells #[.bool n2, .int .u64 EC, .int .i64 es] 24)).alloc (.cells #[.bool false, .int .u64 0, .int .i64 0] 24)).alloc (.cells #[.int .i64 0] 3))
 have hB1 : ((((w.alloc (.cells #[.bool n1, .int .u64 DC, .int .i64 ds] 24)).alloc (.cells #[.bool n2, .int .u64 EC, .int .i64 es] 24)).alloc (.cells #[.bool false, .int .u64 0, .int .i64 0] 24)).alloc (.cells #[.int .i64 0] 3)).heap[w.heap.size + 1]? = some (.cells #[.bool n2, .int .u64 EC, .int .i64 es] 24 (0, 0)) := by
  rw [Below.heap_alloc _ _ _ (by first | (simp; done) | (simp; omega))]
  rw [Below.heap_alloc _ _ _ (by first | (simp; done) | (simp; omega))]
  have := heap_alloc_new (w.alloc (.cells #[.bool n1, .int .u64 DC, .int .i64 ds] 24)) (.cells #[.bool n2, .int .u64 EC, .int .i64 es] 24)
  simpa using this
 have HB1 := hid hB1
 clear hB1
 have hB2 : ((((w.alloc (.cells #[.bool n1, .int .u64 DC, .int .i64 ds] 24)).alloc (.cells #[.bool n2, .int .u64 EC, .int .i64 es] 24)).alloc (.cells #[.bool false, .int .u64 0, .int .i64 0] 24)).alloc (.cells #[.int .i64 0] 3)).heap[w.heap.size + 1 + 1]? = some (.cells #[.bool false, .int .u64 0, .int .i64 0] 24 (0, 0)) := by
  rw [Below.heap_alloc _ _ _ (by first | (simp; done) | (simp; omega))]
  have := heap_alloc_new ((w.alloc (.cells #[.bool n1, .int .u64 DC, .int .i64 ds] 24)).alloc (.cells #[.bool n2, .int .u64 EC, .int .i64 es] 24)) (.cells #[.bool false, .int .u64 0, .int .i64 0] 24)
  simpa using this
 have HB2 := hid hB2
 clear hB2
 have hB3 : ((((w.alloc (.cells #[.bool n1, .int .u64 DC, .int .i64 ds] 24)).alloc (.cells #[.bool n2, .int .u64 EC, .int .i64 es] 24)).alloc (.cells #[.bool false, .int .u64 0, .int .i64 0] 24)).alloc (.cells #[.int .i64 0] 3)).heap[w.heap.size + 1 + 1 + 1]? = some (.cells #[.int .i64 0] 3 (0, 0)) := by
  have := heap_alloc_new (((w.alloc (.cells #[.bool n1, .int .u64 DC, .int .i64 ds] 24)).alloc (.cells #[.bool n2, .int .u64 EC, .int .i64 es] 24)).alloc (.cells #[.bool false, .int .u64 0, .int .i64 0] 24)) (.cells #[.int .i64 0] 3)
  simpa using this
 have HB3 := hid hB3
 clear hB3
 have hk := Chg.refl (fun _ => False) ((((w.alloc (.cells #[.bool n1, .int .u64 DC, .int .i64 ds] 24)).alloc (.cells #[.bool n2, .int .u64 EC, .int .i64 es] 24)).alloc (.cells #[.bool false, .int .u64 0, .int .i64 0] 24)).alloc (.cells #[.int .i64 0] 3))
 have hmf : ∀ (fn : Fn) (first cap : Array Value) (w : World), (Instr.makeFunc fn first cap).run Tryz.prog w = .ok (.func fn first cap) w := fun _ _ _ _ => rfl
 go_enter_defers Tryz.func16, Tryz.ntmps16
 go_wp2_with (first | (go_at_call_of 32 (Value.agg #[Value.bool n1, Value.int .u64 DC, Value.int .i64 (ds : Int)]); refine (HF1.out _).mono ?_; intro e w1 h; obtain ⟨he, hc⟩ := h; subst he; replace hk := (hk.trans hc sb_).alloc (.cells #[.bool d1, .int .i8 ds, .int .u64 DC] 55); have HG1 := hid (heap_alloc_new w1 (.cells #[.bool d1, .int .i8 ds, .int .u64 DC] 55)); clear hc; obtain ⟨e0, e1, e2, _, _, _⟩ := cell3 (kept_heap hk HB1.out)) | (go_at_call_of 32 (Value.agg #[Value.bool n2, Value.int .u64 EC, Value.int .i64 (es : Int)]); refine (HF2.out _).mono ?_; intro e w2 h; obtain ⟨he, hc⟩ := h; subst he; replace hk := (hk.trans hc sb_).alloc (.cells #[.bool d2, .int .i8 es, .int .u64 EC] 55); replace HG1 := hid (kept_heap (hc.alloc (.cells #[.bool d2, .int .i8 es, .int .u64 EC] 55)) HG1.out); have HG2 := hid (heap_alloc_new w2 (.cells #[.bool d2, .int .i8 es, .int .u64 EC] 55)); clear hc e0 e1 e2; obtain ⟨g0, g1, g2, _, _, _⟩ := cell3 HG1.out; obtain ⟨j0, j1, j2, _, _, _⟩ := cell3 HG2.out) | (go_at_call 40; refine (HSX.out _ (HE.out.kept (HC0.out.trans hk sb_))).mono ?_; intro e w3 h; obtain ⟨he, hc⟩ := h; subst he; replace hk := (hk.trans hc sb_).alloc (.cells #[.bool nb, .int .i8 t, .int .u64 k] 55); clear hc g0 g1 g2 j0 j1 j2) | (go_at_call 34; refine (HFX.out _).mono ?_; intro e w4 h; obtain ⟨he, hc⟩ := h; subst he; replace hk := hk.trans hc sb_; clear hc; obtain ⟨r0, r1, r2, q0, q1, q2⟩ := cell3 (kept_heap hk HB2.out); obtain ⟨i0, i1⟩ := cell1 (kept_heap hk HB3.out)))
 refine leaves_cons (f := 39) (args := #[.pointer (some ⟨w.heap.size + 1 + 1, 0, none⟩), .pointer (some ⟨w.heap.size + 1 + 1 + 1, 0, none⟩)]) (by simp) (by simp [go_sem]) ?_
 refine (addIdle _ _ _).mono ?_
 rintro e u' w'' ⟨rfl, rfl, rfl⟩
 exact ⟨.tuple #[.agg #[.bool nb, .int .u64 k, .int .i64 t], .int .i64 0], fix_result rfl _ _ (w.heap.size + 1 + 1) (w.heap.size + 1 + 1 + 1) _ _ _ _ _ _ rfl rfl (fix_far (store3 (kept_heap hk HB2.out) _ _ _) (by omega)) (int_set (fix_near (kept_heap hk HB3.out) (by omega))), rfl, fix_chg (HC0.out.trans hk sb_) (by omega) (by omega)⟩
theorem FixHas_any {w : World} {B D2 : Option Addr} {m d p2 q2 a b s y : Nat} (N1 n2 : Bool) (ha : a < 10 ^ 19) (hs : s ≤ 19) (hN : (N1 && a != 0) = N1) (hb : SN w B m d b) (hy : SN w D2 p2 q2 y) (hb1 : b < tn 850) (hy1 : y < tn 850)
  (hcmp : (N1 && a * y != 0) = (n2 && b * 10 ^ s != 0) ∧ a * y = b * 10 ^ s) :
  Calls Tryz.prog 52 #[.agg #[.bool N1, .int .u64 (a : Int), .int .i64 (s : Int)], .agg #[.bool n2, .slice B m d, .slice D2 p2 q2]] w (PV w (.bool true)) := by
 cases N1 with
 | true => exact FixHas_neg n2 ha hs (by rw [Bool.true_and] at hN; exact bne_iff_ne.1 hN) hb hy hb1 hy1 hcmp
 | false => exact FixHas_pos n2 ha hs hb hy hb1 hy1 hcmp
set_option maxHeartbeats 4000000 in
theorem gvNear_none {w : World} {A D1 : Option Addr} {n c p1 q1 a x : Nat} (n1 : Bool) (ha : SN w A n c a) (hx : SN w D1 p1 q1 x) (ha1 : a < tn 850) (hx1 : x < tn 850) (hpl : Places a x) (N1 : Bool) (v s0 : Int) (hR : room (10 ^ 19) (atP a x) 19 = none) :
  Calls Tryz.prog 22 #[.agg #[.bool N1, .int .u64 v, .int .i64 s0], .int .i64 1, .agg #[.bool n1, .slice A n c, .slice D1 p1 q1]] w (PV w (.bool true)) := by
 have HFX := hid (fun w1 (h : Chg (fun _ => False) w w1) => Fixed_any n1 (ha.kept h) (hx.kept h) ha1 hx1 hpl _ hR)
 clear ha hx ha1 hx1 hpl hR
 obtain ⟨HC0, HD, hB0, hB1⟩ := box2 w #[.bool N1, .int .u64 v, .int .i64 s0] 24 #[.bool n1, .slice A n c, .slice D1 p1 q1] 34
 have HSS := hid (fun (w1 : World) h => d3_ (cell3 (kept_heap (w' := w1) h hB0)) (c3_ (cell3 (kept_heap (w' := w1) h hB1))))
 clear hB0 hB1
 have hk := Chg.refl (fun _ => False) ((w.alloc (.cells #[.bool N1, .int .u64 v, .int .i64 s0] 24)).alloc (.cells #[.bool n1, .slice A n c, .slice D1 p1 q1] 34))
 obtain ⟨d0, d1, d2, e0_, e1, e2⟩ := HSS.out _ hk
 go_enter Tryz.func22, Tryz.ntmps22
 go_wp2_with (go_at_call 51; refine (HFX.out _ HC0.out).mono ?_; intro e w1 h; obtain ⟨hc, he⟩ := h; subst he; replace hk := hk.trans hc sb_; clear hc d0 d1 d2 e0_ e1 e2)
 go_ret
 exact ⟨rfl, (HC0.out.trans hk sb_).alloc _⟩
set_option maxHeartbeats 4000000 in
theorem gvNear_some {w : World} {A D1 : Option Addr} {n c p1 q1 a x : Nat} (n1 : Bool) (ha : SN w A n c a) (hx : SN w D1 p1 q1 x) (ha1 : a < tn 850) (hx1 : x < tn 850) (hpl : Places a x) (N1 : Bool) (k t R : Nat) (hk1 : k < 10 ^ 19) (ht : t ≤ 19) (hN : (N1 && k != 0) = N1) (hR : room (10 ^ 19) (atP a x) 19 = some R) (hR19 : R ≤ 19) (hq : atP a x R < 10 ^ 19) (hcmp : (N1 && k * 10 ^ R != 0) = ((n1 && atP a x R != 0) && atP a x R * 10 ^ t != 0) ∧ k * 10 ^ R = atP a x R * 10 ^ t) :
  Calls Tryz.prog 22 #[.agg #[.bool N1, .int .u64 (k : Int), .int .i64 (t : Int)], .int .i64 0, .agg #[.bool n1, .slice A n c, .slice D1 p1 q1]] w (PV w (.bool true)) := by
 have HFX := hid (fun w1 (h : Chg (fun _ => False) w w1) => Fixed_any n1 (ha.kept h) (hx.kept h) ha1 hx1 hpl _ hR)
 have h100 : (10 : Nat) ^ R < tn 850 := pow_tn (by omega)
 have hq100 : atP a x R < tn 850 := lt_tn hq (by omega)
 have HDF := hid (fun w1 (sb : Bool) (E : Option Addr) (k l : Nat) (hsb : (n1 && atP a x R != 0) = sb) (h : SN w1 E k l (atP a x R)) => DecFrac_any sb (-(R : Int)) R h (up240 hq100 (by omega)) (by omega) (by rw [← hsb]; cases n1 <;> simp) rfl)
 have HFH := hid (fun w1 (sb : Bool) (hsb : (n1 && atP a x R != 0) = sb) (E : Option Addr) (k1 l : Nat) (G : Option Addr) (i j : Nat) (h1 : SN w1 E k1 l (atP a x R)) (h2 : SN w1 G i j (10 ^ R)) => FixHas_any N1 sb hk1 ht hN h1 h2 hq100 h100 (by rw [← hsb]; exact hcmp))
 obtain ⟨v, hv⟩ : ∃ v : Int, (k : Int) = v := ⟨_, rfl⟩
 obtain ⟨s0, hs0⟩ : ∃ s0 : Int, (t : Int) = s0 := ⟨_, rfl⟩
 obtain ⟨e0, he0⟩ : ∃ e0 : Int, -(R : Int) = e0 := ⟨_, rfl⟩
 rw [hv, hs0] at HFH
 rw [hv, hs0]
 rw [he0] at HDF
 have HE0 := hid he0
 clear ha hx ha1 hx1 hpl hk1 ht hN hR hR19 hq hcmp h100 hq100 hv hs0 he0
 obtain ⟨HC0, HD, hB0, hB1⟩ := box2 w #[.bool N1, .int .u64 v, .int .i64 s0] 24 #[.bool n1, .slice A n c, .slice D1 p1 q1] 34
 have HSS := hid (fun (w1 : World) h => d3_ (cell3 (kept_heap (w' := w1) h hB0)) (c3_ (cell3 (kept_heap (w' := w1) h hB1))))
 clear hB0 hB1
 have hk := Chg.refl (fun _ => False) ((w.alloc (.cells #[.bool N1, .int .u64 v, .int .i64 s0] 24)).alloc (.cells #[.bool n1, .slice A n c, .slice D1 p1 q1] 34))
 obtain ⟨d0, d1, d2, e0_, e1, e2⟩ := HSS.out _ hk
 go_enter Tryz.func22, Tryz.ntmps22
 go_wp2_with fail
 go_at_call 51
 refine (HFX.out _ HC0.out).mono ?_
 intro e w1 h
 obtain ⟨hc, sb, E, kk, l, he, hsn, hsb⟩ := h
 rw [HE0.out] at he
 subst he
 replace hk := (hk.trans hc sb_).alloc (.cells #[.bool sb, .slice E kk l, .int .i64 e0] 64)
 have HN1 := hid (hsn.kept ((Chg.refl (fun _ => False) w1).alloc (.cells #[.bool sb, .slice E kk l, .int .i64 e0] 64)))
 have HSB := hid hsb
 obtain ⟨g, hg⟩ : ∃ g, w1.heap.size = g := ⟨_, rfl⟩
 have hG := heap_alloc_new w1 (.cells #[.bool sb, .slice E kk l, .int .i64 e0] 64)
 rw [hg] at hG
 have HG := hid hG
 clear hc d0 d1 d2 e0_ e1 e2 hsn hsb hG
 obtain ⟨d0, d1, d2, e0_, e1, e2⟩ := HSS.out _ hk
 obtain ⟨j0, j1, j2, _, _, _⟩ := cell3 HG.out
 go_wp2_with fail
 have HW := hid (Chg.refl (fun _ => False) (w1.alloc (.cells #[.bool sb, .slice E kk l, .int .i64 e0] 64))).drew
 have hw6 := HW.out
 have hk := hk.drew
 replace HN1 := hid (HN1.out.kept HW.out)
 have HS6 := hid (fun w2 (h1 : Chg (fun _ => False) ((w.alloc (.cells #[.bool N1, .int .u64 v, .int .i64 s0] 24)).alloc (.cells #[.bool n1, .slice A n c, .slice D1 p1 q1] 34)) w2) (h2 : Chg (fun _ => False) (w1.alloc (.cells #[.bool sb, .slice E kk l, .int .i64 e0] 64)) w2) => (show w2.cell? ⟨w.heap.size, 0, none⟩ = some (.bool N1) ∧ w2.cell? ⟨w.heap.size, 1, none⟩ = some (.int .u64 v) ∧ w2.cell? ⟨w.heap.size, 2, none⟩ = some (.int .i64 s0) ∧ w2.cell? ⟨g, 0, none⟩ = some (.bool sb) ∧ w2.cell? ⟨g, 1, none⟩ = some (.slice E kk l) ∧ w2.cell? ⟨g, 2, none⟩ = some (.int .i64 e0) from ⟨(HSS.out _ h1).1, (HSS.out _ h1).2.1, (HSS.out _ h1).2.2.1, (cell3 (kept_heap h2 HG.out)).1, (cell3 (kept_heap h2 HG.out)).2.1, (cell3 (kept_heap h2 HG.out)).2.2.1⟩))
 first | (go_region_held3 (fun w' => w'.cell? ⟨w.heap.size, 0, none⟩ = some (.bool N1) ∧ w'.cell? ⟨w.heap.size, 1, none⟩ = some (.int .u64 v) ∧ w'.cell? ⟨w.heap.size, 2, none⟩ = some (.int .i64 s0) ∧ w'.cell? ⟨g, 0, none⟩ = some (.bool sb) ∧ w'.cell? ⟨g, 1, none⟩ = some (.slice E kk l) ∧ w'.cell? ⟨g, 2, none⟩ = some (.int .i64 e0)) (first | with_reducible exact HS6.out _ hk hw6) (first | (go_at_call 36; refine (HDF.out _ sb _ _ _ HSB.out HN1.out).mono ?_; intro e w3 h; obtain ⟨E2, k2_, l2_, E3, k3_, l3_, he, hs1, hs2, hc⟩ := h; subst he; have HN2 := hid hs1; have HN3 := hid hs2; clear hs1 hs2; replace hk := hk.trans hc sb_; replace hw6 := hw6.trans hc sb_; clear hc) | (go_at_call 52; refine (HFH.out _ sb HSB.out _ _ _ _ _ _ HN2.out HN3.out).mono ?_; intro e w3 h; obtain ⟨he, hc⟩ := h; subst he; replace hk := hk.trans hc sb_; replace hw6 := hw6.trans hc sb_; clear hc))) | fail
 all_goals (go_wp2_with fail; go_ret; exact ⟨rfl, HC0.out.trans hk sb_⟩)
def okFix (v s : Int) : Bool := decide (v ≤ 9999999999999999999) && (decide (0 ≤ s) && decide (s ≤ 19))
theorem sumS_scale (p q : Bool) (A B t : Nat) (ht : 0 < t) : sumS p (A * t) q (B * t) = ((sumS p A q B).1, (sumS p A q B).2 * t) := by
 unfold sumS
 by_cases h : p = q
 ·rw [if_pos h, if_pos h, Nat.add_mul]
 ·rw [if_neg h, if_neg h]
  by_cases h2 : A < B
  ·rw [if_pos h2, if_pos (Nat.mul_lt_mul_of_pos_right h2 ht), Nat.sub_mul]
  ·rw [if_neg h2, if_neg (by have := Nat.mul_le_mul_right t (Nat.le_of_not_lt h2); omega), Nat.sub_mul]
def mnp (a b : Nat) : Nat := if a < b then a else b
theorem mxmn (a b : Nat) : mxp a b + mnp a b = a + b := by unfold mxp mnp; split <;> omega
theorem mx_l (a b : Nat) : a ≤ mxp a b := by unfold mxp; split <;> omega
theorem mx_r (a b : Nat) : b ≤ mxp a b := by unfold mxp; split <;> omega
theorem mx_le {a b k : Nat} (ha : a ≤ k) (hb : b ≤ k) : mxp a b ≤ k := by unfold mxp; split <;> omega
theorem atP_rnd (c S t n : Nat) : atP (c * 10 ^ t) (10 ^ S * 10 ^ t) n = rnd c S n := by
 unfold atP rnd
 rw [show c * 10 ^ t * 10 ^ n = c * 10 ^ n * 10 ^ t by rw [Nat.mul_assoc, Nat.mul_comm (10 ^ t), ← Nat.mul_assoc]]
 exact rhe_scale (pow10_pos _) (pow10_pos _)
theorem room_R {E : Nat} {f : Nat → Nat} {R : Nat} (h : room E f 19 = some R) : R ≤ 19 ∧ f R < E := room_lt h
end Go.Proofs.YtbjhnckboimliaaGreatDoor
