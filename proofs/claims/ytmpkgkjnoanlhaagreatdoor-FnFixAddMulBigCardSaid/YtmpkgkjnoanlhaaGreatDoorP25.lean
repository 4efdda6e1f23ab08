/- Part 25 of the proof. -/
import Derived.Test.YtmpkgkjnoanlhaaGreatDoorP22
import Derived.Test.YtmpkgkjnoanlhaaGreatDoorP24
namespace Go.Proofs.YtmpkgkjnoanlhaaGreatDoor
open Go.RowKit
set_option linter.unusedVariables false
set_option linter.unusedSimpArgs false
set_option maxRecDepth 20000
set_option maxHeartbeats 2000000 in
theorem ZzAddMulBig_any (dn en fn neg : Bool) (dc ec fc m : Int) (ds es fs : Nat) (o : Option (Nat × Nat)) (w : World) (he : EnvD w)
  (HA : ∀ w1, EnvD w1 → Calls Tryz.prog 56 #[.agg #[.bool dn, .int .i8 ds, .int .u64 dc], .agg #[.bool en, .int .i8 es, .int .u64 ec], .agg #[.bool fn, .int .i8 fs, .int .u64 fc], .int .i64 m] w1 (PDecN w1 neg o)) :
  Calls Tryz.prog 31 #[.agg #[.bool dn, .int .i8 ds, .int .u64 dc], .agg #[.bool en, .int .i8 es, .int .u64 ec], .agg #[.bool fn, .int .i8 fs, .int .u64 fc], .int .i64 m] w (PDecN w neg o) := by
 obtain ⟨HC0, HD, hB0, hB1, hB2, hB3⟩ := box4 w #[.bool dn, .int .i8 ds, .int .u64 dc] 46 #[.bool en, .int .i8 es, .int .u64 ec] 46 #[.bool fn, .int .i8 fs, .int .u64 fc] 46 #[.bool false, .int .i8 0, .int .u64 0] 46
 have HZ := hid hB3
 have HAA := hid HA
 have HE := hid he
 obtain ⟨d0, d1, d2, _, _, _⟩ := cell3 hB0
 obtain ⟨e0, e1, e2, _, _, _⟩ := cell3 hB1
 obtain ⟨g0, g1, g2, _, _, _⟩ := cell3 hB2
 clear hB0 hB1 hB2 hB3 HA he HD
 go_enter Tryz.func31, Tryz.ntmps31
 go_wp2_with (go_at_call 56; refine (HAA.out _ (HE.out.kept HC0.out)).mono ?_; intro e w1 h; obtain ⟨na, nb, nc, nv, he, hc, hp⟩ := h.op; subst he; have hk := hc; have HP := hid hp; clear hp h hc; obtain ⟨k0, k1, k2, f0, f1, f2⟩ := cell3 (kept_heap hk HZ.out))
 exact bodyPost_ret (v := .tuple #[.agg #[.bool na, .int .i8 nb, .int .u64 nc], nv]) (dec_result rfl _ _ (w.heap.size + 1 + 1 + 1) _ _ _ _ 46 rfl rfl (store3 (kept_heap hk HZ.out) _ _ _)) rfl (HP.out.move (chg3 (HC0.out.trans hk sb_) (by omega) _ _ _))
theorem mulBig_idle (p q : Addr) (w : World) : CallsD Tryz.prog 30 #[.pointer (some p), .pointer (some q)] .returning w fun e u' w' => e = .returned (.tuple #[]) ∧ u' = .returning ∧ w' = w := by
 refine callsD_of_wpS Tryz.func30 rfl fun c₀ cs hu => ?_
 apply wpS_seq
 apply wpS_region
 simp [wpOpsS, go_sem, recoverD, hu, Tryz.ntmps30, Exit.thenS]
 refine wpS_cond (t := false) (by simp [Act.eval, Array.replicate]) ?_
 simp only [Bool.false_eq_true, if_false]
 refine wpS_of_wp (wp_skip ?_)
 cases c₀
 simp_all [bodyPostS, results, Tryz.results30]
set_option maxHeartbeats 4000000 in
theorem mulBig_ok (n1 n2 n3 d1 d2 d3 : Bool) (dc ec fc ds es fs : Nat) (m : Int) (hdc : dc < 10 ^ 19) (hec : ec < 10 ^ 19) (hfc : fc < 10 ^ 19) (hds : ds ≤ 19) (hes : es ≤ 19) (hfs : fs ≤ 19) (hd1 : (n1 && (dc : Int) != 0) = d1) (hd2 : (n2 && (ec : Int) != 0) = d2) (hd3 : (n3 && (fc : Int) != 0) = d3) (hm : ¬ (m < 0 ∨ 19 < m)) (w : World) (he : EnvD w)
  (nb : Bool) (k : Int) (t : Nat) (ht : t ≤ 19) (HS : ∀ w1, EnvD w1 → Calls Tryz.prog 31 #[.agg #[.bool d1, .int .i8 ds, .int .u64 (dc : Int)], .agg #[.bool d2, .int .i8 es, .int .u64 (ec : Int)], .agg #[.bool d3, .int .i8 fs, .int .u64 (fc : Int)], .int .i64 m] w1 (fun e w' => e = .returned (.tuple #[.agg #[.bool nb, .int .i8 t, .int .u64 k], .nilIface]) ∧ Chg (fun _ => False) w1 w')) :
  Calls Tryz.prog 13 #[.agg #[.bool n1, .int .u64 (dc : Int), .int .i64 (ds : Int)], .agg #[.bool n2, .int .u64 (ec : Int), .int .i64 (es : Int)], .agg #[.bool n3, .int .u64 (fc : Int), .int .i64 (fs : Int)], .int .i64 m] w (PV w (.tuple #[.agg #[.bool nb, .int .u64 k, .int .i64 t], .int .i64 0])) := by
 have HF1 := hid (fun w => fixed_any n1 d1 (dc : Int) ds (fiN hdc) hds hd1 w)
 have HF2 := hid (fun w => fixed_any n2 d2 (ec : Int) es (fiN hec) hes hd2 w)
 have HF3 := hid (fun w => fixed_any n3 d3 (fc : Int) fs (fiN hfc) hfs hd3 w)
 have HE := hid he
 obtain ⟨DC, hDC⟩ : ∃ v : Int, (dc : Int) = v := ⟨_, rfl⟩
 obtain ⟨EC, hEC⟩ : ∃ v : Int, (ec : Int) = v := ⟨_, rfl⟩
 obtain ⟨FC, hFC⟩ : ∃ v : Int, (fc : Int) = v := ⟨_, rfl⟩
 rw [hDC] at HF1
 rw [hEC] at HF2
 rw [hFC] at HF3
 rw [hDC, hEC, hFC]
 rw [hDC, hEC, hFC] at HS
 have HSX := hid HS
 have hb1 : decide (m < 0) = false := decide_eq_false (by omega)
 have hb2 : decide (19 < m) = false := decide_eq_false (by omega)
 have HFX := hid (fun w => fix_any nb k t ht w)
 clear HS hdc hec hfc hds hes hfs hd1 hd2 hd3 he hDC hEC hFC ht hm
 obtain ⟨HC0, HD, hB0, hB1, hB2, hB3, hB4⟩ := box5 w #[.bool n1, .int .u64 DC, .int .i64 ds] 24 #[.bool n2, .int .u64 EC, .int .i64 es] 24 #[.bool n3, .int .u64 FC, .int .i64 fs] 24 #[.bool false, .int .u64 0, .int .i64 0] 24 #[.int .i64 0] 3
 have HB1 := hid hB1
 have HB2 := hid hB2
 have HB3 := hid hB3
 have HB4 := hid hB4
 have hk := Chg.refl (fun _ => False) (((((w.alloc (.cells #[.bool n1, .int .u64 DC, .int .i64 ds] 24)).alloc (.cells #[.bool n2, .int .u64 EC, .int .i64 es] 24)).alloc (.cells #[.bool n3, .int .u64 FC, .int .i64 fs] 24)).alloc (.cells #[.bool false, .int .u64 0, .int .i64 0] 24)).alloc (.cells #[.int .i64 0] 3))
 obtain ⟨b0_, b1_, b2_, _, _, _⟩ := cell3 hB0
 clear hB0 hB1 hB2 hB3 hB4 HD
 have hmf : ∀ (fn : Fn) (first cap : Array Value) (w : World), (Instr.makeFunc fn first cap).run Tryz.prog w = .ok (.func fn first cap) w := fun _ _ _ _ => rfl
 go_enter_defers Tryz.func13, Tryz.ntmps13
 go_wp2_with (first | (go_at_call_of 21 (Value.agg #[Value.bool n1, Value.int .u64 DC, Value.int .i64 (ds : Int)]); refine (HF1.out _).mono ?_; intro e w1 h; obtain ⟨he, hc⟩ := h; subst he; replace hk := (hk.trans hc sb_).alloc (.cells #[.bool d1, .int .i8 ds, .int .u64 DC] 46); have HG1 := hid (heap_alloc_new w1 (.cells #[.bool d1, .int .i8 ds, .int .u64 DC] 46)); clear hc b0_ b1_ b2_; obtain ⟨e0, e1, e2, _, _, _⟩ := cell3 (kept_heap hk HB1.out)) | (go_at_call_of 21 (Value.agg #[Value.bool n2, Value.int .u64 EC, Value.int .i64 (es : Int)]); refine (HF2.out _).mono ?_; intro e w2 h; obtain ⟨he, hc⟩ := h; subst he; replace hk := (hk.trans hc sb_).alloc (.cells #[.bool d2, .int .i8 es, .int .u64 EC] 46); replace HG1 := hid (kept_heap (hc.alloc (.cells #[.bool d2, .int .i8 es, .int .u64 EC] 46)) HG1.out); have HG2 := hid (heap_alloc_new w2 (.cells #[.bool d2, .int .i8 es, .int .u64 EC] 46)); clear hc e0 e1 e2; obtain ⟨e0, e1, e2, _, _, _⟩ := cell3 (kept_heap hk HB2.out)) | (go_at_call_of 21 (Value.agg #[Value.bool n3, Value.int .u64 FC, Value.int .i64 (fs : Int)]); refine (HF3.out _).mono ?_; intro e w3 h; obtain ⟨he, hc⟩ := h; subst he; replace hk := (hk.trans hc sb_).alloc (.cells #[.bool d3, .int .i8 fs, .int .u64 FC] 46); replace HG1 := hid (kept_heap (hc.alloc (.cells #[.bool d3, .int .i8 fs, .int .u64 FC] 46)) HG1.out); replace HG2 := hid (kept_heap (hc.alloc (.cells #[.bool d3, .int .i8 fs, .int .u64 FC] 46)) HG2.out); have HG3 := hid (heap_alloc_new w3 (.cells #[.bool d3, .int .i8 fs, .int .u64 FC] 46)); clear hc e0 e1 e2; obtain ⟨g0, g1, g2, _, _, _⟩ := cell3 HG1.out; obtain ⟨j0, j1, j2, _, _, _⟩ := cell3 HG2.out; obtain ⟨l0, l1, l2, _, _, _⟩ := cell3 HG3.out) | (go_at_call 31; refine (HSX.out _ (HE.out.kept (HC0.out.trans hk sb_))).mono ?_; intro e w4 h; obtain ⟨he, hc⟩ := h; subst he; replace hk := (hk.trans hc sb_).alloc (.cells #[.bool nb, .int .i8 t, .int .u64 k] 46); clear hc g0 g1 g2 j0 j1 j2 l0 l1 l2) | (go_at_call 23; refine (HFX.out _).mono ?_; intro e w5 h; obtain ⟨he, hc⟩ := h; subst he; replace hk := hk.trans hc sb_; clear hc; obtain ⟨r0, r1, r2, q0, q1, q2⟩ := cell3 (kept_heap hk HB3.out); obtain ⟨i0, i1⟩ := cell1 (kept_heap hk HB4.out)))
 refine leaves_cons (f := 30) (args := #[.pointer (some ⟨w.heap.size + 1 + 1 + 1, 0, none⟩), .pointer (some ⟨w.heap.size + 1 + 1 + 1 + 1, 0, none⟩)]) (by simp) (by simp [go_sem]) ?_
 refine (mulBig_idle _ _ _).mono ?_
 rintro e u' w'' ⟨rfl, rfl, rfl⟩
 exact ⟨.tuple #[.agg #[.bool nb, .int .u64 k, .int .i64 t], .int .i64 0], fix_result rfl _ _ (w.heap.size + 1 + 1 + 1) (w.heap.size + 1 + 1 + 1 + 1) _ _ _ _ _ _ rfl rfl (fix_far (store3 (kept_heap hk HB3.out) _ _ _) (by omega)) (int_set (fix_near (kept_heap hk HB4.out) (by omega))), rfl, fix_chg (HC0.out.trans hk sb_) (by omega) (by omega)⟩
set_option maxHeartbeats 4000000 in
theorem mulBig_err (n1 n2 n3 d1 d2 d3 : Bool) (dc ec fc ds es fs : Nat) (m : Int) (hdc : dc < 10 ^ 19) (hec : ec < 10 ^ 19) (hfc : fc < 10 ^ 19) (hds : ds ≤ 19) (hes : es ≤ 19) (hfs : fs ≤ 19) (hd1 : (n1 && (dc : Int) != 0) = d1) (hd2 : (n2 && (ec : Int) != 0) = d2) (hd3 : (n3 && (fc : Int) != 0) = d3) (hm : ¬ (m < 0 ∨ 19 < m)) (w : World) (he : EnvD w)
  (HS : ∀ w1, EnvD w1 → Calls Tryz.prog 31 #[.agg #[.bool d1, .int .i8 ds, .int .u64 (dc : Int)], .agg #[.bool d2, .int .i8 es, .int .u64 (ec : Int)], .agg #[.bool d3, .int .i8 fs, .int .u64 (fc : Int)], .int .i64 m] w1 (fun e w' => Chg (fun _ => False) w1 w' ∧ ∃ t v, e = .returned (.tuple #[.agg #[.bool false, .int .i8 0, .int .u64 0], .iface t v]))) :
  Calls Tryz.prog 13 #[.agg #[.bool n1, .int .u64 (dc : Int), .int .i64 (ds : Int)], .agg #[.bool n2, .int .u64 (ec : Int), .int .i64 (es : Int)], .agg #[.bool n3, .int .u64 (fc : Int), .int .i64 (fs : Int)], .int .i64 m] w (PV w (.tuple #[.agg #[.bool false, .int .u64 0, .int .i64 0], .int .i64 1])) := by
 have HF1 := hid (fun w => fixed_any n1 d1 (dc : Int) ds (fiN hdc) hds hd1 w)
 have HF2 := hid (fun w => fixed_any n2 d2 (ec : Int) es (fiN hec) hes hd2 w)
 have HF3 := hid (fun w => fixed_any n3 d3 (fc : Int) fs (fiN hfc) hfs hd3 w)
 have HE := hid he
 obtain ⟨DC, hDC⟩ : ∃ v : Int, (dc : Int) = v := ⟨_, rfl⟩
 obtain ⟨EC, hEC⟩ : ∃ v : Int, (ec : Int) = v := ⟨_, rfl⟩
 obtain ⟨FC, hFC⟩ : ∃ v : Int, (fc : Int) = v := ⟨_, rfl⟩
 rw [hDC] at HF1
 rw [hEC] at HF2
 rw [hFC] at HF3
 rw [hDC, hEC, hFC]
 rw [hDC, hEC, hFC] at HS
 have HSX := hid HS
 have hb1 : decide (m < 0) = false := decide_eq_false (by omega)
 have hb2 : decide (19 < m) = false := decide_eq_false (by omega)
 clear HS hdc hec hfc hds hes hfs hd1 hd2 hd3 he hDC hEC hFC hm
 obtain ⟨HC0, HD, hB0, hB1, hB2, hB3, hB4⟩ := box5 w #[.bool n1, .int .u64 DC, .int .i64 ds] 24 #[.bool n2, .int .u64 EC, .int .i64 es] 24 #[.bool n3, .int .u64 FC, .int .i64 fs] 24 #[.bool false, .int .u64 0, .int .i64 0] 24 #[.int .i64 0] 3
 have HB1 := hid hB1
 have HB2 := hid hB2
 have HB3 := hid hB3
 have HB4 := hid hB4
 have hk := Chg.refl (fun _ => False) (((((w.alloc (.cells #[.bool n1, .int .u64 DC, .int .i64 ds] 24)).alloc (.cells #[.bool n2, .int .u64 EC, .int .i64 es] 24)).alloc (.cells #[.bool n3, .int .u64 FC, .int .i64 fs] 24)).alloc (.cells #[.bool false, .int .u64 0, .int .i64 0] 24)).alloc (.cells #[.int .i64 0] 3))
 obtain ⟨b0_, b1_, b2_, _, _, _⟩ := cell3 hB0
 clear hB0 hB1 hB2 hB3 hB4 HD
 have hmf : ∀ (fn : Fn) (first cap : Array Value) (w : World), (Instr.makeFunc fn first cap).run Tryz.prog w = .ok (.func fn first cap) w := fun _ _ _ _ => rfl
 go_enter_defers Tryz.func13, Tryz.ntmps13
 go_wp2_with (first | (go_at_call_of 21 (Value.agg #[Value.bool n1, Value.int .u64 DC, Value.int .i64 (ds : Int)]); refine (HF1.out _).mono ?_; intro e w1 h; obtain ⟨he, hc⟩ := h; subst he; replace hk := (hk.trans hc sb_).alloc (.cells #[.bool d1, .int .i8 ds, .int .u64 DC] 46); have HG1 := hid (heap_alloc_new w1 (.cells #[.bool d1, .int .i8 ds, .int .u64 DC] 46)); clear hc b0_ b1_ b2_; obtain ⟨e0, e1, e2, _, _, _⟩ := cell3 (kept_heap hk HB1.out)) | (go_at_call_of 21 (Value.agg #[Value.bool n2, Value.int .u64 EC, Value.int .i64 (es : Int)]); refine (HF2.out _).mono ?_; intro e w2 h; obtain ⟨he, hc⟩ := h; subst he; replace hk := (hk.trans hc sb_).alloc (.cells #[.bool d2, .int .i8 es, .int .u64 EC] 46); replace HG1 := hid (kept_heap (hc.alloc (.cells #[.bool d2, .int .i8 es, .int .u64 EC] 46)) HG1.out); have HG2 := hid (heap_alloc_new w2 (.cells #[.bool d2, .int .i8 es, .int .u64 EC] 46)); clear hc e0 e1 e2; obtain ⟨e0, e1, e2, _, _, _⟩ := cell3 (kept_heap hk HB2.out)) | (go_at_call_of 21 (Value.agg #[Value.bool n3, Value.int .u64 FC, Value.int .i64 (fs : Int)]); refine (HF3.out _).mono ?_; intro e w3 h; obtain ⟨he, hc⟩ := h; subst he; replace hk := (hk.trans hc sb_).alloc (.cells #[.bool d3, .int .i8 fs, .int .u64 FC] 46); replace HG1 := hid (kept_heap (hc.alloc (.cells #[.bool d3, .int .i8 fs, .int .u64 FC] 46)) HG1.out); replace HG2 := hid (kept_heap (hc.alloc (.cells #[.bool d3, .int .i8 fs, .int .u64 FC] 46)) HG2.out); have HG3 := hid (heap_alloc_new w3 (.cells #[.bool d3, .int .i8 fs, .int .u64 FC] 46)); clear hc e0 e1 e2; obtain ⟨g0, g1, g2, _, _, _⟩ := cell3 HG1.out; obtain ⟨j0, j1, j2, _, _, _⟩ := cell3 HG2.out; obtain ⟨l0, l1, l2, _, _, _⟩ := cell3 HG3.out) | (go_at_call 31; refine (HSX.out _ (HE.out.kept (HC0.out.trans hk sb_))).mono ?_; intro e w4 h; obtain ⟨hc, t3, v3, he⟩ := h; subst he; replace hk := (hk.trans hc sb_).alloc (.cells #[.bool false, .int .i8 0, .int .u64 0] 46); clear hc g0 g1 g2 j0 j1 j2 l0 l1 l2; obtain ⟨r0, r1, r2, q0, q1, q2⟩ := cell3 (kept_heap hk HB3.out); obtain ⟨i0, i1⟩ := cell1 (kept_heap hk HB4.out)))
 refine leaves_cons (f := 30) (args := #[.pointer (some ⟨w.heap.size + 1 + 1 + 1, 0, none⟩), .pointer (some ⟨w.heap.size + 1 + 1 + 1 + 1, 0, none⟩)]) (by simp) (by simp [go_sem]) ?_
 refine (mulBig_idle _ _ _).mono ?_
 rintro e u' w'' ⟨rfl, rfl, rfl⟩
 exact ⟨.tuple #[.agg #[.bool false, .int .u64 0, .int .i64 0], .int .i64 1], fix_result rfl _ _ (w.heap.size + 1 + 1 + 1) (w.heap.size + 1 + 1 + 1 + 1) _ _ _ _ _ _ rfl rfl (fix_far (store3 (kept_heap hk HB3.out) _ _ _) (by omega)) (int_set (fix_near (kept_heap hk HB4.out) (by omega))), rfl, fix_chg (HC0.out.trans hk sb_) (by omega) (by omega)⟩
set_option maxHeartbeats 4000000 in
theorem mulBig_out (n1 n2 n3 d1 d2 d3 : Bool) (dc ec fc ds es fs : Nat) (m : Int) (hdc : dc < 10 ^ 19) (hec : ec < 10 ^ 19) (hfc : fc < 10 ^ 19) (hds : ds ≤ 19) (hes : es ≤ 19) (hfs : fs ≤ 19) (hd1 : (n1 && (dc : Int) != 0) = d1) (hd2 : (n2 && (ec : Int) != 0) = d2) (hd3 : (n3 && (fc : Int) != 0) = d3) (hm : m < 0 ∨ 19 < m) (w : World) (he : EnvD w) :
  Calls Tryz.prog 13 #[.agg #[.bool n1, .int .u64 (dc : Int), .int .i64 (ds : Int)], .agg #[.bool n2, .int .u64 (ec : Int), .int .i64 (es : Int)], .agg #[.bool n3, .int .u64 (fc : Int), .int .i64 (fs : Int)], .int .i64 m] w (PV w (.tuple #[.agg #[.bool false, .int .u64 0, .int .i64 0], .int .i64 3])) := by
 have HF1 := hid (fun w => fixed_any n1 d1 (dc : Int) ds (fiN hdc) hds hd1 w)
 have HF2 := hid (fun w => fixed_any n2 d2 (ec : Int) es (fiN hec) hes hd2 w)
 have HF3 := hid (fun w => fixed_any n3 d3 (fc : Int) fs (fiN hfc) hfs hd3 w)
 have HE := hid he
 obtain ⟨DC, hDC⟩ : ∃ v : Int, (dc : Int) = v := ⟨_, rfl⟩
 obtain ⟨EC, hEC⟩ : ∃ v : Int, (ec : Int) = v := ⟨_, rfl⟩
 obtain ⟨FC, hFC⟩ : ∃ v : Int, (fc : Int) = v := ⟨_, rfl⟩
 rw [hDC] at HF1
 rw [hEC] at HF2
 rw [hFC] at HF3
 rw [hDC, hEC, hFC]
 obtain ⟨b1, hb1⟩ : ∃ b, decide (m < 0) = b := ⟨_, rfl⟩
 have hb2 : b1 = false → decide (19 < m) = true := by intro h; subst h; exact decide_eq_true (by have := of_decide_eq_false hb1; omega)
 clear hdc hec hfc hds hes hfs hd1 hd2 hd3 he hDC hEC hFC hm
 obtain ⟨HC0, HD, hB0, hB1, hB2, hB3, hB4⟩ := box5 w #[.bool n1, .int .u64 DC, .int .i64 ds] 24 #[.bool n2, .int .u64 EC, .int .i64 es] 24 #[.bool n3, .int .u64 FC, .int .i64 fs] 24 #[.bool false, .int .u64 0, .int .i64 0] 24 #[.int .i64 0] 3
 have HB1 := hid hB1
 have HB2 := hid hB2
 have HB3 := hid hB3
 have HB4 := hid hB4
 have hk := Chg.refl (fun _ => False) (((((w.alloc (.cells #[.bool n1, .int .u64 DC, .int .i64 ds] 24)).alloc (.cells #[.bool n2, .int .u64 EC, .int .i64 es] 24)).alloc (.cells #[.bool n3, .int .u64 FC, .int .i64 fs] 24)).alloc (.cells #[.bool false, .int .u64 0, .int .i64 0] 24)).alloc (.cells #[.int .i64 0] 3))
 obtain ⟨b0_, b1_, b2_, _, _, _⟩ := cell3 hB0
 clear hB0 hB1 hB2 hB3 hB4 HD
 have hmf : ∀ (fn : Fn) (first cap : Array Value) (w : World), (Instr.makeFunc fn first cap).run Tryz.prog w = .ok (.func fn first cap) w := fun _ _ _ _ => rfl
 cases b1 with
 | true =>
  go_enter_defers Tryz.func13, Tryz.ntmps13
  go_wp2_with (first | (go_at_call_of 21 (Value.agg #[Value.bool n1, Value.int .u64 DC, Value.int .i64 (ds : Int)]); refine (HF1.out _).mono ?_; intro e w1 h; obtain ⟨he, hc⟩ := h; subst he; replace hk := (hk.trans hc sb_).alloc (.cells #[.bool d1, .int .i8 ds, .int .u64 DC] 46); have HG1 := hid (heap_alloc_new w1 (.cells #[.bool d1, .int .i8 ds, .int .u64 DC] 46)); clear hc b0_ b1_ b2_; obtain ⟨e0, e1, e2, _, _, _⟩ := cell3 (kept_heap hk HB1.out)) | (go_at_call_of 21 (Value.agg #[Value.bool n2, Value.int .u64 EC, Value.int .i64 (es : Int)]); refine (HF2.out _).mono ?_; intro e w2 h; obtain ⟨he, hc⟩ := h; subst he; replace hk := (hk.trans hc sb_).alloc (.cells #[.bool d2, .int .i8 es, .int .u64 EC] 46); replace HG1 := hid (kept_heap (hc.alloc (.cells #[.bool d2, .int .i8 es, .int .u64 EC] 46)) HG1.out); have HG2 := hid (heap_alloc_new w2 (.cells #[.bool d2, .int .i8 es, .int .u64 EC] 46)); clear hc e0 e1 e2; obtain ⟨e0, e1, e2, _, _, _⟩ := cell3 (kept_heap hk HB2.out)) | (go_at_call_of 21 (Value.agg #[Value.bool n3, Value.int .u64 FC, Value.int .i64 (fs : Int)]); refine (HF3.out _).mono ?_; intro e w3 h; obtain ⟨he, hc⟩ := h; subst he; replace hk := (hk.trans hc sb_).alloc (.cells #[.bool d3, .int .i8 fs, .int .u64 FC] 46); replace HG1 := hid (kept_heap (hc.alloc (.cells #[.bool d3, .int .i8 fs, .int .u64 FC] 46)) HG1.out); replace HG2 := hid (kept_heap (hc.alloc (.cells #[.bool d3, .int .i8 fs, .int .u64 FC] 46)) HG2.out); have HG3 := hid (heap_alloc_new w3 (.cells #[.bool d3, .int .i8 fs, .int .u64 FC] 46)); clear hc e0 e1 e2; obtain ⟨g0, g1, g2, _, _, _⟩ := cell3 HG1.out; obtain ⟨j0, j1, j2, _, _, _⟩ := cell3 HG2.out; obtain ⟨l0, l1, l2, _, _, _⟩ := cell3 HG3.out; obtain ⟨r0, r1, r2, q0, q1, q2⟩ := cell3 (kept_heap hk HB3.out); obtain ⟨i0, i1⟩ := cell1 (kept_heap hk HB4.out)))
  refine leaves_cons (f := 30) (args := #[.pointer (some ⟨w.heap.size + 1 + 1 + 1, 0, none⟩), .pointer (some ⟨w.heap.size + 1 + 1 + 1 + 1, 0, none⟩)]) (by simp) (by simp [go_sem]) ?_
  refine (mulBig_idle _ _ _).mono ?_
  rintro e u' w'' ⟨rfl, rfl, rfl⟩
  exact ⟨.tuple #[.agg #[.bool false, .int .u64 0, .int .i64 0], .int .i64 3], fix_result rfl _ _ (w.heap.size + 1 + 1 + 1) (w.heap.size + 1 + 1 + 1 + 1) _ _ _ _ _ _ rfl rfl (fix_far (store3 (kept_heap hk HB3.out) _ _ _) (by omega)) (int_set (fix_near (kept_heap hk HB4.out) (by omega))), rfl, fix_chg (HC0.out.trans hk sb_) (by omega) (by omega)⟩
 | false =>
  have hb3 := hb2 rfl
  go_enter_defers Tryz.func13, Tryz.ntmps13
  go_wp2_with (first | (go_at_call_of 21 (Value.agg #[Value.bool n1, Value.int .u64 DC, Value.int .i64 (ds : Int)]); refine (HF1.out _).mono ?_; intro e w1 h; obtain ⟨he, hc⟩ := h; subst he; replace hk := (hk.trans hc sb_).alloc (.cells #[.bool d1, .int .i8 ds, .int .u64 DC] 46); have HG1 := hid (heap_alloc_new w1 (.cells #[.bool d1, .int .i8 ds, .int .u64 DC] 46)); clear hc b0_ b1_ b2_; obtain ⟨e0, e1, e2, _, _, _⟩ := cell3 (kept_heap hk HB1.out)) | (go_at_call_of 21 (Value.agg #[Value.bool n2, Value.int .u64 EC, Value.int .i64 (es : Int)]); refine (HF2.out _).mono ?_; intro e w2 h; obtain ⟨he, hc⟩ := h; subst he; replace hk := (hk.trans hc sb_).alloc (.cells #[.bool d2, .int .i8 es, .int .u64 EC] 46); replace HG1 := hid (kept_heap (hc.alloc (.cells #[.bool d2, .int .i8 es, .int .u64 EC] 46)) HG1.out); have HG2 := hid (heap_alloc_new w2 (.cells #[.bool d2, .int .i8 es, .int .u64 EC] 46)); clear hc e0 e1 e2; obtain ⟨e0, e1, e2, _, _, _⟩ := cell3 (kept_heap hk HB2.out)) | (go_at_call_of 21 (Value.agg #[Value.bool n3, Value.int .u64 FC, Value.int .i64 (fs : Int)]); refine (HF3.out _).mono ?_; intro e w3 h; obtain ⟨he, hc⟩ := h; subst he; replace hk := (hk.trans hc sb_).alloc (.cells #[.bool d3, .int .i8 fs, .int .u64 FC] 46); replace HG1 := hid (kept_heap (hc.alloc (.cells #[.bool d3, .int .i8 fs, .int .u64 FC] 46)) HG1.out); replace HG2 := hid (kept_heap (hc.alloc (.cells #[.bool d3, .int .i8 fs, .int .u64 FC] 46)) HG2.out); have HG3 := hid (heap_alloc_new w3 (.cells #[.bool d3, .int .i8 fs, .int .u64 FC] 46)); clear hc e0 e1 e2; obtain ⟨g0, g1, g2, _, _, _⟩ := cell3 HG1.out; obtain ⟨j0, j1, j2, _, _, _⟩ := cell3 HG2.out; obtain ⟨l0, l1, l2, _, _, _⟩ := cell3 HG3.out; obtain ⟨r0, r1, r2, q0, q1, q2⟩ := cell3 (kept_heap hk HB3.out); obtain ⟨i0, i1⟩ := cell1 (kept_heap hk HB4.out)))
  refine leaves_cons (f := 30) (args := #[.pointer (some ⟨w.heap.size + 1 + 1 + 1, 0, none⟩), .pointer (some ⟨w.heap.size + 1 + 1 + 1 + 1, 0, none⟩)]) (by simp) (by simp [go_sem]) ?_
  refine (mulBig_idle _ _ _).mono ?_
  rintro e u' w'' ⟨rfl, rfl, rfl⟩
  exact ⟨.tuple #[.agg #[.bool false, .int .u64 0, .int .i64 0], .int .i64 3], fix_result rfl _ _ (w.heap.size + 1 + 1 + 1) (w.heap.size + 1 + 1 + 1 + 1) _ _ _ _ _ _ rfl rfl (fix_far (store3 (kept_heap hk HB3.out) _ _ _) (by omega)) (int_set (fix_near (kept_heap hk HB4.out) (by omega))), rfl, fix_chg (HC0.out.trans hk sb_) (by omega) (by omega)⟩
end Go.Proofs.YtmpkgkjnoanlhaaGreatDoor
