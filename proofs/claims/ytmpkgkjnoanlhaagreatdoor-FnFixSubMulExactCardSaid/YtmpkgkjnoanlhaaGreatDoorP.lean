/- For every three decimals and every number of places, the law FnFixSubMulExact answers true, and its arguments read as they did. No condition beyond the row's own: the package's variables hold what the program's text lays (tied). -/
import Derived.Test.YtmpkgkjnoanlhaaGreatDoorChecked
import Derived.JoinedOf
import GoSem.ClaimSeven
import GoSem.ClaimGoes
import GoSem.ClaimLaidByText
import Derived.Test.YtmpkgkjnoanlhaaGreatDoorTie
import Derived.Test.YtmpkgkjnoanlhaaGreatDoorCards
import Derived.SevenTiedAt
import Derived.Carry
import Derived.Test.YtmpkgkjnoanlhaaGreatDoorP26
import Derived.Test.YtmpkgkjnoanlhaaGreatDoorP28
import Derived.Test.YtmpkgkjnoanlhaaGreatDoorP32
namespace Go.Proofs.YtmpkgkjnoanlhaaGreatDoor
open Go Go.ChangeShapes Go.WideShapes Go.ChangeAt Go.WideMaps Go.WideElems Go.RowKit
set_option maxRecDepth 100000
theorem wit_shapedd (os : Os) : (((World.doorLaid Tryz.prog 400 os).forCall (fun _ _ => 0) ⟨#[], #[.agg #[.bool false, .int .u64 0, .int .i64 0], .agg #[.bool false, .int .u64 0, .int .i64 0], .agg #[.bool false, .int .u64 0, .int .i64 0], .int .i64 0], []⟩)).Shaped Tryz.prog :=
 World.shaped_of_RefB (by as_aux_lemma => kernel_rfl) (by as_aux_lemma => kernel_rfl)
theorem wit_okd (os : Os) : Input.okWideB Tryz.prog ((World.doorLaid Tryz.prog 400 os).forCall (fun _ _ => 0) ⟨#[], #[.agg #[.bool false, .int .u64 0, .int .i64 0], .agg #[.bool false, .int .u64 0, .int .i64 0], .agg #[.bool false, .int .u64 0, .int .i64 0], .int .i64 0], []⟩) 6 ⟨#[], #[.agg #[.bool false, .int .u64 0, .int .i64 0], .agg #[.bool false, .int .u64 0, .int .i64 0], .agg #[.bool false, .int .u64 0, .int .i64 0], .int .i64 0], []⟩ = true := by kernel_rfl
theorem wit_pred (os : Os) (H : Type) (enc : TypeId × Value → H) : Rows.fnFixSubMulExactSpec.preB enc Tryz.prog Tryz.f6 [] false (((World.doorLaid Tryz.prog 400 os).forCall (fun _ _ => 0) ⟨#[], #[.agg #[.bool false, .int .u64 0, .int .i64 0], .agg #[.bool false, .int .u64 0, .int .i64 0], .agg #[.bool false, .int .u64 0, .int .i64 0], .int .i64 0], []⟩)).memory #[.agg #[.bool false, .int .u64 0, .int .i64 0], .agg #[.bool false, .int .u64 0, .int .i64 0], .agg #[.bool false, .int .u64 0, .int .i64 0], .int .i64 0] 8 = true := by kernel_rfl
theorem wit_sized (os : Os) (H : Type) (enc : TypeId × Value → H) : Rows.fnFixSubMulExactSpec.sizedB enc Tryz.prog Tryz.f6 false (((World.doorLaid Tryz.prog 400 os).forCall (fun _ _ => 0) ⟨#[], #[.agg #[.bool false, .int .u64 0, .int .i64 0], .agg #[.bool false, .int .u64 0, .int .i64 0], .agg #[.bool false, .int .u64 0, .int .i64 0], .int .i64 0], []⟩)).memory #[.agg #[.bool false, .int .u64 0, .int .i64 0], .agg #[.bool false, .int .u64 0, .int .i64 0], .agg #[.bool false, .int .u64 0, .int .i64 0], .int .i64 0] 8 = true := by kernel_rfl
end Go.Proofs.YtmpkgkjnoanlhaaGreatDoor
namespace Go.Proofs.YtmpkgkjnoanlhaaGreatDoor
open Go
set_option maxRecDepth 100000
theorem and2d {a b : Bool} (ha : a = true) (hb : b = true) : (a && b) = true := by rw [ha, hb]; rfl
set_option maxHeartbeats 4000000 in
theorem row_closedd : joinedFacts Tryz.prog 6 Tryz.f6 Rows.fnFixSubMulExactSpec Rows.fnFixSubMulExactRow = true := by
 unfold joinedFacts
 repeat' (with_reducible refine and2d ?_ ?_)
 all_goals (as_aux_lemma => kernel_rfl)
theorem row_funcd : Tryz.prog.funcNamed "given.example/pub-alexandrine/laws.FnFixSubMulExact" = some 6 := by kernel_rfl
theorem row_wfd : Rows.fnFixSubMulExactRow.wfByText (OpenSpec.ofChange Rows.fnFixSubMulExactSpec) = true := by kernel_rfl
theorem row_looksd : false = Tryz.prog.looks [] := by kernel_rfl
theorem row_standd : ([24, 24, 24, 3].all fun u => !Tryz.prog.wantsStandIn u) = true := by kernel_rfl
theorem row_goesd : false = Rows.fnFixSubMulExactRow.goesBy Tryz.prog := by kernel_rfl
end Go.Proofs.YtmpkgkjnoanlhaaGreatDoor
namespace Go.Proofs.YtmpkgkjnoanlhaaGreatDoor
open Go.RowKit
set_option linter.unusedVariables false
set_option linter.unusedSimpArgs false
set_option maxRecDepth 20000
theorem mulExs_idle (p q : Addr) (w : World) : CallsD Tryz.prog 37 #[.pointer (some p), .pointer (some q)] .returning w fun e u' w' => e = .returned (.tuple #[]) ∧ u' = .returning ∧ w' = w := by
 refine callsD_of_wpS Tryz.func37 rfl fun c₀ cs hu => ?_
 apply wpS_seq
 apply wpS_region
 simp [wpOpsS, go_sem, recoverD, hu, Tryz.ntmps37, Exit.thenS]
 refine wpS_cond (t := false) (by simp [Act.eval, Array.replicate]) ?_
 simp only [Bool.false_eq_true, if_false]
 refine wpS_of_wp (wp_skip ?_)
 cases c₀
 simp_all [bodyPostS, results, Tryz.results37]
set_option maxHeartbeats 4000000 in
theorem mulExs_ok (n1 n2 n3 d1 d2 d3 : Bool) (dc ec fc ds es fs : Nat) (m : Int) (hdc : dc < 10 ^ 19) (hec : ec < 10 ^ 19) (hfc : fc < 10 ^ 19) (hds : ds ≤ 19) (hes : es ≤ 19) (hfs : fs ≤ 19) (hd1 : (n1 && (dc : Int) != 0) = d1) (hd2 : (n2 && (ec : Int) != 0) = d2) (hd3 : (n3 && (fc : Int) != 0) = d3) (w : World) (he : EnvD w)
  (nb : Bool) (k : Int) (t : Nat) (ht : t ≤ 19) (HS : ∀ w1, EnvD w1 → Calls Tryz.prog 38 #[.agg #[.bool d1, .int .i8 ds, .int .u64 (dc : Int)], .agg #[.bool d2, .int .i8 es, .int .u64 (ec : Int)], .agg #[.bool d3, .int .i8 fs, .int .u64 (fc : Int)], .int .i64 m] w1 (fun e w' => e = .returned (.tuple #[.agg #[.bool nb, .int .i8 t, .int .u64 k], .nilIface]) ∧ Chg (fun _ => False) w1 w')) :
  Calls Tryz.prog 18 #[.agg #[.bool n1, .int .u64 (dc : Int), .int .i64 (ds : Int)], .agg #[.bool n2, .int .u64 (ec : Int), .int .i64 (es : Int)], .agg #[.bool n3, .int .u64 (fc : Int), .int .i64 (fs : Int)], .int .i64 m] w (PV w (.tuple #[.agg #[.bool nb, .int .u64 k, .int .i64 t], .int .i64 0])) := by
 have HF1 := hid (fun w => fixed_any n1 d1 (dc : Int) ds (fiN hdc) hds hd1 w)
 have HF2 := hid (fun w => fixed_any n2 d2 (ec : Int) es (fiN hec) hes hd2 w)
 have HF3 := hid (fun w => fixed_any n3 d3 (fc : Int) fs (fiN hfc) hfs hd3 w)
 have HE := hid he
 obtain ⟨DC, hDC⟩ : ∃ v : Int, (dc : Int) = v := ⟨_, rfl⟩
 obtain ⟨EC, hEC⟩ : ∃ v : Int, (ec : Int) = v := ⟨_, rfl⟩
 obtain ⟨FC, hFC⟩ : ∃ v : Int, (fc : Int) = v := ⟨_, rfl⟩
 rw [hDC] at HF1
 rw [hEC] at HF2
 rw [hFC] at HF3
 rw [hDC, hEC, hFC]
 rw [hDC, hEC, hFC] at HS
 have HSX := hid HS
 have HFX := hid (fun w => fix_any nb k t ht w)
 clear HS hdc hec hfc hds hes hfs hd1 hd2 hd3 he hDC hEC hFC ht
 obtain ⟨HC0, HD, hB0, hB1, hB2, hB3, hB4⟩ := box5 w #[.bool n1, .int .u64 DC, .int .i64 ds] 24 #[.bool n2, .int .u64 EC, .int .i64 es] 24 #[.bool n3, .int .u64 FC, .int .i64 fs] 24 #[.bool false, .int .u64 0, .int .i64 0] 24 #[.int .i64 0] 3
 have HB1 := hid hB1
 have HB2 := hid hB2
 have HB3 := hid hB3
 have HB4 := hid hB4
 have hk := Chg.refl (fun _ => False) (((((w.alloc (.cells #[.bool n1, .int .u64 DC, .int .i64 ds] 24)).alloc (.cells #[.bool n2, .int .u64 EC, .int .i64 es] 24)).alloc (.cells #[.bool n3, .int .u64 FC, .int .i64 fs] 24)).alloc (.cells #[.bool false, .int .u64 0, .int .i64 0] 24)).alloc (.cells #[.int .i64 0] 3))
 obtain ⟨b0_, b1_, b2_, _, _, _⟩ := cell3 hB0
 clear hB0 hB1 hB2 hB3 hB4 HD
 have hmf : ∀ (fn : Fn) (first cap : Array Value) (w : World), (Instr.makeFunc fn first cap).run Tryz.prog w = .ok (.func fn first cap) w := fun _ _ _ _ => rfl
 go_enter_defers Tryz.func18, Tryz.ntmps18
 go_wp2_with (first | (go_at_call_of 21 (Value.agg #[Value.bool n1, Value.int .u64 DC, Value.int .i64 (ds : Int)]); refine (HF1.out _).mono ?_; intro e w1 h; obtain ⟨he, hc⟩ := h; subst he; replace hk := (hk.trans hc sb_).alloc (.cells #[.bool d1, .int .i8 ds, .int .u64 DC] 46); have HG1 := hid (heap_alloc_new w1 (.cells #[.bool d1, .int .i8 ds, .int .u64 DC] 46)); clear hc b0_ b1_ b2_; obtain ⟨e0, e1, e2, _, _, _⟩ := cell3 (kept_heap hk HB1.out)) | (go_at_call_of 21 (Value.agg #[Value.bool n2, Value.int .u64 EC, Value.int .i64 (es : Int)]); refine (HF2.out _).mono ?_; intro e w2 h; obtain ⟨he, hc⟩ := h; subst he; replace hk := (hk.trans hc sb_).alloc (.cells #[.bool d2, .int .i8 es, .int .u64 EC] 46); replace HG1 := hid (kept_heap (hc.alloc (.cells #[.bool d2, .int .i8 es, .int .u64 EC] 46)) HG1.out); have HG2 := hid (heap_alloc_new w2 (.cells #[.bool d2, .int .i8 es, .int .u64 EC] 46)); clear hc e0 e1 e2; obtain ⟨e0, e1, e2, _, _, _⟩ := cell3 (kept_heap hk HB2.out)) | (go_at_call_of 21 (Value.agg #[Value.bool n3, Value.int .u64 FC, Value.int .i64 (fs : Int)]); refine (HF3.out _).mono ?_; intro e w3 h; obtain ⟨he, hc⟩ := h; subst he; replace hk := (hk.trans hc sb_).alloc (.cells #[.bool d3, .int .i8 fs, .int .u64 FC] 46); replace HG1 := hid (kept_heap (hc.alloc (.cells #[.bool d3, .int .i8 fs, .int .u64 FC] 46)) HG1.out); replace HG2 := hid (kept_heap (hc.alloc (.cells #[.bool d3, .int .i8 fs, .int .u64 FC] 46)) HG2.out); have HG3 := hid (heap_alloc_new w3 (.cells #[.bool d3, .int .i8 fs, .int .u64 FC] 46)); clear hc e0 e1 e2; obtain ⟨g0, g1, g2, _, _, _⟩ := cell3 HG1.out; obtain ⟨j0, j1, j2, _, _, _⟩ := cell3 HG2.out; obtain ⟨l0, l1, l2, _, _, _⟩ := cell3 HG3.out) | (go_at_call 38; refine (HSX.out _ (HE.out.kept (HC0.out.trans hk sb_))).mono ?_; intro e w4 h; obtain ⟨he, hc⟩ := h; subst he; replace hk := (hk.trans hc sb_).alloc (.cells #[.bool nb, .int .i8 t, .int .u64 k] 46); clear hc g0 g1 g2 j0 j1 j2 l0 l1 l2) | (go_at_call 23; refine (HFX.out _).mono ?_; intro e w5 h; obtain ⟨he, hc⟩ := h; subst he; replace hk := hk.trans hc sb_; clear hc; obtain ⟨r0, r1, r2, q0, q1, q2⟩ := cell3 (kept_heap hk HB3.out); obtain ⟨i0, i1⟩ := cell1 (kept_heap hk HB4.out)))
 refine leaves_cons (f := 37) (args := #[.pointer (some ⟨w.heap.size + 1 + 1 + 1, 0, none⟩), .pointer (some ⟨w.heap.size + 1 + 1 + 1 + 1, 0, none⟩)]) (by simp) (by simp [go_sem]) ?_
 refine (mulExs_idle _ _ _).mono ?_
 rintro e u' w'' ⟨rfl, rfl, rfl⟩
 exact ⟨.tuple #[.agg #[.bool nb, .int .u64 k, .int .i64 t], .int .i64 0], fix_result rfl _ _ (w.heap.size + 1 + 1 + 1) (w.heap.size + 1 + 1 + 1 + 1) _ _ _ _ _ _ rfl rfl (fix_far (store3 (kept_heap hk HB3.out) _ _ _) (by omega)) (int_set (fix_near (kept_heap hk HB4.out) (by omega))), rfl, fix_chg (HC0.out.trans hk sb_) (by omega) (by omega)⟩
set_option maxHeartbeats 4000000 in
theorem mulExs_err (n1 n2 n3 d1 d2 d3 : Bool) (dc ec fc ds es fs : Nat) (m : Int) (hdc : dc < 10 ^ 19) (hec : ec < 10 ^ 19) (hfc : fc < 10 ^ 19) (hds : ds ≤ 19) (hes : es ≤ 19) (hfs : fs ≤ 19) (hd1 : (n1 && (dc : Int) != 0) = d1) (hd2 : (n2 && (ec : Int) != 0) = d2) (hd3 : (n3 && (fc : Int) != 0) = d3) (w : World) (he : EnvD w)
  (HS : ∀ w1, EnvD w1 → Calls Tryz.prog 38 #[.agg #[.bool d1, .int .i8 ds, .int .u64 (dc : Int)], .agg #[.bool d2, .int .i8 es, .int .u64 (ec : Int)], .agg #[.bool d3, .int .i8 fs, .int .u64 (fc : Int)], .int .i64 m] w1 (fun e w' => Chg (fun _ => False) w1 w' ∧ ∃ t v, e = .returned (.tuple #[.agg #[.bool false, .int .i8 0, .int .u64 0], .iface t v]))) :
  Calls Tryz.prog 18 #[.agg #[.bool n1, .int .u64 (dc : Int), .int .i64 (ds : Int)], .agg #[.bool n2, .int .u64 (ec : Int), .int .i64 (es : Int)], .agg #[.bool n3, .int .u64 (fc : Int), .int .i64 (fs : Int)], .int .i64 m] w (PV w (.tuple #[.agg #[.bool false, .int .u64 0, .int .i64 0], .int .i64 1])) := by
 have HF1 := hid (fun w => fixed_any n1 d1 (dc : Int) ds (fiN hdc) hds hd1 w)
 have HF2 := hid (fun w => fixed_any n2 d2 (ec : Int) es (fiN hec) hes hd2 w)
 have HF3 := hid (fun w => fixed_any n3 d3 (fc : Int) fs (fiN hfc) hfs hd3 w)
 have HE := hid he
 obtain ⟨DC, hDC⟩ : ∃ v : Int, (dc : Int) = v := ⟨_, rfl⟩
 obtain ⟨EC, hEC⟩ : ∃ v : Int, (ec : Int) = v := ⟨_, rfl⟩
 obtain ⟨FC, hFC⟩ : ∃ v : Int, (fc : Int) = v := ⟨_, rfl⟩
 rw [hDC] at HF1
 rw [hEC] at HF2
 rw [hFC] at HF3
 rw [hDC, hEC, hFC]
 rw [hDC, hEC, hFC] at HS
 have HSX := hid HS
 clear HS hdc hec hfc hds hes hfs hd1 hd2 hd3 he hDC hEC hFC
 obtain ⟨HC0, HD, hB0, hB1, hB2, hB3, hB4⟩ := box5 w #[.bool n1, .int .u64 DC, .int .i64 ds] 24 #[.bool n2, .int .u64 EC, .int .i64 es] 24 #[.bool n3, .int .u64 FC, .int .i64 fs] 24 #[.bool false, .int .u64 0, .int .i64 0] 24 #[.int .i64 0] 3
 have HB1 := hid hB1
 have HB2 := hid hB2
 have HB3 := hid hB3
 have HB4 := hid hB4
 have hk := Chg.refl (fun _ => False) (((((w.alloc (.cells #[.bool n1, .int .u64 DC, .int .i64 ds] 24)).alloc (.cells #[.bool n2, .int .u64 EC, .int .i64 es] 24)).alloc (.cells #[.bool n3, .int .u64 FC, .int .i64 fs] 24)).alloc (.cells #[.bool false, .int .u64 0, .int .i64 0] 24)).alloc (.cells #[.int .i64 0] 3))
 obtain ⟨b0_, b1_, b2_, _, _, _⟩ := cell3 hB0
 clear hB0 hB1 hB2 hB3 hB4 HD
 have hmf : ∀ (fn : Fn) (first cap : Array Value) (w : World), (Instr.makeFunc fn first cap).run Tryz.prog w = .ok (.func fn first cap) w := fun _ _ _ _ => rfl
 go_enter_defers Tryz.func18, Tryz.ntmps18
 go_wp2_with (first | (go_at_call_of 21 (Value.agg #[Value.bool n1, Value.int .u64 DC, Value.int .i64 (ds : Int)]); refine (HF1.out _).mono ?_; intro e w1 h; obtain ⟨he, hc⟩ := h; subst he; replace hk := (hk.trans hc sb_).alloc (.cells #[.bool d1, .int .i8 ds, .int .u64 DC] 46); have HG1 := hid (heap_alloc_new w1 (.cells #[.bool d1, .int .i8 ds, .int .u64 DC] 46)); clear hc b0_ b1_ b2_; obtain ⟨e0, e1, e2, _, _, _⟩ := cell3 (kept_heap hk HB1.out)) | (go_at_call_of 21 (Value.agg #[Value.bool n2, Value.int .u64 EC, Value.int .i64 (es : Int)]); refine (HF2.out _).mono ?_; intro e w2 h; obtain ⟨he, hc⟩ := h; subst he; replace hk := (hk.trans hc sb_).alloc (.cells #[.bool d2, .int .i8 es, .int .u64 EC] 46); replace HG1 := hid (kept_heap (hc.alloc (.cells #[.bool d2, .int .i8 es, .int .u64 EC] 46)) HG1.out); have HG2 := hid (heap_alloc_new w2 (.cells #[.bool d2, .int .i8 es, .int .u64 EC] 46)); clear hc e0 e1 e2; obtain ⟨e0, e1, e2, _, _, _⟩ := cell3 (kept_heap hk HB2.out)) | (go_at_call_of 21 (Value.agg #[Value.bool n3, Value.int .u64 FC, Value.int .i64 (fs : Int)]); refine (HF3.out _).mono ?_; intro e w3 h; obtain ⟨he, hc⟩ := h; subst he; replace hk := (hk.trans hc sb_).alloc (.cells #[.bool d3, .int .i8 fs, .int .u64 FC] 46); replace HG1 := hid (kept_heap (hc.alloc (.cells #[.bool d3, .int .i8 fs, .int .u64 FC] 46)) HG1.out); replace HG2 := hid (kept_heap (hc.alloc (.cells #[.bool d3, .int .i8 fs, .int .u64 FC] 46)) HG2.out); have HG3 := hid (heap_alloc_new w3 (.cells #[.bool d3, .int .i8 fs, .int .u64 FC] 46)); clear hc e0 e1 e2; obtain ⟨g0, g1, g2, _, _, _⟩ := cell3 HG1.out; obtain ⟨j0, j1, j2, _, _, _⟩ := cell3 HG2.out; obtain ⟨l0, l1, l2, _, _, _⟩ := cell3 HG3.out) | (go_at_call 38; refine (HSX.out _ (HE.out.kept (HC0.out.trans hk sb_))).mono ?_; intro e w4 h; obtain ⟨hc, t3, v3, he⟩ := h; subst he; replace hk := (hk.trans hc sb_).alloc (.cells #[.bool false, .int .i8 0, .int .u64 0] 46); clear hc g0 g1 g2 j0 j1 j2 l0 l1 l2; obtain ⟨r0, r1, r2, q0, q1, q2⟩ := cell3 (kept_heap hk HB3.out); obtain ⟨i0, i1⟩ := cell1 (kept_heap hk HB4.out)))
 refine leaves_cons (f := 37) (args := #[.pointer (some ⟨w.heap.size + 1 + 1 + 1, 0, none⟩), .pointer (some ⟨w.heap.size + 1 + 1 + 1 + 1, 0, none⟩)]) (by simp) (by simp [go_sem]) ?_
 refine (mulExs_idle _ _ _).mono ?_
 rintro e u' w'' ⟨rfl, rfl, rfl⟩
 exact ⟨.tuple #[.agg #[.bool false, .int .u64 0, .int .i64 0], .int .i64 1], fix_result rfl _ _ (w.heap.size + 1 + 1 + 1) (w.heap.size + 1 + 1 + 1 + 1) _ _ _ _ _ _ rfl rfl (fix_far (store3 (kept_heap hk HB3.out) _ _ _) (by omega)) (int_set (fix_near (kept_heap hk HB4.out) (by omega))), rfl, fix_chg (HC0.out.trans hk sb_) (by omega) (by omega)⟩
def exOs (C S : Nat) (m : Int) : Option (Nat × Nat) := if m < 0 ∨ 19 < m then none else from19 (10 ^ 19) 2 C S m.toNat
theorem FixSubMulExact_any (n1 n2 n3 d1 d2 d3 e2 xn : Bool) (dc ec fc ds es fs : Nat) (m : Int) (hdc : dc < 10 ^ 19) (hec : ec < 10 ^ 19) (hfc : fc < 10 ^ 19) (hds : ds ≤ 19) (hes : es ≤ 19) (hfs : fs ≤ 19) (hd1 : (n1 && (dc : Int) != 0) = d1) (hd2 : (n2 && (ec : Int) != 0) = d2) (hd3 : (n3 && (fc : Int) != 0) = d3) (he2 : (!d2 && (ec : Int) != 0) = e2) (hx : (!(e2 == d3)) = xn) (w : World) (he : EnvD w) :
  Calls Tryz.prog 18 #[.agg #[.bool n1, .int .u64 (dc : Int), .int .i64 (ds : Int)], .agg #[.bool n2, .int .u64 (ec : Int), .int .i64 (es : Int)], .agg #[.bool n3, .int .u64 (fc : Int), .int .i64 (fs : Int)], .int .i64 m] w
   (PV w (fixOut (sumD d1 dc ds xn (ec * fc) (es + fs)).1 (exOs (sumD d1 dc ds xn (ec * fc) (es + fs)).2 (mxp ds (es + fs)) m))) := by
 have hS := fun w1 (he1 : EnvD w1) => SubMulExact_all d1 d2 d3 e2 xn dc ec fc ds es fs m hdc hec hfc hds hes hfs he2 hx w1 he1
 unfold PMul at hS
 unfold exOs
 by_cases hm : m < 0 ∨ 19 < m
 ·simp only [if_pos hm] at hS ⊢
  exact mulExs_err n1 n2 n3 d1 d2 d3 dc ec fc ds es fs m hdc hec hfc hds hes hfs hd1 hd2 hd3 w he (fun w1 he1 => (hS w1 he1).mono (fun e w' h => h))
 ·simp only [if_neg hm] at hS ⊢
  cases h19 : from19 (10 ^ 19) 2 (sumD d1 dc ds xn (ec * fc) (es + fs)).2 (mxp ds (es + fs)) m.toNat with
  | none =>
   rw [h19] at hS
   exact mulExs_err n1 n2 n3 d1 d2 d3 dc ec fc ds es fs m hdc hec hfc hds hes hfs hd1 hd2 hd3 w he (fun w1 he1 => (hS w1 he1).mono (fun e w' h => ⟨h.1, h.2⟩))
  | some kt =>
   obtain ⟨q, t⟩ := kt
   obtain ⟨b1, b2, b3⟩ := from19_bd (by omega) h19
   rw [h19] at hS
   exact mulExs_ok n1 n2 n3 d1 d2 d3 dc ec fc ds es fs m hdc hec hfc hds hes hfs hd1 hd2 hd3 w he _ (q : Int) t b1 (fun w1 he1 => (hS w1 he1).mono (fun e w' h => ⟨h.2, h.1⟩))
theorem sub_sign (d2 d3 : Bool) (ec fc : Nat) : (!((d2 != d3) && ec * fc != 0) && ec * fc != 0) = (!((!d2 && ec != 0) == d3) && ec * fc != 0) := by
 by_cases h : ec * fc = 0
 ·rw [h]; simp
 ·have h1 : ec ≠ 0 := fun e => h (by rw [e, Nat.zero_mul])
  rw [show (ec * fc != 0) = true from bne_iff_ne.2 h, show (ec != 0) = true from bne_iff_ne.2 h1]
  cases d2 <;> cases d3 <;> rfl
set_option maxHeartbeats 2000000 in
theorem lawMulExs_out (n1 n2 n3 : Bool) (v1 s1 v2 s2 v3 s3 m : Int) (hok : (okFix v1 s1 && (okFix v2 s2 && okFix v3 s3)) = false) (w : World) :
  Calls Tryz.prog 6 #[.agg #[.bool n1, .int .u64 v1, .int .i64 s1], .agg #[.bool n2, .int .u64 v2, .int .i64 s2], .agg #[.bool n3, .int .u64 v3, .int .i64 s3], .int .i64 m] w (PV w (.bool true)) := by
 obtain ⟨HC0, HD, hB0, hB1, hB2⟩ := box3 w #[.bool n1, .int .u64 v1, .int .i64 s1] 24 #[.bool n2, .int .u64 v2, .int .i64 s2] 24 #[.bool n3, .int .u64 v3, .int .i64 s3] 24
 have HSS := hid (fun (w1 : World) h => And.intro ((cell3 (kept_heap (w' := w1) h hB0)).1) (And.intro ((cell3 (kept_heap (w' := w1) h hB0)).2.1) (And.intro ((cell3 (kept_heap (w' := w1) h hB0)).2.2.1) (And.intro ((cell3 (kept_heap (w' := w1) h hB1)).1) (And.intro ((cell3 (kept_heap (w' := w1) h hB1)).2.1) (And.intro ((cell3 (kept_heap (w' := w1) h hB1)).2.2.1) (And.intro ((cell3 (kept_heap (w' := w1) h hB2)).1) (And.intro ((cell3 (kept_heap (w' := w1) h hB2)).2.1) ((cell3 (kept_heap (w' := w1) h hB2)).2.2.1)))))))))
 have HSL := hid (alloc_last (W := (((w.alloc (.cells #[.bool n1, .int .u64 v1, .int .i64 s1] 24)).alloc (.cells #[.bool n2, .int .u64 v2, .int .i64 s2] 24)).alloc (.cells #[.bool n3, .int .u64 v3, .int .i64 s3] 24))) (x := (.cells #[.bool n1, .int .u64 v1, .int .i64 s1, .bool n2, .int .u64 v2, .int .i64 s2, .bool n3, .int .u64 v3, .int .i64 s3] 24)) (k := w.heap.size + 1 + 1 + 1) (by simp))
 have HFA := hid (FixAll_three n1 n2 n3 v1 s1 v2 s2 v3 s3 HSL.out)
 rw [hok] at HFA
 clear hok hB0 hB1 hB2 HD
 have hk := (Chg.refl (fun _ => False) (((w.alloc (.cells #[.bool n1, .int .u64 v1, .int .i64 s1] 24)).alloc (.cells #[.bool n2, .int .u64 v2, .int .i64 s2] 24)).alloc (.cells #[.bool n3, .int .u64 v3, .int .i64 s3] 24))).alloc (.cells #[.bool n1, .int .u64 v1, .int .i64 s1, .bool n2, .int .u64 v2, .int .i64 s2, .bool n3, .int .u64 v3, .int .i64 s3] 24)
 obtain ⟨d00_, d01_, d02_, d10_, d11_, d12_, d20_, d21_, d22_⟩ := HSS.out _ (Chg.refl _ _)
 go_enter Tryz.func6, Tryz.ntmps6
 go_wp2_with (go_at_call 7; refine HFA.out.mono ?_; intro e w1 h; obtain ⟨he, hc⟩ := h; subst he; replace hk := hk.trans hc sb_; clear hc; skip)
 go_ret
 exact ⟨rfl, HC0.out.trans hk sb_⟩
set_option maxHeartbeats 4000000 in
theorem lawMulExs_in (n1 n2 n3 d1 d2 d3 e2 sp xn s2x sb : Bool) (dc ec fc ds es fs : Nat) (m : Int) (hdc : dc < 10 ^ 19) (hec : ec < 10 ^ 19) (hfc : fc < 10 ^ 19) (hds : ds ≤ 19) (hes : es ≤ 19) (hfs : fs ≤ 19) (hd1 : (n1 && dc != 0) = d1) (hd2 : (n2 && ec != 0) = d2) (hd3 : (n3 && fc != 0) = d3) (he2 : (!d2 && ec != 0) = e2) (hsp : ((d2 != d3) && ec * fc != 0) = sp) (hx : (!(e2 == d3)) = xn) (hs2x : (xn && ec * fc != 0) = s2x)
  (v1 s1 v2 s2 v3 s3 : Int) (hv1 : (dc : Int) = v1) (hs1 : (ds : Int) = s1) (hv2 : (ec : Int) = v2) (hs2 : (es : Int) = s2) (hv3 : (fc : Int) = v3) (hs3 : (fs : Int) = s3) (hok : (okFix v1 s1 && (okFix v2 s2 && okFix v3 s3)) = true)
  (hsb : ((sumD d1 dc ds xn (ec * fc) (es + fs)).1 && (sumD d1 dc ds xn (ec * fc) (es + fs)).2 * 10 ^ mnp ds (es + fs) != 0) = sb) (w : World) (he : EnvD w) :
  Calls Tryz.prog 6 #[.agg #[.bool n1, .int .u64 v1, .int .i64 s1], .agg #[.bool n2, .int .u64 v2, .int .i64 s2], .agg #[.bool n3, .int .u64 v3, .int .i64 s3], .int .i64 m] w (PV w (.bool true)) := by
 have cb : ∀ k : Nat, ((k : Int) != 0) = (k != 0) := by
  intro k
  by_cases h : k = 0
  ·subst h; rfl
  ·rw [bne_iff_ne.2 h, bne_iff_ne.2 (by omega : (k : Int) ≠ 0)]
 have HFS := hid (fun w1 he1 => FixSubMulExact_any n1 n2 n3 d1 d2 d3 e2 xn dc ec fc ds es fs m hdc hec hfc hds hes hfs (by rw [cb]; exact hd1) (by rw [cb]; exact hd2) (by rw [cb]; exact hd3) (by rw [cb]; exact he2) hx w1 he1)
 have HN1 := hid (fun w1 => FixNum_any (w := w1) n1 d1 dc ds hdc hds hd1)
 have HN2 := hid (fun w1 => FixNum_any (w := w1) n2 d2 ec es hec hes hd2)
 have HN3 := hid (fun w1 => FixNum_any (w := w1) n3 d3 fc fs hfc hfs hd3)
 have up : ∀ {k : Nat}, k < 10 ^ 19 → k < 10 ^ 100 := fun h => Nat.lt_of_lt_of_le h (Nat.pow_le_pow_right (by omega) (by omega))
 have hp : ∀ {k : Nat}, k ≤ 38 → (10 : Nat) ^ k < 10 ^ 100 := fun h => Nat.pow_lt_pow_right (by omega) (by omega)
 have hyb : (10 : Nat) ^ es * 10 ^ fs < 10 ^ 100 := by rw [← Nat.pow_add]; exact hp (by omega)
 have hpb : ec * fc < 10 ^ 100 := Nat.lt_of_lt_of_le (mul100 hec hfc) (Nat.pow_le_pow_right (by omega) (by omega))
 have HML := hid (fun (w1 : World) (A B X Y : Option Addr) (n c k l p q i j : Nat) (h1 : SN w1 A n c ec) (h2 : SN w1 X k l (10 ^ es)) (h3 : SN w1 B p q fc) (h4 : SN w1 Y i j (10 ^ fs)) =>
  FracMul_any d2 d3 sp h1 h2 h3 h4 (up hec) (up hfc) (hp (by omega)) (hp (by omega)) hsp)
 have hq1 : (d1 && dc != 0) = d1 := by rw [← hd1]; cases n1 <;> simp
 obtain ⟨fp1, fp2⟩ := mul_parts d1 e2 d3 xn dc ec fc ds es fs hq1 hx
 rw [hs2x] at fp1
 have HSU := hid (fun (w1 : World) (A B X Y : Option Addr) (n c k l p q i j : Nat) (h1 : SN w1 A n c dc) (h2 : SN w1 X k l (10 ^ ds)) (h3 : SN w1 B p q (ec * fc)) (h4 : SN w1 Y i j (10 ^ es * 10 ^ fs)) =>
  FracSub_any d1 sp s2x sb h1 h2 h3 h4 (up hdc) hpb (hp (by omega)) hyb (by rw [← hsp, ← hs2x, ← hx, ← he2]; exact sub_sign d2 d3 ec fc) (by rw [fp1]; exact hsb))
 rw [fp1, fp2] at HSU
 obtain ⟨b0, c0, s0, f0, hfo⟩ := fixOut_op (sumD d1 dc ds xn (ec * fc) (es + fs)).1 (exOs (sumD d1 dc ds xn (ec * fc) (es + fs)).2 (mxp ds (es + fs)) m)
 rw [hfo] at HFS
 have hC : (sumD d1 dc ds xn (ec * fc) (es + fs)).2 < 10 ^ 60 := by
  have a3 := sumS_le d1 (dc * 10 ^ (mxp ds (es + fs) - ds)) xn (ec * fc * 10 ^ (mxp ds (es + fs) - (es + fs)))
  exact Nat.lt_of_le_of_lt a3 (Nat.lt_trans (mul_bd hdc hec hfc hds (by omega)) (Nat.pow_lt_pow_right (by omega) (by omega)))
 have HGE := hid (fun (w1 : World) (A X : Option Addr) (n c k l : Nat) (h1 : SN w1 A n c ((sumD d1 dc ds xn (ec * fc) (es + fs)).2 * 10 ^ mnp ds (es + fs))) (h2 : SN w1 X k l (10 ^ mxp ds (es + fs) * 10 ^ mnp ds (es + fs))) =>
  gvExact_all _ _ _ _ m (by unfold mxp; split <;> omega) hC (by unfold mnp; split <;> omega) _ _ _ h1 h2 rfl hfo)
 rw [hsb] at HGE
 have HLV := hid (fun w1 he1 => gvLives_any2 w1 he1)
 have HE := hid he
 rw [hv1, hs1, hv2, hs2, hv3, hs3] at HFS
 rw [hv1, hs1] at HN1
 rw [hv2, hs2] at HN2
 rw [hv3, hs3] at HN3
 generalize 10 ^ mxp ds (es + fs) * 10 ^ mnp ds (es + fs) = XX at *
 generalize (sumD d1 dc ds xn (ec * fc) (es + fs)).2 * 10 ^ mnp ds (es + fs) = NN at *
 generalize 10 ^ es * 10 ^ fs = TM at *
 generalize ec * fc = PM at *
 generalize 10 ^ ds = T1 at *
 generalize 10 ^ es = T2 at *
 generalize 10 ^ fs = T3 at *
 clear hdc hec hfc hds hes hfs hd1 hd2 hd3 he2 hsp hx hs2x hv1 hs1 hv2 hs2 hv3 hs3 hsb he hq1 fp1 fp2 hp hyb hpb hfo hC up cb
 obtain ⟨HC0, HD, hB0, hB1, hB2⟩ := box3 w #[.bool n1, .int .u64 v1, .int .i64 s1] 24 #[.bool n2, .int .u64 v2, .int .i64 s2] 24 #[.bool n3, .int .u64 v3, .int .i64 s3] 24
 have HSS := hid (fun (w1 : World) h => And.intro ((cell3 (kept_heap (w' := w1) h hB0)).1) (And.intro ((cell3 (kept_heap (w' := w1) h hB0)).2.1) (And.intro ((cell3 (kept_heap (w' := w1) h hB0)).2.2.1) (And.intro ((cell3 (kept_heap (w' := w1) h hB1)).1) (And.intro ((cell3 (kept_heap (w' := w1) h hB1)).2.1) (And.intro ((cell3 (kept_heap (w' := w1) h hB1)).2.2.1) (And.intro ((cell3 (kept_heap (w' := w1) h hB2)).1) (And.intro ((cell3 (kept_heap (w' := w1) h hB2)).2.1) ((cell3 (kept_heap (w' := w1) h hB2)).2.2.1)))))))))
 have HSL := hid (alloc_last (W := (((w.alloc (.cells #[.bool n1, .int .u64 v1, .int .i64 s1] 24)).alloc (.cells #[.bool n2, .int .u64 v2, .int .i64 s2] 24)).alloc (.cells #[.bool n3, .int .u64 v3, .int .i64 s3] 24))) (x := (.cells #[.bool n1, .int .u64 v1, .int .i64 s1, .bool n2, .int .u64 v2, .int .i64 s2, .bool n3, .int .u64 v3, .int .i64 s3] 24)) (k := w.heap.size + 1 + 1 + 1) (by simp))
 have HFA := hid (FixAll_three n1 n2 n3 v1 s1 v2 s2 v3 s3 HSL.out)
 rw [hok] at HFA
 clear hok hB0 hB1 hB2 HD
 have hk := (Chg.refl (fun _ => False) (((w.alloc (.cells #[.bool n1, .int .u64 v1, .int .i64 s1] 24)).alloc (.cells #[.bool n2, .int .u64 v2, .int .i64 s2] 24)).alloc (.cells #[.bool n3, .int .u64 v3, .int .i64 s3] 24))).alloc (.cells #[.bool n1, .int .u64 v1, .int .i64 s1, .bool n2, .int .u64 v2, .int .i64 s2, .bool n3, .int .u64 v3, .int .i64 s3] 24)
 obtain ⟨d00_, d01_, d02_, d10_, d11_, d12_, d20_, d21_, d22_⟩ := HSS.out _ (Chg.refl _ _)
 go_enter Tryz.func6, Tryz.ntmps6
 go_wp2_with (go_at_call 7; refine HFA.out.mono ?_; intro e w1 h; obtain ⟨he, hc⟩ := h; subst he; replace hk := hk.trans hc sb_; clear hc; clear d00_ d01_ d02_ d10_ d11_ d12_ d20_ d21_ d22_; obtain ⟨d00_, d01_, d02_, d10_, d11_, d12_, d20_, d21_, d22_⟩ := HSS.out _ hk)
 go_at_call 18
 refine (HFS.out _ (HE.out.kept (HC0.out.trans hk sb_))).mono ?_
 intro e w2 h
 obtain ⟨he, hc⟩ := h
 subst he
 replace hk := (hk.trans hc sb_).alloc (.cells #[.bool b0, .int .u64 c0, .int .i64 s0] 24)
 obtain ⟨g, hg⟩ : ∃ g, w2.heap.size = g := ⟨_, rfl⟩
 have hG := heap_alloc_new w2 (.cells #[.bool b0, .int .u64 c0, .int .i64 s0] 24)
 rw [hg] at hG
 have HG := hid hG
 clear hc hG
 clear d00_ d01_ d02_ d10_ d11_ d12_ d20_ d21_ d22_
 obtain ⟨d00_, d01_, d02_, d10_, d11_, d12_, d20_, d21_, d22_⟩ := HSS.out _ hk
 obtain ⟨j0, j1, j2, _, _, _⟩ := cell3 HG.out
 go_wp2_with fail
 have hw6 := (Chg.refl (fun _ => False) (w2.alloc (.cells #[.bool b0, .int .u64 c0, .int .i64 s0] 24))).drew
 have hk := hk.drew
 have HS6 := hid (fun (w3 : World) h1 (h2 : Chg (fun _ => False) (w2.alloc (.cells #[.bool b0, .int .u64 c0, .int .i64 s0] 24)) w3) => And.intro ((HSS.out w3 h1).1) (And.intro ((HSS.out w3 h1).2.1) (And.intro ((HSS.out w3 h1).2.2.1) (And.intro ((HSS.out w3 h1).2.2.2.1) (And.intro ((HSS.out w3 h1).2.2.2.2.1) (And.intro ((HSS.out w3 h1).2.2.2.2.2.1) (And.intro ((HSS.out w3 h1).2.2.2.2.2.2.1) (And.intro ((HSS.out w3 h1).2.2.2.2.2.2.2.1) (And.intro ((HSS.out w3 h1).2.2.2.2.2.2.2.2) (And.intro ((cell3 (kept_heap h2 HG.out)).1) (And.intro ((cell3 (kept_heap h2 HG.out)).2.1) ((cell3 (kept_heap h2 HG.out)).2.2.1))))))))))))
 first | (go_region_held3 (fun w' => w'.cell? ⟨w.heap.size, 0, none⟩ = some (.bool n1) ∧ w'.cell? ⟨w.heap.size, 1, none⟩ = some (.int .u64 v1) ∧ w'.cell? ⟨w.heap.size, 2, none⟩ = some (.int .i64 s1) ∧ w'.cell? ⟨w.heap.size + 1, 0, none⟩ = some (.bool n2) ∧ w'.cell? ⟨w.heap.size + 1, 1, none⟩ = some (.int .u64 v2) ∧ w'.cell? ⟨w.heap.size + 1, 2, none⟩ = some (.int .i64 s2) ∧ w'.cell? ⟨w.heap.size + 1 + 1, 0, none⟩ = some (.bool n3) ∧ w'.cell? ⟨w.heap.size + 1 + 1, 1, none⟩ = some (.int .u64 v3) ∧ w'.cell? ⟨w.heap.size + 1 + 1, 2, none⟩ = some (.int .i64 s3) ∧ w'.cell? ⟨g, 0, none⟩ = some (.bool b0) ∧ w'.cell? ⟨g, 1, none⟩ = some (.int .u64 c0) ∧ w'.cell? ⟨g, 2, none⟩ = some (.int .i64 s0)) (first | with_reducible exact HS6.out _ hk hw6) (first | (go_at_call_of 10 (Value.agg #[Value.bool n1, Value.int .u64 v1, Value.int .i64 s1]); refine (HN1.out _).mono ?_; intro e w3 h; obtain ⟨A1, A1_, A2_, A2, A3_, A4_, he, hq1, hq2, hc⟩ := h; subst he; replace hk := hk.trans hc sb_; replace hw6 := hw6.trans hc sb_; (try replace HA1 := hid (HA1.out.kept hc)); (try replace HA2 := hid (HA2.out.kept hc)); (try replace HB1 := hid (HB1.out.kept hc)); (try replace HB2 := hid (HB2.out.kept hc)); (try replace HE1 := hid (HE1.out.kept hc)); (try replace HE2 := hid (HE2.out.kept hc)); (try replace HM1 := hid (HM1.out.kept hc)); (try replace HM2 := hid (HM2.out.kept hc)); (try replace HC1 := hid (HC1.out.kept hc)); (try replace HC2 := hid (HC2.out.kept hc)); have HA1 := hid hq1; have HA2 := hid hq2; clear hq1 hq2; clear hc) | (go_at_call_of 10 (Value.agg #[Value.bool n2, Value.int .u64 v2, Value.int .i64 s2]); refine (HN2.out _).mono ?_; intro e w3 h; obtain ⟨B1, B1_, B2_, B2, B3_, B4_, he, hq1, hq2, hc⟩ := h; subst he; replace hk := hk.trans hc sb_; replace hw6 := hw6.trans hc sb_; (try replace HA1 := hid (HA1.out.kept hc)); (try replace HA2 := hid (HA2.out.kept hc)); (try replace HB1 := hid (HB1.out.kept hc)); (try replace HB2 := hid (HB2.out.kept hc)); (try replace HE1 := hid (HE1.out.kept hc)); (try replace HE2 := hid (HE2.out.kept hc)); (try replace HM1 := hid (HM1.out.kept hc)); (try replace HM2 := hid (HM2.out.kept hc)); (try replace HC1 := hid (HC1.out.kept hc)); (try replace HC2 := hid (HC2.out.kept hc)); have HB1 := hid hq1; have HB2 := hid hq2; clear hq1 hq2; clear hc) | (go_at_call_of 10 (Value.agg #[Value.bool n3, Value.int .u64 v3, Value.int .i64 s3]); refine (HN3.out _).mono ?_; intro e w3 h; obtain ⟨E1, E1_, E2_, E2, E3_, E4_, he, hq1, hq2, hc⟩ := h; subst he; replace hk := hk.trans hc sb_; replace hw6 := hw6.trans hc sb_; (try replace HA1 := hid (HA1.out.kept hc)); (try replace HA2 := hid (HA2.out.kept hc)); (try replace HB1 := hid (HB1.out.kept hc)); (try replace HB2 := hid (HB2.out.kept hc)); (try replace HE1 := hid (HE1.out.kept hc)); (try replace HE2 := hid (HE2.out.kept hc)); (try replace HM1 := hid (HM1.out.kept hc)); (try replace HM2 := hid (HM2.out.kept hc)); (try replace HC1 := hid (HC1.out.kept hc)); (try replace HC2 := hid (HC2.out.kept hc)); have HE1 := hid hq1; have HE2 := hid hq2; clear hq1 hq2; clear hc) | (go_at_call 16; refine (HML.out _ _ _ _ _ _ _ _ _ _ _ _ _ HB1.out HB2.out HE1.out HE2.out).mono ?_; intro e w3 h; obtain ⟨M1, m1_, m2_, M2, m3_, m4_, he, hq1, hq2, hc⟩ := h; subst he; replace hk := hk.trans hc sb_; replace hw6 := hw6.trans hc sb_; (try replace HA1 := hid (HA1.out.kept hc)); (try replace HA2 := hid (HA2.out.kept hc)); (try replace HB1 := hid (HB1.out.kept hc)); (try replace HB2 := hid (HB2.out.kept hc)); (try replace HE1 := hid (HE1.out.kept hc)); (try replace HE2 := hid (HE2.out.kept hc)); (try replace HM1 := hid (HM1.out.kept hc)); (try replace HM2 := hid (HM2.out.kept hc)); (try replace HC1 := hid (HC1.out.kept hc)); (try replace HC2 := hid (HC2.out.kept hc)); have HM1 := hid hq1; have HM2 := hid hq2; clear hq1 hq2; clear hc) | (go_at_call 11; refine (HSU.out _ _ _ _ _ _ _ _ _ _ _ _ _ HA1.out HA2.out HM1.out HM2.out).mono ?_; intro e w3 h; obtain ⟨C1, c1_, c2_, C2, c3_, c4_, he, hq1, hq2, hc⟩ := h; subst he; replace hk := hk.trans hc sb_; replace hw6 := hw6.trans hc sb_; (try replace HA1 := hid (HA1.out.kept hc)); (try replace HA2 := hid (HA2.out.kept hc)); (try replace HB1 := hid (HB1.out.kept hc)); (try replace HB2 := hid (HB2.out.kept hc)); (try replace HE1 := hid (HE1.out.kept hc)); (try replace HE2 := hid (HE2.out.kept hc)); (try replace HM1 := hid (HM1.out.kept hc)); (try replace HM2 := hid (HM2.out.kept hc)); (try replace HC1 := hid (HC1.out.kept hc)); (try replace HC2 := hid (HC2.out.kept hc)); have HC1 := hid hq1; have HC2 := hid hq2; clear hq1 hq2; clear hc) | (go_at_call 9; refine (HGE.out _ _ _ _ _ _ _ HC1.out HC2.out).mono ?_; intro e w3 h; obtain ⟨he, hc⟩ := h; subst he; replace hk := hk.trans hc sb_; replace hw6 := hw6.trans hc sb_; (try replace HA1 := hid (HA1.out.kept hc)); (try replace HA2 := hid (HA2.out.kept hc)); (try replace HB1 := hid (HB1.out.kept hc)); (try replace HB2 := hid (HB2.out.kept hc)); (try replace HE1 := hid (HE1.out.kept hc)); (try replace HE2 := hid (HE2.out.kept hc)); (try replace HM1 := hid (HM1.out.kept hc)); (try replace HM2 := hid (HM2.out.kept hc)); (try replace HC1 := hid (HC1.out.kept hc)); (try replace HC2 := hid (HC2.out.kept hc)); skip; clear hc) | (go_at_call 12; refine (HLV.out _ (HE.out.kept (HC0.out.trans hk sb_))).mono ?_; intro e w3 h; obtain ⟨he, hc⟩ := h; subst he; replace hk := hk.trans hc sb_; replace hw6 := hw6.trans hc sb_; (try replace HA1 := hid (HA1.out.kept hc)); (try replace HA2 := hid (HA2.out.kept hc)); (try replace HB1 := hid (HB1.out.kept hc)); (try replace HB2 := hid (HB2.out.kept hc)); (try replace HE1 := hid (HE1.out.kept hc)); (try replace HE2 := hid (HE2.out.kept hc)); (try replace HM1 := hid (HM1.out.kept hc)); (try replace HM2 := hid (HM2.out.kept hc)); (try replace HC1 := hid (HC1.out.kept hc)); (try replace HC2 := hid (HC2.out.kept hc)); skip; clear hc))) | fail
 all_goals (go_wp2_with fail; go_ret; exact ⟨rfl, HC0.out.trans hk sb_⟩)
theorem lawMulExs_any (n1 n2 n3 : Bool) (v1 s1 v2 s2 v3 s3 m : Int) (h1 : 0 ≤ v1) (h2 : 0 ≤ v2) (h3 : 0 ≤ v3) (w : World) (he : EnvD w) :
  Calls Tryz.prog 6 #[.agg #[.bool n1, .int .u64 v1, .int .i64 s1], .agg #[.bool n2, .int .u64 v2, .int .i64 s2], .agg #[.bool n3, .int .u64 v3, .int .i64 s3], .int .i64 m] w (PV w (.bool true)) := by
 cases hok : (okFix v1 s1 && (okFix v2 s2 && okFix v3 s3)) with
 | false => exact lawMulExs_out n1 n2 n3 v1 s1 v2 s2 v3 s3 m hok w
 | true =>
  have hok' := hok
  rw [Bool.and_eq_true, Bool.and_eq_true] at hok'
  obtain ⟨k1, k2, k3⟩ := hok'
  obtain ⟨dc, ds, rfl, rfl, a1, a2⟩ := okFix_nat h1 k1
  obtain ⟨ec, es, rfl, rfl, b1, b2⟩ := okFix_nat h2 k2
  obtain ⟨fc, fs, rfl, rfl, c1, c2⟩ := okFix_nat h3 k3
  exact lawMulExs_in n1 n2 n3 _ _ _ _ _ _ _ _ dc ec fc ds es fs m a1 b1 c1 a2 b2 c2 rfl rfl rfl rfl rfl rfl rfl _ _ _ _ _ _ rfl rfl rfl rfl rfl rfl hok rfl w he
end Go.Proofs.YtmpkgkjnoanlhaaGreatDoor
namespace Go.Proofs.YtmpkgkjnoanlhaaGreatDoor
open Go Go.ChangeShapes Go.WideShapes Go.ChangeAt Go.WideMaps Go.WideElems Go.RowKit
set_option maxRecDepth 100000 in
theorem liftedd (os : Os) (started : os.Started) (H : Type) (enc : TypeId × Value → H) :
  ReturnsInHanded {} Tryz.checked os 6 .any (fun w args => (Rows.fnFixSubMulExactSpec.pre enc Tryz.prog Tryz.f6 [] false w args ∧ laidMetH Tryz.prog Rows.fnFixSubMulExactRow.laid w) ∧ sizedMet enc Tryz.prog Tryz.f6 (OpenSpec.ofChange Rows.fnFixSubMulExactSpec) false w args)
   (Rows.fnFixSubMulExactSpec.post enc Tryz.prog Tryz.f6 false true false false) := by
 refine handed_shaped (C := Tryz.checked) (X := fun w _ => laidMetH Tryz.prog Rows.fnFixSubMulExactRow.laid w) (fun _ _ _ hh h => h.of_heap hh) own0 started (by kernel_rfl) Tryz.func6
  (ChangeSpec.witness_shaped (enc := enc) (C := Tryz.checked) (os := os) (X := fun w _ => laidMetH Tryz.prog Rows.fnFixSubMulExactRow.laid w) false (World.doorLaid Tryz.prog 400 os) #[.agg #[.bool false, .int .u64 0, .int .i64 0], .agg #[.bool false, .int .u64 0, .int .i64 0], .agg #[.bool false, .int .u64 0, .int .i64 0], .int .i64 0] 8 rfl (wit_shapedd os) (wit_okd os) (wit_pred os H enc) (wit_sized os H enc) (door_met os _)) ?_
 intro W base args ds gs before hsh hval0 hW _ hL
 have hval : ∀ (j : Nat) t v, Tryz.f6.params[j]? = some t → args[j]? = some v → Value.okWide Tryz.prog W .any base t v := hval0
 have hW' := hW
 obtain ⟨p, q, hA0, hV, rfl, hfz, hnd⟩ := hW
 have hA : DataW.TrodAll enc Tryz.prog W 0 (fun _ => true) true Tryz.f6.params.toList args.toList ds p := hA0
 rw [Tryz.params6] at hA hval
 obtain ⟨v0, vs0, d0, ds0, p0, q0, hargs, rfl, rfl, h0, r0⟩ := trodAll_cons hA
 obtain ⟨v1, vs1, d1, ds1, p1, q1, rfl, rfl, rfl, h1, r1⟩ := trodAll_cons r0
 obtain ⟨v2, vs2, d2, ds2, p2, q2, rfl, rfl, rfl, h2, r2⟩ := trodAll_cons r1
 obtain ⟨v3, vs3, d3, ds3, p3, q3, rfl, rfl, rfl, h3, r3⟩ := trodAll_cons r2
 obtain ⟨rfl, rfl, rfl⟩ := trodAll_nil r3
 obtain rfl : args = #[v0, v1, v2, v3] := by cases args; simp_all
 have k0 := h0
 have k1 := h1
 have k2 := h2
 have k3 := h3
 obtain ⟨n1, c1, s1, rfl, w1, rfl⟩ := open_fix (hval 0 24 v0 rfl rfl) h0
 obtain ⟨n2, c2, s2, rfl, w2, rfl⟩ := open_fix (hval 1 24 v1 rfl rfl) h1
 obtain ⟨n3, c3, s3, rfl, w3, rfl⟩ := open_fix (hval 2 24 v2 rfl rfl) h2
 obtain ⟨m, rfl, rfl, rfl, _⟩ := open_int Tryz.underlying3 (hval 3 3 v3 rfl rfl) h3
 have hlen : gs.length = 8 := trodVars_length hV
 match gs, hlen, hV, hW' with
 | [g1, g2, g3, g4, g5, g6, g7, g8], _, hV, hW' =>
  refine (lawMulExs_any n1 n2 n3 c1 s1 c2 s2 c3 s3 m w1 w2 w3 W (of_laid hsh hL)).mono fun e W' hE => ?_
  obtain ⟨he, hc⟩ := hE
  subst he
  have hB := hc.below
  refine ⟨_, rfl, _, _, _, [], [], q, hW', ?_, ?_, ?_, hB.frame _, fun h => by cases h⟩
  ·exact trodAll_mk1 (shut_bool Tryz.underlying4 _)
  ·exact trodAll_mk4 (Below.trod laidOk (by kernel_rfl) (of_decide_eq_true (by kernel_rfl)) k0 hB (fun x hx => by cases hx)) (Below.trod laidOk (by kernel_rfl) (of_decide_eq_true (by kernel_rfl)) k1 hB (fun x hx => by cases hx)) (Below.trod laidOk (by kernel_rfl) (of_decide_eq_true (by kernel_rfl)) k2 hB (fun x hx => by cases hx)) (Below.trod laidOk (by kernel_rfl) (of_decide_eq_true (by kernel_rfl)) k3 hB (fun x hx => by cases hx))
  ·exact vars_iface hB gScl tScl Tryz.underlying50 (fun _ _ h => vars_iface hB gOvf tOvf Tryz.underlying50 (fun _ _ h => Below.trodVars laidOk hB (by kernel_rfl) h) h) hV
theorem fnFixSubMulExact_holds : Rows.FnFixSubMulExactSaid :=
 OpenClaim.holds_of_wide 6 Tryz.f6 rfl rfl rfl rfl rfl rfl rfl ⟨rfl, rfl, rfl, rfl, rfl⟩ rfl rfl rfl rfl rfl row_funcd Tryz.func6 row_closedd
  (of_decide_eq_true (by kernel_rfl)) (by unfold Func.isWrapper; first | (rw [if_pos (by decide +kernel)]; kernel_rfl) | (rw [if_neg (by decide +kernel)]; exact ⟨rfl, rfl⟩))
  (fun os started H enc _ => liftedd os started H enc)
theorem fnFixSubMulExact_card : Rows.FnFixSubMulExactCardSaid :=
 Claim7.holds_tied_plain_at .later [] [.data, .data, .data, .data, .data, .data, .data, .sentinel, .sentinel, .data] true Rows.fnFixSubMulExactCard.stood.harness false
  fnFixSubMulExact_holds (fun _ h => by cases h) row_wfd (fun _ h => by cases h) fnFixSubMulExact_row_tie rfl ⟨rfl, rfl⟩ (by kernel_rfl) rfl
  (fun f fn hf hfn => by
   obtain rfl : f = 6 := Option.some.inj (row_funcd.symm.trans hf) |>.symm
   obtain rfl : fn = Tryz.f6 := (Option.some.inj (Tryz.func6.symm.trans hfn)).symm
   exact ⟨row_looksd, fun j t ht => by
    rw [Tryz.params6] at ht
    have hm : t ∈ [24, 24, 24, 3] := by simpa using Array.mem_of_getElem? ht
    exact (show Tryz.prog.wantsStandIn t = false by simpa using List.all_eq_true.1 row_standd t hm)⟩)
  row_goesd
end Go.Proofs.YtmpkgkjnoanlhaaGreatDoor
