/- Part 46 of the proof. -/
import Derived.JoinedOf
import GoSem.ClaimSeven
import GoSem.ClaimGoes
import GoSem.ClaimLaidByText
import Derived.Test.YtldhfhloinlfaaaGreatDoorC32
import Derived.Test.YtldhfhloinlfaaaGreatDoorC33
import Derived.Test.YtldhfhloinlfaaaGreatDoorC41
namespace Go.Proofs.YtldhfhloinlfaaaGreatDoor
open Go
set_option maxRecDepth 100000
theorem and2i {a b : Bool} (ha : a = true) (hb : b = true) : (a && b) = true := by rw [ha, hb]; rfl
set_option maxHeartbeats 4000000 in
theorem row_closedi : joinedFacts Tryz.prog 8 Tryz.f8 Rows.fnFixSubQuoExactSpec Rows.fnFixSubQuoExactRow = true := by
 unfold joinedFacts
 repeat' (with_reducible refine and2i ?_ ?_)
 all_goals (as_aux_lemma => kernel_rfl)
theorem row_funci : Tryz.prog.funcNamed "given.example/pub-alexandrine/laws.FnFixSubQuoExact" = some 8 := by kernel_rfl
theorem row_wfi : Rows.fnFixSubQuoExactRow.wfByText (OpenSpec.ofChange Rows.fnFixSubQuoExactSpec) = true := by kernel_rfl
theorem row_looksi : false = Tryz.prog.looks [] := by kernel_rfl
theorem row_standi : ([24, 24, 24, 3].all fun u => !Tryz.prog.wantsStandIn u) = true := by kernel_rfl
theorem row_goesi : false = Rows.fnFixSubQuoExactRow.goesBy Tryz.prog := by kernel_rfl
end Go.Proofs.YtldhfhloinlfaaaGreatDoor
namespace Go.Proofs.YtldhfhloinlfaaaGreatDoor
open Go.RowKit
set_option linter.unusedVariables false
set_option linter.unusedSimpArgs false
set_option maxRecDepth 20000
set_option maxHeartbeats 4000000 in
theorem SubQuoExact_gen (dn en fn en2 : Bool) (DC EC FC m : Int) (ds es fs : Nat) (hEC : Fi EC) (hes : es ≤ 19) (hen : (!en && EC != 0) = en2) (P : Bool → Option (Nat × Nat) → Prop) (w : World) (he : EnvI w)
  (HA : ∀ w1, EnvI w1 → Calls Tryz.prog 55 #[.agg #[.bool dn, .int .i8 ds, .int .u64 DC], .agg #[.bool en2, .int .i8 es, .int .u64 EC], .agg #[.bool fn, .int .i8 fs, .int .u64 FC], .int .i64 m] w1 (PX P w1)) :
  Calls Tryz.prog 57 #[.agg #[.bool dn, .int .i8 ds, .int .u64 DC], .agg #[.bool en, .int .i8 es, .int .u64 EC], .agg #[.bool fn, .int .i8 fs, .int .u64 FC], .int .i64 m] w (PX P w) := by
 have hn := fun w => Neg_any en EC es hEC hes w
 rw [hen] at hn
 have HN := hid hn
 have HAA := hid HA
 have HE := hid he
 clear HA he hn hEC hes hen
 obtain ⟨HB, HBX, HC0, hk⟩ := bx4 w dn ds DC en es EC fn fs FC
 have HSS := hid (fun w' (h : Chg (fun _ => False) ((((w.alloc (.cells #[.bool dn, .int .i8 ds, .int .u64 DC] 53)).alloc (.cells #[.bool en, .int .i8 es, .int .u64 EC] 53)).alloc (.cells #[.bool fn, .int .i8 fs, .int .u64 FC] 53)).alloc (.cells #[.bool false, .int .i8 0, .int .u64 0] 53)) w') => (show w'.cell? ⟨w.heap.size, 0, none⟩ = some (.bool dn) ∧ w'.cell? ⟨w.heap.size, 1, none⟩ = some (.int .i8 ds) ∧ w'.cell? ⟨w.heap.size, 2, none⟩ = some (.int .u64 DC) ∧ w'.cell? ⟨w.heap.size + 1, 0, none⟩ = some (.bool en) ∧ w'.cell? ⟨w.heap.size + 1, 1, none⟩ = some (.int .i8 es) ∧ w'.cell? ⟨w.heap.size + 1, 2, none⟩ = some (.int .u64 EC) ∧ w'.cell? ⟨w.heap.size + 1 + 1, 0, none⟩ = some (.bool fn) ∧ w'.cell? ⟨w.heap.size + 1 + 1, 1, none⟩ = some (.int .i8 fs) ∧ w'.cell? ⟨w.heap.size + 1 + 1, 2, none⟩ = some (.int .u64 FC) from ⟨(HB.out _ h).1, (HB.out _ h).2.1, (HB.out _ h).2.2.1, (HB.out _ h).2.2.2.1, (HB.out _ h).2.2.2.2.1, (HB.out _ h).2.2.2.2.2.1, (HB.out _ h).2.2.2.2.2.2.1, (HB.out _ h).2.2.2.2.2.2.2.1, (HB.out _ h).2.2.2.2.2.2.2.2.1⟩))
 have HST := hid (fun w1 x0 x1 x2 h => And.intro (far3 (z := w.heap.size + 1 + 1 + 1) (x0 := x0) (x1 := x1) (x2 := x2) (HSS.out w1 h).1 (by omega)) (And.intro (far3 (z := w.heap.size + 1 + 1 + 1) (x0 := x0) (x1 := x1) (x2 := x2) (HSS.out w1 h).2.1 (by omega)) (And.intro (far3 (z := w.heap.size + 1 + 1 + 1) (x0 := x0) (x1 := x1) (x2 := x2) (HSS.out w1 h).2.2.1 (by omega)) (And.intro (far3 (z := w.heap.size + 1 + 1 + 1) (x0 := x0) (x1 := x1) (x2 := x2) (HSS.out w1 h).2.2.2.1 (by omega)) (And.intro (far3 (z := w.heap.size + 1 + 1 + 1) (x0 := x0) (x1 := x1) (x2 := x2) (HSS.out w1 h).2.2.2.2.1 (by omega)) (And.intro (far3 (z := w.heap.size + 1 + 1 + 1) (x0 := x0) (x1 := x1) (x2 := x2) (HSS.out w1 h).2.2.2.2.2.1 (by omega)) (And.intro (far3 (z := w.heap.size + 1 + 1 + 1) (x0 := x0) (x1 := x1) (x2 := x2) (HSS.out w1 h).2.2.2.2.2.2.1 (by omega)) (And.intro (far3 (z := w.heap.size + 1 + 1 + 1) (x0 := x0) (x1 := x1) (x2 := x2) (HSS.out w1 h).2.2.2.2.2.2.2.1 (by omega)) (far3 (z := w.heap.size + 1 + 1 + 1) (x0 := x0) (x1 := x1) (x2 := x2) (HSS.out w1 h).2.2.2.2.2.2.2.2 (by omega))))))))))
 have hk := hk.drew
 go_enter Tryz.func57, Tryz.ntmps57
 go_wp2_with fail
 first | (go_region_held3 (fun w' => w'.cell? ⟨w.heap.size, 0, none⟩ = some (.bool dn) ∧ w'.cell? ⟨w.heap.size, 1, none⟩ = some (.int .i8 ds) ∧ w'.cell? ⟨w.heap.size, 2, none⟩ = some (.int .u64 DC) ∧ w'.cell? ⟨w.heap.size + 1, 0, none⟩ = some (.bool en) ∧ w'.cell? ⟨w.heap.size + 1, 1, none⟩ = some (.int .i8 es) ∧ w'.cell? ⟨w.heap.size + 1, 2, none⟩ = some (.int .u64 EC) ∧ w'.cell? ⟨w.heap.size + 1 + 1, 0, none⟩ = some (.bool fn) ∧ w'.cell? ⟨w.heap.size + 1 + 1, 1, none⟩ = some (.int .i8 fs) ∧ w'.cell? ⟨w.heap.size + 1 + 1, 2, none⟩ = some (.int .u64 FC)) (first | with_reducible exact HSS.out _ hk | with_reducible exact HST.out _ _ _ _ hk | go_keep) (first | (go_at_call 74; refine (HN.out _).mono ?_; intro e w1 h; obtain ⟨he1, hc1⟩ := h; subst he1; replace hk := hk.trans hc1 sb_; clear hc1; obtain ⟨r0, r1, r2, q0, q1, q2⟩ := cell3 (HBX.out _ hk)) | (go_at_call 55; refine (HAA.out _ (HE.out.kept (HC0.out.trans hk sb_))).mono ?_; intro e w1 h; obtain ⟨na, nb, nc, nv, he1, hc1, hp⟩ := h.op; subst he1; replace hk := hk.trans hc1 sb_; clear h hc1; have HP := hid hp; clear hp; obtain ⟨r0, r1, r2, q0, q1, q2⟩ := cell3 (HBX.out _ hk)))) | fail
 all_goals (go_wp2_with fail; refine bodyPost_ret (v := .tuple #[.agg #[.bool na, .int .i8 nb, .int .u64 nc], nv]) (dec_result rfl _ _ (w.heap.size + 1 + 1 + 1) _ _ _ _ 53 rfl rfl (store3 (HBX.out _ hk) _ _ _)) rfl (HP.out.move (chg3 (HC0.out.trans hk sb_) (by omega) _ _ _)))
theorem suqEx_idle (p q : Addr) (w : World) : CallsD Tryz.prog 56 #[.pointer (some p), .pointer (some q)] .returning w fun e u' w' => e = .returned (.tuple #[]) ∧ u' = .returning ∧ w' = w := by
 refine callsD_of_wpS Tryz.func56 rfl fun c₀ cs hu => ?_
 apply wpS_seq
 apply wpS_region
 simp [wpOpsS, go_sem, recoverD, hu, Tryz.ntmps56, Exit.thenS]
 refine wpS_cond (t := false) (by simp [Act.eval, Array.replicate]) ?_
 simp only [Bool.false_eq_true, if_false]
 refine wpS_of_wp (wp_skip ?_)
 cases c₀
 simp_all [bodyPostS, results, Tryz.results56]
set_option maxHeartbeats 8000000 in
theorem suqEx_gen (n1 n2 n3 d1 d2 d3 : Bool) (dc ec fc ds es fs : Nat) (m : Int) (hdc : dc < 10 ^ 19) (hec : ec < 10 ^ 19) (hfc : fc < 10 ^ 19) (hds : ds ≤ 19) (hes : es ≤ 19) (hfs : fs ≤ 19) (hd1 : (n1 && (dc : Int) != 0) = d1) (hd2 : (n2 && (ec : Int) != 0) = d2) (hd3 : (n3 && (fc : Int) != 0) = d3) (P : Bool → Option (Nat × Nat) → Prop) (hP : ∀ sg k t, P sg (some (k, t)) → t ≤ 19) (w : World) (he : EnvI w)
  (HS : ∀ w1, EnvI w1 → Calls Tryz.prog 57 #[.agg #[.bool d1, .int .i8 ds, .int .u64 (dc : Int)], .agg #[.bool d2, .int .i8 es, .int .u64 (ec : Int)], .agg #[.bool d3, .int .i8 fs, .int .u64 (fc : Int)], .int .i64 m] w1 (PX P w1)) :
  Calls Tryz.prog 27 #[.agg #[.bool n1, .int .u64 (dc : Int), .int .i64 (ds : Int)], .agg #[.bool n2, .int .u64 (ec : Int), .int .i64 (es : Int)], .agg #[.bool n3, .int .u64 (fc : Int), .int .i64 (fs : Int)], .int .i64 m] w (PO P w) := by
 have HF1 := hid (fun w => fixed_any n1 d1 (dc : Int) ds (fiN hdc) hds hd1 w)
 have HF2 := hid (fun w => fixed_any n2 d2 (ec : Int) es (fiN hec) hes hd2 w)
 have HF3 := hid (fun w => fixed_any n3 d3 (fc : Int) fs (fiN hfc) hfs hd3 w)
 have HE := hid he
 obtain ⟨DC, hDC⟩ : ∃ v : Int, (dc : Int) = v := ⟨_, rfl⟩
 obtain ⟨EC, hEC⟩ : ∃ v : Int, (ec : Int) = v := ⟨_, rfl⟩
 obtain ⟨FC, hFC⟩ : ∃ v : Int, (fc : Int) = v := ⟨_, rfl⟩
 rw [hDC] at HF1
 rw [hEC] at HF2
 rw [hFC] at HF3
 rw [hDC, hEC, hFC]
 rw [hDC, hEC, hFC] at HS
 have HSX := hid HS
 have HPB := hid hP
 clear HS hP hdc hec hfc hds hes hfs hd1 hd2 hd3 he hDC hEC hFC
 obtain ⟨HC0, HD, hB0, hB1, hB2, hB3, hB4⟩ := box5 w #[.bool n1, .int .u64 DC, .int .i64 ds] 24 #[.bool n2, .int .u64 EC, .int .i64 es] 24 #[.bool n3, .int .u64 FC, .int .i64 fs] 24 #[.bool false, .int .u64 0, .int .i64 0] 24 #[.int .i64 0] 3
 have HB1 := hid hB1
 have HB2 := hid hB2
 have HB3 := hid hB3
 have HB4 := hid hB4
 have hk := Chg.refl (fun _ => False) (((((w.alloc (.cells #[.bool n1, .int .u64 DC, .int .i64 ds] 24)).alloc (.cells #[.bool n2, .int .u64 EC, .int .i64 es] 24)).alloc (.cells #[.bool n3, .int .u64 FC, .int .i64 fs] 24)).alloc (.cells #[.bool false, .int .u64 0, .int .i64 0] 24)).alloc (.cells #[.int .i64 0] 3))
 obtain ⟨b0_, b1_, b2_, _, _, _⟩ := cell3 hB0
 clear hB0 hB1 hB2 hB3 hB4 HD
 have hmf : ∀ (fn : Fn) (first cap : Array Value) (w : World), (Instr.makeFunc fn first cap).run Tryz.prog w = .ok (.func fn first cap) w := fun _ _ _ _ => rfl
 go_enter_defers Tryz.func27, Tryz.ntmps27
 go_wp2_with (first | (go_at_call_of 38 (Value.agg #[Value.bool n1, Value.int .u64 DC, Value.int .i64 (ds : Int)]); refine (HF1.out _).mono ?_; intro e w1 h; obtain ⟨he, hc⟩ := h; subst he; replace hk := (hk.trans hc sb_).alloc (.cells #[.bool d1, .int .i8 ds, .int .u64 DC] 53); have HG1 := hid (heap_alloc_new w1 (.cells #[.bool d1, .int .i8 ds, .int .u64 DC] 53)); clear hc b0_ b1_ b2_; obtain ⟨e0, e1, e2, _, _, _⟩ := cell3 (kept_heap hk HB1.out)) | (go_at_call_of 38 (Value.agg #[Value.bool n2, Value.int .u64 EC, Value.int .i64 (es : Int)]); refine (HF2.out _).mono ?_; intro e w2 h; obtain ⟨he, hc⟩ := h; subst he; replace hk := (hk.trans hc sb_).alloc (.cells #[.bool d2, .int .i8 es, .int .u64 EC] 53); replace HG1 := hid (kept_heap (hc.alloc (.cells #[.bool d2, .int .i8 es, .int .u64 EC] 53)) HG1.out); have HG2 := hid (heap_alloc_new w2 (.cells #[.bool d2, .int .i8 es, .int .u64 EC] 53)); clear hc e0 e1 e2; obtain ⟨e0, e1, e2, _, _, _⟩ := cell3 (kept_heap hk HB2.out)) | (go_at_call_of 38 (Value.agg #[Value.bool n3, Value.int .u64 FC, Value.int .i64 (fs : Int)]); refine (HF3.out _).mono ?_; intro e w3 h; obtain ⟨he, hc⟩ := h; subst he; replace hk := (hk.trans hc sb_).alloc (.cells #[.bool d3, .int .i8 fs, .int .u64 FC] 53); replace HG1 := hid (kept_heap (hc.alloc (.cells #[.bool d3, .int .i8 fs, .int .u64 FC] 53)) HG1.out); replace HG2 := hid (kept_heap (hc.alloc (.cells #[.bool d3, .int .i8 fs, .int .u64 FC] 53)) HG2.out); have HG3 := hid (heap_alloc_new w3 (.cells #[.bool d3, .int .i8 fs, .int .u64 FC] 53)); clear hc e0 e1 e2; obtain ⟨g0, g1, g2, _, _, _⟩ := cell3 HG1.out; obtain ⟨j0, j1, j2, _, _, _⟩ := cell3 HG2.out; obtain ⟨l0, l1, l2, _, _, _⟩ := cell3 HG3.out))
 go_at_call 57
 refine (HSX.out _ (HE.out.kept (HC0.out.trans hk sb_))).mono ?_
 intro e w4 h
 obtain ⟨sg, o, hp, hc, ho⟩ := h
 have HPP := hid hp
 clear hp
 cases o with
 | none =>
  obtain ⟨t3, v3, he⟩ := ho
  have he2 : e = .returned (.tuple #[.agg #[.bool false, .int .i8 0, .int .u64 0], .iface t3 v3]) := he
  clear he
  subst he2
  replace hk := (hk.trans hc sb_).alloc (.cells #[.bool false, .int .i8 0, .int .u64 0] 53)
  clear hc g0 g1 g2 j0 j1 j2 l0 l1 l2
  obtain ⟨r0, r1, r2, q0, q1, q2⟩ := cell3 (kept_heap hk HB3.out)
  obtain ⟨i0, i1⟩ := cell1 (kept_heap hk HB4.out)
  go_wp2_with fail
  refine leaves_cons (f := 56) (args := #[.pointer (some ⟨w.heap.size + 1 + 1 + 1, 0, none⟩), .pointer (some ⟨w.heap.size + 1 + 1 + 1 + 1, 0, none⟩)]) (by simp) (by simp [go_sem]) ?_
  refine (suqEx_idle _ _ _).mono ?_
  rintro e u' w'' ⟨rfl, rfl, rfl⟩
  exact ⟨.tuple #[.agg #[.bool false, .int .u64 0, .int .i64 0], .int .i64 1], fix_result rfl _ _ (w.heap.size + 1 + 1 + 1) (w.heap.size + 1 + 1 + 1 + 1) _ _ _ _ _ _ rfl rfl (fix_far (store3 (kept_heap hk HB3.out) _ _ _) (by omega)) (int_set (fix_near (kept_heap hk HB4.out) (by omega))), ⟨sg, none, HPP.out, rfl, fix_chg (HC0.out.trans hk sb_) (by omega) (by omega)⟩⟩
 | some kt =>
  obtain ⟨k, t⟩ := kt
  have ht := HPB.out _ _ _ HPP.out
  have HFX := hid (fun w => fix_any (sg && (k : Int) != 0) (k : Int) t ht w)
  have he2 : e = .returned (.tuple #[.agg #[.bool (sg && (k : Int) != 0), .int .i8 t, .int .u64 (k : Int)], .nilIface]) := ho
  clear ho ht
  obtain ⟨nb, hnb⟩ : ∃ b, (sg && (k : Int) != 0) = b := ⟨_, rfl⟩
  have HNB := hid hnb
  obtain ⟨K, hK⟩ : ∃ v : Int, (k : Int) = v := ⟨_, rfl⟩
  have HK := hid hK
  rw [hnb, hK] at he2 HFX
  subst he2
  clear hnb hK
  replace hk := (hk.trans hc sb_).alloc (.cells #[.bool nb, .int .i8 t, .int .u64 K] 53)
  clear hc g0 g1 g2 j0 j1 j2 l0 l1 l2
  go_wp2_with (go_at_call 40; refine (HFX.out _).mono ?_; intro e w5 h; obtain ⟨he, hc⟩ := h; subst he; replace hk := hk.trans hc sb_; clear hc; obtain ⟨r0, r1, r2, q0, q1, q2⟩ := cell3 (kept_heap hk HB3.out); obtain ⟨i0, i1⟩ := cell1 (kept_heap hk HB4.out))
  refine leaves_cons (f := 56) (args := #[.pointer (some ⟨w.heap.size + 1 + 1 + 1, 0, none⟩), .pointer (some ⟨w.heap.size + 1 + 1 + 1 + 1, 0, none⟩)]) (by simp) (by simp [go_sem]) ?_
  refine (suqEx_idle _ _ _).mono ?_
  rintro e u' w'' ⟨rfl, rfl, rfl⟩
  exact ⟨.tuple #[.agg #[.bool nb, .int .u64 K, .int .i64 t], .int .i64 0], fix_result rfl _ _ (w.heap.size + 1 + 1 + 1) (w.heap.size + 1 + 1 + 1 + 1) _ _ _ _ _ _ rfl rfl (fix_far (store3 (kept_heap hk HB3.out) _ _ _) (by omega)) (int_set (fix_near (kept_heap hk HB4.out) (by omega))), ⟨sg, some (k, t), HPP.out, by rw [← HNB.out, ← HK.out]; rfl, fix_chg (HC0.out.trans hk sb_) (by omega) (by omega)⟩⟩
end Go.Proofs.YtldhfhloinlfaaaGreatDoor
