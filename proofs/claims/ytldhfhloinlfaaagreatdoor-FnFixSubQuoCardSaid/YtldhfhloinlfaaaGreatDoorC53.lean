/- Part 53 of the proof. -/
import Derived.JoinedOf
import GoSem.ClaimSeven
import GoSem.ClaimGoes
import GoSem.ClaimLaidByText
import Derived.Test.YtldhfhloinlfaaaGreatDoorC31
import Derived.Test.YtldhfhloinlfaaaGreatDoorC41
import Derived.Test.YtldhfhloinlfaaaGreatDoorC43
import Derived.Test.YtldhfhloinlfaaaGreatDoorC50
namespace Go.Proofs.YtldhfhloinlfaaaGreatDoor
open Go
set_option maxRecDepth 100000
theorem and2k {a b : Bool} (ha : a = true) (hb : b = true) : (a && b) = true := by rw [ha, hb]; rfl
set_option maxHeartbeats 4000000 in
theorem row_closedk : joinedFacts Tryz.prog 11 Tryz.f11 Rows.fnFixSubQuoSpec Rows.fnFixSubQuoRow = true := by
 unfold joinedFacts
 repeat' (with_reducible refine and2k ?_ ?_)
 all_goals (as_aux_lemma => kernel_rfl)
theorem row_funck : Tryz.prog.funcNamed "given.example/pub-alexandrine/laws.FnFixSubQuo" = some 11 := by kernel_rfl
theorem row_wfk : Rows.fnFixSubQuoRow.wfByText (OpenSpec.ofChange Rows.fnFixSubQuoSpec) = true := by kernel_rfl
theorem row_looksk : false = Tryz.prog.looks [] := by kernel_rfl
theorem row_standk : ([24, 24, 24].all fun u => !Tryz.prog.wantsStandIn u) = true := by kernel_rfl
theorem row_goesk : false = Rows.fnFixSubQuoRow.goesBy Tryz.prog := by kernel_rfl
end Go.Proofs.YtldhfhloinlfaaaGreatDoor
namespace Go.Proofs.YtldhfhloinlfaaaGreatDoor
open Go.RowKit
set_option linter.unusedVariables false
set_option linter.unusedSimpArgs false
set_option maxRecDepth 20000
set_option maxHeartbeats 4000000 in
theorem SubQuo_gen (dn en fn en2 : Bool) (DC EC FC : Int) (ds es fs : Nat) (hEC : Fi EC) (hes : es ≤ 19) (hen : (!en && EC != 0) = en2) (P : Bool → Option (Nat × Nat) → Prop) (w : World) (he : EnvI w)
  (HA : ∀ w1, EnvI w1 → Calls Tryz.prog 55 #[.agg #[.bool dn, .int .i8 ds, .int .u64 DC], .agg #[.bool en2, .int .i8 es, .int .u64 EC], .agg #[.bool fn, .int .i8 fs, .int .u64 FC], .int .i64 0] w1 (PX P w1)) :
  Calls Tryz.prog 71 #[.agg #[.bool dn, .int .i8 ds, .int .u64 DC], .agg #[.bool en, .int .i8 es, .int .u64 EC], .agg #[.bool fn, .int .i8 fs, .int .u64 FC]] w (PX P w) := by
 have hn := fun w => Neg_any en EC es hEC hes w
 rw [hen] at hn
 have HN := hid hn
 have HAA := hid HA
 have HE := hid he
 clear HA he hn hEC hes hen
 obtain ⟨HB, HBX, HC0, hk⟩ := bx4 w dn ds DC en es EC fn fs FC
 have HSS := hid (fun w' (h : Chg (fun _ => False) ((((w.alloc (.cells #[.bool dn, .int .i8 ds, .int .u64 DC] 53)).alloc (.cells #[.bool en, .int .i8 es, .int .u64 EC] 53)).alloc (.cells #[.bool fn, .int .i8 fs, .int .u64 FC] 53)).alloc (.cells #[.bool false, .int .i8 0, .int .u64 0] 53)) w') => (show w'.cell? ⟨w.heap.size, 0, none⟩ = some (.bool dn) ∧ w'.cell? ⟨w.heap.size, 1, none⟩ = some (.int .i8 ds) ∧ w'.cell? ⟨w.heap.size, 2, none⟩ = some (.int .u64 DC) ∧ w'.cell? ⟨w.heap.size + 1, 0, none⟩ = some (.bool en) ∧ w'.cell? ⟨w.heap.size + 1, 1, none⟩ = some (.int .i8 es) ∧ w'.cell? ⟨w.heap.size + 1, 2, none⟩ = some (.int .u64 EC) ∧ w'.cell? ⟨w.heap.size + 1 + 1, 0, none⟩ = some (.bool fn) ∧ w'.cell? ⟨w.heap.size + 1 + 1, 1, none⟩ = some (.int .i8 fs) ∧ w'.cell? ⟨w.heap.size + 1 + 1, 2, none⟩ = some (.int .u64 FC) from ⟨(HB.out _ h).1, (HB.out _ h).2.1, (HB.out _ h).2.2.1, (HB.out _ h).2.2.2.1, (HB.out _ h).2.2.2.2.1, (HB.out _ h).2.2.2.2.2.1, (HB.out _ h).2.2.2.2.2.2.1, (HB.out _ h).2.2.2.2.2.2.2.1, (HB.out _ h).2.2.2.2.2.2.2.2.1⟩))
 have HST := hid (fun w1 x0 x1 x2 h => And.intro (far3 (z := w.heap.size + 1 + 1 + 1) (x0 := x0) (x1 := x1) (x2 := x2) (HSS.out w1 h).1 (by omega)) (And.intro (far3 (z := w.heap.size + 1 + 1 + 1) (x0 := x0) (x1 := x1) (x2 := x2) (HSS.out w1 h).2.1 (by omega)) (And.intro (far3 (z := w.heap.size + 1 + 1 + 1) (x0 := x0) (x1 := x1) (x2 := x2) (HSS.out w1 h).2.2.1 (by omega)) (And.intro (far3 (z := w.heap.size + 1 + 1 + 1) (x0 := x0) (x1 := x1) (x2 := x2) (HSS.out w1 h).2.2.2.1 (by omega)) (And.intro (far3 (z := w.heap.size + 1 + 1 + 1) (x0 := x0) (x1 := x1) (x2 := x2) (HSS.out w1 h).2.2.2.2.1 (by omega)) (And.intro (far3 (z := w.heap.size + 1 + 1 + 1) (x0 := x0) (x1 := x1) (x2 := x2) (HSS.out w1 h).2.2.2.2.2.1 (by omega)) (And.intro (far3 (z := w.heap.size + 1 + 1 + 1) (x0 := x0) (x1 := x1) (x2 := x2) (HSS.out w1 h).2.2.2.2.2.2.1 (by omega)) (And.intro (far3 (z := w.heap.size + 1 + 1 + 1) (x0 := x0) (x1 := x1) (x2 := x2) (HSS.out w1 h).2.2.2.2.2.2.2.1 (by omega)) (far3 (z := w.heap.size + 1 + 1 + 1) (x0 := x0) (x1 := x1) (x2 := x2) (HSS.out w1 h).2.2.2.2.2.2.2.2 (by omega))))))))))
 have hk := hk.drew
 go_enter Tryz.func71, Tryz.ntmps71
 go_wp2_with fail
 first | (go_region_held3 (fun w' => w'.cell? ⟨w.heap.size, 0, none⟩ = some (.bool dn) ∧ w'.cell? ⟨w.heap.size, 1, none⟩ = some (.int .i8 ds) ∧ w'.cell? ⟨w.heap.size, 2, none⟩ = some (.int .u64 DC) ∧ w'.cell? ⟨w.heap.size + 1, 0, none⟩ = some (.bool en) ∧ w'.cell? ⟨w.heap.size + 1, 1, none⟩ = some (.int .i8 es) ∧ w'.cell? ⟨w.heap.size + 1, 2, none⟩ = some (.int .u64 EC) ∧ w'.cell? ⟨w.heap.size + 1 + 1, 0, none⟩ = some (.bool fn) ∧ w'.cell? ⟨w.heap.size + 1 + 1, 1, none⟩ = some (.int .i8 fs) ∧ w'.cell? ⟨w.heap.size + 1 + 1, 2, none⟩ = some (.int .u64 FC)) (first | with_reducible exact HSS.out _ hk | with_reducible exact HST.out _ _ _ _ hk | go_keep) (first | (go_at_call 74; refine (HN.out _).mono ?_; intro e w1 h; obtain ⟨he1, hc1⟩ := h; subst he1; replace hk := hk.trans hc1 sb_; clear hc1; obtain ⟨r0, r1, r2, q0, q1, q2⟩ := cell3 (HBX.out _ hk)) | (go_at_call 55; refine (HAA.out _ (HE.out.kept (HC0.out.trans hk sb_))).mono ?_; intro e w1 h; obtain ⟨na, nb, nc, nv, he1, hc1, hp⟩ := h.op; subst he1; replace hk := hk.trans hc1 sb_; clear h hc1; have HP := hid hp; clear hp; obtain ⟨r0, r1, r2, q0, q1, q2⟩ := cell3 (HBX.out _ hk)))) | fail
 all_goals (go_wp2_with fail; refine bodyPost_ret (v := .tuple #[.agg #[.bool na, .int .i8 nb, .int .u64 nc], nv]) (dec_result rfl _ _ (w.heap.size + 1 + 1 + 1) _ _ _ _ 53 rfl rfl (store3 (HBX.out _ hk) _ _ _)) rfl (HP.out.move (chg3 (HC0.out.trans hk sb_) (by omega) _ _ _)))
theorem suq_idle (p q : Addr) (w : World) : CallsD Tryz.prog 70 #[.pointer (some p), .pointer (some q)] .returning w fun e u' w' => e = .returned (.tuple #[]) ∧ u' = .returning ∧ w' = w := by
 refine callsD_of_wpS Tryz.func70 rfl fun c₀ cs hu => ?_
 apply wpS_seq
 apply wpS_region
 simp [wpOpsS, go_sem, recoverD, hu, Tryz.ntmps70, Exit.thenS]
 refine wpS_cond (t := false) (by simp [Act.eval, Array.replicate]) ?_
 simp only [Bool.false_eq_true, if_false]
 refine wpS_of_wp (wp_skip ?_)
 cases c₀
 simp_all [bodyPostS, results, Tryz.results70]
set_option maxHeartbeats 8000000 in
theorem suq_gen (n1 n2 n3 d1 d2 d3 : Bool) (dc ec fc ds es fs : Nat) (hdc : dc < 10 ^ 19) (hec : ec < 10 ^ 19) (hfc : fc < 10 ^ 19) (hds : ds ≤ 19) (hes : es ≤ 19) (hfs : fs ≤ 19) (hd1 : (n1 && (dc : Int) != 0) = d1) (hd2 : (n2 && (ec : Int) != 0) = d2) (hd3 : (n3 && (fc : Int) != 0) = d3) (P : Bool → Option (Nat × Nat) → Prop) (hP : ∀ sg k t, P sg (some (k, t)) → t ≤ 19) (w : World) (he : EnvI w)
  (HS : ∀ w1, EnvI w1 → Calls Tryz.prog 71 #[.agg #[.bool d1, .int .i8 ds, .int .u64 (dc : Int)], .agg #[.bool d2, .int .i8 es, .int .u64 (ec : Int)], .agg #[.bool d3, .int .i8 fs, .int .u64 (fc : Int)]] w1 (PX P w1)) :
  Calls Tryz.prog 35 #[.agg #[.bool n1, .int .u64 (dc : Int), .int .i64 (ds : Int)], .agg #[.bool n2, .int .u64 (ec : Int), .int .i64 (es : Int)], .agg #[.bool n3, .int .u64 (fc : Int), .int .i64 (fs : Int)]] w (PO P w) := by
 have HF1 := hid (fun w => fixed_any n1 d1 (dc : Int) ds (fiN hdc) hds hd1 w)
 have HF2 := hid (fun w => fixed_any n2 d2 (ec : Int) es (fiN hec) hes hd2 w)
 have HF3 := hid (fun w => fixed_any n3 d3 (fc : Int) fs (fiN hfc) hfs hd3 w)
 have HE := hid he
 obtain ⟨DC, hDC⟩ : ∃ v : Int, (dc : Int) = v := ⟨_, rfl⟩
 obtain ⟨EC, hEC⟩ : ∃ v : Int, (ec : Int) = v := ⟨_, rfl⟩
 obtain ⟨FC, hFC⟩ : ∃ v : Int, (fc : Int) = v := ⟨_, rfl⟩
 rw [hDC] at HF1
 rw [hEC] at HF2
 rw [hFC] at HF3
 rw [hDC, hEC, hFC]
 rw [hDC, hEC, hFC] at HS
 have HSX := hid HS
 have HPB := hid hP
 clear HS hP hdc hec hfc hds hes hfs hd1 hd2 hd3 he hDC hEC hFC
 obtain ⟨HC0, HD, hB0, hB1, hB2, hB3, hB4⟩ := box5 w #[.bool n1, .int .u64 DC, .int .i64 ds] 24 #[.bool n2, .int .u64 EC, .int .i64 es] 24 #[.bool n3, .int .u64 FC, .int .i64 fs] 24 #[.bool false, .int .u64 0, .int .i64 0] 24 #[.int .i64 0] 3
 have HB1 := hid hB1
 have HB2 := hid hB2
 have HB3 := hid hB3
 have HB4 := hid hB4
 have hk := Chg.refl (fun _ => False) (((((w.alloc (.cells #[.bool n1, .int .u64 DC, .int .i64 ds] 24)).alloc (.cells #[.bool n2, .int .u64 EC, .int .i64 es] 24)).alloc (.cells #[.bool n3, .int .u64 FC, .int .i64 fs] 24)).alloc (.cells #[.bool false, .int .u64 0, .int .i64 0] 24)).alloc (.cells #[.int .i64 0] 3))
 obtain ⟨b0_, b1_, b2_, _, _, _⟩ := cell3 hB0
 clear hB0 hB1 hB2 hB3 hB4 HD
 have hmf : ∀ (fn : Fn) (first cap : Array Value) (w : World), (Instr.makeFunc fn first cap).run Tryz.prog w = .ok (.func fn first cap) w := fun _ _ _ _ => rfl
 go_enter_defers Tryz.func35, Tryz.ntmps35
 go_wp2_with (first | (go_at_call_of 38 (Value.agg #[Value.bool n1, Value.int .u64 DC, Value.int .i64 (ds : Int)]); refine (HF1.out _).mono ?_; intro e w1 h; obtain ⟨he, hc⟩ := h; subst he; replace hk := (hk.trans hc sb_).alloc (.cells #[.bool d1, .int .i8 ds, .int .u64 DC] 53); have HG1 := hid (heap_alloc_new w1 (.cells #[.bool d1, .int .i8 ds, .int .u64 DC] 53)); clear hc b0_ b1_ b2_; obtain ⟨e0, e1, e2, _, _, _⟩ := cell3 (kept_heap hk HB1.out)) | (go_at_call_of 38 (Value.agg #[Value.bool n2, Value.int .u64 EC, Value.int .i64 (es : Int)]); refine (HF2.out _).mono ?_; intro e w2 h; obtain ⟨he, hc⟩ := h; subst he; replace hk := (hk.trans hc sb_).alloc (.cells #[.bool d2, .int .i8 es, .int .u64 EC] 53); replace HG1 := hid (kept_heap (hc.alloc (.cells #[.bool d2, .int .i8 es, .int .u64 EC] 53)) HG1.out); have HG2 := hid (heap_alloc_new w2 (.cells #[.bool d2, .int .i8 es, .int .u64 EC] 53)); clear hc e0 e1 e2; obtain ⟨e0, e1, e2, _, _, _⟩ := cell3 (kept_heap hk HB2.out)) | (go_at_call_of 38 (Value.agg #[Value.bool n3, Value.int .u64 FC, Value.int .i64 (fs : Int)]); refine (HF3.out _).mono ?_; intro e w3 h; obtain ⟨he, hc⟩ := h; subst he; replace hk := (hk.trans hc sb_).alloc (.cells #[.bool d3, .int .i8 fs, .int .u64 FC] 53); replace HG1 := hid (kept_heap (hc.alloc (.cells #[.bool d3, .int .i8 fs, .int .u64 FC] 53)) HG1.out); replace HG2 := hid (kept_heap (hc.alloc (.cells #[.bool d3, .int .i8 fs, .int .u64 FC] 53)) HG2.out); have HG3 := hid (heap_alloc_new w3 (.cells #[.bool d3, .int .i8 fs, .int .u64 FC] 53)); clear hc e0 e1 e2; obtain ⟨g0, g1, g2, _, _, _⟩ := cell3 HG1.out; obtain ⟨j0, j1, j2, _, _, _⟩ := cell3 HG2.out; obtain ⟨l0, l1, l2, _, _, _⟩ := cell3 HG3.out))
 go_at_call 71
 refine (HSX.out _ (HE.out.kept (HC0.out.trans hk sb_))).mono ?_
 intro e w4 h
 obtain ⟨sg, o, hp, hc, ho⟩ := h
 have HPP := hid hp
 clear hp
 cases o with
 | none =>
  obtain ⟨t3, v3, he⟩ := ho
  have he2 : e = .returned (.tuple #[.agg #[.bool false, .int .i8 0, .int .u64 0], .iface t3 v3]) := he
  clear he
  subst he2
  replace hk := (hk.trans hc sb_).alloc (.cells #[.bool false, .int .i8 0, .int .u64 0] 53)
  clear hc g0 g1 g2 j0 j1 j2 l0 l1 l2
  obtain ⟨r0, r1, r2, q0, q1, q2⟩ := cell3 (kept_heap hk HB3.out)
  obtain ⟨i0, i1⟩ := cell1 (kept_heap hk HB4.out)
  go_wp2_with fail
  refine leaves_cons (f := 70) (args := #[.pointer (some ⟨w.heap.size + 1 + 1 + 1, 0, none⟩), .pointer (some ⟨w.heap.size + 1 + 1 + 1 + 1, 0, none⟩)]) (by simp) (by simp [go_sem]) ?_
  refine (suq_idle _ _ _).mono ?_
  rintro e u' w'' ⟨rfl, rfl, rfl⟩
  exact ⟨.tuple #[.agg #[.bool false, .int .u64 0, .int .i64 0], .int .i64 1], fix_result rfl _ _ (w.heap.size + 1 + 1 + 1) (w.heap.size + 1 + 1 + 1 + 1) _ _ _ _ _ _ rfl rfl (fix_far (store3 (kept_heap hk HB3.out) _ _ _) (by omega)) (int_set (fix_near (kept_heap hk HB4.out) (by omega))), ⟨sg, none, HPP.out, rfl, fix_chg (HC0.out.trans hk sb_) (by omega) (by omega)⟩⟩
 | some kt =>
  obtain ⟨k, t⟩ := kt
  have ht := HPB.out _ _ _ HPP.out
  have HFX := hid (fun w => fix_any (sg && (k : Int) != 0) (k : Int) t ht w)
  have he2 : e = .returned (.tuple #[.agg #[.bool (sg && (k : Int) != 0), .int .i8 t, .int .u64 (k : Int)], .nilIface]) := ho
  clear ho ht
  obtain ⟨nb, hnb⟩ : ∃ b, (sg && (k : Int) != 0) = b := ⟨_, rfl⟩
  have HNB := hid hnb
  obtain ⟨K, hK⟩ : ∃ v : Int, (k : Int) = v := ⟨_, rfl⟩
  have HK := hid hK
  rw [hnb, hK] at he2 HFX
  subst he2
  clear hnb hK
  replace hk := (hk.trans hc sb_).alloc (.cells #[.bool nb, .int .i8 t, .int .u64 K] 53)
  clear hc g0 g1 g2 j0 j1 j2 l0 l1 l2
  go_wp2_with (go_at_call 40; refine (HFX.out _).mono ?_; intro e w5 h; obtain ⟨he, hc⟩ := h; subst he; replace hk := hk.trans hc sb_; clear hc; obtain ⟨r0, r1, r2, q0, q1, q2⟩ := cell3 (kept_heap hk HB3.out); obtain ⟨i0, i1⟩ := cell1 (kept_heap hk HB4.out))
  refine leaves_cons (f := 70) (args := #[.pointer (some ⟨w.heap.size + 1 + 1 + 1, 0, none⟩), .pointer (some ⟨w.heap.size + 1 + 1 + 1 + 1, 0, none⟩)]) (by simp) (by simp [go_sem]) ?_
  refine (suq_idle _ _ _).mono ?_
  rintro e u' w'' ⟨rfl, rfl, rfl⟩
  exact ⟨.tuple #[.agg #[.bool nb, .int .u64 K, .int .i64 t], .int .i64 0], fix_result rfl _ _ (w.heap.size + 1 + 1 + 1) (w.heap.size + 1 + 1 + 1 + 1) _ _ _ _ _ _ rfl rfl (fix_far (store3 (kept_heap hk HB3.out) _ _ _) (by omega)) (int_set (fix_near (kept_heap hk HB4.out) (by omega))), ⟨sg, some (k, t), HPP.out, by rw [← HNB.out, ← HK.out]; rfl, fix_chg (HC0.out.trans hk sb_) (by omega) (by omega)⟩⟩
theorem FixSubQuo_in (n1 n2 n3 : Bool) (dc ec fc ds es fs : Nat) (a1 : dc < 10 ^ 19) (b1 : ec < 10 ^ 19) (c1 : fc < 10 ^ 19) (a2 : ds ≤ 19) (b2 : es ≤ 19) (c2 : fs ≤ 19) (f0 : 0 < fc) (w : World) (he : EnvI w) :
  Calls Tryz.prog 35 #[.agg #[.bool n1, .int .u64 (dc : Int), .int .i64 (ds : Int)], .agg #[.bool n2, .int .u64 (ec : Int), .int .i64 (es : Int)], .agg #[.bool n3, .int .u64 (fc : Int), .int .i64 (fs : Int)]] w (PO (Good (aqS (n1 && dc != 0) dc ds ((!(n2 && ec != 0) && ec != 0) != (n3 && fc != 0)) ec es fc fs) (aqF (n1 && dc != 0) dc ds ((!(n2 && ec != 0) && ec != 0) != (n3 && fc != 0)) ec es fc fs).2 (10 ^ ds * (10 ^ es * fc)) 0) w) :=
 suq_gen n1 n2 n3 (n1 && dc != 0) (n2 && ec != 0) (n3 && fc != 0) dc ec fc ds es fs a1 b1 c1 a2 b2 c2 (by rw [nat_bne]) (by rw [nat_bne]) (by rw [nat_bne]) _ (fun _ _ _ h => (h.bd (by omega)).1) w he (fun w1 he1 => SubQuo_gen (n1 && dc != 0) (n2 && ec != 0) (n3 && fc != 0) (!(n2 && ec != 0) && ec != 0) _ _ _ _ _ _ (fiN b1) b2 (by rw [nat_bne]) _ w1 he1 (fun w2 he2 => AddQuo0_in (n1 && dc != 0) (!(n2 && ec != 0) && ec != 0) (n3 && fc != 0) dc ec fc ds es fs a1 b1 c1 a2 b2 c2 f0 (by cases n1 <;> simp) w2 he2))
theorem FixSubQuo_zero (n1 n2 n3 : Bool) (dc ec fc ds es fs : Nat) (a1 : dc < 10 ^ 19) (b1 : ec < 10 ^ 19) (c1 : fc < 10 ^ 19) (a2 : ds ≤ 19) (b2 : es ≤ 19) (c2 : fs ≤ 19) (f0 : fc = 0) (w : World) (he : EnvI w) :
  Calls Tryz.prog 35 #[.agg #[.bool n1, .int .u64 (dc : Int), .int .i64 (ds : Int)], .agg #[.bool n2, .int .u64 (ec : Int), .int .i64 (es : Int)], .agg #[.bool n3, .int .u64 (fc : Int), .int .i64 (fs : Int)]] w (PO (fun _ o => o = none) w) :=
 suq_gen n1 n2 n3 (n1 && dc != 0) (n2 && ec != 0) (n3 && fc != 0) dc ec fc ds es fs a1 b1 c1 a2 b2 c2 (by rw [nat_bne]) (by rw [nat_bne]) (by rw [nat_bne]) _ (fun _ _ _ h => by cases h) w he (fun w1 he1 => SubQuo_gen (n1 && dc != 0) (n2 && ec != 0) (n3 && fc != 0) (!(n2 && ec != 0) && ec != 0) _ _ _ _ _ _ (fiN b1) b2 (by rw [nat_bne]) _ w1 he1 (fun w2 he2 => adqEx_bad (n1 && dc != 0) (!(n2 && ec != 0) && ec != 0) (n3 && fc != 0) dc ec fc ds es fs 0 (.inr f0) (fun _ o => o = none) rfl w2))
set_option maxHeartbeats 2000000 in
theorem lawSuq_out (n1 n2 n3 : Bool) (v1 s1 v2 s2 v3 s3 : Int) (hok : (okFix v1 s1 && (okFix v2 s2 && okFix v3 s3)) = false) (w : World) :
  Calls Tryz.prog 11 #[.agg #[.bool n1, .int .u64 v1, .int .i64 s1], .agg #[.bool n2, .int .u64 v2, .int .i64 s2], .agg #[.bool n3, .int .u64 v3, .int .i64 s3]] w (PV w (.bool true)) := by
 obtain ⟨HC0, HD, hB0, hB1, hB2⟩ := box3 w #[.bool n1, .int .u64 v1, .int .i64 s1] 24 #[.bool n2, .int .u64 v2, .int .i64 s2] 24 #[.bool n3, .int .u64 v3, .int .i64 s3] 24
 have HSS := hid (fun (w1 : World) h => And.intro ((cell3 (kept_heap (w' := w1) h hB0)).1) (And.intro ((cell3 (kept_heap (w' := w1) h hB0)).2.1) (And.intro ((cell3 (kept_heap (w' := w1) h hB0)).2.2.1) (And.intro ((cell3 (kept_heap (w' := w1) h hB1)).1) (And.intro ((cell3 (kept_heap (w' := w1) h hB1)).2.1) (And.intro ((cell3 (kept_heap (w' := w1) h hB1)).2.2.1) (And.intro ((cell3 (kept_heap (w' := w1) h hB2)).1) (And.intro ((cell3 (kept_heap (w' := w1) h hB2)).2.1) ((cell3 (kept_heap (w' := w1) h hB2)).2.2.1)))))))))
 have HSL := hid (alloc_last (W := (((w.alloc (.cells #[.bool n1, .int .u64 v1, .int .i64 s1] 24)).alloc (.cells #[.bool n2, .int .u64 v2, .int .i64 s2] 24)).alloc (.cells #[.bool n3, .int .u64 v3, .int .i64 s3] 24))) (x := (.cells #[.bool n1, .int .u64 v1, .int .i64 s1, .bool n2, .int .u64 v2, .int .i64 s2, .bool n3, .int .u64 v3, .int .i64 s3] 24)) (k := w.heap.size + 1 + 1 + 1) (by simp))
 have HFA := hid (FixAll_three n1 n2 n3 v1 s1 v2 s2 v3 s3 HSL.out)
 rw [hok] at HFA
 clear hok hB0 hB1 hB2 HD
 have hk := (Chg.refl (fun _ => False) (((w.alloc (.cells #[.bool n1, .int .u64 v1, .int .i64 s1] 24)).alloc (.cells #[.bool n2, .int .u64 v2, .int .i64 s2] 24)).alloc (.cells #[.bool n3, .int .u64 v3, .int .i64 s3] 24))).alloc (.cells #[.bool n1, .int .u64 v1, .int .i64 s1, .bool n2, .int .u64 v2, .int .i64 s2, .bool n3, .int .u64 v3, .int .i64 s3] 24)
 obtain ⟨d00_, d01_, d02_, d10_, d11_, d12_, d20_, d21_, d22_⟩ := HSS.out _ (Chg.refl _ _)
 go_enter Tryz.func11, Tryz.ntmps11
 go_wp2_with (go_at_call 12; refine HFA.out.mono ?_; intro e w1 h; obtain ⟨he, hc⟩ := h; subst he; replace hk := hk.trans hc sb_; clear hc; skip)
 go_ret
 exact ⟨rfl, HC0.out.trans hk sb_⟩
set_option maxHeartbeats 4000000 in
theorem lawSuq_zero (n1 n2 n3 : Bool) (v1 s1 v2 s2 v3 s3 : Int) (hok : (okFix v1 s1 && (okFix v2 s2 && okFix v3 s3)) = true) (hb5 : (v3 == 0) = true) (w : World) (he : EnvI w)
  (HS : ∀ w1, EnvI w1 → Calls Tryz.prog 35 #[.agg #[.bool n1, .int .u64 v1, .int .i64 s1], .agg #[.bool n2, .int .u64 v2, .int .i64 s2], .agg #[.bool n3, .int .u64 v3, .int .i64 s3]] w1 (PO (fun _ o => o = none) w1)) :
  Calls Tryz.prog 11 #[.agg #[.bool n1, .int .u64 v1, .int .i64 s1], .agg #[.bool n2, .int .u64 v2, .int .i64 s2], .agg #[.bool n3, .int .u64 v3, .int .i64 s3]] w (PV w (.bool true)) := by
 have HFS := hid HS
 have HE := hid he
 clear HS he
 obtain ⟨HC0, HD, hB0, hB1, hB2⟩ := box3 w #[.bool n1, .int .u64 v1, .int .i64 s1] 24 #[.bool n2, .int .u64 v2, .int .i64 s2] 24 #[.bool n3, .int .u64 v3, .int .i64 s3] 24
 have HSS := hid (fun (w1 : World) h => And.intro ((cell3 (kept_heap (w' := w1) h hB0)).1) (And.intro ((cell3 (kept_heap (w' := w1) h hB0)).2.1) (And.intro ((cell3 (kept_heap (w' := w1) h hB0)).2.2.1) (And.intro ((cell3 (kept_heap (w' := w1) h hB1)).1) (And.intro ((cell3 (kept_heap (w' := w1) h hB1)).2.1) (And.intro ((cell3 (kept_heap (w' := w1) h hB1)).2.2.1) (And.intro ((cell3 (kept_heap (w' := w1) h hB2)).1) (And.intro ((cell3 (kept_heap (w' := w1) h hB2)).2.1) ((cell3 (kept_heap (w' := w1) h hB2)).2.2.1)))))))))
 have HSL := hid (alloc_last (W := (((w.alloc (.cells #[.bool n1, .int .u64 v1, .int .i64 s1] 24)).alloc (.cells #[.bool n2, .int .u64 v2, .int .i64 s2] 24)).alloc (.cells #[.bool n3, .int .u64 v3, .int .i64 s3] 24))) (x := (.cells #[.bool n1, .int .u64 v1, .int .i64 s1, .bool n2, .int .u64 v2, .int .i64 s2, .bool n3, .int .u64 v3, .int .i64 s3] 24)) (k := w.heap.size + 1 + 1 + 1) (by simp))
 have HFA := hid (FixAll_three n1 n2 n3 v1 s1 v2 s2 v3 s3 HSL.out)
 rw [hok] at HFA
 clear hok hB0 hB1 hB2 HD
 have hk := (Chg.refl (fun _ => False) (((w.alloc (.cells #[.bool n1, .int .u64 v1, .int .i64 s1] 24)).alloc (.cells #[.bool n2, .int .u64 v2, .int .i64 s2] 24)).alloc (.cells #[.bool n3, .int .u64 v3, .int .i64 s3] 24))).alloc (.cells #[.bool n1, .int .u64 v1, .int .i64 s1, .bool n2, .int .u64 v2, .int .i64 s2, .bool n3, .int .u64 v3, .int .i64 s3] 24)
 obtain ⟨d00_, d01_, d02_, d10_, d11_, d12_, d20_, d21_, d22_⟩ := HSS.out _ (Chg.refl _ _)
 go_enter Tryz.func11, Tryz.ntmps11
 go_wp2_with (go_at_call 12; refine HFA.out.mono ?_; intro e w1 h; obtain ⟨he, hc⟩ := h; subst he; replace hk := hk.trans hc sb_; clear hc; clear d00_ d01_ d02_ d10_ d11_ d12_ d20_ d21_ d22_; obtain ⟨d00_, d01_, d02_, d10_, d11_, d12_, d20_, d21_, d22_⟩ := HSS.out _ hk)
 go_at_call 35
 refine (HFS.out _ (HE.out.kept (HC0.out.trans hk sb_))).mono ?_
 intro e w2 h
 obtain ⟨sg, o, hp, he, hc⟩ := h
 obtain ⟨b0, c0, s0, f0, hfo⟩ := fixOut_op sg o
 rw [hfo] at he
 subst he
 have h0 : fixOut sg none = .tuple #[.agg #[.bool b0, .int .u64 c0, .int .i64 s0], .int .i64 f0] := by rw [← hp]; exact hfo
 obtain rfl : f0 = 1 := by
  have := (fixOut_none rfl h0).2
  simpa using this
 clear h0
 replace hk := (hk.trans hc sb_).alloc (.cells #[.bool b0, .int .u64 c0, .int .i64 s0] 24)
 obtain ⟨g, hg⟩ : ∃ g, w2.heap.size = g := ⟨_, rfl⟩
 have hG := heap_alloc_new w2 (.cells #[.bool b0, .int .u64 c0, .int .i64 s0] 24)
 rw [hg] at hG
 have HG := hid hG
 clear hc hG hp hfo
 clear d00_ d01_ d02_ d10_ d11_ d12_ d20_ d21_ d22_
 obtain ⟨d00_, d01_, d02_, d10_, d11_, d12_, d20_, d21_, d22_⟩ := HSS.out _ hk
 obtain ⟨j0, j1, j2, _, _, _⟩ := cell3 HG.out
 go_wp2_with fail
 go_ret
 exact ⟨rfl, HC0.out.trans hk sb_⟩
set_option maxHeartbeats 4000000 in
theorem lawSuq_in (n1 n2 n3 d1 d2 d3 s2x sq sb e2x : Bool) (dc ec fc ds es fs : Nat) (v1 s1 v2 s2 v3 s3 : Int) (hdc : dc < 10 ^ 19) (hds : ds ≤ 19) (hd1 : (n1 && dc != 0) = d1) (hec : ec < 10 ^ 19) (hes : es ≤ 19) (hd2 : (n2 && ec != 0) = d2) (hfc : fc < 10 ^ 19) (hfs : fs ≤ 19) (hd3 : (n3 && fc != 0) = d3) (NN XX : Nat) (P : Bool → Option (Nat × Nat) → Prop)
  (hv1 : (dc : Int) = v1) (hs1 : (ds : Int) = s1) (hv2 : (ec : Int) = v2) (hs2 : (es : Int) = s2) (hv3 : (fc : Int) = v3) (hs3 : (fs : Int) = s3) (hok : (okFix v1 s1 && (okFix v2 s2 && okFix v3 s3)) = true) (hb5 : (v3 == 0) = false) (w : World) (he : EnvI w)
  (HS : ∀ w1, EnvI w1 → Calls Tryz.prog 35 #[.agg #[.bool n1, .int .u64 v1, .int .i64 s1], .agg #[.bool n2, .int .u64 v2, .int .i64 s2], .agg #[.bool n3, .int .u64 v3, .int .i64 s3]] w1 (PO P w1)) (hsg : ((d2 != d3) && ec * 10 ^ fs != 0) = s2x) (he2x : (!s2x && ec * 10 ^ fs != 0) = e2x) (hsm : sumS (d1 && dc * (10 ^ es * fc) != 0) (dc * (10 ^ es * fc)) (e2x && ec * 10 ^ fs * 10 ^ ds != 0) (ec * 10 ^ fs * 10 ^ ds) = (sq, NN)) (hsb : (sq && NN != 0) = sb) (hXX : 10 ^ ds * (10 ^ es * fc) = XX)
  (HGX : ∀ sg o b0 c0 s0 f0, P sg o → fixOut sg o = .tuple #[.agg #[.bool b0, .int .u64 c0, .int .i64 s0], .int .i64 f0] → ∀ (w1 : World) (A X : Option Addr) (n c k l : Nat), SN w1 A n c NN → SN w1 X k l XX → Calls Tryz.prog 34 #[.agg #[.bool b0, .int .u64 c0, .int .i64 s0], .int .i64 f0, .agg #[.bool sb, .slice A n c, .slice X k l]] w1 (PV w1 (.bool true))) :
  Calls Tryz.prog 11 #[.agg #[.bool n1, .int .u64 v1, .int .i64 s1], .agg #[.bool n2, .int .u64 v2, .int .i64 s2], .agg #[.bool n3, .int .u64 v3, .int .i64 s3]] w (PV w (.bool true)) := by
 have up : ∀ {k : Nat}, k < 10 ^ 19 → k < 10 ^ 100 := fun h => Nat.lt_of_lt_of_le h (Nat.pow_le_pow_right (by omega) (by omega))
 have hp : ∀ {k : Nat}, k ≤ 19 → (10 : Nat) ^ k < 10 ^ 100 := fun h => Nat.pow_lt_pow_right (by omega) (by omega)
 have HN1 := hid (fun w1 => FixNum_any (w := w1) n1 d1 dc ds hdc hds hd1)
 rw [hv1, hs1] at HN1
 have HN2 := hid (fun w1 => FixNum_any (w := w1) n2 d2 ec es hec hes hd2)
 rw [hv2, hs2] at HN2
 have HN3 := hid (fun w1 => FixNum_any (w := w1) n3 d3 fc fs hfc hfs hd3)
 rw [hv3, hs3] at HN3
 have HIN := hid (fun (w1 : World) (A X : Option Addr) (n c k l : Nat) (h2 : SN w1 X k l (10 ^ fs)) => FracInv_sn (A := A) (n := n) (c := c) d3 d3 h2 (by rw [bne_iff_ne.2 (Nat.ne_of_gt (pow10_pos fs)), Bool.and_true]))
 have HML := hid (fun (w1 : World) (A B X Y : Option Addr) (n c k l p q i j : Nat) (h1 : SN w1 A n c ec) (h2 : SN w1 X k l (10 ^ es)) (h3 : SN w1 B p q (10 ^ fs)) (h4 : SN w1 Y i j fc) =>
  FracMul_any d2 d3 s2x h1 h2 h3 h4 (up hec) (hp hfs) (hp hes) (up hfc) hsg)
 have p20 : ∀ {k : Nat}, k ≤ 19 → (10 : Nat) ^ k < 10 ^ 20 := fun h => Nat.pow_lt_pow_right (by omega) (by omega)
 have up2 : ∀ {k i : Nat}, i ≤ 100 → k < 10 ^ i → k < 10 ^ 100 := fun hi h => Nat.lt_of_lt_of_le h (Nat.pow_le_pow_right (by omega) hi)
 have hyb : (10 : Nat) ^ es * fc < 10 ^ 100 := up2 (by omega) (mul100 (p20 hes) hfc)
 have hpb : ec * 10 ^ fs < 10 ^ 100 := up2 (by omega) (mul100 hec (p20 hfs))
 have HSU := hid (fun (w1 : World) (A B X Y : Option Addr) (n c k l p q i j : Nat) (h1 : SN w1 A n c dc) (h2 : SN w1 X k l (10 ^ ds)) (h3 : SN w1 B p q (ec * 10 ^ fs)) (h4 : SN w1 Y i j (10 ^ es * fc)) =>
  FracSub_any d1 s2x e2x sb h1 h2 h3 h4 (up hdc) hpb (hp hds) hyb he2x (by rw [hsm]; exact hsb))
 rw [hsm, hXX] at HSU
 have HFS := hid HS
 have HGV := hid HGX
 have HE := hid he
 generalize 10 ^ es * fc = TM at *
 generalize ec * 10 ^ fs = PM at *
 generalize 10 ^ ds = T1 at *
 generalize 10 ^ es = T2 at *
 generalize 10 ^ fs = T3 at *
 clear HS HGX he hdc hds hd1 hec hes hd2 hfc hfs hd3 hv1 hv2 hv3 hs1 hs2 hs3 hsg up hp p20 up2 hyb hpb hsm hsb hXX he2x
 obtain ⟨HC0, HD, hB0, hB1, hB2⟩ := box3 w #[.bool n1, .int .u64 v1, .int .i64 s1] 24 #[.bool n2, .int .u64 v2, .int .i64 s2] 24 #[.bool n3, .int .u64 v3, .int .i64 s3] 24
 have HSS := hid (fun (w1 : World) h => And.intro ((cell3 (kept_heap (w' := w1) h hB0)).1) (And.intro ((cell3 (kept_heap (w' := w1) h hB0)).2.1) (And.intro ((cell3 (kept_heap (w' := w1) h hB0)).2.2.1) (And.intro ((cell3 (kept_heap (w' := w1) h hB1)).1) (And.intro ((cell3 (kept_heap (w' := w1) h hB1)).2.1) (And.intro ((cell3 (kept_heap (w' := w1) h hB1)).2.2.1) (And.intro ((cell3 (kept_heap (w' := w1) h hB2)).1) (And.intro ((cell3 (kept_heap (w' := w1) h hB2)).2.1) ((cell3 (kept_heap (w' := w1) h hB2)).2.2.1)))))))))
 have HSL := hid (alloc_last (W := (((w.alloc (.cells #[.bool n1, .int .u64 v1, .int .i64 s1] 24)).alloc (.cells #[.bool n2, .int .u64 v2, .int .i64 s2] 24)).alloc (.cells #[.bool n3, .int .u64 v3, .int .i64 s3] 24))) (x := (.cells #[.bool n1, .int .u64 v1, .int .i64 s1, .bool n2, .int .u64 v2, .int .i64 s2, .bool n3, .int .u64 v3, .int .i64 s3] 24)) (k := w.heap.size + 1 + 1 + 1) (by simp))
 have HFA := hid (FixAll_three n1 n2 n3 v1 s1 v2 s2 v3 s3 HSL.out)
 rw [hok] at HFA
 clear hok hB0 hB1 hB2 HD
 have hk := (Chg.refl (fun _ => False) (((w.alloc (.cells #[.bool n1, .int .u64 v1, .int .i64 s1] 24)).alloc (.cells #[.bool n2, .int .u64 v2, .int .i64 s2] 24)).alloc (.cells #[.bool n3, .int .u64 v3, .int .i64 s3] 24))).alloc (.cells #[.bool n1, .int .u64 v1, .int .i64 s1, .bool n2, .int .u64 v2, .int .i64 s2, .bool n3, .int .u64 v3, .int .i64 s3] 24)
 obtain ⟨d00_, d01_, d02_, d10_, d11_, d12_, d20_, d21_, d22_⟩ := HSS.out _ (Chg.refl _ _)
 go_enter Tryz.func11, Tryz.ntmps11
 go_wp2_with (go_at_call 12; refine HFA.out.mono ?_; intro e w1 h; obtain ⟨he, hc⟩ := h; subst he; replace hk := hk.trans hc sb_; clear hc; clear d00_ d01_ d02_ d10_ d11_ d12_ d20_ d21_ d22_; obtain ⟨d00_, d01_, d02_, d10_, d11_, d12_, d20_, d21_, d22_⟩ := HSS.out _ hk)
 go_at_call 35
 refine (HFS.out _ (HE.out.kept (HC0.out.trans hk sb_))).mono ?_
 intro e w2 h
 obtain ⟨sg, o, hp, he, hc⟩ := h
 obtain ⟨b0, c0, s0, f0, hfo⟩ := fixOut_op sg o
 rw [hfo] at he
 subst he
 have HGE := hid (HGV.out sg o b0 c0 s0 f0 hp hfo)
 replace hk := (hk.trans hc sb_).alloc (.cells #[.bool b0, .int .u64 c0, .int .i64 s0] 24)
 obtain ⟨g, hg⟩ : ∃ g, w2.heap.size = g := ⟨_, rfl⟩
 have hG := heap_alloc_new w2 (.cells #[.bool b0, .int .u64 c0, .int .i64 s0] 24)
 rw [hg] at hG
 have HG := hid hG
 clear hc hG hp hfo
 clear d00_ d01_ d02_ d10_ d11_ d12_ d20_ d21_ d22_
 obtain ⟨d00_, d01_, d02_, d10_, d11_, d12_, d20_, d21_, d22_⟩ := HSS.out _ hk
 obtain ⟨j0, j1, j2, _, _, _⟩ := cell3 HG.out
 go_wp2_with fail
 have hw6 := (Chg.refl (fun _ => False) (w2.alloc (.cells #[.bool b0, .int .u64 c0, .int .i64 s0] 24))).drew
 have hk := hk.drew
 have HS6 := hid (fun (w3 : World) h1 (h2 : Chg (fun _ => False) (w2.alloc (.cells #[.bool b0, .int .u64 c0, .int .i64 s0] 24)) w3) => And.intro ((HSS.out w3 h1).1) (And.intro ((HSS.out w3 h1).2.1) (And.intro ((HSS.out w3 h1).2.2.1) (And.intro ((HSS.out w3 h1).2.2.2.1) (And.intro ((HSS.out w3 h1).2.2.2.2.1) (And.intro ((HSS.out w3 h1).2.2.2.2.2.1) (And.intro ((HSS.out w3 h1).2.2.2.2.2.2.1) (And.intro ((HSS.out w3 h1).2.2.2.2.2.2.2.1) (And.intro ((HSS.out w3 h1).2.2.2.2.2.2.2.2) (And.intro ((cell3 (kept_heap h2 HG.out)).1) (And.intro ((cell3 (kept_heap h2 HG.out)).2.1) ((cell3 (kept_heap h2 HG.out)).2.2.1))))))))))))
 first | (go_region_held3 (fun w' => w'.cell? ⟨w.heap.size, 0, none⟩ = some (.bool n1) ∧ w'.cell? ⟨w.heap.size, 1, none⟩ = some (.int .u64 v1) ∧ w'.cell? ⟨w.heap.size, 2, none⟩ = some (.int .i64 s1) ∧ w'.cell? ⟨w.heap.size + 1, 0, none⟩ = some (.bool n2) ∧ w'.cell? ⟨w.heap.size + 1, 1, none⟩ = some (.int .u64 v2) ∧ w'.cell? ⟨w.heap.size + 1, 2, none⟩ = some (.int .i64 s2) ∧ w'.cell? ⟨w.heap.size + 1 + 1, 0, none⟩ = some (.bool n3) ∧ w'.cell? ⟨w.heap.size + 1 + 1, 1, none⟩ = some (.int .u64 v3) ∧ w'.cell? ⟨w.heap.size + 1 + 1, 2, none⟩ = some (.int .i64 s3) ∧ w'.cell? ⟨g, 0, none⟩ = some (.bool b0) ∧ w'.cell? ⟨g, 1, none⟩ = some (.int .u64 c0) ∧ w'.cell? ⟨g, 2, none⟩ = some (.int .i64 s0)) (first | with_reducible exact HS6.out _ hk hw6) (first | (go_at_call_of 15 (Value.agg #[Value.bool n1, Value.int .u64 v1, Value.int .i64 s1]); refine (HN1.out _).mono ?_; intro e w3 h; obtain ⟨A1, A1_, A2_, A2, A3_, A4_, he, hq1, hq2, hc⟩ := h; subst he; replace hk := hk.trans hc sb_; replace hw6 := hw6.trans hc sb_; (try replace HA1 := hid (HA1.out.kept hc)); (try replace HA2 := hid (HA2.out.kept hc)); (try replace HB1 := hid (HB1.out.kept hc)); (try replace HB2 := hid (HB2.out.kept hc)); (try replace HE1 := hid (HE1.out.kept hc)); (try replace HE2 := hid (HE2.out.kept hc)); (try replace HM1 := hid (HM1.out.kept hc)); (try replace HM2 := hid (HM2.out.kept hc)); (try replace HC1 := hid (HC1.out.kept hc)); (try replace HC2 := hid (HC2.out.kept hc)); have HA1 := hid hq1; have HA2 := hid hq2; clear hq1 hq2; clear hc) | (go_at_call_of 15 (Value.agg #[Value.bool n2, Value.int .u64 v2, Value.int .i64 s2]); refine (HN2.out _).mono ?_; intro e w3 h; obtain ⟨B1, B1_, B2_, B2, B3_, B4_, he, hq1, hq2, hc⟩ := h; subst he; replace hk := hk.trans hc sb_; replace hw6 := hw6.trans hc sb_; (try replace HA1 := hid (HA1.out.kept hc)); (try replace HA2 := hid (HA2.out.kept hc)); (try replace HB1 := hid (HB1.out.kept hc)); (try replace HB2 := hid (HB2.out.kept hc)); (try replace HE1 := hid (HE1.out.kept hc)); (try replace HE2 := hid (HE2.out.kept hc)); (try replace HM1 := hid (HM1.out.kept hc)); (try replace HM2 := hid (HM2.out.kept hc)); (try replace HC1 := hid (HC1.out.kept hc)); (try replace HC2 := hid (HC2.out.kept hc)); have HB1 := hid hq1; have HB2 := hid hq2; clear hq1 hq2; clear hc) | (go_at_call_of 15 (Value.agg #[Value.bool n3, Value.int .u64 v3, Value.int .i64 s3]); refine (HN3.out _).mono ?_; intro e w3 h; obtain ⟨E1, E1_, E2_, E2, E3_, E4_, he, hq1, hq2, hc⟩ := h; subst he; replace hk := hk.trans hc sb_; replace hw6 := hw6.trans hc sb_; (try replace HA1 := hid (HA1.out.kept hc)); (try replace HA2 := hid (HA2.out.kept hc)); (try replace HB1 := hid (HB1.out.kept hc)); (try replace HB2 := hid (HB2.out.kept hc)); (try replace HE1 := hid (HE1.out.kept hc)); (try replace HE2 := hid (HE2.out.kept hc)); (try replace HM1 := hid (HM1.out.kept hc)); (try replace HM2 := hid (HM2.out.kept hc)); (try replace HC1 := hid (HC1.out.kept hc)); (try replace HC2 := hid (HC2.out.kept hc)); have HE1 := hid hq1; have HE2 := hid hq2; clear hq1 hq2; clear hc) | (go_at_call 22; refine (HIN.out _ _ _ _ _ _ _ HE2.out).mono ?_; intro e w3 h; obtain ⟨he, hc⟩ := h; subst he; replace hk := hk.trans hc sb_; replace hw6 := hw6.trans hc sb_; (try replace HA1 := hid (HA1.out.kept hc)); (try replace HA2 := hid (HA2.out.kept hc)); (try replace HB1 := hid (HB1.out.kept hc)); (try replace HB2 := hid (HB2.out.kept hc)); (try replace HE1 := hid (HE1.out.kept hc)); (try replace HE2 := hid (HE2.out.kept hc)); (try replace HM1 := hid (HM1.out.kept hc)); (try replace HM2 := hid (HM2.out.kept hc)); (try replace HC1 := hid (HC1.out.kept hc)); (try replace HC2 := hid (HC2.out.kept hc)); skip; clear hc) | (go_at_call 21; refine (HML.out _ _ _ _ _ _ _ _ _ _ _ _ _ HB1.out HB2.out HE2.out HE1.out).mono ?_; intro e w3 h; obtain ⟨M1, m1_, m2_, M2, m3_, m4_, he, hq1, hq2, hc⟩ := h; subst he; replace hk := hk.trans hc sb_; replace hw6 := hw6.trans hc sb_; (try replace HA1 := hid (HA1.out.kept hc)); (try replace HA2 := hid (HA2.out.kept hc)); (try replace HB1 := hid (HB1.out.kept hc)); (try replace HB2 := hid (HB2.out.kept hc)); (try replace HE1 := hid (HE1.out.kept hc)); (try replace HE2 := hid (HE2.out.kept hc)); (try replace HM1 := hid (HM1.out.kept hc)); (try replace HM2 := hid (HM2.out.kept hc)); (try replace HC1 := hid (HC1.out.kept hc)); (try replace HC2 := hid (HC2.out.kept hc)); have HM1 := hid hq1; have HM2 := hid hq2; clear hq1 hq2; clear hc) | (go_at_call 16; refine (HSU.out _ _ _ _ _ _ _ _ _ _ _ _ _ HA1.out HA2.out HM1.out HM2.out).mono ?_; intro e w3 h; obtain ⟨C1, c1_, c2_, C2, c3_, c4_, he, hq1, hq2, hc⟩ := h; subst he; replace hk := hk.trans hc sb_; replace hw6 := hw6.trans hc sb_; (try replace HA1 := hid (HA1.out.kept hc)); (try replace HA2 := hid (HA2.out.kept hc)); (try replace HB1 := hid (HB1.out.kept hc)); (try replace HB2 := hid (HB2.out.kept hc)); (try replace HE1 := hid (HE1.out.kept hc)); (try replace HE2 := hid (HE2.out.kept hc)); (try replace HM1 := hid (HM1.out.kept hc)); (try replace HM2 := hid (HM2.out.kept hc)); (try replace HC1 := hid (HC1.out.kept hc)); (try replace HC2 := hid (HC2.out.kept hc)); have HC1 := hid hq1; have HC2 := hid hq2; clear hq1 hq2; clear hc) | (go_at_call 34; refine (HGE.out _ _ _ _ _ _ _ HC1.out HC2.out).mono ?_; intro e w3 h; obtain ⟨he, hc⟩ := h; subst he; replace hk := hk.trans hc sb_; replace hw6 := hw6.trans hc sb_; (try replace HA1 := hid (HA1.out.kept hc)); (try replace HA2 := hid (HA2.out.kept hc)); (try replace HB1 := hid (HB1.out.kept hc)); (try replace HB2 := hid (HB2.out.kept hc)); (try replace HE1 := hid (HE1.out.kept hc)); (try replace HE2 := hid (HE2.out.kept hc)); (try replace HM1 := hid (HM1.out.kept hc)); (try replace HM2 := hid (HM2.out.kept hc)); (try replace HC1 := hid (HC1.out.kept hc)); (try replace HC2 := hid (HC2.out.kept hc)); skip; clear hc))) | fail
 all_goals (go_wp2_with fail; go_ret; exact ⟨rfl, HC0.out.trans hk sb_⟩)
theorem lawSuq_any (n1 n2 n3 : Bool) (v1 s1 v2 s2 v3 s3 : Int) (h1 : 0 ≤ v1) (h2 : 0 ≤ v2) (h3 : 0 ≤ v3) (w : World) (he : EnvI w) :
  Calls Tryz.prog 11 #[.agg #[.bool n1, .int .u64 v1, .int .i64 s1], .agg #[.bool n2, .int .u64 v2, .int .i64 s2], .agg #[.bool n3, .int .u64 v3, .int .i64 s3]] w (PV w (.bool true)) := by
 cases hok : (okFix v1 s1 && (okFix v2 s2 && okFix v3 s3)) with
 | false => exact lawSuq_out n1 n2 n3 v1 s1 v2 s2 v3 s3 hok w
 | true =>
  have hok' := hok
  rw [Bool.and_eq_true, Bool.and_eq_true] at hok'
  obtain ⟨k1, k2, k3⟩ := hok'
  obtain ⟨dc, ds, rfl, rfl, a1, a2⟩ := okFix_nat h1 k1
  obtain ⟨ec, es, rfl, rfl, b1, b2⟩ := okFix_nat h2 k2
  obtain ⟨fc, fs, rfl, rfl, c1, c2⟩ := okFix_nat h3 k3
  by_cases hz : fc = 0
  ·exact lawSuq_zero n1 n2 n3 _ _ _ _ _ _ hok (by rw [hz]; rfl) w he (fun w1 he1 => FixSubQuo_zero n1 n2 n3 dc ec fc ds es fs a1 b1 c1 a2 b2 c2 hz w1 he1)
  have hf0 : 0 < fc := by omega
  obtain ⟨hnn, hxx, hx0⟩ := aq_bounds (n1 && dc != 0) ((!(n2 && ec != 0) && ec != 0) != (n3 && fc != 0)) a1 b1 c1 a2 b2 c2 hf0
  exact lawSuq_in n1 n2 n3 _ _ _ _ (aqF (n1 && dc != 0) dc ds ((!(n2 && ec != 0) && ec != 0) != (n3 && fc != 0)) ec es fc fs).1 _ _ dc ec fc ds es fs _ _ _ _ _ _ a1 a2 rfl b1 b2 rfl c1 c2 rfl (aqF (n1 && dc != 0) dc ds ((!(n2 && ec != 0) && ec != 0) != (n3 && fc != 0)) ec es fc fs).2 _ _ rfl rfl rfl rfl rfl rfl hok (beq_eq_false_iff_ne.2 (by omega)) w he
   (fun w1 he1 => FixSubQuo_in n1 n2 n3 dc ec fc ds es fs a1 b1 c1 a2 b2 c2 hf0 w1 he1) rfl rfl (aq_sub (n2 && ec != 0) (n3 && fc != 0) dc ds es fs (by cases n1 <;> simp) hf0) rfl rfl
   (fun sg o b0 c0 s0 f0 hp hfo w1 A X n c k l ha hx => gvNear_good _ sg o _ _ ha hx hnn hxx hx0 hp hfo)
end Go.Proofs.YtldhfhloinlfaaaGreatDoor
