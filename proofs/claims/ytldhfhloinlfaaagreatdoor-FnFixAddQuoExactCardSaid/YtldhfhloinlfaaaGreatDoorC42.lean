/- Part 42 of the proof. -/
import Derived.Test.YtldhfhloinlfaaaGreatDoorC40
import Derived.Test.YtldhfhloinlfaaaGreatDoorC41
namespace Go.Proofs.YtldhfhloinlfaaaGreatDoor
open Go.RowKit
set_option linter.unusedVariables false
set_option linter.unusedSimpArgs false
set_option maxRecDepth 20000
theorem adqEx_idle (p q : Addr) (w : World) : CallsD Tryz.prog 54 #[.pointer (some p), .pointer (some q)] .returning w fun e u' w' => e = .returned (.tuple #[]) ∧ u' = .returning ∧ w' = w := by
 refine callsD_of_wpS Tryz.func54 rfl fun c₀ cs hu => ?_
 apply wpS_seq
 apply wpS_region
 simp [wpOpsS, go_sem, recoverD, hu, Tryz.ntmps54, Exit.thenS]
 refine wpS_cond (t := false) (by simp [Act.eval, Array.replicate]) ?_
 simp only [Bool.false_eq_true, if_false]
 refine wpS_of_wp (wp_skip ?_)
 cases c₀
 simp_all [bodyPostS, results, Tryz.results54]
set_option maxHeartbeats 8000000 in
theorem adqEx_gen (n1 n2 n3 d1 d2 d3 : Bool) (dc ec fc ds es fs : Nat) (m : Int) (hdc : dc < 10 ^ 19) (hec : ec < 10 ^ 19) (hfc : fc < 10 ^ 19) (hds : ds ≤ 19) (hes : es ≤ 19) (hfs : fs ≤ 19) (hd1 : (n1 && (dc : Int) != 0) = d1) (hd2 : (n2 && (ec : Int) != 0) = d2) (hd3 : (n3 && (fc : Int) != 0) = d3) (P : Bool → Option (Nat × Nat) → Prop) (hP : ∀ sg k t, P sg (some (k, t)) → t ≤ 19) (w : World) (he : EnvI w)
  (HS : ∀ w1, EnvI w1 → Calls Tryz.prog 55 #[.agg #[.bool d1, .int .i8 ds, .int .u64 (dc : Int)], .agg #[.bool d2, .int .i8 es, .int .u64 (ec : Int)], .agg #[.bool d3, .int .i8 fs, .int .u64 (fc : Int)], .int .i64 m] w1 (PX P w1)) :
  Calls Tryz.prog 26 #[.agg #[.bool n1, .int .u64 (dc : Int), .int .i64 (ds : Int)], .agg #[.bool n2, .int .u64 (ec : Int), .int .i64 (es : Int)], .agg #[.bool n3, .int .u64 (fc : Int), .int .i64 (fs : Int)], .int .i64 m] w (PO P w) := by
 have HF1 := hid (fun w => fixed_any n1 d1 (dc : Int) ds (fiN hdc) hds hd1 w)
 have HF2 := hid (fun w => fixed_any n2 d2 (ec : Int) es (fiN hec) hes hd2 w)
 have HF3 := hid (fun w => fixed_any n3 d3 (fc : Int) fs (fiN hfc) hfs hd3 w)
 have HE := hid he
 obtain ⟨DC, hDC⟩ : ∃ v : Int, (dc : Int) = v := ⟨_, rfl⟩
 obtain ⟨EC, hEC⟩ : ∃ v : Int, (ec : Int) = v := ⟨_, rfl⟩
 obtain ⟨FC, hFC⟩ : ∃ v : Int, (fc : Int) = v := ⟨_, rfl⟩
 rw [hDC] at HF1
 rw [hEC] at HF2
 rw [hFC] at HF3
 rw [hDC, hEC, hFC]
 rw [hDC, hEC, hFC] at HS
 have HSX := hid HS
 have HPB := hid hP
 clear HS hP hdc hec hfc hds hes hfs hd1 hd2 hd3 he hDC hEC hFC
 obtain ⟨HC0, HD, hB0, hB1, hB2, hB3, hB4⟩ := box5 w #[.bool n1, .int .u64 DC, .int .i64 ds] 24 #[.bool n2, .int .u64 EC, .int .i64 es] 24 #[.bool n3, .int .u64 FC, .int .i64 fs] 24 #[.bool false, .int .u64 0, .int .i64 0] 24 #[.int .i64 0] 3
 have HB1 := hid hB1
 have HB2 := hid hB2
 have HB3 := hid hB3
 have HB4 := hid hB4
 have hk := Chg.refl (fun _ => False) (((((w.alloc (.cells #[.bool n1, .int .u64 DC, .int .i64 ds] 24)).alloc (.cells #[.bool n2, .int .u64 EC, .int .i64 es] 24)).alloc (.cells #[.bool n3, .int .u64 FC, .int .i64 fs] 24)).alloc (.cells #[.bool false, .int .u64 0, .int .i64 0] 24)).alloc (.cells #[.int .i64 0] 3))
 obtain ⟨b0_, b1_, b2_, _, _, _⟩ := cell3 hB0
 clear hB0 hB1 hB2 hB3 hB4 HD
 have hmf : ∀ (fn : Fn) (first cap : Array Value) (w : World), (Instr.makeFunc fn first cap).run Tryz.prog w = .ok (.func fn first cap) w := fun _ _ _ _ => rfl
 go_enter_defers Tryz.func26, Tryz.ntmps26
 go_wp2_with (first | (go_at_call_of 38 (Value.agg #[Value.bool n1, Value.int .u64 DC, Value.int .i64 (ds : Int)]); refine (HF1.out _).mono ?_; intro e w1 h; obtain ⟨he, hc⟩ := h; subst he; replace hk := (hk.trans hc sb_).alloc (.cells #[.bool d1, .int .i8 ds, .int .u64 DC] 53); have HG1 := hid (heap_alloc_new w1 (.cells #[.bool d1, .int .i8 ds, .int .u64 DC] 53)); clear hc b0_ b1_ b2_; obtain ⟨e0, e1, e2, _, _, _⟩ := cell3 (kept_heap hk HB1.out)) | (go_at_call_of 38 (Value.agg #[Value.bool n2, Value.int .u64 EC, Value.int .i64 (es : Int)]); refine (HF2.out _).mono ?_; intro e w2 h; obtain ⟨he, hc⟩ := h; subst he; replace hk := (hk.trans hc sb_).alloc (.cells #[.bool d2, .int .i8 es, .int .u64 EC] 53); replace HG1 := hid (kept_heap (hc.alloc (.cells #[.bool d2, .int .i8 es, .int .u64 EC] 53)) HG1.out); have HG2 := hid (heap_alloc_new w2 (.cells #[.bool d2, .int .i8 es, .int .u64 EC] 53)); clear hc e0 e1 e2; obtain ⟨e0, e1, e2, _, _, _⟩ := cell3 (kept_heap hk HB2.out)) | (go_at_call_of 38 (Value.agg #[Value.bool n3, Value.int .u64 FC, Value.int .i64 (fs : Int)]); refine (HF3.out _).mono ?_; intro e w3 h; obtain ⟨he, hc⟩ := h; subst he; replace hk := (hk.trans hc sb_).alloc (.cells #[.bool d3, .int .i8 fs, .int .u64 FC] 53); replace HG1 := hid (kept_heap (hc.alloc (.cells #[.bool d3, .int .i8 fs, .int .u64 FC] 53)) HG1.out); replace HG2 := hid (kept_heap (hc.alloc (.cells #[.bool d3, .int .i8 fs, .int .u64 FC] 53)) HG2.out); have HG3 := hid (heap_alloc_new w3 (.cells #[.bool d3, .int .i8 fs, .int .u64 FC] 53)); clear hc e0 e1 e2; obtain ⟨g0, g1, g2, _, _, _⟩ := cell3 HG1.out; obtain ⟨j0, j1, j2, _, _, _⟩ := cell3 HG2.out; obtain ⟨l0, l1, l2, _, _, _⟩ := cell3 HG3.out))
 go_at_call 55
 refine (HSX.out _ (HE.out.kept (HC0.out.trans hk sb_))).mono ?_
 intro e w4 h
 obtain ⟨sg, o, hp, hc, ho⟩ := h
 have HPP := hid hp
 clear hp
 cases o with
 | none =>
  obtain ⟨t3, v3, he⟩ := ho
  have he2 : e = .returned (.tuple #[.agg #[.bool false, .int .i8 0, .int .u64 0], .iface t3 v3]) := he
  clear he
  subst he2
  replace hk := (hk.trans hc sb_).alloc (.cells #[.bool false, .int .i8 0, .int .u64 0] 53)
  clear hc g0 g1 g2 j0 j1 j2 l0 l1 l2
  obtain ⟨r0, r1, r2, q0, q1, q2⟩ := cell3 (kept_heap hk HB3.out)
  obtain ⟨i0, i1⟩ := cell1 (kept_heap hk HB4.out)
  go_wp2_with fail
  refine leaves_cons (f := 54) (args := #[.pointer (some ⟨w.heap.size + 1 + 1 + 1, 0, none⟩), .pointer (some ⟨w.heap.size + 1 + 1 + 1 + 1, 0, none⟩)]) (by simp) (by simp [go_sem]) ?_
  refine (adqEx_idle _ _ _).mono ?_
  rintro e u' w'' ⟨rfl, rfl, rfl⟩
  exact ⟨.tuple #[.agg #[.bool false, .int .u64 0, .int .i64 0], .int .i64 1], fix_result rfl _ _ (w.heap.size + 1 + 1 + 1) (w.heap.size + 1 + 1 + 1 + 1) _ _ _ _ _ _ rfl rfl (fix_far (store3 (kept_heap hk HB3.out) _ _ _) (by omega)) (int_set (fix_near (kept_heap hk HB4.out) (by omega))), ⟨sg, none, HPP.out, rfl, fix_chg (HC0.out.trans hk sb_) (by omega) (by omega)⟩⟩
 | some kt =>
  obtain ⟨k, t⟩ := kt
  have ht := HPB.out _ _ _ HPP.out
  have HFX := hid (fun w => fix_any (sg && (k : Int) != 0) (k : Int) t ht w)
  have he2 : e = .returned (.tuple #[.agg #[.bool (sg && (k : Int) != 0), .int .i8 t, .int .u64 (k : Int)], .nilIface]) := ho
  clear ho ht
  obtain ⟨nb, hnb⟩ : ∃ b, (sg && (k : Int) != 0) = b := ⟨_, rfl⟩
  have HNB := hid hnb
  obtain ⟨K, hK⟩ : ∃ v : Int, (k : Int) = v := ⟨_, rfl⟩
  have HK := hid hK
  rw [hnb, hK] at he2 HFX
  subst he2
  clear hnb hK
  replace hk := (hk.trans hc sb_).alloc (.cells #[.bool nb, .int .i8 t, .int .u64 K] 53)
  clear hc g0 g1 g2 j0 j1 j2 l0 l1 l2
  go_wp2_with (go_at_call 40; refine (HFX.out _).mono ?_; intro e w5 h; obtain ⟨he, hc⟩ := h; subst he; replace hk := hk.trans hc sb_; clear hc; obtain ⟨r0, r1, r2, q0, q1, q2⟩ := cell3 (kept_heap hk HB3.out); obtain ⟨i0, i1⟩ := cell1 (kept_heap hk HB4.out))
  refine leaves_cons (f := 54) (args := #[.pointer (some ⟨w.heap.size + 1 + 1 + 1, 0, none⟩), .pointer (some ⟨w.heap.size + 1 + 1 + 1 + 1, 0, none⟩)]) (by simp) (by simp [go_sem]) ?_
  refine (adqEx_idle _ _ _).mono ?_
  rintro e u' w'' ⟨rfl, rfl, rfl⟩
  exact ⟨.tuple #[.agg #[.bool nb, .int .u64 K, .int .i64 t], .int .i64 0], fix_result rfl _ _ (w.heap.size + 1 + 1 + 1) (w.heap.size + 1 + 1 + 1 + 1) _ _ _ _ _ _ rfl rfl (fix_far (store3 (kept_heap hk HB3.out) _ _ _) (by omega)) (int_set (fix_near (kept_heap hk HB4.out) (by omega))), ⟨sg, some (k, t), HPP.out, by rw [← HNB.out, ← HK.out]; rfl, fix_chg (HC0.out.trans hk sb_) (by omega) (by omega)⟩⟩
theorem FixAddQuoExact_in (n1 n2 n3 : Bool) (dc ec fc ds es fs : Nat) (m : Int) (a1 : dc < 10 ^ 19) (b1 : ec < 10 ^ 19) (c1 : fc < 10 ^ 19) (a2 : ds ≤ 19) (b2 : es ≤ 19) (c2 : fs ≤ 19) (e0 : 0 < ec) (f0 : 0 < fc) (w : World) (he : EnvI w) :
  Calls Tryz.prog 26 #[.agg #[.bool n1, .int .u64 (dc : Int), .int .i64 (ds : Int)], .agg #[.bool n2, .int .u64 (ec : Int), .int .i64 (es : Int)], .agg #[.bool n3, .int .u64 (fc : Int), .int .i64 (fs : Int)], .int .i64 m] w (PO (GoodAt (aqS (n1 && dc != 0) dc ds ((n2 && ec != 0) != (n3 && fc != 0)) ec es fc fs) (aqF (n1 && dc != 0) dc ds ((n2 && ec != 0) != (n3 && fc != 0)) ec es fc fs).2 (10 ^ ds * (10 ^ es * fc)) m) w) :=
 adqEx_gen n1 n2 n3 (n1 && dc != 0) (n2 && ec != 0) (n3 && fc != 0) dc ec fc ds es fs m a1 b1 c1 a2 b2 c2 (by rw [nat_bne]) (by rw [nat_bne]) (by rw [nat_bne]) _ (fun _ _ _ h => h.places) w he (fun w1 he1 => AddQuoExact_in (n1 && dc != 0) (n2 && ec != 0) (n3 && fc != 0) dc ec fc ds es fs m a1 b1 c1 a2 b2 c2 e0 f0 w1 he1)
theorem FixAddQuoExact_zero (n1 n2 n3 : Bool) (dc ec fc ds es fs : Nat) (m : Int) (a1 : dc < 10 ^ 19) (b1 : ec < 10 ^ 19) (c1 : fc < 10 ^ 19) (a2 : ds ≤ 19) (b2 : es ≤ 19) (c2 : fs ≤ 19) (f0 : fc = 0) (w : World) (he : EnvI w) :
  Calls Tryz.prog 26 #[.agg #[.bool n1, .int .u64 (dc : Int), .int .i64 (ds : Int)], .agg #[.bool n2, .int .u64 (ec : Int), .int .i64 (es : Int)], .agg #[.bool n3, .int .u64 (fc : Int), .int .i64 (fs : Int)], .int .i64 m] w (PO (fun _ o => o = none) w) :=
 adqEx_gen n1 n2 n3 (n1 && dc != 0) (n2 && ec != 0) (n3 && fc != 0) dc ec fc ds es fs m a1 b1 c1 a2 b2 c2 (by rw [nat_bne]) (by rw [nat_bne]) (by rw [nat_bne]) _ (fun _ _ _ h => by cases h) w he (fun w1 he1 => adqEx_bad (n1 && dc != 0) (n2 && ec != 0) (n3 && fc != 0) dc ec fc ds es fs m (.inr f0) (fun _ o => o = none) rfl w1)
end Go.Proofs.YtldhfhloinlfaaaGreatDoor
