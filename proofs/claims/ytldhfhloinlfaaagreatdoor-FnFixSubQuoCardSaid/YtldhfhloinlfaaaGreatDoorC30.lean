/- Part 30 of the proof. -/
import Derived.Test.YtldhfhloinlfaaaGreatDoorC23
namespace Go.Proofs.YtldhfhloinlfaaaGreatDoor
open Go.RowKit
set_option linter.unusedVariables false
set_option linter.unusedSimpArgs false
set_option maxRecDepth 20000
theorem cell9 {w : World} {b : Nat} {x0 x1 x2 x3 x4 x5 x6 x7 x8 : Value} {T : TypeId} (h : w.heap[b]? = some (.cells #[x0, x1, x2, x3, x4, x5, x6, x7, x8] T (0, 0))) :
  w.cell? ⟨b, 0, none⟩ = some x0 ∧ w.cell? ⟨b, 1, none⟩ = some x1 ∧ w.cell? ⟨b, 2, none⟩ = some x2 ∧ w.cell? ⟨b, 3, none⟩ = some x3 ∧ w.cell? ⟨b, 4, none⟩ = some x4 ∧ w.cell? ⟨b, 5, none⟩ = some x5 ∧ w.cell? ⟨b, 6, none⟩ = some x6 ∧ w.cell? ⟨b, 7, none⟩ = some x7 ∧ w.cell? ⟨b, 8, none⟩ = some x8 := by
 refine ⟨?_, ?_, ?_, ?_, ?_, ?_, ?_, ?_, ?_⟩ <;> simp [World.cell?, h]
set_option maxHeartbeats 2000000 in
theorem FixAll_three {w : World} {b : Nat} {T : TypeId} (n1 n2 n3 : Bool) (v1 s1 v2 s2 v3 s3 : Int) (h : w.heap[b]? = some (.cells #[.bool n1, .int .u64 v1, .int .i64 s1, .bool n2, .int .u64 v2, .int .i64 s2, .bool n3, .int .u64 v3, .int .i64 s3] T (0, 0))) :
  Calls Tryz.prog 12 #[.slice (some ⟨b, 0, none⟩) 3 3] w (PV w (.bool (okFix v1 s1 && (okFix v2 s2 && okFix v3 s3)))) := by
 have H1 := hid (fun w => FixIs_any n1 v1 s1 w)
 have H2 := hid (fun w => FixIs_any n2 v2 s2 w)
 have H3 := hid (fun w => FixIs_any n3 v3 s3 w)
 have HB := hid (fun w1 (k : Chg (fun _ => False) w w1) => cell9 (kept_heap k h))
 obtain ⟨o1, ho1⟩ : ∃ o, okFix v1 s1 = o := ⟨_, rfl⟩
 obtain ⟨o2, ho2⟩ : ∃ o, okFix v2 s2 = o := ⟨_, rfl⟩
 obtain ⟨o3, ho3⟩ : ∃ o, okFix v3 s3 = o := ⟨_, rfl⟩
 unfold okFix at ho1 ho2 ho3
 rw [ho1] at H1
 rw [ho2] at H2
 rw [ho3] at H3
 unfold okFix
 rw [ho1, ho2, ho3]
 clear ho1 ho2 ho3 h
 have hk := Chg.refl (fun _ => False) w
 obtain ⟨c0, c1, c2, c3, c4, c5, c6, c7, c8⟩ := HB.out _ hk
 cases o1 with
 | false =>
  go_enter Tryz.func12, Tryz.ntmps12
  go_wp2
  refine wp_loop_rounds 1 ?_
  rw [rounds_succ]
  go_wp2_with (first | (go_at_call_of 36 (Value.agg #[Value.bool n1, Value.int .u64 v1, Value.int .i64 s1]); refine (H1.out _).mono ?_; intro e w1 k; obtain ⟨he, hc⟩ := k; subst he; replace hk := (hk.alloc _).trans hc sb_; clear hc c0 c1 c2 c3 c4 c5 c6 c7 c8; obtain ⟨c0, c1, c2, c3, c4, c5, c6, c7, c8⟩ := HB.out _ hk))
  go_ret
  exact ⟨rfl, hk⟩
 | true =>
  cases o2 with
  | false =>
   go_enter Tryz.func12, Tryz.ntmps12
   go_wp2
   refine wp_loop_rounds 2 ?_
   rw [rounds_succ]
   go_wp2_with (first | (go_at_call_of 36 (Value.agg #[Value.bool n1, Value.int .u64 v1, Value.int .i64 s1]); refine (H1.out _).mono ?_; intro e w1 k; obtain ⟨he, hc⟩ := k; subst he; replace hk := (hk.alloc _).trans hc sb_; clear hc c0 c1 c2 c3 c4 c5 c6 c7 c8; obtain ⟨c0, c1, c2, c3, c4, c5, c6, c7, c8⟩ := HB.out _ hk))
   rw [rounds_succ]
   go_wp2_with (first | (go_at_call_of 36 (Value.agg #[Value.bool n2, Value.int .u64 v2, Value.int .i64 s2]); refine (H2.out _).mono ?_; intro e w1 k; obtain ⟨he, hc⟩ := k; subst he; replace hk := (hk.alloc _).trans hc sb_; clear hc c0 c1 c2 c3 c4 c5 c6 c7 c8; obtain ⟨c0, c1, c2, c3, c4, c5, c6, c7, c8⟩ := HB.out _ hk))
   go_ret
   exact ⟨rfl, hk⟩
  | true =>
   cases o3 with
   | false =>
    go_enter Tryz.func12, Tryz.ntmps12
    go_wp2
    refine wp_loop_rounds 3 ?_
    rw [rounds_succ]
    go_wp2_with (first | (go_at_call_of 36 (Value.agg #[Value.bool n1, Value.int .u64 v1, Value.int .i64 s1]); refine (H1.out _).mono ?_; intro e w1 k; obtain ⟨he, hc⟩ := k; subst he; replace hk := (hk.alloc _).trans hc sb_; clear hc c0 c1 c2 c3 c4 c5 c6 c7 c8; obtain ⟨c0, c1, c2, c3, c4, c5, c6, c7, c8⟩ := HB.out _ hk))
    rw [rounds_succ]
    go_wp2_with (first | (go_at_call_of 36 (Value.agg #[Value.bool n2, Value.int .u64 v2, Value.int .i64 s2]); refine (H2.out _).mono ?_; intro e w1 k; obtain ⟨he, hc⟩ := k; subst he; replace hk := (hk.alloc _).trans hc sb_; clear hc c0 c1 c2 c3 c4 c5 c6 c7 c8; obtain ⟨c0, c1, c2, c3, c4, c5, c6, c7, c8⟩ := HB.out _ hk))
    rw [rounds_succ]
    go_wp2_with (first | (go_at_call_of 36 (Value.agg #[Value.bool n3, Value.int .u64 v3, Value.int .i64 s3]); refine (H3.out _).mono ?_; intro e w1 k; obtain ⟨he, hc⟩ := k; subst he; replace hk := (hk.alloc _).trans hc sb_; clear hc c0 c1 c2 c3 c4 c5 c6 c7 c8; obtain ⟨c0, c1, c2, c3, c4, c5, c6, c7, c8⟩ := HB.out _ hk))
    go_ret
    exact ⟨rfl, hk⟩
   | true =>
    go_enter Tryz.func12, Tryz.ntmps12
    go_wp2
    refine wp_loop_rounds 4 ?_
    rw [rounds_succ]
    go_wp2_with (first | (go_at_call_of 36 (Value.agg #[Value.bool n1, Value.int .u64 v1, Value.int .i64 s1]); refine (H1.out _).mono ?_; intro e w1 k; obtain ⟨he, hc⟩ := k; subst he; replace hk := (hk.alloc _).trans hc sb_; clear hc c0 c1 c2 c3 c4 c5 c6 c7 c8; obtain ⟨c0, c1, c2, c3, c4, c5, c6, c7, c8⟩ := HB.out _ hk))
    rw [rounds_succ]
    go_wp2_with (first | (go_at_call_of 36 (Value.agg #[Value.bool n2, Value.int .u64 v2, Value.int .i64 s2]); refine (H2.out _).mono ?_; intro e w1 k; obtain ⟨he, hc⟩ := k; subst he; replace hk := (hk.alloc _).trans hc sb_; clear hc c0 c1 c2 c3 c4 c5 c6 c7 c8; obtain ⟨c0, c1, c2, c3, c4, c5, c6, c7, c8⟩ := HB.out _ hk))
    rw [rounds_succ]
    go_wp2_with (first | (go_at_call_of 36 (Value.agg #[Value.bool n3, Value.int .u64 v3, Value.int .i64 s3]); refine (H3.out _).mono ?_; intro e w1 k; obtain ⟨he, hc⟩ := k; subst he; replace hk := (hk.alloc _).trans hc sb_; clear hc c0 c1 c2 c3 c4 c5 c6 c7 c8; obtain ⟨c0, c1, c2, c3, c4, c5, c6, c7, c8⟩ := HB.out _ hk))
    rw [rounds_succ]
    go_wp2_with fail
    go_ret
    exact ⟨rfl, hk⟩
set_option maxHeartbeats 4000000 in
theorem FracMul_any {w : World} {A B D1 D2 : Option Addr} {n c m d p1 q1 p2 q2 a b x y : Nat} (n1 n2 sb : Bool) (ha : SN w A n c a) (hx : SN w D1 p1 q1 x) (hb : SN w B m d b) (hy : SN w D2 p2 q2 y)
  (ha1 : a < 10 ^ 100) (hb1 : b < 10 ^ 100) (hx1 : x < 10 ^ 100) (hy1 : y < 10 ^ 100) (hsb : ((n1 != n2) && a * b != 0) = sb) :
  Calls Tryz.prog 21 #[.agg #[.bool n1, .slice A n c, .slice D1 p1 q1], .agg #[.bool n2, .slice B m d, .slice D2 p2 q2]] w (PFN w sb (a * b) (x * y)) := by
 have HM1 := hid (fun w1 (h : Chg (fun _ => False) w w1) => WholeMul_any n1 n2 sb (ha.kept h) (hb.kept h) (up240 ha1 (by omega)) (up240 hb1 (by omega)) hsb)
 have HM3 := hid (fun w1 (h : Chg (fun _ => False) w w1) => NatMul_any (hx.kept h) (hy.kept h) (up243 hx1 (by omega)) (up243 hy1 (by omega)))
 obtain ⟨P, hPe⟩ : ∃ P, a * b = P := ⟨_, rfl⟩
 obtain ⟨R, hRe⟩ : ∃ R, x * y = R := ⟨_, rfl⟩
 rw [hPe] at HM1
 rw [hRe] at HM3
 rw [hPe, hRe]
 clear ha hb hx hy ha1 hb1 hx1 hy1 hsb hPe hRe
 obtain ⟨HC0, HD, hB0, hB1, hB2⟩ := box3 w #[.bool n1, .slice A n c, .slice D1 p1 q1] 34 #[.bool n2, .slice B m d, .slice D2 p2 q2] 34 #[.bool false, .slice none 0 0, .slice none 0 0] 34
 have HZ := hid hB2
 have HSS := hid (fun (w1 : World) h => And.intro ((cell3 (kept_heap (w' := w1) h hB0)).1) (And.intro ((cell3 (kept_heap (w' := w1) h hB0)).2.1) (And.intro ((cell3 (kept_heap (w' := w1) h hB0)).2.2.1) (And.intro ((cell3 (kept_heap (w' := w1) h hB1)).1) (And.intro ((cell3 (kept_heap (w' := w1) h hB1)).2.1) ((cell3 (kept_heap (w' := w1) h hB1)).2.2.1))))))
 have HST := hid (fun w1 x0 x1 x2 h => And.intro (far3 (z := w.heap.size + 1 + 1) (x0 := x0) (x1 := x1) (x2 := x2) (HSS.out w1 h).1 (by omega)) (And.intro (far3 (z := w.heap.size + 1 + 1) (x0 := x0) (x1 := x1) (x2 := x2) (HSS.out w1 h).2.1 (by omega)) (And.intro (far3 (z := w.heap.size + 1 + 1) (x0 := x0) (x1 := x1) (x2 := x2) (HSS.out w1 h).2.2.1 (by omega)) (And.intro (far3 (z := w.heap.size + 1 + 1) (x0 := x0) (x1 := x1) (x2 := x2) (HSS.out w1 h).2.2.2.1 (by omega)) (And.intro (far3 (z := w.heap.size + 1 + 1) (x0 := x0) (x1 := x1) (x2 := x2) (HSS.out w1 h).2.2.2.2.1 (by omega)) (far3 (z := w.heap.size + 1 + 1) (x0 := x0) (x1 := x1) (x2 := x2) (HSS.out w1 h).2.2.2.2.2 (by omega)))))))
 clear hB0 hB1 hB2
 have hk := HD.out
 go_enter Tryz.func21, Tryz.ntmps21
 go_wp2_with fail
 first | (go_region_held3 (fun w' => w'.cell? ⟨w.heap.size, 0, none⟩ = some (.bool n1) ∧ w'.cell? ⟨w.heap.size, 1, none⟩ = some (.slice A n c) ∧ w'.cell? ⟨w.heap.size, 2, none⟩ = some (.slice D1 p1 q1) ∧ w'.cell? ⟨w.heap.size + 1, 0, none⟩ = some (.bool n2) ∧ w'.cell? ⟨w.heap.size + 1, 1, none⟩ = some (.slice B m d) ∧ w'.cell? ⟨w.heap.size + 1, 2, none⟩ = some (.slice D2 p2 q2)) (first | with_reducible exact HSS.out _ hk | with_reducible exact HST.out _ _ _ _ hk | go_keep) (first | (go_at_call 46; refine (HM1.out _ (HC0.out.trans hk sb_)).mono ?_; intro e w1 h; obtain ⟨E1, k1_, l1_, he, hsn, hc⟩ := h; subst he; replace hk := hk.trans hc sb_; (try replace HN1 := hid (HN1.out.kept hc)); (try replace HN3 := hid (HN3.out.kept hc)); have HN1 := hid hsn; clear hsn; clear hc; obtain ⟨k0, k1, k2, f0, f1, f2⟩ := cell3 (kept_heap hk HZ.out)) | (go_at_call 48; refine (HM3.out _ (HC0.out.trans hk sb_)).mono ?_; intro e w1 h; obtain ⟨E3, k3_, l3_, he, hsn, hc⟩ := h; subst he; replace hk := hk.trans hc sb_; (try replace HN1 := hid (HN1.out.kept hc)); (try replace HN3 := hid (HN3.out.kept hc)); have HN3 := hid hsn; clear hsn; clear hc; obtain ⟨k0, k1, k2, f0, f1, f2⟩ := cell3 (kept_heap hk HZ.out)))) | fail
 all_goals (go_wp2_with fail; refine bodyPost_ret (v := .agg #[.bool sb, .slice E1 k1_ l1_, .slice E3 k3_ l3_]) (by rw [results_cell_row rfl _ _ (w.heap.size + 1 + 1) _ _ _ _ rfl (store3 (kept_heap hk HZ.out) _ _ _) Tryz.underlying34 rfl frac_size]) rfl ⟨E1, k1_, l1_, E3, k3_, l3_, rfl, sn_end3 HN1.out (kept_heap hk HZ.out) (by simp) _ _ _, sn_end3 HN3.out (kept_heap hk HZ.out) (by simp) _ _ _, chg3 (HC0.out.trans hk sb_) (by omega) _ _ _⟩)
end Go.Proofs.YtldhfhloinlfaaaGreatDoor
