/- For every two decimals the law FnFixPlaces answers true, and its arguments read as they did. No condition beyond the row's own: the package's variables hold what the program's text lays (tied). -/
import Derived.Test.YtbjhnckboimliaaGreatDoorTie
import Derived.Test.YtbjhnckboimliaaGreatDoorCards
import Derived.SevenTiedAt
import Derived.Carry
import Derived.Test.YtbjhnckboimliaaGreatDoorP24
namespace Go.Proofs.YtbjhnckboimliaaGreatDoor
open Go.RowKit
set_option linter.unusedVariables false
set_option linter.unusedSimpArgs false
set_option maxRecDepth 20000
set_option maxHeartbeats 2000000 in
theorem lawPlc_out (n1 n2 : Bool) (v1 s1 v2 s2 : Int) (hok : (okFix v1 s1 && okFix v2 s2) = false) (w : World) :
  Calls Tryz.prog 4 #[.agg #[.bool n1, .int .u64 v1, .int .i64 s1], .agg #[.bool n2, .int .u64 v2, .int .i64 s2]] w (PV w (.bool true)) := by
 obtain ⟨HC0, HD, hB0, hB1⟩ := box2 w #[.bool n1, .int .u64 v1, .int .i64 s1] 24 #[.bool n2, .int .u64 v2, .int .i64 s2] 24
 have HSS := hid (fun (w1 : World) h => d3_ (cell3 (kept_heap (w' := w1) h hB0)) (c3_ (cell3 (kept_heap (w' := w1) h hB1))))
 have HSL := hid (alloc_last (W := ((w.alloc (.cells #[.bool n1, .int .u64 v1, .int .i64 s1] 24)).alloc (.cells #[.bool n2, .int .u64 v2, .int .i64 s2] 24))) (x := (.cells #[.bool n1, .int .u64 v1, .int .i64 s1, .bool n2, .int .u64 v2, .int .i64 s2] 24)) (k := w.heap.size + 1 + 1) (by simp))
 have HFA := hid (FixAll_two n1 n2 v1 s1 v2 s2 HSL.out)
 rw [hok] at HFA
 have HBX0 := hid hB0
 have HBX1 := hid hB1
 clear hok hB0 hB1 HD
 have hk := (Chg.refl (fun _ => False) ((w.alloc (.cells #[.bool n1, .int .u64 v1, .int .i64 s1] 24)).alloc (.cells #[.bool n2, .int .u64 v2, .int .i64 s2] 24))).alloc (.cells #[.bool n1, .int .u64 v1, .int .i64 s1, .bool n2, .int .u64 v2, .int .i64 s2] 24)
 obtain ⟨d00_, d01_, d02_, d10_, d11_, d12_⟩ := HSS.out _ (Chg.refl _ _)
 go_enter Tryz.func4, Tryz.ntmps4
 go_wp2_with (go_at_call 8; refine HFA.out.mono ?_; intro e w1 h; obtain ⟨he, hc⟩ := h; subst he; replace hk := hk.trans hc sb_; clear hc; skip)
 go_ret
 exact ⟨rfl, HC0.out.trans hk sb_⟩
set_option maxHeartbeats 8000000 in
theorem lawPlc_in (n1 n2 d1 d2 sb1 sb2 sb3 : Bool) (v1 s1 v2 s2 pl : Int) (C1 C2 T1 T2 N1 N2 N3 X1 X3 : Nat) (P1 P2 P3 : Bool → Option (Nat × Nat) → Prop) (hok : (okFix v1 s1 && okFix v2 s2) = true) (w : World) (he : EnvD w)
  (HN1 : ∀ w1, Calls Tryz.prog 11 #[.agg #[.bool n1, .int .u64 v1, .int .i64 s1]] w1 (PFN w1 d1 C1 T1))
  (HN2 : ∀ w1, Calls Tryz.prog 11 #[.agg #[.bool n2, .int .u64 v2, .int .i64 s2]] w1 (PFN w1 d2 C2 T2))
  (HF1 : ∀ w1, EnvD w1 → Calls Tryz.prog 16 #[.agg #[.bool n1, .int .u64 v1, .int .i64 s1], .agg #[.bool n2, .int .u64 v2, .int .i64 s2]] w1 (PO P1 w1))
  (HF2 : ∀ w1, EnvD w1 → Calls Tryz.prog 17 #[.agg #[.bool n1, .int .u64 v1, .int .i64 s1], .agg #[.bool n2, .int .u64 v2, .int .i64 s2]] w1 (PO P2 w1))
  (HF3 : ∀ w1, EnvD w1 → Calls Tryz.prog 18 #[.agg #[.bool n1, .int .u64 v1, .int .i64 s1], .agg #[.bool n2, .int .u64 v2, .int .i64 s2]] w1 (PO P3 w1))
  (HAD : ∀ (w1 : World) (A B X Y : Option Addr) (n c k l p q i j : Nat), SN w1 A n c C1 → SN w1 X k l T1 → SN w1 B p q C2 → SN w1 Y i j T2 → Calls Tryz.prog 19 #[.agg #[.bool d1, .slice A n c, .slice X k l], .agg #[.bool d2, .slice B p q, .slice Y i j]] w1 (PFN w1 sb1 N1 X1))
  (HSU : ∀ (w1 : World) (A B X Y : Option Addr) (n c k l p q i j : Nat), SN w1 A n c C1 → SN w1 X k l T1 → SN w1 B p q C2 → SN w1 Y i j T2 → Calls Tryz.prog 12 #[.agg #[.bool d1, .slice A n c, .slice X k l], .agg #[.bool d2, .slice B p q, .slice Y i j]] w1 (PFN w1 sb2 N2 X1))
  (HMU : ∀ (w1 : World) (A B X Y : Option Addr) (n c k l p q i j : Nat), SN w1 A n c C1 → SN w1 X k l T1 → SN w1 B p q C2 → SN w1 Y i j T2 → Calls Tryz.prog 20 #[.agg #[.bool d1, .slice A n c, .slice X k l], .agg #[.bool d2, .slice B p q, .slice Y i j]] w1 (PFN w1 sb3 N3 X3))
  (HI1 : ∀ sg o b0 c0 s0 f0, P1 sg o → fixOut sg o = .tuple #[.agg #[.bool b0, .int .u64 c0, .int .i64 s0], .int .i64 f0] → ∀ (w1 : World) (A X : Option Addr) (n c k l : Nat), SN w1 A n c N1 → SN w1 X k l X1 → Calls Tryz.prog 14 #[.agg #[.bool b0, .int .u64 c0, .int .i64 s0], .int .i64 f0, .agg #[.bool sb1, .slice A n c, .slice X k l], .int .i64 (max s1 s2)] w1 (PV w1 (.bool true)))
  (HI2 : ∀ sg o b0 c0 s0 f0, P2 sg o → fixOut sg o = .tuple #[.agg #[.bool b0, .int .u64 c0, .int .i64 s0], .int .i64 f0] → ∀ (w1 : World) (A X : Option Addr) (n c k l : Nat), SN w1 A n c N2 → SN w1 X k l X1 → Calls Tryz.prog 14 #[.agg #[.bool b0, .int .u64 c0, .int .i64 s0], .int .i64 f0, .agg #[.bool sb2, .slice A n c, .slice X k l], .int .i64 (max s1 s2)] w1 (PV w1 (.bool true)))
  (HI3 : ∀ sg o b0 c0 s0 f0, P3 sg o → fixOut sg o = .tuple #[.agg #[.bool b0, .int .u64 c0, .int .i64 s0], .int .i64 f0] → ∀ (w1 : World) (A X : Option Addr) (n c k l : Nat), SN w1 A n c N3 → SN w1 X k l X3 → Calls Tryz.prog 14 #[.agg #[.bool b0, .int .u64 c0, .int .i64 s0], .int .i64 f0, .agg #[.bool sb3, .slice A n c, .slice X k l], .int .i64 pl] w1 (PV w1 (.bool true))) (hpl : IntKind.i64.wrap (s1 + s2) = pl) :
  Calls Tryz.prog 4 #[.agg #[.bool n1, .int .u64 v1, .int .i64 s1], .agg #[.bool n2, .int .u64 v2, .int .i64 s2]] w (PV w (.bool true)) := by
 have HNU1 := hid HN1
 have HNU2 := hid HN2
 have HF1_ := hid HF1
 have HF2_ := hid HF2
 have HF3_ := hid HF3
 have HAD_ := hid HAD
 have HSU_ := hid HSU
 have HMU_ := hid HMU
 have HI1_ := hid HI1
 have HI2_ := hid HI2
 have HI3_ := hid HI3
 have HLV := hid (fun w1 he1 => gvLives_any2 w1 he1)
 have HE := hid he
 have HPL := hid hpl
 clear he HN1 HN2 HF1 HF2 HF3 HAD HSU HMU HI1 HI2 HI3 hpl
 obtain ⟨HC0, HD, hB0, hB1⟩ := box2 w #[.bool n1, .int .u64 v1, .int .i64 s1] 24 #[.bool n2, .int .u64 v2, .int .i64 s2] 24
 have HSS := hid (fun (w1 : World) h => d3_ (cell3 (kept_heap (w' := w1) h hB0)) (c3_ (cell3 (kept_heap (w' := w1) h hB1))))
 have HSL := hid (alloc_last (W := ((w.alloc (.cells #[.bool n1, .int .u64 v1, .int .i64 s1] 24)).alloc (.cells #[.bool n2, .int .u64 v2, .int .i64 s2] 24))) (x := (.cells #[.bool n1, .int .u64 v1, .int .i64 s1, .bool n2, .int .u64 v2, .int .i64 s2] 24)) (k := w.heap.size + 1 + 1) (by simp))
 have HFA := hid (FixAll_two n1 n2 v1 s1 v2 s2 HSL.out)
 rw [hok] at HFA
 have HBX0 := hid hB0
 have HBX1 := hid hB1
 clear hok hB0 hB1 HD
 have hk := (Chg.refl (fun _ => False) ((w.alloc (.cells #[.bool n1, .int .u64 v1, .int .i64 s1] 24)).alloc (.cells #[.bool n2, .int .u64 v2, .int .i64 s2] 24))).alloc (.cells #[.bool n1, .int .u64 v1, .int .i64 s1, .bool n2, .int .u64 v2, .int .i64 s2] 24)
 obtain ⟨d00_, d01_, d02_, d10_, d11_, d12_⟩ := HSS.out _ (Chg.refl _ _)
 go_enter Tryz.func4, Tryz.ntmps4
 go_upto_region 3 with (go_at_call 8; refine HFA.out.mono ?_; intro e w1 h; obtain ⟨he, hc⟩ := h; subst he; replace hk := hk.trans hc sb_; clear hc; clear d00_ d01_ d02_ d10_ d11_ d12_; obtain ⟨d00_, d01_, d02_, d10_, d11_, d12_⟩ := HSS.out _ hk)
 have p0 := (Array.getElem?_eq_some_iff.1 (kept_heap hk HBX0.out)).1
 have p1 := (Array.getElem?_eq_some_iff.1 (kept_heap hk HBX1.out)).1
 go_cut [5, 6] (fun a b wx => XY ((w.alloc (.cells #[.bool n1, .int .u64 v1, .int .i64 s1] 24)).alloc (.cells #[.bool n2, .int .u64 v2, .int .i64 s2] 24)) d1 d2 C1 T1 C2 T2 a b wx)
 case first =>
  clear HF1_ HF2_ HF3_ HAD_ HSU_ HMU_ HI1_ HI2_ HI3_ HLV HE HPL HC0 HSL HFA
  have hk0 := hk
  have hk := hk.drew
  go_region_held3 (fun w' => w'.cell? ⟨w.heap.size, 0, none⟩ = some (.bool n1) ∧ w'.cell? ⟨w.heap.size, 1, none⟩ = some (.int .u64 v1) ∧ w'.cell? ⟨w.heap.size, 2, none⟩ = some (.int .i64 s1) ∧ w'.cell? ⟨w.heap.size + 1, 0, none⟩ = some (.bool n2) ∧ w'.cell? ⟨w.heap.size + 1, 1, none⟩ = some (.int .u64 v2) ∧ w'.cell? ⟨w.heap.size + 1, 2, none⟩ = some (.int .i64 s2)) (first | with_reducible exact HSS.out _ (hk) | with_reducible exact HSS.out _ (hk.alloc _) | with_reducible exact HSS.out _ ((hk.alloc _).alloc _) | with_reducible exact HSS.out _ ((hk0.alloc _).drew) | with_reducible exact HSS.out _ (((hk0.alloc _).alloc _).drew) | with_reducible exact HSS.out _ ((chg3 hk (by simp only [nb_]; omega) _ _ _).alloc _) | with_reducible exact HSS.out _ (((chg3 hk (by simp only [nb_]; omega) _ _ _).alloc _).alloc _) | with_reducible exact HSS.out _ ((chg3 hk (by simp only [nb_]; omega) _ _ _)) | with_reducible exact HSS.out _ (chg3 (chg3 hk (by simp only [nb_]; omega) _ _ _) (by simp only [nb_]; omega) _ _ _)) (first | (go_at_call_of 11 (Value.agg #[Value.bool n1, Value.int .u64 v1, Value.int .i64 s1]); refine (HNU1.out _).mono ?_; intro e w3 h; obtain ⟨A1, A1_, A2_, A2, A3_, A4_, he, hq1, hq2, hc⟩ := h; subst he; (first | (have hq : Chg (fun _ => False) ((w.alloc (.cells #[.bool n1, .int .u64 v1, .int .i64 s1] 24)).alloc (.cells #[.bool n2, .int .u64 v2, .int .i64 s2] 24)) w3 := (by with_reducible exact (hk).trans hc sb_)) | (have hq : Chg (fun _ => False) ((w.alloc (.cells #[.bool n1, .int .u64 v1, .int .i64 s1] 24)).alloc (.cells #[.bool n2, .int .u64 v2, .int .i64 s2] 24)) w3 := (by with_reducible exact ((hk0.alloc _).drew).trans hc sb_); have HV15 := hid (by with_reducible exact kept_heap hc (hand_ w1 _))) | (have hq : Chg (fun _ => False) ((w.alloc (.cells #[.bool n1, .int .u64 v1, .int .i64 s1] 24)).alloc (.cells #[.bool n2, .int .u64 v2, .int .i64 s2] 24)) w3 := (by with_reducible exact (((hk0.alloc _).alloc _).drew).trans hc sb_); have HV15 := hid (by with_reducible exact kept_heap hc (hand3_ w1 _ _)); have HV16 := hid (by with_reducible exact kept_heap hc (hand2_ w1 _ _)))); have hz := hc; replace hk := hq; clear hq; (try replace HA1 := hid (HA1.out.kept hz)); (try replace HA2 := hid (HA2.out.kept hz)); (try replace HB1 := hid (HB1.out.kept hz)); (try replace HB2 := hid (HB2.out.kept hz)); (try replace HV25 := hid (kept_heap hz HV25.out)); (try replace HV26 := hid (kept_heap hz HV26.out)); have HA1 := hid hq1; have HA2 := hid hq2; clear hq1 hq2 hc hz; clear d00_ d01_ d02_ d10_ d11_ d12_; obtain ⟨d00_, d01_, d02_, d10_, d11_, d12_⟩ := HSS.out _ hk; have p0_1 := (Array.getElem?_eq_some_iff.1 (kept_heap hk HBX0.out)).1; have p1_1 := (Array.getElem?_eq_some_iff.1 (kept_heap hk HBX1.out)).1; (try clear x0_ x1_ x2_ x3_ x4_ x5_); (try clear x150_ x151_ x152_ x153_ x154_ x155_); (try (have hy := cell3 HV15.out; obtain ⟨x150_, x151_, x152_, x153_, x154_, x155_⟩ := hy; have lHV15_1 := (Array.getElem?_eq_some_iff.1 HV15.out).1; have nHV15_1 := Nat.ne_of_lt lHV15_1; have mHV15_1 := Nat.ne_of_gt lHV15_1)); (try clear x160_ x161_ x162_ x163_ x164_ x165_); (try (have hy := cell3 HV16.out; obtain ⟨x160_, x161_, x162_, x163_, x164_, x165_⟩ := hy; have lHV16_1 := (Array.getElem?_eq_some_iff.1 HV16.out).1; have nHV16_1 := Nat.ne_of_lt lHV16_1; have mHV16_1 := Nat.ne_of_gt lHV16_1)); (try clear x250_ x251_ x252_ x253_ x254_ x255_); (try (have hy := cell3 HV25.out; obtain ⟨x250_, x251_, x252_, x253_, x254_, x255_⟩ := hy; have lHV25_1 := (Array.getElem?_eq_some_iff.1 HV25.out).1; have nHV25_1 := Nat.ne_of_lt lHV25_1; have mHV25_1 := Nat.ne_of_gt lHV25_1)); (try clear x260_ x261_ x262_ x263_ x264_ x265_); (try (have hy := cell3 HV26.out; obtain ⟨x260_, x261_, x262_, x263_, x264_, x265_⟩ := hy; have lHV26_1 := (Array.getElem?_eq_some_iff.1 HV26.out).1; have nHV26_1 := Nat.ne_of_lt lHV26_1; have mHV26_1 := Nat.ne_of_gt lHV26_1)); skip) | (go_at_call_of 11 (Value.agg #[Value.bool n2, Value.int .u64 v2, Value.int .i64 s2]); refine (HNU2.out _).mono ?_; intro e w3 h; obtain ⟨B1, B1_, B2_, B2, B3_, B4_, he, hq1, hq2, hc⟩ := h; subst he; (first | (have hq : Chg (fun _ => False) ((w.alloc (.cells #[.bool n1, .int .u64 v1, .int .i64 s1] 24)).alloc (.cells #[.bool n2, .int .u64 v2, .int .i64 s2] 24)) w3 := (by with_reducible exact (hk).trans hc sb_); have hz := hc) | (have hq : Chg (fun _ => False) ((w.alloc (.cells #[.bool n1, .int .u64 v1, .int .i64 s1] 24)).alloc (.cells #[.bool n2, .int .u64 v2, .int .i64 s2] 24)) w3 := (by with_reducible exact (hk.alloc _).trans hc sb_); have hz := ((Chg.refl (fun _ => False) _).alloc _).trans hc sb_; have HV25 := hid (by with_reducible exact kept_heap hc (heap_alloc_new _ _))) | (have hq : Chg (fun _ => False) ((w.alloc (.cells #[.bool n1, .int .u64 v1, .int .i64 s1] 24)).alloc (.cells #[.bool n2, .int .u64 v2, .int .i64 s2] 24)) w3 := (by with_reducible exact ((hk.alloc _).alloc _).trans hc sb_); have hz := (((Chg.refl (fun _ => False) _).alloc _).alloc _).trans hc sb_; have HV25 := hid (by with_reducible exact kept_heap hc (hal3_ _ _ _)); have HV26 := hid (by with_reducible exact kept_heap hc (hal2_ _ _ _)))); replace hk := hq; clear hq; (try replace HA1 := hid (HA1.out.kept hz)); (try replace HA2 := hid (HA2.out.kept hz)); (try replace HB1 := hid (HB1.out.kept hz)); (try replace HB2 := hid (HB2.out.kept hz)); (try replace HV15 := hid (kept_heap hz HV15.out)); (try replace HV16 := hid (kept_heap hz HV16.out)); have HB1 := hid hq1; have HB2 := hid hq2; clear hq1 hq2 hc hz; clear d00_ d01_ d02_ d10_ d11_ d12_; obtain ⟨d00_, d01_, d02_, d10_, d11_, d12_⟩ := HSS.out _ hk; have p0_2 := (Array.getElem?_eq_some_iff.1 (kept_heap hk HBX0.out)).1; have p1_2 := (Array.getElem?_eq_some_iff.1 (kept_heap hk HBX1.out)).1; (try clear x0_ x1_ x2_ x3_ x4_ x5_); (try clear x150_ x151_ x152_ x153_ x154_ x155_); (try (have hy := cell3 HV15.out; obtain ⟨x150_, x151_, x152_, x153_, x154_, x155_⟩ := hy; have lHV15_2 := (Array.getElem?_eq_some_iff.1 HV15.out).1; have nHV15_2 := Nat.ne_of_lt lHV15_2; have mHV15_2 := Nat.ne_of_gt lHV15_2)); (try clear x160_ x161_ x162_ x163_ x164_ x165_); (try (have hy := cell3 HV16.out; obtain ⟨x160_, x161_, x162_, x163_, x164_, x165_⟩ := hy; have lHV16_2 := (Array.getElem?_eq_some_iff.1 HV16.out).1; have nHV16_2 := Nat.ne_of_lt lHV16_2; have mHV16_2 := Nat.ne_of_gt lHV16_2)); (try clear x250_ x251_ x252_ x253_ x254_ x255_); (try (have hy := cell3 HV25.out; obtain ⟨x250_, x251_, x252_, x253_, x254_, x255_⟩ := hy; have lHV25_2 := (Array.getElem?_eq_some_iff.1 HV25.out).1; have nHV25_2 := Nat.ne_of_lt lHV25_2; have mHV25_2 := Nat.ne_of_gt lHV25_2)); (try clear x260_ x261_ x262_ x263_ x264_ x265_); (try (have hy := cell3 HV26.out; obtain ⟨x260_, x261_, x262_, x263_, x264_, x265_⟩ := hy; have lHV26_2 := (Array.getElem?_eq_some_iff.1 HV26.out).1; have nHV26_2 := Nat.ne_of_lt lHV26_2; have mHV26_2 := Nat.ne_of_gt lHV26_2)); skip))
  all_goals (go_wp2_with fail; go_meet; first | (with_reducible exact xy_56 HA1.out HA2.out HB1.out HB2.out hk) | (with_reducible exact xy_65 HA1.out HA2.out HB1.out HB2.out hk) | (with_reducible exact xy_e5 HA1.out HA2.out HB1.out HB2.out hk HV15.out (by simp only [nb_]; omega)) | (with_reducible exact xy_e6 HA1.out HA2.out HB1.out HB2.out hk HV15.out (by simp only [nb_]; omega)) | (with_reducible exact xy_e5 HA1.out HA2.out HB1.out HB2.out hk HV16.out (by simp only [nb_]; omega)) | (with_reducible exact xy_e6 HA1.out HA2.out HB1.out HB2.out hk HV16.out (by simp only [nb_]; omega)) | (with_reducible exact xy_e5 HA1.out HA2.out HB1.out HB2.out hk HV25.out (by simp only [nb_]; omega)) | (with_reducible exact xy_e6 HA1.out HA2.out HB1.out HB2.out hk HV25.out (by simp only [nb_]; omega)) | (with_reducible exact xy_e5 HA1.out HA2.out HB1.out HB2.out hk HV26.out (by simp only [nb_]; omega)) | (with_reducible exact xy_e6 HA1.out HA2.out HB1.out HB2.out hk HV26.out (by simp only [nb_]; omega)) | (with_reducible exact xy_ee HA1.out HA2.out HB1.out HB2.out hk HV15.out HV16.out (by omega) (by simp only [nb_]; omega) (by simp only [nb_]; omega)) | (with_reducible exact xy_ee HA1.out HA2.out HB1.out HB2.out hk HV16.out HV15.out (by omega) (by simp only [nb_]; omega) (by simp only [nb_]; omega)) | (with_reducible exact xy_ee HA1.out HA2.out HB1.out HB2.out hk HV25.out HV26.out (by omega) (by simp only [nb_]; omega) (by simp only [nb_]; omega)) | (with_reducible exact xy_ee HA1.out HA2.out HB1.out HB2.out hk HV26.out HV25.out (by omega) (by simp only [nb_]; omega) (by simp only [nb_]; omega)) | (with_reducible exact xy_ee HA1.out HA2.out HB1.out HB2.out hk HV15.out HV25.out (by omega) (by simp only [nb_]; omega) (by simp only [nb_]; omega)) | (with_reducible exact xy_ee HA1.out HA2.out HB1.out HB2.out hk HV25.out HV15.out (by omega) (by simp only [nb_]; omega) (by simp only [nb_]; omega)))
 case rest =>
  obtain ⟨k5, k6, A1, A1_, A2_, A2, A3_, A4_, B1, B1_, B2_, B2, B3_, B4_, hv5, hv6, hx5, hx6, ha1, ha2, hb1, hb2, hkc⟩ := hcut
  subst hv5 hv6
  have hk := hkc
  have HX5 := hid hx5
  have HX6 := hid hx6
  have HA1 := hid ha1
  have HA2 := hid ha2
  have HB1 := hid hb1
  have HB2 := hid hb2
  clear hkc hx5 hx6 ha1 ha2 hb1 hb2 p0 p1 HBX0 HBX1
  clear d00_ d01_ d02_ d10_ d11_ d12_
  obtain ⟨d00_, d01_, d02_, d10_, d11_, d12_⟩ := HSS.out _ hk
  go_upto_region 9 with (first | (go_at_call 16; refine (HF1_.out _ (HE.out.kept (HC0.out.trans hk sb_))).mono ?_; intro e w3 h; obtain ⟨sgA, oA, hpA, he, hc⟩ := h; obtain ⟨bA, cA, sA, fA, hfA⟩ := fixOut_op sgA oA; rw [hfA] at he; subst he; have hz := hc.alloc (.cells #[.bool bA, .int .u64 cA, .int .i64 sA] 24); have HI1e := hid (HI1_.out sgA oA bA cA sA fA hpA hfA); clear hpA hfA; replace hk := hk.trans hz sb_; (try replace HA1 := hid (HA1.out.kept hz)); (try replace HA2 := hid (HA2.out.kept hz)); (try replace HB1 := hid (HB1.out.kept hz)); (try replace HB2 := hid (HB2.out.kept hz)); (try replace HX5 := hid (kept_heap hz HX5.out)); (try replace HX6 := hid (kept_heap hz HX6.out)); (try replace HG1 := hid (kept_heap hz HG1.out)); (try replace HG2 := hid (kept_heap hz HG2.out)); have HG1 := hid (heap_alloc_new w3 (.cells #[.bool bA, .int .u64 cA, .int .i64 sA] 24)); clear hc hz; clear d00_ d01_ d02_ d10_ d11_ d12_; obtain ⟨d00_, d01_, d02_, d10_, d11_, d12_⟩ := HSS.out _ hk) | (go_at_call 17; refine (HF2_.out _ (HE.out.kept (HC0.out.trans hk sb_))).mono ?_; intro e w4 h; obtain ⟨sgB, oB, hpB, he, hc⟩ := h; obtain ⟨bB, cB, sB, fB, hfB⟩ := fixOut_op sgB oB; rw [hfB] at he; subst he; have hz := hc.alloc (.cells #[.bool bB, .int .u64 cB, .int .i64 sB] 24); have HI2e := hid (HI2_.out sgB oB bB cB sB fB hpB hfB); clear hpB hfB; replace hk := hk.trans hz sb_; (try replace HA1 := hid (HA1.out.kept hz)); (try replace HA2 := hid (HA2.out.kept hz)); (try replace HB1 := hid (HB1.out.kept hz)); (try replace HB2 := hid (HB2.out.kept hz)); (try replace HX5 := hid (kept_heap hz HX5.out)); (try replace HX6 := hid (kept_heap hz HX6.out)); (try replace HG1 := hid (kept_heap hz HG1.out)); (try replace HG2 := hid (kept_heap hz HG2.out)); have HG2 := hid (heap_alloc_new w4 (.cells #[.bool bB, .int .u64 cB, .int .i64 sB] 24)); clear hc hz; clear d00_ d01_ d02_ d10_ d11_ d12_; obtain ⟨d00_, d01_, d02_, d10_, d11_, d12_⟩ := HSS.out _ hk) | (go_at_call 18; refine (HF3_.out _ (HE.out.kept (HC0.out.trans hk sb_))).mono ?_; intro e w5 h; obtain ⟨sgC, oC, hpC, he, hc⟩ := h; obtain ⟨bC, cC, sC, fC, hfC⟩ := fixOut_op sgC oC; rw [hfC] at he; subst he; have hz := hc.alloc (.cells #[.bool bC, .int .u64 cC, .int .i64 sC] 24); have HI3e := hid (HI3_.out sgC oC bC cC sC fC hpC hfC); clear hpC hfC; replace hk := hk.trans hz sb_; (try replace HA1 := hid (HA1.out.kept hz)); (try replace HA2 := hid (HA2.out.kept hz)); (try replace HB1 := hid (HB1.out.kept hz)); (try replace HB2 := hid (HB2.out.kept hz)); (try replace HX5 := hid (kept_heap hz HX5.out)); (try replace HX6 := hid (kept_heap hz HX6.out)); (try replace HG1 := hid (kept_heap hz HG1.out)); (try replace HG2 := hid (kept_heap hz HG2.out)); have HG3 := hid (heap_alloc_new w5 (.cells #[.bool bC, .int .u64 cC, .int .i64 sC] 24)); clear hc hz; clear d00_ d01_ d02_ d10_ d11_ d12_; obtain ⟨d00_, d01_, d02_, d10_, d11_, d12_⟩ := HSS.out _ hk))
  have hw6 := (Chg.refl (fun _ => False) (w5.alloc (.cells #[.bool bC, .int .u64 cC, .int .i64 sC] 24))).drew
  have hk := hk.drew
  replace HA1 := hid (HA1.out.kept hw6)
  replace HA2 := hid (HA2.out.kept hw6)
  replace HB1 := hid (HB1.out.kept hw6)
  replace HB2 := hid (HB2.out.kept hw6)
  have HS6 := hid (fun (w6 : World) h1 (h2 : Chg (fun _ => False) (w5.alloc (.cells #[.bool bC, .int .u64 cC, .int .i64 sC] 24)) w6) => And.intro ((HSS.out w6 h1).1) (And.intro ((HSS.out w6 h1).2.1) (And.intro ((HSS.out w6 h1).2.2.1) (And.intro ((HSS.out w6 h1).2.2.2.1) (And.intro ((HSS.out w6 h1).2.2.2.2.1) (And.intro ((HSS.out w6 h1).2.2.2.2.2) (d3_ (cell3 (kept_heap h2 HX5.out)) (d3_ (cell3 (kept_heap h2 HX6.out)) (d3_ (cell3 (kept_heap h2 HG1.out)) (d3_ (cell3 (kept_heap h2 HG2.out)) (c3_ (cell3 (kept_heap h2 HG3.out)))))))))))))
  first | (go_region_held3 (fun w' => w'.cell? ⟨w.heap.size, 0, none⟩ = some (.bool n1) ∧ w'.cell? ⟨w.heap.size, 1, none⟩ = some (.int .u64 v1) ∧ w'.cell? ⟨w.heap.size, 2, none⟩ = some (.int .i64 s1) ∧ w'.cell? ⟨w.heap.size + 1, 0, none⟩ = some (.bool n2) ∧ w'.cell? ⟨w.heap.size + 1, 1, none⟩ = some (.int .u64 v2) ∧ w'.cell? ⟨w.heap.size + 1, 2, none⟩ = some (.int .i64 s2) ∧ w'.cell? ⟨k5, 0, none⟩ = some (.bool d1) ∧ w'.cell? ⟨k5, 1, none⟩ = some (.slice A1 A1_ A2_) ∧ w'.cell? ⟨k5, 2, none⟩ = some (.slice A2 A3_ A4_) ∧ w'.cell? ⟨k6, 0, none⟩ = some (.bool d2) ∧ w'.cell? ⟨k6, 1, none⟩ = some (.slice B1 B1_ B2_) ∧ w'.cell? ⟨k6, 2, none⟩ = some (.slice B2 B3_ B4_) ∧ w'.cell? ⟨w3.heap.size, 0, none⟩ = some (.bool bA) ∧ w'.cell? ⟨w3.heap.size, 1, none⟩ = some (.int .u64 cA) ∧ w'.cell? ⟨w3.heap.size, 2, none⟩ = some (.int .i64 sA) ∧ w'.cell? ⟨w4.heap.size, 0, none⟩ = some (.bool bB) ∧ w'.cell? ⟨w4.heap.size, 1, none⟩ = some (.int .u64 cB) ∧ w'.cell? ⟨w4.heap.size, 2, none⟩ = some (.int .i64 sB) ∧ w'.cell? ⟨w5.heap.size, 0, none⟩ = some (.bool bC) ∧ w'.cell? ⟨w5.heap.size, 1, none⟩ = some (.int .u64 cC) ∧ w'.cell? ⟨w5.heap.size, 2, none⟩ = some (.int .i64 sC)) (first | with_reducible exact HS6.out _ hk hw6) (first | (go_at_call 19; refine (HAD_.out _ _ _ _ _ _ _ _ _ _ _ _ _ HA1.out HA2.out HB1.out HB2.out).mono ?_; intro e w7 h; obtain ⟨R1, R1_, R2_, R2, R3_, R4_, he, hq1, hq2, hc⟩ := h; subst he; replace hk := hk.trans hc sb_; replace hw6 := hw6.trans hc sb_; (try replace HA1 := hid (HA1.out.kept hc)); (try replace HA2 := hid (HA2.out.kept hc)); (try replace HB1 := hid (HB1.out.kept hc)); (try replace HB2 := hid (HB2.out.kept hc)); (try replace HR1 := hid (HR1.out.kept hc)); (try replace HR2 := hid (HR2.out.kept hc)); (try replace HT1 := hid (HT1.out.kept hc)); (try replace HT2 := hid (HT2.out.kept hc)); (try replace HU1 := hid (HU1.out.kept hc)); (try replace HU2 := hid (HU2.out.kept hc)); have HR1 := hid hq1; have HR2 := hid hq2; clear hq1 hq2; clear hc) | (go_at_call 12; refine (HSU_.out _ _ _ _ _ _ _ _ _ _ _ _ _ HA1.out HA2.out HB1.out HB2.out).mono ?_; intro e w7 h; obtain ⟨T1, T1_, T2_, T2, T3_, T4_, he, hq1, hq2, hc⟩ := h; subst he; replace hk := hk.trans hc sb_; replace hw6 := hw6.trans hc sb_; (try replace HA1 := hid (HA1.out.kept hc)); (try replace HA2 := hid (HA2.out.kept hc)); (try replace HB1 := hid (HB1.out.kept hc)); (try replace HB2 := hid (HB2.out.kept hc)); (try replace HR1 := hid (HR1.out.kept hc)); (try replace HR2 := hid (HR2.out.kept hc)); (try replace HT1 := hid (HT1.out.kept hc)); (try replace HT2 := hid (HT2.out.kept hc)); (try replace HU1 := hid (HU1.out.kept hc)); (try replace HU2 := hid (HU2.out.kept hc)); have HT1 := hid hq1; have HT2 := hid hq2; clear hq1 hq2; clear hc) | (go_at_call 20; refine (HMU_.out _ _ _ _ _ _ _ _ _ _ _ _ _ HA1.out HA2.out HB1.out HB2.out).mono ?_; intro e w7 h; obtain ⟨U1, U1_, U2_, U2, U3_, U4_, he, hq1, hq2, hc⟩ := h; subst he; replace hk := hk.trans hc sb_; replace hw6 := hw6.trans hc sb_; (try replace HA1 := hid (HA1.out.kept hc)); (try replace HA2 := hid (HA2.out.kept hc)); (try replace HB1 := hid (HB1.out.kept hc)); (try replace HB2 := hid (HB2.out.kept hc)); (try replace HR1 := hid (HR1.out.kept hc)); (try replace HR2 := hid (HR2.out.kept hc)); (try replace HT1 := hid (HT1.out.kept hc)); (try replace HT2 := hid (HT2.out.kept hc)); (try replace HU1 := hid (HU1.out.kept hc)); (try replace HU2 := hid (HU2.out.kept hc)); have HU1 := hid hq1; have HU2 := hid hq2; clear hq1 hq2; clear hc) | (go_at_call_of 14 (Value.bool bA); refine (HI1e.out _ _ _ _ _ _ _ HR1.out HR2.out).mono ?_; intro e w7 h; obtain ⟨he, hc⟩ := h; subst he; replace hk := hk.trans hc sb_; replace hw6 := hw6.trans hc sb_; (try replace HA1 := hid (HA1.out.kept hc)); (try replace HA2 := hid (HA2.out.kept hc)); (try replace HB1 := hid (HB1.out.kept hc)); (try replace HB2 := hid (HB2.out.kept hc)); (try replace HR1 := hid (HR1.out.kept hc)); (try replace HR2 := hid (HR2.out.kept hc)); (try replace HT1 := hid (HT1.out.kept hc)); (try replace HT2 := hid (HT2.out.kept hc)); (try replace HU1 := hid (HU1.out.kept hc)); (try replace HU2 := hid (HU2.out.kept hc)); skip; clear hc) | (go_at_call_of 14 (Value.bool bB); refine (HI2e.out _ _ _ _ _ _ _ HT1.out HT2.out).mono ?_; intro e w7 h; obtain ⟨he, hc⟩ := h; subst he; replace hk := hk.trans hc sb_; replace hw6 := hw6.trans hc sb_; (try replace HA1 := hid (HA1.out.kept hc)); (try replace HA2 := hid (HA2.out.kept hc)); (try replace HB1 := hid (HB1.out.kept hc)); (try replace HB2 := hid (HB2.out.kept hc)); (try replace HR1 := hid (HR1.out.kept hc)); (try replace HR2 := hid (HR2.out.kept hc)); (try replace HT1 := hid (HT1.out.kept hc)); (try replace HT2 := hid (HT2.out.kept hc)); (try replace HU1 := hid (HU1.out.kept hc)); (try replace HU2 := hid (HU2.out.kept hc)); skip; clear hc) | (go_at_call_of 14 (Value.bool bC); rw [HPL.out]; refine (HI3e.out _ _ _ _ _ _ _ HU1.out HU2.out).mono ?_; intro e w7 h; obtain ⟨he, hc⟩ := h; subst he; replace hk := hk.trans hc sb_; replace hw6 := hw6.trans hc sb_; (try replace HA1 := hid (HA1.out.kept hc)); (try replace HA2 := hid (HA2.out.kept hc)); (try replace HB1 := hid (HB1.out.kept hc)); (try replace HB2 := hid (HB2.out.kept hc)); (try replace HR1 := hid (HR1.out.kept hc)); (try replace HR2 := hid (HR2.out.kept hc)); (try replace HT1 := hid (HT1.out.kept hc)); (try replace HT2 := hid (HT2.out.kept hc)); (try replace HU1 := hid (HU1.out.kept hc)); (try replace HU2 := hid (HU2.out.kept hc)); skip; clear hc) | (go_at_call 13; refine (HLV.out _ (HE.out.kept (HC0.out.trans hk sb_))).mono ?_; intro e w7 h; obtain ⟨he, hc⟩ := h; subst he; replace hk := hk.trans hc sb_; replace hw6 := hw6.trans hc sb_; (try replace HA1 := hid (HA1.out.kept hc)); (try replace HA2 := hid (HA2.out.kept hc)); (try replace HB1 := hid (HB1.out.kept hc)); (try replace HB2 := hid (HB2.out.kept hc)); (try replace HR1 := hid (HR1.out.kept hc)); (try replace HR2 := hid (HR2.out.kept hc)); (try replace HT1 := hid (HT1.out.kept hc)); (try replace HT2 := hid (HT2.out.kept hc)); (try replace HU1 := hid (HU1.out.kept hc)); (try replace HU2 := hid (HU2.out.kept hc)); skip; clear hc))) | fail
  all_goals (go_wp2_with fail; go_ret; exact ⟨rfl, HC0.out.trans hk sb_⟩)
theorem sumD_lt60 (d1 e2 : Bool) {dc ec ds es : Nat} (hdc : dc < 10 ^ 19) (hec : ec < 10 ^ 19) (hds : ds ≤ 19) (hes : es ≤ 19) : (sumD d1 dc ds e2 ec es).2 < 10 ^ 60 := by
 have a1 : dc * 10 ^ (mxp ds es - ds) < 10 ^ (19 + 20) := mul100 hdc (Nat.pow_lt_pow_right (by omega) (by have := mx_le hds hes; omega))
 have a2 : ec * 10 ^ (mxp ds es - es) < 10 ^ (19 + 20) := mul100 hec (Nat.pow_lt_pow_right (by omega) (by have := mx_le hds hes; omega))
 have a3 := sumS_le d1 (dc * 10 ^ (mxp ds es - ds)) e2 (ec * 10 ^ (mxp ds es - es))
 have a4 : (10 : Nat) ^ 60 = 10 ^ (19 + 20) * 10 ^ 21 := by rw [← Nat.pow_add]
 have a5 : (2 : Nat) ≤ 10 ^ 21 := by decide
 have a6 := Nat.mul_le_mul_left (10 ^ (19 + 20)) a5
 unfold sumD
 omega
theorem max_mxp (a b : Nat) : max (a : Int) (b : Int) = (mxp a b : Int) := by unfold mxp; split <;> omega
theorem plcIs_sum (d1 d2 : Bool) {dc ec ds es : Nat} (hdc : dc < 10 ^ 19) (hec : ec < 10 ^ 19) (hds : ds ≤ 19) (hes : es ≤ 19) (sb ng sg : Bool) (o : Option (Nat × Nat)) (b0 : Bool) (c0 s0 f0 : Int)
  (ho : From0 ng (sumD d1 dc ds d2 ec es).2 (mxp ds es) sg o) (hv : fixOut sg o = .tuple #[.agg #[.bool b0, .int .u64 c0, .int .i64 s0], .int .i64 f0])
  (w1 : World) (A X : Option Addr) (n c k l : Nat) (hA : SN w1 A n c ((sumD d1 dc ds d2 ec es).2 * 10 ^ mnp ds es)) (hX : SN w1 X k l (10 ^ mxp ds es * 10 ^ mnp ds es)) :
  Calls Tryz.prog 14 #[.agg #[.bool b0, .int .u64 c0, .int .i64 s0], .int .i64 f0, .agg #[.bool sb, .slice A n c, .slice X k l], .int .i64 (max (ds : Int) (es : Int))] w1 (PV w1 (.bool true)) :=
 plcIs_any sb ng sg _ (mxp ds es) o b0 c0 s0 f0 _ hA hX
  (lt_tn (mul100 (sumD_lt60 d1 d2 hdc hec hds hes) (Nat.pow_lt_pow_right (a := 10) (by omega) (show mnp ds es < 20 by have := mn_le hds hes; omega))) (by omega))
  (by rw [← Nat.pow_add]; exact pow_tn (by have := mxmn ds es; omega)) (Nat.mul_pos (pow10_pos _) (pow10_pos _)) (fun n _ => atP_rnd _ _ _ n) ho hv (max_mxp ds es)
theorem plcIs_prod {dc ec ds es : Nat} (hdc : dc < 10 ^ 19) (hec : ec < 10 ^ 19) (hds : ds ≤ 19) (hes : es ≤ 19) (sb ng sg : Bool) (o : Option (Nat × Nat)) (b0 : Bool) (c0 s0 f0 : Int)
  (ho : From0 ng (dc * ec) (ds + es) sg o) (hv : fixOut sg o = .tuple #[.agg #[.bool b0, .int .u64 c0, .int .i64 s0], .int .i64 f0])
  (w1 : World) (A X : Option Addr) (n c k l : Nat) (hA : SN w1 A n c (dc * ec)) (hX : SN w1 X k l (10 ^ ds * 10 ^ es)) :
  Calls Tryz.prog 14 #[.agg #[.bool b0, .int .u64 c0, .int .i64 s0], .int .i64 f0, .agg #[.bool sb, .slice A n c, .slice X k l], .int .i64 ((ds + es : Nat) : Int)] w1 (PV w1 (.bool true)) :=
 plcIs_any sb ng sg _ (ds + es) o b0 c0 s0 f0 _ hA hX (lt_tn (mul100 hdc hec) (by omega))
  (by rw [← Nat.pow_add]; exact pow_tn (by omega)) (Nat.mul_pos (pow10_pos _) (pow10_pos _)) (fun n _ => by unfold atP rnd; rw [← Nat.pow_add]) ho hv rfl
theorem lawPlc_any (n1 n2 : Bool) (v1 s1 v2 s2 : Int) (h1 : 0 ≤ v1) (h2 : 0 ≤ v2) (w : World) (he : EnvD w) :
  Calls Tryz.prog 4 #[.agg #[.bool n1, .int .u64 v1, .int .i64 s1], .agg #[.bool n2, .int .u64 v2, .int .i64 s2]] w (PV w (.bool true)) := by
 cases hok : (okFix v1 s1 && okFix v2 s2) with
 | false => exact lawPlc_out n1 n2 v1 s1 v2 s2 hok w
 | true =>
  have hok' := hok
  rw [Bool.and_eq_true] at hok'
  obtain ⟨k1, k2⟩ := hok'
  obtain ⟨dc, ds, rfl, rfl, a1, a2⟩ := okFix_nat h1 k1
  obtain ⟨ec, es, rfl, rfl, b1, b2⟩ := okFix_nat h2 k2
  obtain ⟨d1, hd1⟩ : ∃ d1, (n1 && dc != 0) = d1 := ⟨_, rfl⟩
  obtain ⟨d2, hd2⟩ : ∃ d2, (n2 && ec != 0) = d2 := ⟨_, rfl⟩
  obtain ⟨e2, he2⟩ : ∃ e2, (!d2 && ec != 0) = e2 := ⟨_, rfl⟩
  have hq1 : (d1 && dc != 0) = d1 := by rw [← hd1]; cases n1 <;> simp
  have hq2 : (d2 && ec != 0) = d2 := by rw [← hd2]; cases n2 <;> simp
  have hq3 : (e2 && ec != 0) = e2 := by rw [← he2]; cases d2 <;> simp
  obtain ⟨fp1, fp2⟩ := frac_parts d1 d2 dc ec ds es hq1 hq2
  obtain ⟨fp3, -⟩ := frac_parts d1 e2 dc ec ds es hq1 hq3
  have up : ∀ {k : Nat}, k < 10 ^ 19 → k < tn 850 := fun h => lt_tn h (by omega)
  have hp1 : (10 : Nat) ^ ds < tn 850 := pow_tn (by omega)
  have hp2 : (10 : Nat) ^ es < tn 850 := pow_tn (by omega)
  refine lawPlc_in n1 n2 d1 d2 ((sumD d1 dc ds d2 ec es).1 && (sumD d1 dc ds d2 ec es).2 * 10 ^ mnp ds es != 0) ((sumD d1 dc ds e2 ec es).1 && (sumD d1 dc ds e2 ec es).2 * 10 ^ mnp ds es != 0) ((d1 != d2) && dc * ec != 0) _ _ _ _ ((ds + es : Nat) : Int) dc ec (10 ^ ds) (10 ^ es)
   ((sumD d1 dc ds d2 ec es).2 * 10 ^ mnp ds es) ((sumD d1 dc ds e2 ec es).2 * 10 ^ mnp ds es) (dc * ec) (10 ^ mxp ds es * 10 ^ mnp ds es) (10 ^ ds * 10 ^ es)
   (From0 (sumD d1 dc ds d2 ec es).1 (sumD d1 dc ds d2 ec es).2 (mxp ds es)) (From0 (sumD d1 dc ds e2 ec es).1 (sumD d1 dc ds e2 ec es).2 (mxp ds es)) (From0 (d1 != d2) (dc * ec) (ds + es)) hok w he
   (fun w1 => FixNum_any n1 d1 dc ds a1 a2 hd1) (fun w1 => FixNum_any n2 d2 ec es b1 b2 hd2)
   (fun w1 he1 => FixAdd_any n1 n2 d1 d2 dc ec ds es a1 b1 a2 b2 hd1 hd2 w1 he1) (fun w1 he1 => FixSub_any n1 n2 d1 d2 e2 dc ec ds es a1 b1 a2 b2 hd1 hd2 he2 w1 he1) (fun w1 he1 => FixMul_any n1 n2 d1 d2 dc ec ds es a1 b1 a2 b2 hd1 hd2 w1 he1)
   ?_ ?_ ?_ (fun sg o b0 c0 s0 f0 ho hv => plcIs_sum d1 d2 a1 b1 a2 b2 _ _ sg o b0 c0 s0 f0 ho hv) (fun sg o b0 c0 s0 f0 ho hv => plcIs_sum d1 e2 a1 b1 a2 b2 _ _ sg o b0 c0 s0 f0 ho hv) (fun sg o b0 c0 s0 f0 ho hv => plcIs_prod a1 b1 a2 b2 _ _ sg o b0 c0 s0 f0 ho hv)
   (by rw [show (ds : Int) + (es : Int) = ((ds + es : Nat) : Int) by omega]; exact IntWalk.i64_in _ (by omega))
  ·intro w1 A B X Y n c k l p q i j g1 g2 g3 g4
   have := FracAdd_any d1 d2 _ g1 g2 g3 g4 (up a1) (up b1) hp1 hp2 rfl
   rw [fp1, fp2] at this
   exact this
  ·intro w1 A B X Y n c k l p q i j g1 g2 g3 g4
   have := FracSub_any d1 d2 e2 _ g1 g2 g3 g4 (up a1) (up b1) hp1 hp2 he2 rfl
   rw [fp3, fp2] at this
   exact this
  ·intro w1 A B X Y n c k l p q i j g1 g2 g3 g4
   exact FracMul_any d1 d2 _ g1 g2 g3 g4 (up a1) (up b1) hp1 hp2 rfl
end Go.Proofs.YtbjhnckboimliaaGreatDoor
namespace Go.Proofs.YtbjhnckboimliaaGreatDoor
open Go Go.ChangeShapes Go.WideShapes Go.ChangeAt Go.WideMaps Go.WideElems Go.RowKit
set_option maxRecDepth 100000 in
theorem liftedl (os : Os) (started : os.Started) (H : Type) (enc : TypeId × Value → H) :
  ReturnsInHanded {} Tryz.checked os 4 .any (fun w args => (Rows.fnFixPlacesSpec.pre enc Tryz.prog Tryz.f4 [] false w args ∧ laidMetH Tryz.prog Rows.fnFixPlacesRow.laid w) ∧ sizedMet enc Tryz.prog Tryz.f4 (OpenSpec.ofChange Rows.fnFixPlacesSpec) false w args)
   (Rows.fnFixPlacesSpec.post enc Tryz.prog Tryz.f4 false true false false) := by
 refine handed_shaped (C := Tryz.checked) (X := fun w _ => laidMetH Tryz.prog Rows.fnFixPlacesRow.laid w) (fun _ _ _ hh h => h.of_heap hh) own0 started kr_ Tryz.func4
  (ChangeSpec.witness_shaped (enc := enc) (C := Tryz.checked) (os := os) (X := fun w _ => laidMetH Tryz.prog Rows.fnFixPlacesRow.laid w) false (World.doorLaid Tryz.prog 400 os) #[.agg #[.bool false, .int .u64 0, .int .i64 0], .agg #[.bool false, .int .u64 0, .int .i64 0]] 8 rfl (wit_shapedl os) (wit_okl os) (wit_prel os H enc) (wit_sizel os H enc) (door_met os _)) ?_
 intro W base args ds gs before hsh hval0 hW _ hL
 have hval : ∀ (j : Nat) t v, Tryz.f4.params[j]? = some t → args[j]? = some v → Value.okWide Tryz.prog W .any base t v := hval0
 have hW' := hW
 obtain ⟨p, q, hA0, hV, rfl, hfz, hnd⟩ := hW
 have hA : DataW.TrodAll enc Tryz.prog W 0 (fun _ => true) true Tryz.f4.params.toList args.toList ds p := hA0
 rw [Tryz.params4] at hA hval
 obtain ⟨v0, vs0, d0, ds0, p0, q0, hargs, rfl, rfl, h0, r0⟩ := trodAll_cons hA
 obtain ⟨v1, vs1, d1, ds1, p1, q1, rfl, rfl, rfl, h1, r1⟩ := trodAll_cons r0
 obtain ⟨rfl, rfl, rfl⟩ := trodAll_nil r1
 obtain rfl : args = #[v0, v1] := by cases args; simp_all
 have k0 := h0
 have k1 := h1
 obtain ⟨n1, c1, s1, rfl, w1, rfl⟩ := open_fix (hval 0 24 v0 rfl rfl) h0
 obtain ⟨n2, c2, s2, rfl, w2, rfl⟩ := open_fix (hval 1 24 v1 rfl rfl) h1
 have hlen : gs.length = 8 := trodVars_length hV
 match gs, hlen, hV, hW' with
 | [g1, g2, g3, g4, g5, g6, g7, g8], _, hV, hW' =>
  refine (lawPlc_any n1 n2 c1 s1 c2 s2 w1 w2 W (of_laid hsh hL)).mono fun e W' hE => ?_
  obtain ⟨he, hc⟩ := hE
  subst he
  have hB := hc.below
  refine ⟨_, rfl, _, _, _, [], [], q, hW', ?_, ?_, ?_, hB.frame _, fun h => by cases h⟩
  ·exact trodAll_mk1 (shut_bool Tryz.underlying4 _)
  ·exact trodAll_mk2 (Below.trod laidOk kr_ (of_decide_eq_true kr_) k0 hB (fun x hx => by cases hx)) (Below.trod laidOk kr_ (of_decide_eq_true kr_) k1 hB (fun x hx => by cases hx))
  ·exact vars_iface hB gScl tScl Tryz.underlying59 (fun _ _ h => vars_iface hB gOvf tOvf Tryz.underlying59 (fun _ _ h => Below.trodVars laidOk hB kr_ h) h) hV
theorem fnFixPlaces_holds : Rows.FnFixPlacesSaid :=
 OpenClaim.holds_of_wide 4 Tryz.f4 rfl rfl rfl rfl rfl rfl rfl ⟨rfl, rfl, rfl, rfl, rfl⟩ rfl rfl rfl rfl rfl row_funcl Tryz.func4 row_closedl
  (of_decide_eq_true kr_) (by unfold Func.isWrapper; first | (rw [if_pos (by decide +kernel)]; kernel_rfl) | (rw [if_neg (by decide +kernel)]; exact ⟨rfl, rfl⟩))
  (fun os started H enc _ => liftedl os started H enc)
theorem fnFixPlaces_card : Rows.FnFixPlacesCardSaid :=
 Claim7.holds_tied_plain_at .later [] [.data, .data, .data, .data, .data, .data, .data, .sentinel, .sentinel, .data] true Rows.fnFixPlacesCard.stood.harness false
  fnFixPlaces_holds (fun _ h => by cases h) row_wfl (fun _ h => by cases h) fnFixPlaces_row_tie rfl ⟨rfl, rfl⟩ kr_ rfl
  (fun f fn hf hfn => by
   obtain rfl : f = 4 := Option.some.inj (row_funcl.symm.trans hf) |>.symm
   obtain rfl : fn = Tryz.f4 := (Option.some.inj (Tryz.func4.symm.trans hfn)).symm
   exact ⟨row_looksl, fun j t ht => by
    rw [Tryz.params4] at ht
    have hm : t ∈ [24, 24] := by simpa using Array.mem_of_getElem? ht
    exact (show Tryz.prog.wantsStandIn t = false by simpa using List.all_eq_true.1 row_standl t hm)⟩)
  row_goesl
end Go.Proofs.YtbjhnckboimliaaGreatDoor
