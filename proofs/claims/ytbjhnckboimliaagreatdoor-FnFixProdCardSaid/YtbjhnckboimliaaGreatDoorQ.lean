/- For every slice of decimals the law FnFixSum answers true, and its arguments read as they did. No condition beyond the row's own: the package's variables hold what the program's text lays (tied). -/
import Derived.ChangeOld
import Derived.Test.YtbjhnckboimliaaGreatDoorTie
import Derived.Test.YtbjhnckboimliaaGreatDoorCards
import Derived.SevenTiedAt
import Derived.Carry
import Derived.Test.YtbjhnckboimliaaGreatDoorQ23
namespace Go.Proofs.YtbjhnckboimliaaGreatDoor
open Go.RowKit
set_option linter.unusedVariables false
set_option linter.unusedSimpArgs false
set_option maxRecDepth 20000
set_option exponentiation.threshold 4000
theorem WholeOf_nat {w : World} (a : Nat) (v : Int) (hv : (a : Int) = v) (ha : v < 9223372036854775808) :
  Calls Tryz.prog 53 #[.int .i64 v] w (PWN w false a) := by
 have HN := hid (fun w1 => NatFrom_any (w := w1) a (by omega))
 have hw : IntKind.u64.wrap v = v := u64_in (by omega) (by omega)
 have h0 : ¬ v < 0 := by omega
 have HZ := hid (heap_alloc_new w (.cells #[.bool false, .slice none 0 0] 32))
 have HC0 := hid ((Chg.refl (fun _ => False) w).alloc (.cells #[.bool false, .slice none 0 0] 32))
 rw [hv] at HN
 clear ha hv
 go_enter Tryz.func53, Tryz.ntmps53
 go_wp2_with (go_at_call 25; refine (HN.out _).mono ?_; intro e w1 h; obtain ⟨E1, n1, c1, he, hs, hc⟩ := h; subst he; have HS := hid hs; have hk := hc; clear hc hs; obtain ⟨k0, k1, f0, f1⟩ := cell2 (kept_heap hk HZ.out))
 refine bodyPost_ret (v := .agg #[.bool false, .slice E1 n1 c1]) (by rw [results_cell_row rfl _ _ w.heap.size _ _ _ _ rfl (store2 (kept_heap hk HZ.out) _ _) Tryz.underlying32 rfl whole_size]) rfl ⟨E1, n1, c1, rfl, sn_end2 HS.out (kept_heap hk HZ.out) _ _, chg2 (HC0.out.trans hk sb_) (Nat.le_refl _) _ _⟩
theorem Int_nat {w : World} (a : Nat) (v : Int) (hv : (a : Int) = v) (ha : v < 9223372036854775808) :
  Calls Tryz.prog 24 #[.int .i64 v] w (PFN w false a 1) := by
 have HN := hid (fun w1 => WholeOf_nat (w := w1) a v hv ha)
 have HO := hid (fun w1 => one_any (w := w1))
 have HZ := hid (heap_alloc_new w (.cells #[.bool false, .slice none 0 0, .slice none 0 0] 34))
 have HC0 := hid ((Chg.refl (fun _ => False) w).alloc (.cells #[.bool false, .slice none 0 0, .slice none 0 0] 34))
 clear ha hv
 go_enter Tryz.func24, Tryz.ntmps24
 go_wp2_with (first | (go_at_call 53; refine (HN.out _).mono ?_; intro e w1 h; obtain ⟨E1, n1, c1, he, hs, hc⟩ := h; subst he; have HS := hid hs; have hk := hc; clear hc hs; obtain ⟨k0, k1, k2, f0, f1, f2⟩ := cell3 (kept_heap hk HZ.out)) | (go_at_call 54; refine (HO.out _).mono ?_; intro e w1 h; obtain ⟨E2, n2, c2, he, hs, hc⟩ := h; subst he; have HS2 := hid hs; have HS := hid (HS.out.kept hc); have hk := hk.trans hc sb_; clear hc hs k0 k1 k2 f0 f1 f2; obtain ⟨k0, k1, k2, f0, f1, f2⟩ := cell3 (kept_heap hk HZ.out)))
 refine bodyPost_ret (v := .agg #[.bool false, .slice E1 n1 c1, .slice E2 n2 c2]) (by rw [results_cell_row rfl _ _ w.heap.size _ _ _ _ rfl (store3 (kept_heap hk HZ.out) _ _ _) Tryz.underlying34 rfl frac_size]) rfl ⟨E1, n1, c1, E2, n2, c2, rfl, sn_end3 HS.out (kept_heap hk HZ.out) (by simp) _ _ _, sn_end3 HS2.out (kept_heap hk HZ.out) (by simp) _ _ _, chg3 (HC0.out.trans hk sb_) (Nat.le_refl _) _ _ _⟩
theorem nrm_ok {l : List DT} (hr : ∀ f ∈ l, f.2.1 < 10 ^ 19 ∧ f.2.2 ≤ 19) : ∀ f ∈ l.map nrm, DTok f := by
 intro f hf
 obtain ⟨g, hg, rfl⟩ := List.mem_map.1 hf
 obtain ⟨h1, h2⟩ := hr g hg
 refine ⟨h1, h2, ?_⟩
 show ((g.1 && g.2.1 != 0) && g.2.1 != 0) = (g.1 && g.2.1 != 0)
 cases g.1 <;> simp
set_option maxHeartbeats 8000000 in
theorem gvSum_any {A : Option Addr} {l : List DT} {c : Nat} (w : World) (hx : FX w A (l.map rawI)) (hr : ∀ f ∈ l, f.2.1 < 10 ^ 19 ∧ f.2.2 ≤ 19) (hl : l.length ≤ 40) :
  Calls Tryz.prog 23 #[.slice A l.length c] w (PFN w (sumQ (l.map nrm)).1 (sumQ (l.map nrm)).2.1 (sumQ (l.map nrm)).2.2) := by
 have HX := hid (fun w1 (k : Chg (fun _ => False) w w1) => hx.kept k)
 have HR := hid hr
 have HIN := hid (fun w1 => Int_nat (w := w1) 0 0 rfl (by omega))
 have hz0 := heap_alloc_new w (.cells #[.bool false, .slice none 0 0, .slice none 0 0] 34)
 have HC0 := hid ((Chg.refl (fun _ => False) w).alloc (.cells #[.bool false, .slice none 0 0, .slice none 0 0] 34))
 have HBX := hid (fun w1 (h : Chg (fun _ => False) (w.alloc (.cells #[.bool false, .slice none 0 0, .slice none 0 0] 34)) w1) => kept_heap h hz0)
 obtain ⟨L, hL⟩ : ∃ L, l.length = L := ⟨_, rfl⟩
 rw [hL] at hl
 rw [hL]
 clear hx hr hz0
 go_enter Tryz.func23, Tryz.ntmps23
 go_wp2_with (go_at_call 24; refine (HIN.out _).mono ?_; intro e w1 h; obtain ⟨E1, e1, e2, G1, g1, g2, he, hs1, hs2, hc⟩ := h; subst he; have HG := hid (heap_alloc_new w1 (.cells #[.bool false, .slice E1 e1 e2, .slice G1 g1 g2] 34)); have HN0 := hid (hs1.kept ((Chg.refl (fun _ => False) w1).alloc (.cells #[.bool false, .slice E1 e1 e2, .slice G1 g1 g2] 34))); have HD0 := hid (hs2.kept ((Chg.refl (fun _ => False) w1).alloc (.cells #[.bool false, .slice E1 e1 e2, .slice G1 g1 g2] 34))); have HK0 := hid (hc.alloc (.cells #[.bool false, .slice E1 e1 e2, .slice G1 g1 g2] 34)); have HGS := hid (show (w.alloc (.cells #[.bool false, .slice none 0 0, .slice none 0 0] 34)).heap.size ≤ w1.heap.size from hc.size); clear hs1 hs2 hc)
 go_loopw [9] (fun i wr => ∃ (k : Nat) (b : Bool) (E : Option Addr) (x1 x2 : Nat) (G : Option Addr) (y1 y2 : Nat), k ≤ L ∧ i = .int .i64 k ∧ Hid (wr.heap[w1.heap.size]? = some (.cells #[.bool b, .slice E x1 x2, .slice G y1 y2] 34 (0, 0))) ∧ Hid (SN wr E x1 x2 (sumQ ((l.take k).map nrm)).2.1) ∧ Hid (SN wr G y1 y2 (sumQ ((l.take k).map nrm)).2.2) ∧ Hid (b = (sumQ ((l.take k).map nrm)).1) ∧ Hid (Chg (fun _ => False) (w.alloc (.cells #[.bool false, .slice none 0 0, .slice none 0 0] 34)) wr)) (fun i _ => L - (intOf i).toNat)
 case atStart => exact ⟨0, false, E1, e1, e2, G1, g1, g2, Nat.zero_le _, rfl, HG, HN0, HD0, hid rfl, HK0⟩
 case round =>
  obtain ⟨k, b, E, x1, x2, G, y1, y2, hkl, he1, HGK, HN, HD, HBB, HK⟩ := hrel
  subst he1
  by_cases hlt : k < L
  ·obtain ⟨⟨m, d, t⟩, hf⟩ : ∃ f, l[k]? = some f := ⟨_, List.getElem?_eq_getElem (by omega)⟩
   have hf2 : (l.map rawI)[k]? = some (m, (d : Int), (t : Int)) := by rw [List.getElem?_map, hf]; rfl
   obtain ⟨a, hA, a0, a1, a2⟩ := HX.out _ (HC0.out.trans HK.out sb_) k m d t hf2
   subst hA
   obtain ⟨f1, f2⟩ := HR.out _ (List.mem_of_getElem? hf)
   simp only at f1 f2
   obtain ⟨b1, b2, b3⟩ := sumQ_bd (l := (l.take k).map nrm) (nrm_ok (fun f hf => HR.out f (List.mem_of_mem_take hf))) (by rw [List.length_map, List.length_take]; omega)
   have hsn : sumQ ((l.take (k + 1)).map nrm) = stepQ (sumQ ((l.take k).map nrm)) (m && d != 0, d, t) := by rw [List.take_add_one, hf, Option.toList_some, List.map_append]; exact sumQ_snoc _ _
   have hlt' : (k : Int) < (L : Int) := by omega
   have hinc : IntKind.i64.wrap ((k : Int) + 1) = ((k + 1 : Nat) : Int) := by rw [IntWalk.i64_in _ (by omega)]; omega
   have hbb := HBB.out
   generalize sumQ ((l.take k).map nrm) = st at *
   obtain ⟨b', a', x'⟩ := st
   simp only [stepQ] at hsn b1 b2 b3 hbb HN HD
   subst hbb
   obtain ⟨m', hm⟩ : ∃ m', (m && d != 0) = m' := ⟨_, rfl⟩
   have HFN := hid (fun w1 => FixNum_any (w := w1) m m' d t f1 f2 hm)
   rw [hm] at hsn
   obtain ⟨R, hR⟩ : ∃ R, sumS (b && a' * 10 ^ t != 0) (a' * 10 ^ t) (m' && d * x' != 0) (d * x') = R := ⟨_, rfl⟩
   have HAD := hid (fun (w1 : World) (A B X Y : Option Addr) (n c k l p q i j : Nat) (h1 : SN w1 A n c a') (h2 : SN w1 X k l x') (h3 : SN w1 B p q d) (h4 : SN w1 Y i j (10 ^ t)) =>
    FracAdd_any b m' _ h1 h2 h3 h4 (up_tn b1 (by omega)) (lt_tn f1 (by omega)) (up_tn b2 (by omega)) (pow_tn (by omega)) rfl)
   rw [hR] at HAD hsn
   obtain ⟨r1, R⟩ := R
   simp only at HAD hsn
   obtain ⟨sb, hsb⟩ : ∃ sb, (r1 && R != 0) = sb := ⟨_, rfl⟩
   rw [hsb] at HAD hsn
   have HSN := hid hsn
   clear hsb hR hm f1 f2 b1 b2 b3 hsn hf hf2
   generalize 10 ^ t = T at *
   have hgl : w1.heap.size < wr.heap.size := (Array.getElem?_eq_some_iff.1 HGK.out).1
   have hw := (Chg.refl (fun _ => False) (wr.alloc (.cells #[.bool m, .int .u64 (d : Int), .int .i64 (t : Int)] 24))).drew
   have HG2 := hid ((Below.heap_alloc wr (.cells #[.bool m, .int .u64 (d : Int), .int .i64 (t : Int)] 24) w1.heap.size hgl).trans HGK.out)
   have HF2 := hid (heap_alloc_new wr (.cells #[.bool m, .int .u64 (d : Int), .int .i64 (t : Int)] 24))
   have HSS := hid (fun w3 (h : Chg (fun _ => False) (wr.alloc (.cells #[.bool m, .int .u64 (d : Int), .int .i64 (t : Int)] 24)) w3) => d3_ (cell3 (kept_heap h HG2.out)) (c3_ (cell3 (kept_heap h HF2.out))))
   have HN := hid (HN.out.kept (((Chg.refl (fun _ => False) wr).alloc (.cells #[.bool m, .int .u64 (d : Int), .int .i64 (t : Int)] 24)).drew))
   have HD := hid (HD.out.kept (((Chg.refl (fun _ => False) wr).alloc (.cells #[.bool m, .int .u64 (d : Int), .int .i64 (t : Int)] 24)).drew))
   have HKW := hid (HK.out.alloc (.cells #[.bool m, .int .u64 (d : Int), .int .i64 (t : Int)] 24))
   go_upto_region 5 with fail
   obtain ⟨z0, z1, z2, v0, v1, v2⟩ := HSS.out _ hw
   obtain ⟨_, _, _, y0, y1_, y2_⟩ := cell3 (kept_heap hw HG2.out)
   first | (go_region_with (first | (go_at_call 11; refine (HFN.out _).mono ?_; intro e w3 h; obtain ⟨A1, A1_, A2_, A2, A3_, A4_, he, hq1, hq2, hc⟩ := h; subst he; replace hw := hw.trans hc sb_; have HA1 := hid hq1; have HA2 := hid hq2; replace HN := hid (HN.out.kept hc); replace HD := hid (HD.out.kept hc); clear hq1 hq2 hc; clear z0 z1 z2 v0 v1 v2 y0 y1_ y2_; obtain ⟨z0, z1, z2, v0, v1, v2⟩ := HSS.out _ hw; obtain ⟨_, _, _, y0, y1_, y2_⟩ := cell3 (kept_heap hw HG2.out)) | (go_at_call 19; refine (HAD.out _ _ _ _ _ _ _ _ _ _ _ _ _ HN.out HD.out HA1.out HA2.out).mono ?_; intro e w3 h; obtain ⟨C1, c1_, c2_, C2, c3_, c4_, he, hq1, hq2, hc⟩ := h; subst he; replace hw := hw.trans hc sb_; have HC1 := hid hq1; have HC2 := hid hq2; clear hq1 hq2 hc; clear z0 z1 z2 v0 v1 v2 y0 y1_ y2_; obtain ⟨z0, z1, z2, v0, v1, v2⟩ := HSS.out _ hw; obtain ⟨_, _, _, y0, y1_, y2_⟩ := cell3 (kept_heap hw HG2.out)))) | fail
   all_goals (
    have hgk := kept_heap hw HG2.out
    have HK2 := hid (chg3 (HKW.out.trans hw sb_) HGS.out (.bool sb) (.slice C1 c1_ c2_) (.slice C2 c3_ c4_))
    have HH2 := hid (store3 hgk (.bool sb) (.slice C1 c1_ c2_) (.slice C2 c3_ c4_))
    have HN2 := hid (sn_end3 HC1.out hgk (by simp) (.bool sb) (.slice C1 c1_ c2_) (.slice C2 c3_ c4_))
    have HD2 := hid (sn_end3 HC2.out hgk (by simp) (.bool sb) (.slice C1 c1_ c2_) (.slice C2 c3_ c4_))
    clear hgk hw z0 z1 z2 v0 v1 v2 y0 y1_ y2_
    go_wp2_with fail
    go_roundw
    case rel => exact ⟨k + 1, sb, C1, c1_, c2_, C2, c3_, c4_, by omega, rfl, HH2, by rw [HSN.out]; exact HN2, by rw [HSN.out]; exact HD2, by rw [HSN.out]; exact hid rfl, HK2⟩
    case measure => simp [intOf]; omega)
  ·obtain rfl : k = L := by omega
   have hge : ¬ (k : Int) < (k : Int) := by omega
   have ht : l.take k = l := List.take_of_length_le (by omega)
   have hbb := HBB.out
   rw [ht] at HN HD hbb
   subst hbb
   have hk := HK.out
   obtain ⟨z0, z1, z2, _, _, _⟩ := cell3 HGK.out
   obtain ⟨k0, k1, k2, r0, r1, r2⟩ := cell3 (HBX.out _ hk)
   clear ht
   generalize (sumQ (l.map nrm)).1 = qb at *
   go_wp2_with fail
   exact bodyPost_ret (v := .agg #[.bool qb, .slice E x1 x2, .slice G y1 y2]) (by rw [results_cell_row rfl _ _ w.heap.size _ _ _ _ rfl (store3 (HBX.out _ hk) _ _ _) Tryz.underlying34 rfl frac_size]) rfl ⟨E, x1, x2, G, y1, y2, rfl, sn_end3 HN.out (HBX.out _ hk) (by simp) _ _ _, sn_end3 HD.out (HBX.out _ hk) (by simp) _ _ _, chg3 (HC0.out.trans hk sb_) (by omega) _ _ _⟩
end Go.Proofs.YtbjhnckboimliaaGreatDoor
namespace Go.Proofs.YtbjhnckboimliaaGreatDoor
open Go.RowKit
set_option linter.unusedVariables false
set_option linter.unusedSimpArgs false
set_option maxRecDepth 20000
theorem addExact_lives (w : World) (he : EnvD w) : Calls Tryz.prog 62 #[.agg #[.bool false, .int .i8 (1 : Nat), .int .u64 ((15 : Nat) : Int)], .agg #[.bool false, .int .i8 (0 : Nat), .int .u64 ((2 : Nat) : Int)], .int .i64 (0 : Nat)] w
  (fun e w' => e = .returned (.tuple #[.agg #[.bool false, .int .i8 (1 : Nat), .int .u64 35], .nilIface]) ∧ Chg (fun _ => False) w w') := by
 refine addExact_ok false false 15 2 1 0 0 (by omega) w 35 1 false (hid ?_)
 have he3 : EnvD _ := he.kept ((((Chg.refl (fun _ => False) w).alloc (.cells #[.bool false, .int .i8 (1 : Nat), .int .u64 ((15 : Nat) : Int)] 55)).alloc (.cells #[.bool false, .int .i8 (0 : Nat), .int .u64 ((2 : Nat) : Int)] 55)).alloc (.cells #[.bool false, .int .i8 0, .int .u64 0] 55))
 refine (addFint_gt_same false false ((15 : Nat) : Int) ((2 : Nat) : Int) 1 0 0 ⟨by decide, by decide⟩ ⟨by decide, by decide⟩ (by omega) (by omega) (by omega) _ he3 (by omega) 20 (by decide) (by decide) rfl 35 (by decide) (by decide)).mono (fun e w' h => ?_)
 have hf : fromFint 35 1 0 = some (35, 1) := by decide
 unfold PDec at h
 rw [hf] at h
 exact ⟨h.2, h.1⟩
set_option maxHeartbeats 2000000 in
theorem Add_lives2 (w : World) (he : EnvD w) : Calls Tryz.prog 40 #[.agg #[.bool false, .int .i8 (1 : Nat), .int .u64 ((15 : Nat) : Int)], .agg #[.bool false, .int .i8 (0 : Nat), .int .u64 ((2 : Nat) : Int)]] w
  (fun e w' => e = .returned (.tuple #[.agg #[.bool false, .int .i8 (1 : Nat), .int .u64 35], .nilIface]) ∧ Chg (fun _ => False) w w') := by
 have HA := hid (fun w1 (he : EnvD w1) => addExact_lives w1 he)
 have HE := hid he
 obtain ⟨DC, hDC⟩ : ∃ v : Int, ((15 : Nat) : Int) = v := ⟨_, rfl⟩
 obtain ⟨EC, hEC⟩ : ∃ v : Int, ((2 : Nat) : Int) = v := ⟨_, rfl⟩
 obtain ⟨ds, hds⟩ : ∃ v : Int, ((1 : Nat) : Int) = v := ⟨_, rfl⟩
 obtain ⟨es, hes⟩ : ∃ v : Int, ((0 : Nat) : Int) = v := ⟨_, rfl⟩
 have hz : ((0 : Nat) : Int) = 0 := rfl
 rw [hDC, hEC, hds, hz] at HA
 rw [hz] at hes
 rw [hDC, hEC, hds]
 rw [hz]
 clear he hDC hEC hds hes hz
 obtain ⟨HC0, HD, hB0, hB1, hB2⟩ := box3 w #[.bool false, .int .i8 ds, .int .u64 DC] 55 #[.bool false, .int .i8 0, .int .u64 EC] 55 #[.bool false, .int .i8 0, .int .u64 0] 55
 have HZ := hid hB2
 obtain ⟨d0, d1, d2, _, _, _⟩ := cell3 hB0
 obtain ⟨e0, e1, e2, _, _, _⟩ := cell3 hB1
 clear hB0 hB1 hB2 HD
 go_enter Tryz.func40, Tryz.ntmps40
 go_wp2_with (go_at_call 62; refine (HA.out _ (HE.out.kept HC0.out)).mono ?_; intro e w1 h; obtain ⟨he, hc⟩ := h; subst he; have hk := hc; clear hc; obtain ⟨k0, k1, k2, f0, f1, f2⟩ := cell3 (kept_heap hk HZ.out))
 exact bodyPost_ret (v := .tuple #[.agg #[.bool false, .int .i8 ds, .int .u64 35], .nilIface]) (dec_result rfl _ _ (w.heap.size + 1 + 1) _ _ _ _ 55 rfl rfl (store3 (kept_heap hk HZ.out) _ _ _)) rfl ⟨rfl, chg3 (HC0.out.trans hk sb_) (by omega) _ _ _⟩
theorem FixAdd_lives2 (w : World) (he : EnvD w) :
  Calls Tryz.prog 16 #[.agg #[.bool false, .int .u64 15, .int .i64 1], .agg #[.bool false, .int .u64 2, .int .i64 0]] w (PV w (.tuple #[.agg #[.bool false, .int .u64 35, .int .i64 1], .int .i64 0])) :=
 FixAdd_ok false false false false 15 2 1 0 (by decide) (by decide) (by omega) (by omega) rfl rfl w he false 35 1 (by omega) (fun w1 he1 => Add_lives2 w1 he1)
theorem gvLives_any2 (w : World) (he : EnvD w) : Calls Tryz.prog 13 #[] w (PV w (.bool true)) := by
 have HF := hid (FixAdd_lives2 w he)
 clear he
 go_enter Tryz.func13, Tryz.ntmps13
 go_wp2_with (go_at_call 16; refine HF.out.mono ?_; intro e w1 h; obtain ⟨he, hc⟩ := h; subst he; have hk := hc; clear hc)
 go_ret
 exact ⟨rfl, hk.alloc _⟩
theorem PSum_places {l : List DT} {sg : Bool} {k t : Nat} (h : PSum l sg (some (k, t))) : t ≤ 19 := by
 unfold PSum at h
 split at h
 ·cases h
 ·exact (from19_bd (by omega) h.2.symm).1
theorem raw_of : ∀ {l : List (Bool × Int × Int)}, (∀ f ∈ l, 0 ≤ f.2.1) → (l.all fun f => okFix f.2.1 f.2.2) = true → ∃ r : List DT, l = r.map rawI ∧ ∀ f ∈ r, f.2.1 < 10 ^ 19 ∧ f.2.2 ≤ 19 := by
 intro l
 induction l with
 | nil => exact fun _ _ => ⟨[], rfl, by simp⟩
 | cons f l ih =>
  intro h0 ha
  rw [List.all_cons, Bool.and_eq_true] at ha
  obtain ⟨r, rfl, hr⟩ := ih (fun g hg => h0 g (by simp [hg])) ha.2
  obtain ⟨n, v, s⟩ := f
  have hok := ha.1
  unfold okFix at hok
  simp only [Bool.and_eq_true, decide_eq_true_eq] at hok
  have hv := h0 (n, v, s) (by simp)
  simp only at hv
  refine ⟨(n, v.toNat, s.toNat) :: r, ?_, ?_⟩
  ·rw [List.map_cons]
   unfold rawI
   simp only
   rw [Int.toNat_of_nonneg hv, Int.toNat_of_nonneg (by omega)]
  ·intro g hg
   rcases List.mem_cons.1 hg with rfl | hg
   ·have e : (10 : Nat) ^ 19 = 10000000000000000000 := by decide
    simp only
    omega
   ·exact hr g hg
set_option maxHeartbeats 4000000 in
theorem lawSum_out {A : Option Addr} {l : List (Bool × Int × Int)} {c : Nat} (w : World) (hx : FX w A l) (hno : 40 < l.length ∨ (l.all fun f => okFix f.2.1 f.2.2) = false) :
  Calls Tryz.prog 5 #[.slice A l.length c] w (PV w (.bool true)) := by
 by_cases h1 : 2147483647 < l.length
 ·have hgt : (2147483647 : Int) < (l.length : Int) := by omega
  generalize l.length = L at *
  clear hx hno h1
  go_enter Tryz.func5, Tryz.ntmps5
  go_wp2_with fail
  go_ret
  exact ⟨rfl, Chg.refl _ _⟩
 ·have hgt : ¬ (2147483647 : Int) < (l.length : Int) := by omega
  by_cases h2 : 40 < l.length
  ·have hg2 : (40 : Int) < (l.length : Int) := by omega
   generalize l.length = L at *
   clear hx hno h1 h2
   go_enter Tryz.func5, Tryz.ntmps5
   go_wp2_with fail
   go_ret
   exact ⟨rfl, Chg.refl _ _⟩
  ·have hg2 : ¬ (40 : Int) < (l.length : Int) := by omega
   have HFA := hid (FixAll_list (c := c) hx (by omega))
   rw [hno.resolve_left h2] at HFA
   generalize l.length = L at *
   clear hx hno h1 h2
   go_enter Tryz.func5, Tryz.ntmps5
   go_wp2_with (go_at_call 8; refine HFA.out.mono ?_; intro e w1 h; obtain ⟨he, hc⟩ := h; subst he; have hk := hc; clear hc)
   go_ret
   exact ⟨rfl, hk⟩
set_option maxHeartbeats 8000000 in
theorem lawSum_in {A : Option Addr} {l : List DT} {c : Nat} (w : World) (he : EnvD w) (hx : FX w A (l.map rawI)) (hr : ∀ f ∈ l, f.2.1 < 10 ^ 19 ∧ f.2.2 ≤ 19) (hl : l.length ≤ 40) (hok : ((l.map rawI).all fun f => okFix f.2.1 f.2.2) = true) :
  Calls Tryz.prog 5 #[.slice A l.length c] w (PV w (.bool true)) := by
 have hgt : ¬ (2147483647 : Int) < (l.length : Int) := by omega
 have hg2 : ¬ (40 : Int) < (l.length : Int) := by omega
 have HFA := hid (FixAll_list (c := c) hx (by rw [List.length_map]; omega))
 rw [hok, List.length_map] at HFA
 have HFS := hid (fun w1 (h : Chg (fun _ => False) w w1) => fxSum_gen (c := c) (PSum (l.map nrm)) (fun _ _ _ h => PSum_places h) w1 (he.kept h) (hx.kept h) hr hl (fun w2 B cp h2 hd => by
  have := Sum_any (c := cp) w2 h2 hd (nrm_ok hr) (by rw [List.length_map]; exact hl)
  rw [List.length_map] at this
  exact this))
 have HGS := hid (fun w1 (h : Chg (fun _ => False) w w1) => gvSum_any (c := c) w1 (hx.kept h) hr hl)
 have HLV := hid (fun w1 (h : Chg (fun _ => False) w w1) => gvLives_any2 w1 (he.kept h))
 have hk := Chg.refl (fun _ => False) w
 by_cases h0 : l = []
 ·subst h0
  clear HGS
  go_enter Tryz.func5, Tryz.ntmps5
  go_wp2_with (go_at_call 8; refine HFA.out.mono ?_; intro e w1 h; obtain ⟨he, hc⟩ := h; subst he; replace hk := hk.trans hc sb_; clear hc)
  go_at_call 21
  refine (HFS.out _ hk).mono ?_
  intro e w2 h
  obtain ⟨sg, o, hp, he2, hc⟩ := h
  have ho : o = none := by unfold PSum at hp; rw [if_pos (show List.map nrm [] = [] from rfl)] at hp; exact hp
  subst ho
  have he3 : e = .returned (.tuple #[.agg #[.bool false, .int .u64 0, .int .i64 0], .int .i64 1]) := he2
  clear he2
  subst he3
  replace hk := (hk.trans hc sb_).alloc (.cells #[.bool false, .int .u64 0, .int .i64 0] 24)
  clear hc hp
  go_wp2_with (go_at_call 13; refine (HLV.out _ hk).mono ?_; intro e w1 h; obtain ⟨he, hc⟩ := h; subst he; replace hk := hk.trans hc sb_; clear hc)
  go_ret
  exact ⟨rfl, hk⟩
 ·have hz : ¬ (l.length : Int) = 0 := fun h => h0 (List.length_eq_zero_iff.1 (by omega))
  obtain ⟨b1, b2, b3⟩ := sumQ_bd (nrm_ok hr) (by rw [List.length_map]; exact hl)
  have HGN := hid (fun (w1 : World) (A X : Option Addr) (n c k j : Nat) (sg : Bool) (o : Option (Nat × Nat)) (out f : Value) (h1 : SN w1 A n c (sumQ (l.map nrm)).2.1) (h2 : SN w1 X k j (sumQ (l.map nrm)).2.2) (hP : PSum (l.map nrm) sg o) (hv : fixOut sg o = .tuple #[out, f]) =>
   gvNear_good (sumQ (l.map nrm)).1 sg o out f h1 h2 (up_tn b1 (by omega)) (up_tn b2 (by omega)) b3 (by
    unfold PSum at hP
    rw [if_neg (fun h => h0 (List.map_eq_nil_iff.1 h))] at hP
    rw [hP.1, hP.2]
    exact good_sum _) hv)
  generalize l.length = L at *
  generalize sumQ (l.map nrm) = q at *
  obtain ⟨qb, qn, qd⟩ := q
  simp only at HGN HGS
  clear b1 b2 b3 h0 hok hr
  go_enter Tryz.func5, Tryz.ntmps5
  go_wp2_with (go_at_call 8; refine HFA.out.mono ?_; intro e w1 h; obtain ⟨he, hc⟩ := h; subst he; replace hk := hk.trans hc sb_; clear hc)
  go_at_call 21
  refine (HFS.out _ hk).mono ?_
  intro e w2 h
  obtain ⟨sg, o, hp, he2, hc⟩ := h
  obtain ⟨b0, c0, s0, f0, hfo⟩ := fixOut_op sg o
  rw [hfo] at he2
  subst he2
  have HNR := hid (fun (w1 : World) (A X : Option Addr) (n c k j : Nat) (h1 : SN w1 A n c qn) (h2 : SN w1 X k j qd) => HGN.out w1 A X n c k j sg o _ _ h1 h2 hp hfo)
  replace hk := (hk.trans hc sb_).alloc (.cells #[.bool b0, .int .u64 c0, .int .i64 s0] 24)
  have HG := hid (heap_alloc_new w2 (.cells #[.bool b0, .int .u64 c0, .int .i64 s0] 24))
  obtain ⟨g, hg⟩ : ∃ g, w2.heap.size = g := ⟨_, rfl⟩
  rw [hg] at HG
  obtain ⟨j0, j1, j2, _, _, _⟩ := cell3 HG.out
  clear hc hp hfo
  go_wp2_with fail
  have hw6 := (Chg.refl (fun _ => False) (w2.alloc (.cells #[.bool b0, .int .u64 c0, .int .i64 s0] 24))).drew
  have hk := hk.drew
  have HS6 := hid (fun (w3 : World) (h2 : Chg (fun _ => False) (w2.alloc (.cells #[.bool b0, .int .u64 c0, .int .i64 s0] 24)) w3) => c3_ (cell3 (kept_heap h2 HG.out)))
  first | (go_region_held3 (fun w' => w'.cell? ⟨g, 0, none⟩ = some (.bool b0) ∧ w'.cell? ⟨g, 1, none⟩ = some (.int .u64 c0) ∧ w'.cell? ⟨g, 2, none⟩ = some (.int .i64 s0)) (first | with_reducible exact HS6.out _ hw6) (first | (go_at_call 23; refine (HGS.out _ hk).mono ?_; intro e w3 h; obtain ⟨A1, A1_, A2_, A2, A3_, A4_, he, hq1, hq2, hc⟩ := h; subst he; replace hk := hk.trans hc sb_; replace hw6 := hw6.trans hc sb_; have HA1 := hid hq1; have HA2 := hid hq2; clear hq1 hq2 hc) | (go_at_call 22; refine (HNR.out _ _ _ _ _ _ _ HA1.out HA2.out).mono ?_; intro e w3 h; obtain ⟨he, hc⟩ := h; subst he; replace hk := hk.trans hc sb_; replace hw6 := hw6.trans hc sb_; clear hc))) | fail
  all_goals (go_wp2_with fail; go_ret; exact ⟨rfl, hk⟩)
theorem lawSum_any {A : Option Addr} {l : List (Bool × Int × Int)} {c : Nat} (w : World) (he : EnvD w) (hx : FX w A l) (h0 : ∀ f ∈ l, 0 ≤ f.2.1) :
  Calls Tryz.prog 5 #[.slice A l.length c] w (PV w (.bool true)) := by
 by_cases h2 : 40 < l.length
 ·exact lawSum_out w hx (.inl h2)
 ·cases hok : (l.all fun f => okFix f.2.1 f.2.2) with
  | false => exact lawSum_out w hx (.inr hok)
  | true =>
   obtain ⟨r, rfl, hr⟩ := raw_of h0 hok
   rw [List.length_map] at *
   exact lawSum_in w he hx hr (by omega) hok
end Go.Proofs.YtbjhnckboimliaaGreatDoor
namespace Go.Proofs.YtbjhnckboimliaaGreatDoor
open Go Go.ChangeShapes Go.WideShapes Go.ChangeAt Go.WideMaps Go.WideElems Go.RowKit
set_option maxRecDepth 100000 in
theorem liftedm (os : Os) (started : os.Started) (H : Type) (enc : TypeId × Value → H) :
  ReturnsInHanded {} Tryz.checked os 5 .any (fun w args => (Rows.fnFixSumSpec.pre enc Tryz.prog Tryz.f5 [] false w args ∧ laidMetH Tryz.prog Rows.fnFixSumRow.laid w) ∧ sizedMet enc Tryz.prog Tryz.f5 (OpenSpec.ofChange Rows.fnFixSumSpec) false w args)
   (Rows.fnFixSumSpec.post enc Tryz.prog Tryz.f5 false true false false) := by
 refine handed_shaped (C := Tryz.checked) (X := fun w _ => laidMetH Tryz.prog Rows.fnFixSumRow.laid w) (fun _ _ _ hh h => h.of_heap hh) own0 started kr_ Tryz.func5
  (ChangeSpec.witness_shaped (enc := enc) (C := Tryz.checked) (os := os) (X := fun w _ => laidMetH Tryz.prog Rows.fnFixSumRow.laid w) false (World.doorLaid Tryz.prog 400 os) #[.slice none 0 0] 8 rfl (wit_shapedm os) (wit_okm os) (wit_prem os H enc) (wit_sizem os H enc) (door_met os _)) ?_
 intro W base args ds gs before hsh hval0 hW _ hL
 have hval : ∀ (j : Nat) t v, Tryz.f5.params[j]? = some t → args[j]? = some v → Value.okWide Tryz.prog W .any base t v := hval0
 have hW' := hW
 obtain ⟨p, q, hA0, hV, rfl, hfz, hnd⟩ := hW
 have hA : DataW.TrodAll enc Tryz.prog W 0 (fun _ => true) true Tryz.f5.params.toList args.toList ds p := hA0
 rw [Tryz.params5] at hA hval
 obtain ⟨v0, vs0, d0, ds0, p0, q0, hargs, rfl, rfl, h0, r0⟩ := trodAll_cons hA
 obtain ⟨rfl, rfl, rfl⟩ := trodAll_nil r0
 obtain rfl : args = #[v0] := by cases args; simp_all
 have k0 := h0
 have hlt0 : ∀ x ∈ p0, x.block < W.heap.size := by
  obtain ⟨n, hn⟩ := h0
  exact DataW.trod_lt n _ _ _ hn
 obtain ⟨A, l, c, rfl, hx, hnn⟩ := open_fixes (hval 0 42 v0 rfl rfl) h0
 have hlen : gs.length = 8 := trodVars_length hV
 match gs, hlen, hV, hW' with
 | [g1, g2, g3, g4, g5, g6, g7, g8], _, hV, hW' =>
  refine (lawSum_any W (of_laid hsh hL) hx hnn).mono fun e W' hE => ?_
  obtain ⟨he, hc⟩ := hE
  subst he
  have hB := hc.below
  refine ⟨_, rfl, _, _, _, [], p0, q, hW', ?_, ?_, ?_, hB.frame _, fun h => by cases h⟩
  ·exact trodAll_mk1 (shut_bool Tryz.underlying4 _)
  ·exact trodAll_mk1 (Below.trod laidOk kr_ (of_decide_eq_true kr_) k0 hB hlt0)
  ·exact vars_iface hB gScl tScl Tryz.underlying59 (fun _ _ h => vars_iface hB gOvf tOvf Tryz.underlying59 (fun _ _ h => Below.trodVars laidOk hB kr_ h) h) hV
theorem fnFixSum_holds : Rows.FnFixSumSaid :=
 OpenClaim.holds_of_wide 5 Tryz.f5 rfl rfl rfl rfl rfl rfl rfl ⟨rfl, rfl, rfl, rfl, rfl⟩ rfl rfl rfl rfl rfl row_funcm Tryz.func5 row_closedm
  (of_decide_eq_true kr_) (by unfold Func.isWrapper; first | (rw [if_pos (by decide +kernel)]; kernel_rfl) | (rw [if_neg (by decide +kernel)]; exact ⟨rfl, rfl⟩))
  (fun os started H enc _ => liftedm os started H enc)
theorem fnFixSum_card : Rows.FnFixSumCardSaid :=
 Claim7.holds_tied_plain_at .later [] [.data, .data, .data, .data, .data, .data, .data, .sentinel, .sentinel, .data] true Rows.fnFixSumCard.stood.harness false
  fnFixSum_holds (fun _ h => by cases h) row_wfm (fun _ h => by cases h) fnFixSum_row_tie rfl ⟨rfl, rfl⟩ kr_ rfl
  (fun f fn hf hfn => by
   obtain rfl : f = 5 := Option.some.inj (row_funcm.symm.trans hf) |>.symm
   obtain rfl : fn = Tryz.f5 := (Option.some.inj (Tryz.func5.symm.trans hfn)).symm
   exact ⟨row_looksm, fun j t ht => by
    rw [Tryz.params5] at ht
    have hm : t ∈ [42] := by simpa using Array.mem_of_getElem? ht
    exact (show Tryz.prog.wantsStandIn t = false by simpa using List.all_eq_true.1 row_standm t hm)⟩)
  row_goesm
end Go.Proofs.YtbjhnckboimliaaGreatDoor
