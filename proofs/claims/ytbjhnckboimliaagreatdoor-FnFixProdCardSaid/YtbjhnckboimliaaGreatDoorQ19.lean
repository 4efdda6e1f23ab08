/- Part 19 of the proof. -/
import Derived.Test.YtbjhnckboimliaaGreatDoorQ18
namespace Go.Proofs.YtbjhnckboimliaaGreatDoor
open Go.RowKit Go.Proofs.YtbjhnckboimliaaGreatDoorW.PrintWords Go.Proofs.YtbjhnckboimliaaGreatDoorW.PrintLast Go.Proofs.YtbjhnckboimliaaGreatDoorW.PrintMore PFnFixSubExact
set_option linter.unusedVariables false
set_option linter.unusedSimpArgs false
set_option maxRecDepth 20000
set_option maxHeartbeats 4000000 in
theorem Round_zno {w : World} {A D1 : Option Addr} {n c p1 q1 a x : Nat} (n1 sb : Bool) (p : Nat) (ha : SN w A n c a) (hx : SN w D1 p1 q1 x) (ha1 : a < tn 850) (hx1 : x < tn 850) (hx0 : 0 < x) (hp : p ≤ 19) (hr : (a * 10 ^ p) % x ≠ 0) (hq : (a * 10 ^ p) / x = 0) (hup : ¬ (x < 2 * ((a * 10 ^ p) % x) ∨ (x = 2 * ((a * 10 ^ p) % x) ∧ ((a * 10 ^ p) / x) % 2 = 1))) (hsb : (n1 && (a * 10 ^ p) / x != 0) = sb) :
  Calls Tryz.prog 38 #[.agg #[.bool n1, .slice A n c, .slice D1 p1 q1], .int .i64 (p : Int), .int .i64 5] w (PDN w sb ((a * 10 ^ p) / x) (-(p : Int))) := by
 have h19 : (10 : Nat) ^ p < 10 ^ 20 := Nat.pow_lt_pow_right (by omega) (by omega)
 have hN : a * 10 ^ p < tn (850 + 20) := mul_tn ha1 h19
 have hNd : a * 10 ^ p < tn 1764 := up_tn hN (by omega)
 have hR : (a * 10 ^ p) % x < tn 850 := Nat.lt_trans (Nat.mod_lt _ hx0) hx1
 have hRR : (a * 10 ^ p) % x + (a * 10 ^ p) % x < tn 1800 := by
  exact two_tn hR hR (by omega)
 have hQ : (a * 10 ^ p) / x < tn 1800 := Nat.lt_of_le_of_lt (Nat.div_le_self _ _) (up243 hN (by omega))
 have HP := hid (fun w1 => Pow10_any (w := w1) p (by omega))
 have HM := hid (fun w1 (E : Option Addr) (k l : Nat) (h : Chg (fun _ => False) w w1) (h1 : SN w1 E k l (10 ^ p)) => NatMul_any (ha.kept h) h1 (up243 ha1 (by omega)) (lt_tn h19 (by omega)))
 have HDv := hid (fun w1 (E : Option Addr) (k l : Nat) (h : Chg (fun _ => False) w w1) (h1 : SN w1 E k l (a * 10 ^ p)) => NatDiv_any h1 (hx.kept h) hNd (up_tn hx1 (by omega)) hx0)
 have HA2 := hid (fun w1 (E : Option Addr) (k l : Nat) (h1 : SN w1 E k l ((a * 10 ^ p) % x)) => NatAdd_any h1 h1 (up243 hR (by omega)) (up243 hR (by omega)))
 have HCM := hid (fun w1 (E : Option Addr) (k l : Nat) (h : Chg (fun _ => False) w w1) (h1 : SN w1 E k l ((a * 10 ^ p) % x + (a * 10 ^ p) % x)) => NatCmp_any h1 (hx.kept h) hRR (up243 hx1 (by omega)))
 have HO := hid (fun w1 => one_any (w := w1))
 have HA1 := hid (fun w1 (E : Option Addr) (k l : Nat) (G : Option Addr) (i j : Nat) (h1 : SN w1 E k l ((a * 10 ^ p) / x)) (h2 : SN w1 G i j 1) => NatAdd_any h1 h2 hQ (pow_tn (j := 0) (by omega)))
 have HH := hid hsb
 obtain ⟨e0, he0⟩ : ∃ e0 : Int, -(p : Int) = e0 := ⟨_, rfl⟩
 have hw : IntKind.i64.wrap (-(p : Int)) = e0 := by rw [← he0]; exact IntWalk.i64_in _ (by omega)
 have hge : (0 : Int) ≤ (p : Int) := by omega
 rw [he0]
 have HR0 := hid hr
 have HQ0 := hid hq
 obtain ⟨ob, hob⟩ : ∃ ob, ((a * 10 ^ p) / x % 2 == 1) = ob := ⟨_, rfl⟩
 have hub : (decide (0 < cmpN ((a * 10 ^ p) % x + (a * 10 ^ p) % x) x) || (cmpN ((a * 10 ^ p) % x + (a * 10 ^ p) % x) x == 0 && ob)) = false := by
  rw [← hob]
  exact round_not _ _ _ hup
 have HRD := hid (fun w => rounds_any n1 ob (cmpN ((a * 10 ^ p) % x + (a * 10 ^ p) % x) x) w)
 rw [hub] at HRD
 have HOB := hid hob
 have hobf : ob = false := by rw [← hob, hq]; rfl
 subst hobf
 generalize cmpN ((a * 10 ^ p) % x + (a * 10 ^ p) % x) x = cq at *
 clear he0 hsb ha hx ha1 hx1 hx0 hp h19 hN hNd hR hRR hQ hr hq hup hub hob
 generalize 10 ^ p = T at *
 generalize a * T = N at *
 obtain ⟨HC0, HD, hB0, hB1⟩ := box2 w #[.bool n1, .slice A n c, .slice D1 p1 q1] 34 #[.bool false, .slice none 0 0, .int .i64 0] 64
 have HZ := hid hB1
 have HSS := hid (fun (w1 : World) h => c3_ (cell3 (kept_heap (w' := w1) h hB0)))
 have HST := hid (fun w1 x0 x1 x2 h => And.intro (fr_ (w.heap.size + 1) x0 x1 x2 (HSS.out w1 h).1) (And.intro (fr_ (w.heap.size + 1) x0 x1 x2 (HSS.out w1 h).2.1) (fr_ (w.heap.size + 1) x0 x1 x2 (HSS.out w1 h).2.2)))
 clear hB0 hB1
 have hk := Chg.refl (fun _ => False) ((w.alloc (.cells #[.bool n1, .slice A n c, .slice D1 p1 q1] 34)).alloc (.cells #[.bool false, .slice none 0 0, .int .i64 0] 64))
 go_enter Tryz.func38, Tryz.ntmps38
 go_wp2_with fail
 have hk := hk.drew
 first | (go_region_held3 (fun w' => w'.cell? ⟨w.heap.size, 0, none⟩ = some (.bool n1) ∧ w'.cell? ⟨w.heap.size, 1, none⟩ = some (.slice A n c) ∧ w'.cell? ⟨w.heap.size, 2, none⟩ = some (.slice D1 p1 q1)) (first | with_reducible exact HSS.out _ hk | with_reducible exact HST.out _ _ _ _ hk | go_keep) (first | fail)) | fail
 go_wp2_with (first | (go_at_call 67; refine (HP.out _).mono ?_; intro e w1 h; obtain ⟨E1, k1_, l1_, he, hsn, hc⟩ := h; subst he; replace hk := hk.trans hc sb_; skip; have HN1 := hid hsn; clear hsn; clear hc; obtain ⟨k0, k1, k2, f0, f1, f2⟩ := cell3 (kept_heap hk HZ.out)) | (go_at_call 47; refine (HM.out _ _ _ _ (HC0.out.trans hk sb_) HN1.out).mono ?_; intro e w1 h; obtain ⟨E2, k2_, l2_, he, hsn, hc⟩ := h; subst he; replace hk := hk.trans hc sb_; skip; have HN2 := hid hsn; clear hsn; clear hc; obtain ⟨k0, k1, k2, f0, f1, f2⟩ := cell3 (kept_heap hk HZ.out)))
 go_at_call 69
 refine (HDv.out _ _ _ _ (HC0.out.trans hk sb_) HN2.out).mono ?_
 intro e w1 h
 obtain ⟨EQ, kq, lq, ER, kr, lr, he, hs1, hs2, hc⟩ := h
 subst he
 replace hk := hk.trans hc sb_
 clear hc
 obtain ⟨k0, k1, k2, f0, f1, f2⟩ := cell3 (kept_heap hk HZ.out)
 have hkr : 0 < kr := Nat.pos_of_ne_zero (fun h => HR0.out (hs2.zero.1 h))
 have hkq : kq = 0 := hs1.zero.2 HQ0.out
 subst hkq
 have hw6 := Chg.refl (fun _ => False) w1
 obtain ⟨d0, d1, d2⟩ := HSS.out _ hk
 have HQ := hid hs1
 have HR := hid hs2
 clear hs1 hs2
 go_wp2_with fail
 have hk := hk.drew
 have hw6 := hw6.drew
 replace HQ := hid (HQ.out.kept (Chg.refl (fun _ => False) w1).drew)
 replace HR := hid (HR.out.kept (Chg.refl (fun _ => False) w1).drew)
 refine wp_region_held_drew (S := fun w' => w'.cell? ⟨w.heap.size, 0, none⟩ = some (.bool n1)) kr_ ?_ (fun hHeld => ?_)
 ·exact (HSS.out _ hk).1
 refine wpAnyH_take (i := 0) (oi := ?oi0) (v := ?v0) ?hi0 kr_ kr_ kr_ ?hQ0 (Or.inl ⟨?hw0, ?hy0⟩) hHeld ?rest0
 case hi0 => exact rfl
 case hQ0 => exact fun _ _ _ h => h
 case hw0 => rfl
 case hy0 => exact hw_
 simp only [Act.put, List.setIfInBounds_toArray, List.set_cons_zero, List.set_cons_succ, List.getElem_toArray, List.getElem_cons_succ, List.getElem_cons_zero]
 refine wpAnyH_take (i := 1) (oi := ?oi1) (v := ?v1) ?hi1 kr_ kr_ kr_ ?hQ1 (Or.inl ⟨?hw1, ?hy1⟩) hHeld ?rest1
 case hi1 => exact rfl
 case hQ1 => exact fun _ _ _ h => h
 case hw1 => rfl
 case hy1 => exact hw_
 simp only [Act.put, List.setIfInBounds_toArray, List.set_cons_zero, List.set_cons_succ, List.getElem_toArray, List.getElem_cons_succ, List.getElem_cons_zero]
 refine wpAnyH_take (i := 2) (oi := ?oi2) (v := ?v2) ?hi2 kr_ kr_ kr_ ?hQ2 (Or.inl ⟨?hw2, ?hy2⟩) hHeld ?rest2
 case hi2 => exact rfl
 case hQ2 => exact fun _ _ _ h => h
 case hw2 => rfl
 case hy2 => exact hw_
 simp only [Act.put, List.setIfInBounds_toArray, List.set_cons_zero, List.set_cons_succ, List.getElem_toArray, List.getElem_cons_succ, List.getElem_cons_zero]
 refine wpAnyH_take (i := 3) (oi := ?oi3) (v := ?v3) ?hi3 kr_ kr_ kr_ ?hQ3 (Or.inl ⟨?hw3, ?hy3⟩) hHeld ?rest3
 case hi3 => exact rfl
 case hQ3 => exact fun _ _ _ h => h
 case hw3 => rfl
 case hy3 => exact hw_
 simp only [Act.put, List.setIfInBounds_toArray, List.set_cons_zero, List.set_cons_succ, List.getElem_toArray, List.getElem_cons_succ, List.getElem_cons_zero]
 refine wpAnyH_take (i := 4) (oi := ?oi4) (v := ?v4) ?hi4 kr_ kr_ kr_ ?hQ4 (Or.inl ⟨?hw4, ?hy4⟩) hHeld ?rest4
 case hi4 => exact rfl
 case hQ4 => exact fun _ _ _ h => h
 case hw4 => rfl
 case hy4 => exact hw_
 simp only [Act.put, List.setIfInBounds_toArray, List.set_cons_zero, List.set_cons_succ, List.getElem_toArray, List.getElem_cons_succ, List.getElem_cons_zero]
 refine wpAnyH_take (i := 5) (oi := ?oi5) (v := ?v5) ?hi5 kr_ kr_ kr_ ?hQ5 (Or.inl ⟨?hw5, ?hy5⟩) hHeld ?rest5
 case hi5 => exact rfl
 case hQ5 => exact fun _ _ _ h => h
 case hw5 => rfl
 case hy5 => exact hw_
 simp only [Act.put, List.setIfInBounds_toArray, List.set_cons_zero, List.set_cons_succ, List.getElem_toArray, List.getElem_cons_succ, List.getElem_cons_zero]
 refine wpAnyH_take (i := 6) (oi := ?oi6) (v := ?v6) ?hi6 kr_ kr_ kr_ ?hQ6 (Or.inl ⟨?hw6, ?hy6⟩) hHeld ?rest6
 case hi6 => exact rfl
 case hQ6 => exact fun _ _ _ h => h
 case hw6 => rfl
 case hy6 => exact hw_
 simp only [Act.put, List.setIfInBounds_toArray, List.set_cons_zero, List.set_cons_succ, List.getElem_toArray, List.getElem_cons_succ, List.getElem_cons_zero]
 refine wpAnyH_take (i := 7) (oi := ?oi7) (v := ?v7) ?hi7 kr_ kr_ kr_ ?hQ7 (Or.inl ⟨?hw7, ?hy7⟩) hHeld ?rest7
 case hi7 => exact rfl
 case hQ7 => exact fun _ _ _ h => h
 case hw7 => rfl
 case hy7 => exact hw_
 simp only [Act.put, List.setIfInBounds_toArray, List.set_cons_zero, List.set_cons_succ, List.getElem_toArray, List.getElem_cons_succ, List.getElem_cons_zero]
 refine wpAnyH_take (i := 8) (oi := ?oi8) (v := ?v8) ?hi8 kr_ kr_ kr_ ?hQ8 (Or.inl ⟨?hw8, ?hy8⟩) hHeld ?rest8
 case hi8 => exact rfl
 case hQ8 => exact fun _ _ _ h => h
 case hw8 => rfl
 case hy8 => exact hw_
 simp only [Act.put, List.setIfInBounds_toArray, List.set_cons_zero, List.set_cons_succ, List.getElem_toArray, List.getElem_cons_succ, List.getElem_cons_zero]
 refine wpAnyH_take (i := 9) (oi := ?oi9) (v := ?v9) ?hi9 kr_ kr_ kr_ ?hQ9 (Or.inl ⟨?hw9, ?hy9⟩) hHeld ?rest9
 case hi9 => exact rfl
 case hQ9 => exact fun _ _ _ h => h
 case hw9 => rfl
 case hy9 => exact hw_
 simp only [Act.put, List.setIfInBounds_toArray, List.set_cons_zero, List.set_cons_succ, List.getElem_toArray, List.getElem_cons_succ, List.getElem_cons_zero]
 refine wpAnyH_take (i := 11) (oi := ?oi11) (v := ?v11) ?hi11 kr_ kr_ kr_ ?hQ11 (Or.inl ⟨?hw11, ?hy11⟩) hHeld ?rest11
 case hi11 => exact rfl
 case hQ11 => exact fun _ _ _ h => h
 case hw11 => rfl
 case hy11 => exact hw_
 simp only [Act.put, List.setIfInBounds_toArray, List.set_cons_zero, List.set_cons_succ, List.getElem_toArray, List.getElem_cons_succ, List.getElem_cons_zero]
 refine wpAnyH_take (i := 13) (oi := ?oi13) (v := ?v13) ?hi13 kr_ kr_ kr_ ?hQ13 (Or.inl ⟨?hw13, ?hy13⟩) hHeld ?rest13
 case hi13 => exact rfl
 case hQ13 => exact fun _ _ _ h => h
 case hw13 => rfl
 case hy13 => exact hw_
 simp only [Act.put, List.setIfInBounds_toArray, List.set_cons_zero, List.set_cons_succ, List.getElem_toArray, List.getElem_cons_succ, List.getElem_cons_zero]
 refine wpAnyH_take (i := 14) (oi := ?oi14) (v := ?v14) ?hi14 kr_ kr_ kr_ ?hQ14 (Or.inl ⟨?hw14, ?hy14⟩) hHeld ?rest14
 case hi14 => exact rfl
 case hQ14 => exact fun _ _ _ h => h
 case hw14 => rfl
 case hy14 => exact hw_
 simp only [Act.put, List.setIfInBounds_toArray, List.set_cons_zero, List.set_cons_succ, List.getElem_toArray, List.getElem_cons_succ, List.getElem_cons_zero]
 refine wpAnyH_take (i := 15) (oi := ?oi15) (v := ?v15) ?hi15 kr_ kr_ kr_ ?hQ15 (Or.inl ⟨?hw15, ?hy15⟩) hHeld ?rest15
 case hi15 => exact rfl
 case hQ15 => exact fun _ _ _ h => h
 case hw15 => rfl
 case hy15 => exact hw_
 simp only [Act.put, List.setIfInBounds_toArray, List.set_cons_zero, List.set_cons_succ, List.getElem_toArray, List.getElem_cons_succ, List.getElem_cons_zero]
 refine wpAnyH_ready (rs := [10]) kr_ (by simp) ?_
 refine AllReadyH.cons (o := _) rfl (fun K hK => ?_) AllReadyH.nil
 (try simp only [List.getElem_toArray, List.getElem_cons_succ, List.getElem_cons_zero])
 go_simp
 go_at_call 72; refine (HA2.out _ _ _ _ HR.out).mono ?_; intro e w1 h; obtain ⟨E5, k5_, l5_, he, hsn, hc⟩ := h; subst he; replace hk := hk.trans hc sb_; (try replace HQ := hid (HQ.out.kept hc)); (try replace HR := hid (HR.out.kept hc)); (try replace HN5 := hid (HN5.out.kept hc)); (try replace HN6 := hid (HN6.out.kept hc)); (try replace HN7 := hid (HN7.out.kept hc)); replace hw6 := hw6.trans hc sb_; have HN5 := hid hsn; clear hsn; clear hc; obtain ⟨k0, k1, k2, f0, f1, f2⟩ := cell3 (kept_heap hk HZ.out); clear d0 d1 d2; obtain ⟨d0, d1, d2⟩ := HSS.out _ hk
 refine hK.out _ _ ?_ (fun hHeld => ?_)
 ·exact (HSS.out _ hk).1
 clear hK K
 try simp only [Act.put, List.setIfInBounds_toArray, List.set_cons_zero, List.set_cons_succ, List.getElem_toArray, List.getElem_cons_succ, List.getElem_cons_zero]
 refine wpAnyH_ready (rs := [12]) kr_ (by simp) ?_
 refine AllReadyH.cons (o := _) rfl (fun K hK => ?_) AllReadyH.nil
 (try simp only [List.getElem_toArray, List.getElem_cons_succ, List.getElem_cons_zero])
 go_simp
 go_at_call 71; refine (HCM.out _ _ _ _ (HC0.out.trans hk sb_) HN5.out).mono ?_; intro e w1 h; obtain ⟨he, hc⟩ := h; subst he; replace hk := hk.trans hc sb_; (try replace HQ := hid (HQ.out.kept hc)); (try replace HR := hid (HR.out.kept hc)); (try replace HN5 := hid (HN5.out.kept hc)); (try replace HN6 := hid (HN6.out.kept hc)); (try replace HN7 := hid (HN7.out.kept hc)); replace hw6 := hw6.trans hc sb_; skip; clear hc; obtain ⟨k0, k1, k2, f0, f1, f2⟩ := cell3 (kept_heap hk HZ.out); clear d0 d1 d2; obtain ⟨d0, d1, d2⟩ := HSS.out _ hk
 refine hK.out _ _ ?_ (fun hHeld => ?_)
 ·exact (HSS.out _ hk).1
 clear hK K
 try simp only [Act.put, List.setIfInBounds_toArray, List.set_cons_zero, List.set_cons_succ, List.getElem_toArray, List.getElem_cons_succ, List.getElem_cons_zero]
 refine wpAnyH_take (i := 16) (oi := ?oi16) (v := ?v16) ?hi16 kr_ kr_ kr_ ?hQ16 (Or.inl ⟨?hw16, ?hy16⟩) hHeld ?rest16
 case hi16 => exact rfl
 case hQ16 => exact fun _ _ _ h => h
 case hw16 => rfl
 case hy16 => exact hw_
 simp only [Act.put, List.setIfInBounds_toArray, List.set_cons_zero, List.set_cons_succ, List.getElem_toArray, List.getElem_cons_succ, List.getElem_cons_zero]
 refine wpAnyH_take (i := 17) (oi := ?oi17) (v := undef) ?hi17 kr_ kr_ kr_ ?hQ17 (Or.inr ⟨?hw17, rfl⟩) hHeld ?rest17
 case hi17 => exact rfl
 case hQ17 => exact fun _ _ _ h => h
 case hw17 => rfl
 simp only [Act.put, List.setIfInBounds_toArray, List.set_cons_zero, List.set_cons_succ, List.getElem_toArray, List.getElem_cons_succ, List.getElem_cons_zero]
 refine wpAnyH_take (i := 18) (oi := ?oi18) (v := undef) ?hi18 kr_ kr_ kr_ ?hQ18 (Or.inr ⟨?hw18, rfl⟩) hHeld ?rest18
 case hi18 => exact rfl
 case hQ18 => exact fun _ _ _ h => h
 case hw18 => rfl
 simp only [Act.put, List.setIfInBounds_toArray, List.set_cons_zero, List.set_cons_succ, List.getElem_toArray, List.getElem_cons_succ, List.getElem_cons_zero]
 refine wpAnyH_take (i := 19) (oi := ?oi19) (v := undef) ?hi19 kr_ kr_ kr_ ?hQ19 (Or.inr ⟨?hw19, rfl⟩) hHeld ?rest19
 case hi19 => exact rfl
 case hQ19 => exact fun _ _ _ h => h
 case hw19 => rfl
 simp only [Act.put, List.setIfInBounds_toArray, List.set_cons_zero, List.set_cons_succ, List.getElem_toArray, List.getElem_cons_succ, List.getElem_cons_zero]
 refine wpAnyH_take (i := 20) (oi := ?oi20) (v := undef) ?hi20 kr_ kr_ kr_ ?hQ20 (Or.inr ⟨?hw20, rfl⟩) hHeld ?rest20
 case hi20 => exact rfl
 case hQ20 => exact fun _ _ _ h => h
 case hw20 => rfl
 simp only [Act.put, List.setIfInBounds_toArray, List.set_cons_zero, List.set_cons_succ, List.getElem_toArray, List.getElem_cons_succ, List.getElem_cons_zero]
 refine wpAnyH_take (i := 21) (oi := ?oi21) (v := undef) ?hi21 kr_ kr_ kr_ ?hQ21 (Or.inr ⟨?hw21, rfl⟩) hHeld ?rest21
 case hi21 => exact rfl
 case hQ21 => exact fun _ _ _ h => h
 case hw21 => rfl
 simp only [Act.put, List.setIfInBounds_toArray, List.set_cons_zero, List.set_cons_succ, List.getElem_toArray, List.getElem_cons_succ, List.getElem_cons_zero]
 refine wpAnyH_take (i := 22) (oi := ?oi22) (v := ?v22) ?hi22 kr_ kr_ kr_ ?hQ22 (Or.inl ⟨?hw22, ?hy22⟩) hHeld ?rest22
 case hi22 => exact rfl
 case hQ22 => exact fun _ _ _ h => h
 case hw22 => rfl
 case hy22 => exact hw_
 simp only [Act.put, List.setIfInBounds_toArray, List.set_cons_zero, List.set_cons_succ, List.getElem_toArray, List.getElem_cons_succ, List.getElem_cons_zero]
 refine wpAnyH_ready (rs := [23]) kr_ (by simp) ?_
 refine AllReadyH.cons (o := _) rfl (fun K hK => ?_) AllReadyH.nil
 (try simp only [List.getElem_toArray, List.getElem_cons_succ, List.getElem_cons_zero])
 go_simp
 go_at_call 70; refine (HRD.out _).mono ?_; intro e w1 h; obtain ⟨he, hc⟩ := h; subst he; replace hk := hk.trans hc sb_; (try replace HQ := hid (HQ.out.kept hc)); (try replace HR := hid (HR.out.kept hc)); (try replace HN5 := hid (HN5.out.kept hc)); (try replace HN6 := hid (HN6.out.kept hc)); (try replace HN7 := hid (HN7.out.kept hc)); replace hw6 := hw6.trans hc sb_; skip; clear hc; obtain ⟨k0, k1, k2, f0, f1, f2⟩ := cell3 (kept_heap hk HZ.out); clear d0 d1 d2; obtain ⟨d0, d1, d2⟩ := HSS.out _ hk
 refine hK.out _ _ ?_ (fun hHeld => ?_)
 ·exact (HSS.out _ hk).1
 clear hK K
 try simp only [Act.put, List.setIfInBounds_toArray, List.set_cons_zero, List.set_cons_succ, List.getElem_toArray, List.getElem_cons_succ, List.getElem_cons_zero]
 refine wpAnyH_take (i := 24) (oi := ?oi24) (v := ?v24) ?hi24 kr_ kr_ kr_ ?hQ24 (Or.inl ⟨?hw24, ?hy24⟩) hHeld ?rest24
 case hi24 => exact rfl
 case hQ24 => exact fun _ _ _ h => h
 case hw24 => rfl
 case hy24 => exact hw_
 simp only [Act.put, List.setIfInBounds_toArray, List.set_cons_zero, List.set_cons_succ, List.getElem_toArray, List.getElem_cons_succ, List.getElem_cons_zero]
 refine wpAnyH_done kr_ ?_ _
 all_goals (go_wp2_with (first | (go_at_call 60; refine (wholeOf_sn n1 sb HQ.out HH.out).mono ?_; intro e w1 h; obtain ⟨he, hc⟩ := h; subst he; replace hk := hk.trans hc sb_; (try replace HQ := hid (HQ.out.kept hc)); (try replace HR := hid (HR.out.kept hc)); (try replace HN5 := hid (HN5.out.kept hc)); (try replace HN6 := hid (HN6.out.kept hc)); (try replace HN7 := hid (HN7.out.kept hc)); skip; clear hc; obtain ⟨k0, k1, k2, f0, f1, f2⟩ := cell3 (kept_heap hk HZ.out))); refine bodyPost_ret (v := .agg #[.bool sb, .slice EQ 0 lq, .int .i64 e0]) (by rw [results_cell_row rfl _ _ (w.heap.size + 1) _ _ _ _ rfl (store3 (kept_heap hk HZ.out) _ _ _) Tryz.underlying64 rfl sdec_size]) rfl ⟨_, _, _, rfl, sn_end3 HQ.out (kept_heap hk HZ.out) (by simp) _ _ _, chg3 (HC0.out.trans hk sb_) (by omega) _ _ _⟩)
end Go.Proofs.YtbjhnckboimliaaGreatDoor
namespace Go.Proofs.YtbjhnckboimliaaGreatDoor
open Go.RowKit
set_option linter.unusedVariables false
set_option linter.unusedSimpArgs false
set_option maxRecDepth 20000
theorem rhe_le1 {N x : Nat} : rhe N x ≤ N / x + 1 := by unfold rhe; split <;> omega
theorem Round_any {w : World} {A D1 : Option Addr} {n c p1 q1 a x : Nat} (n1 sb : Bool) (p : Nat) (ha : SN w A n c a) (hx : SN w D1 p1 q1 x) (ha1 : a < tn 850) (hx1 : x < tn 850) (hx0 : 0 < x) (hp : p ≤ 19)
  (hsb : (n1 && rhe (a * 10 ^ p) x != 0) = sb) :
  Calls Tryz.prog 38 #[.agg #[.bool n1, .slice A n c, .slice D1 p1 q1], .int .i64 (p : Int), .int .i64 5] w (PDN w sb (rhe (a * 10 ^ p) x) (-(p : Int))) := by
 by_cases hr : (a * 10 ^ p) % x = 0
 ·have e : rhe (a * 10 ^ p) x = (a * 10 ^ p) / x := rhe_no (by rw [hr]; omega)
  rw [e] at hsb ⊢
  exact Round_exact n1 sb p ha hx ha1 hx1 hx0 hp hr hsb
 ·by_cases hup : x < 2 * ((a * 10 ^ p) % x) ∨ (x = 2 * ((a * 10 ^ p) % x) ∧ ((a * 10 ^ p) / x) % 2 = 1)
  ·rw [rhe_up hup] at hsb ⊢
   by_cases hq : (a * 10 ^ p) / x = 0
   ·exact Round_zup n1 sb p ha hx ha1 hx1 hx0 hp hr hq hup hsb
   ·exact Round_qup n1 sb p ha hx ha1 hx1 hx0 hp hr hq hup hsb
  ·rw [rhe_no hup] at hsb ⊢
   by_cases hq : (a * 10 ^ p) / x = 0
   ·exact Round_zno n1 sb p ha hx ha1 hx1 hx0 hp hr hq hup hsb
   ·exact Round_qno n1 sb p ha hx ha1 hx1 hx0 hp hr hq hup hsb
def atP (a x : Nat) (n : Nat) : Nat := rhe (a * 10 ^ n) x
structure Places (a x : Nat) : Prop where
 pos : 0 < x
def PFixed (w : World) (n1 : Bool) (f : Nat → Nat) (o : Option Nat) (e : Ending) (w' : World) : Prop := Chg (fun _ => False) w w' ∧ match o with
 | some R => ∃ (sb : Bool) (E : Option Addr) (k l : Nat), e = .returned (.tuple #[.agg #[.bool sb, .slice E k l, .int .i64 (-(R : Int))], .bool true]) ∧ SN w' E k l (f R) ∧ (n1 && f R != 0) = sb
 | none => e = .returned (.tuple #[.agg #[.bool false, .slice none 0 0, .int .i64 0], .bool false])
theorem sdec_result {fn : Func} {p u : Tmp} (h : fn.results = #[.cell p 64, .tmp u]) (tmps : Array Value) (w : World) (g : Nat) (a b d v : Value) (T : TypeId)
  (hp : tmps.getD p undef = .pointer (some ⟨g, 0, none⟩)) (hu : tmps.getD u undef = v) (hg : w.heap[g]? = some (.cells #[a, b, d] T (0, 0))) :
  (results fn tmps).run Tryz.prog w = .ok (.tuple #[.agg #[a, b, d], v]) w := by
 rw [results_cell_tmp h, hp, hu]
 have hl := run_loadVar_row (P := Tryz.prog) w g T 64 #[a, b, d] (0, 0) _ hg Tryz.underlying64 rfl sdec_size
 simp [asAddr, hl, Result.andThen]
set_option maxHeartbeats 4000000 in
theorem Fixed_any {w : World} {A D1 : Option Addr} {n c p1 q1 a x : Nat} (n1 : Bool) (ha : SN w A n c a) (hx : SN w D1 p1 q1 x) (ha1 : a < tn 850) (hx1 : x < tn 850) (hpl : Places a x) (o : Option Nat) (ho : room (10 ^ 19) (atP a x) 19 = o) :
  Calls Tryz.prog 51 #[.agg #[.bool n1, .slice A n c, .slice D1 p1 q1], .int .i64 19] w (PFixed w n1 (atP a x) o) := by
 have hc0 := ((Chg.refl (fun _ => False) w).alloc (.cells #[.bool n1, .slice A n c, .slice D1 p1 q1] 34)).alloc (.cells #[.bool false, .slice none 0 0, .int .i64 0] 64)
 have hB0 : ((w.alloc (.cells #[.bool n1, .slice A n c, .slice D1 p1 q1] 34)).alloc (.cells #[.bool false, .slice none 0 0, .int .i64 0] 64)).heap[w.heap.size]? = some (.cells #[.bool n1, .slice A n c, .slice D1 p1 q1] 34 (0, 0)) := by
  rw [Below.heap_alloc _ _ _ (by simp)]; exact heap_alloc_new _ _
 have hB1 : ((w.alloc (.cells #[.bool n1, .slice A n c, .slice D1 p1 q1] 34)).alloc (.cells #[.bool false, .slice none 0 0, .int .i64 0] 64)).heap[w.heap.size + 1]? = some (.cells #[.bool false, .slice none 0 0, .int .i64 0] 64 (0, 0)) := heap_alloc2_new _ _ _
 have HRD := hid (fun (p : Nat) (hp : p ≤ 19) (sb : Bool) (hsb : (n1 && rhe (a * 10 ^ p) x != 0) = sb) w1 (h : Chg (fun _ => False) w w1) => Round_any n1 sb p (ha.kept h) (hx.kept h) ha1 hx1 hpl.pos hp hsb)
 have HB := hid (fun w1 (h : Chg (fun _ => False) ((w.alloc (.cells #[.bool n1, .slice A n c, .slice D1 p1 q1] 34)).alloc (.cells #[.bool false, .slice none 0 0, .int .i64 0] 64)) w1) => cell3 (kept_heap h hB0))
 have HZ := hid hB1
 have HC0 := hid hc0
 have HO := hid ho
 have hbd : ∀ p, p ≤ 19 → rhe (a * 10 ^ p) x < tn 1800 := by
  intro p hp
  have h1 := rhe_le1 (N := a * 10 ^ p) (x := x)
  have h2 := Nat.div_le_self (a * 10 ^ p) x
  have h3 : a * 10 ^ p < tn (850 + 20) := mul_tn ha1 (Nat.pow_lt_pow_right (by omega) (show p < 20 by omega))
  have h4 := two_tn h3 (lt_tn (j := 1) (show 1 < 10 ^ 1 by decide) (show 1 ≤ 850 + 20 by omega)) (show 850 + 20 < 1800 by omega)
  omega
 have HBD := hid hbd
 obtain ⟨d0, d1, d2, _, _, _⟩ := HB.out _ (Chg.refl _ _)
 clear ha hx ha1 hx1 hpl hc0 hB0 hB1 hbd ho
 go_enter Tryz.func51, Tryz.ntmps51
 go_wp2
 go_loopw [6] (fun i wr => ∃ k : Nat, k ≤ 20 ∧ i = .int .i64 ((k : Int) - 1) ∧ Hid (∀ m, k ≤ m → m ≤ 19 → 10 ^ 19 ≤ atP a x m) ∧ Hid (Chg (fun _ => False) ((w.alloc (.cells #[.bool n1, .slice A n c, .slice D1 p1 q1] 34)).alloc (.cells #[.bool false, .slice none 0 0, .int .i64 0] 64)) wr))
  (fun i _ => (intOf i + 1).toNat)
 case atStart => exact ⟨20, Nat.le_refl _, rfl, hid (fun m h1 h2 => by omega), hid (Chg.refl _ _)⟩
 case round =>
  obtain ⟨k, hk20, he, HF, HK⟩ := hrel
  subst he
  clear d0 d1 d2
  by_cases h0 : k = 0
  ·subst h0
   have hlt : ¬ (0 : Int) ≤ ((0 : Nat) : Int) - 1 := by omega
   obtain ⟨k0, k1, k2, f0, f1, f2⟩ := cell3 (kept_heap HK.out HZ.out)
   have hroom : room (10 ^ 19) (atP a x) 19 = none := room_none (fun n hn => HF.out n (by omega) hn)
   have hon : o = none := HO.out.symm.trans hroom
   clear hroom
   subst hon
   go_wp2_with fail
   refine bodyPost_ret (v := .tuple #[.agg #[.bool false, .slice none 0 0, .int .i64 0], .bool false]) (sdec_result rfl _ _ (w.heap.size + 1) _ _ _ _ _ rfl rfl (store3 (kept_heap HK.out HZ.out) _ _ _)) rfl ⟨chg3 (HC0.out.trans HK.out sb_) (by omega) _ _ _, rfl⟩
  ·obtain ⟨p, rfl⟩ : ∃ p, k = p + 1 := ⟨k - 1, by omega⟩
   have e1 : ((p + 1 : Nat) : Int) - 1 = (p : Int) := by omega
   rw [e1]
   have hge : (0 : Int) ≤ (p : Int) := by omega
   have hp19 : p ≤ 19 := by omega
   obtain ⟨sb, hsb⟩ : ∃ sb, (n1 && rhe (a * 10 ^ p) x != 0) = sb := ⟨_, rfl⟩
   have HR1 := hid (HRD.out p hp19 sb hsb wr (HC0.out.trans HK.out sb_))
   have HB1 := hid (HBD.out p hp19)
   obtain ⟨d0, d1, d2, _, _, _⟩ := HB.out _ HK.out
   obtain ⟨Z, hZ⟩ : ∃ Z, rhe (a * 10 ^ p) x = Z := ⟨_, rfl⟩
   have HZZ := hid hZ
   rw [hZ] at HR1 HB1 hsb
   have HSB := hid hsb
   clear hsb hZ
   obtain ⟨e0, he0⟩ : ∃ e0 : Int, -(p : Int) = e0 := ⟨_, rfl⟩
   rw [he0] at HR1
   have HE0 := hid he0
   clear he0
   by_cases hd : digs Z ≤ 19
   ·have hd' : ((digs Z : Nat) : Int) ≤ 19 := by omega
    have HD := hid hd
    clear hd
    go_wp2_with (first | (go_at_call 38; refine HR1.out.mono ?_; intro e w1 h; obtain ⟨E, kk, l, he, hsn, hc⟩ := h; subst he; have HS := hid (hsn.kept ((Chg.refl (fun _ => False) w1).alloc (.cells #[.bool sb, .slice E kk l, .int .i64 e0] 64))); have HK1 := hid ((HK.out.trans hc sb_).alloc (.cells #[.bool sb, .slice E kk l, .int .i64 e0] 64)); have HG := hid (heap_alloc_new w1 (.cells #[.bool sb, .slice E kk l, .int .i64 e0] 64)); clear hsn hc) | (go_at_call 26; refine (Digits_any HS.out HB1.out).mono ?_; intro e w2 h; obtain ⟨he, hc⟩ := h; subst he; have HK2 := hid (HK1.out.trans hc sb_); have HS2 := hid (HS.out.kept hc); obtain ⟨g0, g1, g2, _, _, _⟩ := cell3 (kept_heap hc HG.out); obtain ⟨k0, k1, k2, f0, f1, f2⟩ := cell3 (kept_heap HK2.out HZ.out); clear hc))
    have hlt : atP a x p < 10 ^ 19 := by unfold atP; rw [HZZ.out]; exact digs_le.1 HD.out
    have hroom : room (10 ^ 19) (atP a x) 19 = some p := room_some hp19 hlt (fun n h1 h2 => HF.out n (by omega) h2)
    have hon : o = some p := HO.out.symm.trans hroom
    clear hroom
    subst hon
    have hfz : atP a x p = Z := HZZ.out
    refine bodyPost_ret (v := .tuple #[.agg #[.bool sb, .slice E kk l, .int .i64 e0], .bool true]) (sdec_result rfl _ _ (w.heap.size + 1) _ _ _ _ _ rfl rfl (store3 (kept_heap HK2.out HZ.out) _ _ _)) rfl ⟨chg3 (HC0.out.trans HK2.out sb_) (by omega) _ _ _, sb, E, kk, l, by rw [HE0.out], by rw [hfz]; exact sn_end3 HS2.out (kept_heap HK2.out HZ.out) (by simp) _ _ _, by rw [hfz]; exact HSB.out⟩
   ·have hd' : ¬ ((digs Z : Nat) : Int) ≤ 19 := by omega
    have HD := hid hd
    clear hd
    go_wp2_with (first | (go_at_call 38; refine HR1.out.mono ?_; intro e w1 h; obtain ⟨E, kk, l, he, hsn, hc⟩ := h; subst he; have HS := hid (hsn.kept ((Chg.refl (fun _ => False) w1).alloc (.cells #[.bool sb, .slice E kk l, .int .i64 e0] 64))); have HK1 := hid ((HK.out.trans hc sb_).alloc (.cells #[.bool sb, .slice E kk l, .int .i64 e0] 64)); clear hsn hc) | (go_at_call 26; refine (Digits_any HS.out HB1.out).mono ?_; intro e w2 h; obtain ⟨he, hc⟩ := h; subst he; have HK2 := hid (HK1.out.trans hc sb_); clear hc))
    go_roundw
    case rel => exact ⟨p, by omega, by go_num, hid (fun m h1 h2 => by
     by_cases e : m = p
     ·subst e; unfold atP; rw [HZZ.out]; exact digs_lt.1 (by have := HD.out; omega)
     ·exact HF.out m (by omega) h2), HK2⟩
    case measure => first | (simp [intOf]; done) | (simp [intOf]; omega)
theorem fint_isOdd (x : Int) (hx : Wd x) (w : World) : Calls Tryz.prog 141 #[.int .u64 x] w (fun e w' => e = .returned (.bool (x % 2 != 0)) ∧ w = w') := by
 have hand := and1 x hx
 obtain ⟨k, hk⟩ : ∃ k, x % 2 = k := ⟨_, rfl⟩
 rw [hk] at hand ⊢
 obtain ⟨h0, h1⟩ := hx
 clear hk
 go_enter Tryz.func141, Tryz.ntmps141
 go_wp2_with fail
 go_ret
 exact ⟨by first | rfl | rw [hand] | simp [hand], rfl⟩
theorem fint_rsh_pos (x : Int) (n : Nat) (hx : Fi x) (hx1 : x ≠ 0) (hn1 : 1 ≤ n) (hn : n ≤ 19) (w : World) (ht : Tab w) :
  Calls Tryz.prog 120 #[.int .u64 x, .int .i64 n] w (fun e w' => e = .returned (.int .u64 (rheI x (10 ^ n))) ∧ w = w') := by
 have hcell := ht n (by omega)
 have hY := p10_pos n
 have hwp := p10_wd (k := n) (by omega)
 have hdef : rheI x (10 ^ n) = if 10 ^ n < 2 * (x % 10 ^ n) ∨ (10 ^ n = 2 * (x % 10 ^ n) ∧ (x / 10 ^ n) % 2 = 1) then x / 10 ^ n + 1 else x / 10 ^ n := rfl
 have hev : ∃ H, (10 : Int) ^ n = H * 2 := ⟨5 * 10 ^ (n - 1), by
  obtain ⟨k, rfl⟩ : ∃ k, n = k + 1 := ⟨n - 1, by omega⟩
  rw [Int.pow_succ, Nat.add_sub_cancel]; omega⟩
 obtain ⟨H, hH⟩ := hev
 generalize rheI x (10 ^ n) = RES at *
 generalize (10 : Int) ^ n = Y at *
 obtain ⟨hx0, hxm⟩ := hx
 obtain ⟨hY0, hY1⟩ := hwp
 obtain ⟨q, hq⟩ : ∃ q, x / Y = q := ⟨_, rfl⟩
 obtain ⟨r, hr⟩ : ∃ r, x % Y = r := ⟨_, rfl⟩
 have hdm := Int.mul_ediv_add_emod x Y
 have hr0 : 0 ≤ r := by rw [← hr]; exact Int.emod_nonneg _ (by omega)
 have hr1 : r < Y := by rw [← hr]; exact Int.emod_lt_of_pos _ hY
 have hq0 : 0 ≤ q := by rw [← hq]; exact Int.ediv_nonneg hx0 (by omega)
 have hqx : q ≤ x := by rw [← hq]; exact Int.ediv_le_self _ hx0
 rw [hq, hr] at hdef hdm
 have hqy : q * Y = x - r := by rw [Int.mul_comm]; omega
 have hqp : 0 ≤ x - r := by rw [← hqy]; exact Int.mul_nonneg hq0 hY0
 have hw1 : IntKind.u64.wrap (q * Y) = x - r := by rw [IntKind.wrap_u64, hqy]; omega
 have hw2 : IntKind.u64.wrap (x - (x - r)) = r := by rw [IntKind.wrap_u64]; omega
 have hw3 : IntKind.u64.wrap (q + 1) = q + 1 := by rw [IntKind.wrap_u64]; omega
 have hsh : Y / 2 = H := by omega
 have hb0 : (x == 0) = false := beq_eq_false_iff_ne.2 hx1
 have hle : ¬ (n : Int) ≤ 0 := by omega
 have hlt20 : (n : Int) < 20 := by omega
 have hge0 : (0 : Int) ≤ (n : Int) := by omega
 have hnge : ¬ (20 : Int) ≤ (n : Int) := by omega
 have HO := hid (fun w => fint_isOdd q ⟨hq0, by omega⟩ w)
 have hYne : Y ≠ 0 := by omega
 by_cases hc1 : H < r
 ·have hres : RES = q + 1 := by rw [hdef, if_pos (by omega)]
  rw [hres]
  have hd : decide (H < r) = true := decide_eq_true hc1
  clear hdef hres hdm hr hH hqy
  go_enter Tryz.func120, Tryz.ntmps120
  go_wp2_with fail
  go_ret
  exact ⟨rfl, rfl⟩
 ·have hd : decide (H < r) = false := decide_eq_false hc1
  by_cases hc2 : H = r
  ·have hb : (H == r) = true := beq_iff_eq.2 hc2
   by_cases ho : q % 2 = 1
   ·have hres : RES = q + 1 := by rw [hdef, if_pos (by omega)]
    rw [hres]
    have hb3 : (q % 2 != 0) = true := by rw [ho]; rfl
    clear hdef hres hdm hr hH hqy ho hc2
    go_enter Tryz.func120, Tryz.ntmps120
    go_wp2_with (go_at_call 141; refine (HO.out _).mono ?_; intro e w1 h; obtain ⟨he, hw⟩ := h; subst he; subst hw)
    go_ret
    exact ⟨rfl, rfl⟩
   ·have hres : RES = q := by rw [hdef, if_neg (by omega)]
    rw [hres]
    have ho' : q % 2 = 0 := by omega
    have hb3 : (q % 2 != 0) = false := by rw [ho']; rfl
    clear hdef hres hdm hr hH hqy ho ho' hc2
    go_enter Tryz.func120, Tryz.ntmps120
    go_wp2_with (go_at_call 141; refine (HO.out _).mono ?_; intro e w1 h; obtain ⟨he, hw⟩ := h; subst he; subst hw)
    go_ret
    exact ⟨rfl, rfl⟩
  ·have hb : (H == r) = false := beq_eq_false_iff_ne.2 hc2
   have hres : RES = q := by rw [hdef, if_neg (by omega)]
   rw [hres]
   clear hdef hres hdm hr hH hqy
   go_enter Tryz.func120, Tryz.ntmps120
   go_wp2_with fail
   go_ret
   exact ⟨rfl, rfl⟩
structure Two (w0 w2 : World) (p q : Nat) (x y : Int) : Prop where
 ex : ∃ bp bq, IntAt w2 p bp x ∧ IntAt w2 q bq y ∧ (∀ b, bp = some b → bq ≠ some b) ∧ (∀ b, bp = some b → w0.heap.size ≤ b) ∧ (∀ b, bq = some b → w0.heap.size ≤ b)
 p0 : w0.heap.size ≤ p
 q0 : w0.heap.size ≤ q
 ne : p ≠ q
 env : EnvD w2
 chg : Chg (fun _ => False) w0 w2
theorem Two.same {w0 w2 w3 : World} {p q : Nat} {x y : Int} (h : Two w0 w2 p q x y) (hc : Chg (fun _ => False) w2 w3) : Two w0 w3 p q x y := by
 obtain ⟨⟨bp, bq, h1, h2, h3, h4, h5⟩, a, b, c, d, e⟩ := h
 exact ⟨⟨bp, bq, h1.new hc, h2.new hc, h3, h4, h5⟩, a, b, c, d.kept hc, e.trans hc sb_⟩
theorem Two.start {w0 w1 w2 : World} {p q : Nat} (h1 : IntAt w1 p none 0) (hp : w0.heap.size ≤ p) (hc1 : Chg (fun _ => False) w0 w1) (h2 : IntAt w2 q none 0) (hq : w1.heap.size ≤ q) (hc2 : Chg (fun _ => False) w1 w2) (he : EnvD w0) : Two w0 w2 p q 0 0 := by
 have hl := h1.lt
 have hs := hc1.size
 exact ⟨⟨none, none, h1.new hc2, h2, (by intro b h; cases h), (by intro b h; cases h), (by intro b h; cases h)⟩, hp, by omega, by omega, (he.kept hc1).kept hc2, hc1.trans hc2 sb_⟩
theorem Two.step {w0 w2 w3 : World} {p q : Nat} {bp : Option Nat} {x y x' : Int} {r : Value} {e : Ending} (h : Two w0 w2 p q x y) (hp : IntAt w2 p bp x) (k : PInt w2 p bp x' r e w3) : Two w0 w3 p q x' y := by
 obtain ⟨⟨bp', bq, h1, h2, h3, h4, h5⟩, a, b, c, d, e⟩ := h
 obtain rfl := hp.uniq h1
 obtain ⟨_, bn, k1, k2, k3⟩ := k
 have hs := e.size
 refine ⟨⟨bn, bq, k1, h2.kept k3 ?_ ?_, ?_, ?_, h5⟩, a, b, c, d.int hp k3, e.trans k3 (fun i hi hh => ?_)⟩
 ·rintro (hh | hh)
  ·exact c hh.symm
  ·exact h2.ne hp hh rfl
 ·rintro b' hb (hh | hh)
  ·exact hp.ne h2 hb hh
  ·exact h3 b' hh hb
 ·intro b' hb hq
  rcases k2 with k | ⟨c', k, hk⟩
  ·exact h3 b' (k ▸ hb) hq
  ·rw [hb] at k
   simp only [Option.some.injEq] at k
   have := h2.blk hq
   omega
 ·intro b' hb
  rcases k2 with k | ⟨c', k, hk⟩
  ·exact h4 b' (k ▸ hb)
  ·rw [hb] at k
   simp only [Option.some.injEq] at k
   omega
 ·rcases hh with hh | hh
  ·omega
  ·have := h4 i hh; omega
theorem two_setFint {w0 w2 : World} {p q : Nat} {x y : Int} {c : Int} (h : Two w0 w2 p q x y) (hc : Wd c) :
  Calls Tryz.prog 100 #[.pointer (some ⟨p, 0, none⟩), .int .u64 c] w2 (fun e w3 => e = .returned (.tuple #[]) ∧ Two w0 w3 p q c y) := by
 obtain ⟨bp, bq, h1, h2, _⟩ := h.ex
 exact (bint_setFint p bp x c w2 h1 hc).mono (fun e w3 k => ⟨k.1, h.step h1 k⟩)
def PDecN (w : World) (neg : Bool) (o : Option (Nat × Nat)) (e : Ending) (w' : World) : Prop :=
 Chg (fun _ => False) w w' ∧ match o with
 | some (c, s) => e = .returned (.tuple #[decV (neg && (c : Int) != 0) c s, .nilIface])
 | none => ∃ t v, e = .returned (.tuple #[decV false 0 0, .iface t v])
theorem PDecN.op {w w' : World} {neg : Bool} {o : Option (Nat × Nat)} {e : Ending} (h : PDecN w neg o e w') :
  ∃ (a : Bool) (b c : Int) (v : Value), e = .returned (.tuple #[.agg #[.bool a, .int .i8 b, .int .u64 c], v]) ∧ Chg (fun _ => False) w w' ∧ PDecN w neg o (.returned (.tuple #[.agg #[.bool a, .int .i8 b, .int .u64 c], v])) w' := by
 have hh := h
 obtain ⟨h1, h2⟩ := h
 match o, h2, hh with
 | some (c, s), h2, hh => subst h2; exact ⟨_, _, _, _, rfl, h1, hh⟩
 | none, ⟨t, v, h2⟩, hh => subst h2; exact ⟨_, _, _, _, rfl, h1, hh⟩
theorem PDecN.move {w w1 w' w'' : World} {neg : Bool} {o : Option (Nat × Nat)} {e : Ending} (h : PDecN w1 neg o e w'') (c : Chg (fun _ => False) w w') : PDecN w neg o e w' := ⟨c, h.2⟩
theorem two_nfb {w0 w2 : World} {p q : Nat} {c s m : Nat} {y : Int} (neg : Bool) (h : Two w0 w2 p q (c : Int) y) (hc : digs c ≤ 80) (hs : s ≤ 57) (hm : m ≤ 19) :
  Calls Tryz.prog 105 #[.bool neg, .pointer (some ⟨p, 0, none⟩), .int .i64 s, .int .i64 m] w2 (PDecN w0 neg (from19 (10 ^ 19) 2 c s m)) := by
 obtain ⟨bp, bq, h1, h2, _, h4, _⟩ := h.ex
 refine (newFromBint_any neg p bp c s m w2 h1 h.env hc hs hm).mono (fun e w3 k => ⟨h.chg.trans k.1 (fun i hi hh => ?_), k.2⟩)
 have := h.p0
 rcases hh with hh | hh
 ·omega
 ·have := h4 i hh; omega
structure Bx (w w' : World) (dn : Bool) (ds : Nat) (dc : Int) (en : Bool) (es : Nat) (ec : Int) : Prop where
 h0 : w'.heap[w.heap.size]? = some (.cells #[.bool dn, .int .i8 ds, .int .u64 dc] 55 (0, 0))
 h1 : w'.heap[w.heap.size + 1]? = some (.cells #[.bool en, .int .i8 es, .int .u64 ec] 55 (0, 0))
 h2 : w'.heap[w.heap.size + 1 + 1]? = some (.cells #[.bool false, .int .i8 0, .int .u64 0] 55 (0, 0))
theorem Bx.start (w : World) (dn : Bool) (ds : Nat) (dc : Int) (en : Bool) (es : Nat) (ec : Int) : Bx w (((w.alloc (.cells #[.bool dn, .int .i8 ds, .int .u64 dc] 55)).alloc (.cells #[.bool en, .int .i8 es, .int .u64 ec] 55)).alloc (.cells #[.bool false, .int .i8 0, .int .u64 0] 55)) dn ds dc en es ec := by
 refine ⟨?_, ?_, ?_⟩
 ·rw [Below.heap_alloc _ _ _ (by simp; omega), Below.heap_alloc _ _ _ (by simp)]; exact heap_alloc_new _ _
 ·rw [Below.heap_alloc _ _ _ (by simp)]; exact heap_alloc2_new _ _ _
 ·have := heap_alloc_new (((w.alloc (.cells #[.bool dn, .int .i8 ds, .int .u64 dc] 55)).alloc (.cells #[.bool en, .int .i8 es, .int .u64 ec] 55))) (.cells #[.bool false, .int .i8 0, .int .u64 0] 55)
  simpa using this
theorem Bx.kept {w a b : World} {dn en : Bool} {ds es : Nat} {dc ec : Int} (h : Bx w a dn ds dc en es ec) (hc : Chg (fun _ => False) a b) : Bx w b dn ds dc en es ec :=
 have f : ∀ {k : Nat} {o : Obj}, a.heap[k]? = some o → b.heap[k]? = some o := fun {k o} e => (hc.keep k (Array.getElem?_eq_some_iff.1 e).1 (fun h => h)).trans e
 ⟨f h.h0, f h.h1, f h.h2⟩
theorem Bx.facts {w a : World} {dn en : Bool} {ds es : Nat} {dc ec : Int} (h : Bx w a dn ds dc en es ec) :
  a.cell? ⟨w.heap.size, 0, none⟩ = some (.bool dn) ∧ a.cell? ⟨w.heap.size, 1, none⟩ = some (.int .i8 ds) ∧ a.cell? ⟨w.heap.size, 2, none⟩ = some (.int .u64 dc) ∧
  a.cell? ⟨w.heap.size + 1, 0, none⟩ = some (.bool en) ∧ a.cell? ⟨w.heap.size + 1, 1, none⟩ = some (.int .i8 es) ∧ a.cell? ⟨w.heap.size + 1, 2, none⟩ = some (.int .u64 ec) ∧
  a.cell? ⟨w.heap.size + 1 + 1, 0, none⟩ = some (.bool false) ∧ a.cell? ⟨w.heap.size + 1 + 1, 1, none⟩ = some (.int .i8 0) ∧ a.cell? ⟨w.heap.size + 1 + 1, 2, none⟩ = some (.int .u64 0) ∧
  a.frozen? ⟨w.heap.size + 1 + 1, 0, none⟩ = false ∧ a.frozen? ⟨w.heap.size + 1 + 1, 1, none⟩ = false ∧ a.frozen? ⟨w.heap.size + 1 + 1, 2, none⟩ = false := by
 obtain ⟨a0, a1, a2, _, _, _⟩ := cell3 h.h0
 obtain ⟨b0, b1, b2, _, _, _⟩ := cell3 h.h1
 obtain ⟨c0, c1, c2, g0, g1, g2⟩ := cell3 h.h2
 exact ⟨a0, a1, a2, b0, b1, b2, c0, c1, c2, g0, g1, g2⟩
theorem PDec.op {w w' : World} {neg : Bool} {o : Option (Int × Nat)} {e : Ending} (h : PDec w neg o e w') :
  ∃ (a : Bool) (b c : Int) (v : Value), e = .returned (.tuple #[.agg #[.bool a, .int .i8 b, .int .u64 c], v]) ∧ Chg (fun _ => False) w w' ∧ PDec w neg o (.returned (.tuple #[.agg #[.bool a, .int .i8 b, .int .u64 c], v])) w' := by
 have hh := h
 obtain ⟨h1, h2⟩ := h
 match o, h2, hh with
 | some (c, s), h2, hh => subst h2; exact ⟨_, _, _, _, rfl, h1, hh⟩
 | none, ⟨t, v, h2⟩, hh => subst h2; exact ⟨_, _, _, _, rfl, h1, hh⟩
theorem PDec.move {w w1 w' w'' : World} {neg : Bool} {o : Option (Int × Nat)} {e : Ending} (h : PDec w1 neg o e w'') (c : Chg (fun _ => False) w w') : PDec w neg o e w' := ⟨c, h.2⟩
theorem start3 (w : World) (a b c : Obj) : Chg (fun _ => False) w (((w.alloc a).alloc b).alloc c) := (((Chg.refl _ _).alloc _).alloc _).alloc _
set_option maxHeartbeats 2000000 in
theorem addFint_gt_same (dn en : Bool) (dc ec : Int) (ds es m : Nat) (hdc : Fi dc) (hec : Fi ec) (hds : ds ≤ 19) (hes : es ≤ 19) (hm : m ≤ 19) (w : World) (he : EnvD w) (hlt : es < ds) (X : Int) (hX : ec * 10 ^ (ds - es) = X) (hXM : X ≤ 9999999999999999999) (hs : (dn == en) = true) (C : Int) (hC : dc + X = C) (hCM : C ≤ 9999999999999999999) :
  Calls Tryz.prog 86 #[.agg #[.bool dn, .int .i8 ds, .int .u64 dc], .agg #[.bool en, .int .i8 es, .int .u64 ec], .int .i64 m] w (PDec w dn (fromFint C ds m)) := by
 have c1 : (es : Int) < (ds : Int) := by omega
 have hw : IntKind.i64.wrap ((ds : Int) - (es : Int)) = ((ds - es : Nat) : Int) := by rw [show (ds : Int) - (es : Int) = ((ds - es : Nat) : Int) by omega]; exact IntWalk.i64_in _ (by omega)
 have hl := fun w ht => fint_lsh ec (ds - es) hec (by omega) w ht
 have hX0 := Int.mul_nonneg hec.1 (Int.le_of_lt (p10_pos (ds - es)))
 rw [hX] at hX0
 simp only [hX, if_pos hXM, decide_eq_true hXM] at hl
 have hXF : Fi X := ⟨hX0, hXM⟩
 clear hX
 have HL := hid hl
 clear hl
 have ha := fun w => fint_add dc X hdc hXF w
 simp only [hC, if_pos hCM, decide_eq_true hCM] at ha
 have hCF : Fi C := ⟨by rw [← hC]; exact Int.add_nonneg hdc.1 hXF.1, hCM⟩
 clear hC
 have HA := hid ha
 clear ha
 have hff := fun w he => newFromFint_any dn C ds m hCF hds hm w he
 have hS19 := hds
 generalize fromFint C ds m = o at *
 have HF := hid hff
 obtain ⟨hC0, hC1⟩ := hCF
 clear hff
 have HSD := hid (fun w => Scale_any dn dc ds hds w)
 have HSE := hid (fun w => Scale_any en ec es hes w)
 have HND := hid (fun w => IsNeg_any dn dc ds w)
 have HNE := hid (fun w => IsNeg_any en ec es w)
 have HBS := hid (Bx.start w dn ds dc en es ec)
 have HB := hid (fun w1 (h : Chg (fun _ => False) (((w.alloc (.cells #[.bool dn, .int .i8 ds, .int .u64 dc] 55)).alloc (.cells #[.bool en, .int .i8 es, .int .u64 ec] 55)).alloc (.cells #[.bool false, .int .i8 0, .int .u64 0] 55)) w1) => (HBS.out.kept h).facts)
 have HBX := hid (fun w1 (h : Chg (fun _ => False) (((w.alloc (.cells #[.bool dn, .int .i8 ds, .int .u64 dc] 55)).alloc (.cells #[.bool en, .int .i8 es, .int .u64 ec] 55)).alloc (.cells #[.bool false, .int .i8 0, .int .u64 0] 55)) w1) => (HBS.out.kept h).h2)
 have HC0 := hid (start3 w (.cells #[.bool dn, .int .i8 ds, .int .u64 dc] 55) (.cells #[.bool en, .int .i8 es, .int .u64 ec] 55) (.cells #[.bool false, .int .i8 0, .int .u64 0] 55))
 have hk := Chg.refl (fun _ => False) (((w.alloc (.cells #[.bool dn, .int .i8 ds, .int .u64 dc] 55)).alloc (.cells #[.bool en, .int .i8 es, .int .u64 ec] 55)).alloc (.cells #[.bool false, .int .i8 0, .int .u64 0] 55))
 have HT := hid (fun w1 (h : Chg (fun _ => False) (((w.alloc (.cells #[.bool dn, .int .i8 ds, .int .u64 dc] 55)).alloc (.cells #[.bool en, .int .i8 es, .int .u64 ec] 55)).alloc (.cells #[.bool false, .int .i8 0, .int .u64 0] 55)) w1) => ((he.kept HC0.out).kept h))
 obtain ⟨t, v, HOV⟩ : ∃ t v, Hid (∀ w1, Chg (fun _ => False) (((w.alloc (.cells #[.bool dn, .int .i8 ds, .int .u64 dc] 55)).alloc (.cells #[.bool en, .int .i8 es, .int .u64 ec] 55)).alloc (.cells #[.bool false, .int .i8 0, .int .u64 0] 55)) w1 → w1.cell? ⟨0, 0, none⟩ = some (.iface t v)) := by
  obtain ⟨t, v, h⟩ := (he.kept HC0.out).ovf
  exact ⟨t, v, hid (fun w1 hc => cell_kept h hc (fun h => h))⟩
 obtain ⟨d0, d1, d2, e0, e1, e2, r0, r1, r2, q0, q1, q2⟩ := HB.out _ hk
 have ov := HOV.out _ hk
 generalize hj : ds - es = j at *
 clear hj
 obtain ⟨hX0, hX1⟩ := hXF
 obtain ⟨hdc0, hdc1⟩ := hdc
 obtain ⟨hec0, hec1⟩ := hec
 clear he HBS
 go_enter Tryz.func86, Tryz.ntmps86
 go_wp2_with (first | (go_at_call 66; first | (refine (HSD.out _).mono ?_; intro e w1 h; obtain ⟨he1, hc1⟩ := h; subst he1; replace hk := hk.trans hc1 sb_; clear hc1 d0 d1 d2 e0 e1 e2 r0 r1 r2 q0 q1 q2 ov; obtain ⟨d0, d1, d2, e0, e1, e2, r0, r1, r2, q0, q1, q2⟩ := HB.out _ hk; have ov := HOV.out _ hk) | (refine (HSE.out _).mono ?_; intro e w1 h; obtain ⟨he1, hc1⟩ := h; subst he1; replace hk := hk.trans hc1 sb_; clear hc1 d0 d1 d2 e0 e1 e2 r0 r1 r2 q0 q1 q2 ov; obtain ⟨d0, d1, d2, e0, e1, e2, r0, r1, r2, q0, q1, q2⟩ := HB.out _ hk; have ov := HOV.out _ hk)) | (go_at_call 64; first | (refine (HND.out _).mono ?_; intro e w1 h; obtain ⟨he1, hc1⟩ := h; subst he1; replace hk := hk.trans hc1 sb_; clear hc1 d0 d1 d2 e0 e1 e2 r0 r1 r2 q0 q1 q2 ov; obtain ⟨d0, d1, d2, e0, e1, e2, r0, r1, r2, q0, q1, q2⟩ := HB.out _ hk; have ov := HOV.out _ hk) | (refine (HNE.out _).mono ?_; intro e w1 h; obtain ⟨he1, hc1⟩ := h; subst he1; replace hk := hk.trans hc1 sb_; clear hc1 d0 d1 d2 e0 e1 e2 r0 r1 r2 q0 q1 q2 ov; obtain ⟨d0, d1, d2, e0, e1, e2, r0, r1, r2, q0, q1, q2⟩ := HB.out _ hk; have ov := HOV.out _ hk)) | (go_at_call 94; refine (HL.out _ (HT.out _ hk).env.tab).mono ?_; intro e w2 h; obtain ⟨he1, he2⟩ := h; subst he1; subst he2) | (go_at_call 95; refine (HA.out _).mono ?_; intro e w2 h; obtain ⟨he1, he2⟩ := h; subst he1; subst he2) | (go_at_call 97; refine (HF.out _ (HT.out _ hk)).mono ?_; intro e w1 h; obtain ⟨na, nb, nc, nv, he1, hc1, hp⟩ := h.op; subst he1; replace hk := hk.trans hc1 sb_; clear h hc1 d0 d1 d2 e0 e1 e2 r0 r1 r2 q0 q1 q2 ov; obtain ⟨d0, d1, d2, e0, e1, e2, r0, r1, r2, q0, q1, q2⟩ := HB.out _ hk; have HP := hid hp; clear hp))
 refine bodyPost_ret (v := .tuple #[.agg #[.bool na, .int .i8 nb, .int .u64 nc], nv]) (dec_result rfl _ _ (w.heap.size + 1 + 1) _ _ _ _ 55 rfl rfl (store3 (HBX.out _ hk) _ _ _)) rfl (HP.out.move (chg3 (HC0.out.trans hk sb_) (by omega) _ _ _))
end Go.Proofs.YtbjhnckboimliaaGreatDoor
