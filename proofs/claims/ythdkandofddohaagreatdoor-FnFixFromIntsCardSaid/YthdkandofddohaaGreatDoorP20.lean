/- Part 20 of the proof. -/
import Derived.Test.YthdkandofddohaaGreatDoorP19
namespace Go.Proofs.YthdkandofddohaaGreatDoor
open Go.RowKit Go.Proofs.YthdkandofddohaaGreatDoorW.PrintWords Go.Proofs.YthdkandofddohaaGreatDoorW.PrintLast Go.Proofs.YthdkandofddohaaGreatDoorW.PrintMore PFnFixSubExact
set_option linter.unusedVariables false
set_option linter.unusedSimpArgs false
set_option maxRecDepth 20000
set_option maxHeartbeats 4000000 in
theorem Round_zno {w : World} {A D1 : Option Addr} {n c p1 q1 a x : Nat} (n1 sb : Bool) (p : Nat) (ha : SN w A n c a) (hx : SN w D1 p1 q1 x) (ha1 : a < tn 850) (hx1 : x < tn 850) (hx0 : 0 < x) (hp : p ≤ 19) (hr : (a * 10 ^ p) % x ≠ 0) (hq : (a * 10 ^ p) / x = 0) (hup : ¬ (x < 2 * ((a * 10 ^ p) % x) ∨ (x = 2 * ((a * 10 ^ p) % x) ∧ ((a * 10 ^ p) / x) % 2 = 1))) (hsb : (n1 && (a * 10 ^ p) / x != 0) = sb) :
  Calls Tryz.prog 39 #[.agg #[.bool n1, .slice A n c, .slice D1 p1 q1], .int .i64 (p : Int), .int .i64 5] w (PDN w sb ((a * 10 ^ p) / x) (-(p : Int))) := by
 have h19 : (10 : Nat) ^ p < 10 ^ 20 := Nat.pow_lt_pow_right (by omega) (by omega)
 have hN : a * 10 ^ p < tn (850 + 20) := mul_tn ha1 h19
 have hNd : a * 10 ^ p < tn 1764 := up_tn hN (by omega)
 have hR : (a * 10 ^ p) % x < tn 850 := Nat.lt_trans (Nat.mod_lt _ hx0) hx1
 have hRR : (a * 10 ^ p) % x + (a * 10 ^ p) % x < tn 1800 := by
  exact two_tn hR hR (by omega)
 have hQ : (a * 10 ^ p) / x < tn 1800 := Nat.lt_of_le_of_lt (Nat.div_le_self _ _) (up243 hN (by omega))
 have HP := hid (fun w1 => Pow10_any (w := w1) p (by omega))
 have HM := hid (fun w1 (E : Option Addr) (k l : Nat) (h : Chg (fun _ => False) w w1) (h1 : SN w1 E k l (10 ^ p)) => NatMul_any (ha.kept h) h1 (up243 ha1 (by omega)) (lt_tn h19 (by omega)))
 have HDv := hid (fun w1 (E : Option Addr) (k l : Nat) (h : Chg (fun _ => False) w w1) (h1 : SN w1 E k l (a * 10 ^ p)) => NatDiv_any h1 (hx.kept h) hNd (up_tn hx1 (by omega)) hx0)
 have HA2 := hid (fun w1 (E : Option Addr) (k l : Nat) (h1 : SN w1 E k l ((a * 10 ^ p) % x)) => NatAdd_any h1 h1 (up243 hR (by omega)) (up243 hR (by omega)))
 have HCM := hid (fun w1 (E : Option Addr) (k l : Nat) (h : Chg (fun _ => False) w w1) (h1 : SN w1 E k l ((a * 10 ^ p) % x + (a * 10 ^ p) % x)) => NatCmp_any h1 (hx.kept h) hRR (up243 hx1 (by omega)))
 have HO := hid (fun w1 => one_any (w := w1))
 have HA1 := hid (fun w1 (E : Option Addr) (k l : Nat) (G : Option Addr) (i j : Nat) (h1 : SN w1 E k l ((a * 10 ^ p) / x)) (h2 : SN w1 G i j 1) => NatAdd_any h1 h2 hQ (pow_tn (j := 0) (by omega)))
 have HH := hid hsb
 obtain ⟨e0, he0⟩ : ∃ e0 : Int, -(p : Int) = e0 := ⟨_, rfl⟩
 have hw : IntKind.i64.wrap (-(p : Int)) = e0 := by rw [← he0]; exact IntWalk.i64_in _ (by omega)
 have hge : (0 : Int) ≤ (p : Int) := by omega
 rw [he0]
 have HR0 := hid hr
 have HQ0 := hid hq
 obtain ⟨ob, hob⟩ : ∃ ob, ((a * 10 ^ p) / x % 2 == 1) = ob := ⟨_, rfl⟩
 have hub : (decide (0 < cmpN ((a * 10 ^ p) % x + (a * 10 ^ p) % x) x) || (cmpN ((a * 10 ^ p) % x + (a * 10 ^ p) % x) x == 0 && ob)) = false := by
  rw [← hob]
  exact round_not _ _ _ hup
 have HRD := hid (fun w => rounds_any n1 ob (cmpN ((a * 10 ^ p) % x + (a * 10 ^ p) % x) x) w)
 rw [hub] at HRD
 have HOB := hid hob
 have hobf : ob = false := by rw [← hob, hq]; rfl
 subst hobf
 generalize cmpN ((a * 10 ^ p) % x + (a * 10 ^ p) % x) x = cq at *
 clear he0 hsb ha hx ha1 hx1 hx0 hp h19 hN hNd hR hRR hQ hr hq hup hub hob
 generalize 10 ^ p = T at *
 generalize a * T = N at *
 obtain ⟨HC0, HD, hB0, hB1⟩ := box2 w #[.bool n1, .slice A n c, .slice D1 p1 q1] 34 #[.bool false, .slice none 0 0, .int .i64 0] 42
 have HZ := hid hB1
 have HSS := hid (fun (w1 : World) h => c3_ (cell3 (kept_heap (w' := w1) h hB0)))
 have HST := hid (fun w1 x0 x1 x2 h => And.intro (fr_ (w.heap.size + 1) x0 x1 x2 (HSS.out w1 h).1) (And.intro (fr_ (w.heap.size + 1) x0 x1 x2 (HSS.out w1 h).2.1) (fr_ (w.heap.size + 1) x0 x1 x2 (HSS.out w1 h).2.2)))
 clear hB0 hB1
 have hk := Chg.refl (fun _ => False) ((w.alloc (.cells #[.bool n1, .slice A n c, .slice D1 p1 q1] 34)).alloc (.cells #[.bool false, .slice none 0 0, .int .i64 0] 42))
 go_enter Tryz.func39, Tryz.ntmps39
 go_wp2_with fail
 have hk := hk.drew
 first | (go_region_held3 (fun w' => w'.cell? ⟨w.heap.size, 0, none⟩ = some (.bool n1) ∧ w'.cell? ⟨w.heap.size, 1, none⟩ = some (.slice A n c) ∧ w'.cell? ⟨w.heap.size, 2, none⟩ = some (.slice D1 p1 q1)) (first | with_reducible exact HSS.out _ hk | with_reducible exact HST.out _ _ _ _ hk | go_keep) (first | fail)) | fail
 go_wp2_with (first | (go_at_call 34; refine (HP.out _).mono ?_; intro e w1 h; obtain ⟨E1, k1_, l1_, he, hsn, hc⟩ := h; subst he; replace hk := hk.trans hc sb_; skip; have HN1 := hid hsn; clear hsn; clear hc; obtain ⟨k0, k1, k2, f0, f1, f2⟩ := cell3 (kept_heap hk HZ.out)) | (go_at_call 33; refine (HM.out _ _ _ _ (HC0.out.trans hk sb_) HN1.out).mono ?_; intro e w1 h; obtain ⟨E2, k2_, l2_, he, hsn, hc⟩ := h; subst he; replace hk := hk.trans hc sb_; skip; have HN2 := hid hsn; clear hsn; clear hc; obtain ⟨k0, k1, k2, f0, f1, f2⟩ := cell3 (kept_heap hk HZ.out)))
 go_at_call 63
 refine (HDv.out _ _ _ _ (HC0.out.trans hk sb_) HN2.out).mono ?_
 intro e w1 h
 obtain ⟨EQ, kq, lq, ER, kr, lr, he, hs1, hs2, hc⟩ := h
 subst he
 replace hk := hk.trans hc sb_
 clear hc
 obtain ⟨k0, k1, k2, f0, f1, f2⟩ := cell3 (kept_heap hk HZ.out)
 have hkr : 0 < kr := Nat.pos_of_ne_zero (fun h => HR0.out (hs2.zero.1 h))
 have hkq : kq = 0 := hs1.zero.2 HQ0.out
 subst hkq
 have hw6 := Chg.refl (fun _ => False) w1
 obtain ⟨d0, d1, d2⟩ := HSS.out _ hk
 have HQ := hid hs1
 have HR := hid hs2
 clear hs1 hs2
 go_wp2_with fail
 have hk := hk.drew
 have hw6 := hw6.drew
 replace HQ := hid (HQ.out.kept (Chg.refl (fun _ => False) w1).drew)
 replace HR := hid (HR.out.kept (Chg.refl (fun _ => False) w1).drew)
 refine wp_region_held_drew (S := fun w' => w'.cell? ⟨w.heap.size, 0, none⟩ = some (.bool n1)) kr_ ?_ (fun hHeld => ?_)
 ·exact (HSS.out _ hk).1
 refine wpAnyH_take (i := 0) (oi := ?oi0) (v := ?v0) ?hi0 kr_ kr_ kr_ ?hQ0 (Or.inl ⟨?hw0, ?hy0⟩) hHeld ?rest0
 case hi0 => exact rfl
 case hQ0 => exact fun _ _ _ h => h
 case hw0 => rfl
 case hy0 => exact hw_
 simp only [Act.put, List.setIfInBounds_toArray, List.set_cons_zero, List.set_cons_succ, List.getElem_toArray, List.getElem_cons_succ, List.getElem_cons_zero]
 refine wpAnyH_take (i := 1) (oi := ?oi1) (v := ?v1) ?hi1 kr_ kr_ kr_ ?hQ1 (Or.inl ⟨?hw1, ?hy1⟩) hHeld ?rest1
 case hi1 => exact rfl
 case hQ1 => exact fun _ _ _ h => h
 case hw1 => rfl
 case hy1 => exact hw_
 simp only [Act.put, List.setIfInBounds_toArray, List.set_cons_zero, List.set_cons_succ, List.getElem_toArray, List.getElem_cons_succ, List.getElem_cons_zero]
 refine wpAnyH_take (i := 2) (oi := ?oi2) (v := ?v2) ?hi2 kr_ kr_ kr_ ?hQ2 (Or.inl ⟨?hw2, ?hy2⟩) hHeld ?rest2
 case hi2 => exact rfl
 case hQ2 => exact fun _ _ _ h => h
 case hw2 => rfl
 case hy2 => exact hw_
 simp only [Act.put, List.setIfInBounds_toArray, List.set_cons_zero, List.set_cons_succ, List.getElem_toArray, List.getElem_cons_succ, List.getElem_cons_zero]
 refine wpAnyH_take (i := 3) (oi := ?oi3) (v := ?v3) ?hi3 kr_ kr_ kr_ ?hQ3 (Or.inl ⟨?hw3, ?hy3⟩) hHeld ?rest3
 case hi3 => exact rfl
 case hQ3 => exact fun _ _ _ h => h
 case hw3 => rfl
 case hy3 => exact hw_
 simp only [Act.put, List.setIfInBounds_toArray, List.set_cons_zero, List.set_cons_succ, List.getElem_toArray, List.getElem_cons_succ, List.getElem_cons_zero]
 refine wpAnyH_take (i := 4) (oi := ?oi4) (v := ?v4) ?hi4 kr_ kr_ kr_ ?hQ4 (Or.inl ⟨?hw4, ?hy4⟩) hHeld ?rest4
 case hi4 => exact rfl
 case hQ4 => exact fun _ _ _ h => h
 case hw4 => rfl
 case hy4 => exact hw_
 simp only [Act.put, List.setIfInBounds_toArray, List.set_cons_zero, List.set_cons_succ, List.getElem_toArray, List.getElem_cons_succ, List.getElem_cons_zero]
 refine wpAnyH_take (i := 5) (oi := ?oi5) (v := ?v5) ?hi5 kr_ kr_ kr_ ?hQ5 (Or.inl ⟨?hw5, ?hy5⟩) hHeld ?rest5
 case hi5 => exact rfl
 case hQ5 => exact fun _ _ _ h => h
 case hw5 => rfl
 case hy5 => exact hw_
 simp only [Act.put, List.setIfInBounds_toArray, List.set_cons_zero, List.set_cons_succ, List.getElem_toArray, List.getElem_cons_succ, List.getElem_cons_zero]
 refine wpAnyH_take (i := 6) (oi := ?oi6) (v := ?v6) ?hi6 kr_ kr_ kr_ ?hQ6 (Or.inl ⟨?hw6, ?hy6⟩) hHeld ?rest6
 case hi6 => exact rfl
 case hQ6 => exact fun _ _ _ h => h
 case hw6 => rfl
 case hy6 => exact hw_
 simp only [Act.put, List.setIfInBounds_toArray, List.set_cons_zero, List.set_cons_succ, List.getElem_toArray, List.getElem_cons_succ, List.getElem_cons_zero]
 refine wpAnyH_take (i := 7) (oi := ?oi7) (v := ?v7) ?hi7 kr_ kr_ kr_ ?hQ7 (Or.inl ⟨?hw7, ?hy7⟩) hHeld ?rest7
 case hi7 => exact rfl
 case hQ7 => exact fun _ _ _ h => h
 case hw7 => rfl
 case hy7 => exact hw_
 simp only [Act.put, List.setIfInBounds_toArray, List.set_cons_zero, List.set_cons_succ, List.getElem_toArray, List.getElem_cons_succ, List.getElem_cons_zero]
 refine wpAnyH_take (i := 8) (oi := ?oi8) (v := ?v8) ?hi8 kr_ kr_ kr_ ?hQ8 (Or.inl ⟨?hw8, ?hy8⟩) hHeld ?rest8
 case hi8 => exact rfl
 case hQ8 => exact fun _ _ _ h => h
 case hw8 => rfl
 case hy8 => exact hw_
 simp only [Act.put, List.setIfInBounds_toArray, List.set_cons_zero, List.set_cons_succ, List.getElem_toArray, List.getElem_cons_succ, List.getElem_cons_zero]
 refine wpAnyH_take (i := 9) (oi := ?oi9) (v := ?v9) ?hi9 kr_ kr_ kr_ ?hQ9 (Or.inl ⟨?hw9, ?hy9⟩) hHeld ?rest9
 case hi9 => exact rfl
 case hQ9 => exact fun _ _ _ h => h
 case hw9 => rfl
 case hy9 => exact hw_
 simp only [Act.put, List.setIfInBounds_toArray, List.set_cons_zero, List.set_cons_succ, List.getElem_toArray, List.getElem_cons_succ, List.getElem_cons_zero]
 refine wpAnyH_take (i := 11) (oi := ?oi11) (v := ?v11) ?hi11 kr_ kr_ kr_ ?hQ11 (Or.inl ⟨?hw11, ?hy11⟩) hHeld ?rest11
 case hi11 => exact rfl
 case hQ11 => exact fun _ _ _ h => h
 case hw11 => rfl
 case hy11 => exact hw_
 simp only [Act.put, List.setIfInBounds_toArray, List.set_cons_zero, List.set_cons_succ, List.getElem_toArray, List.getElem_cons_succ, List.getElem_cons_zero]
 refine wpAnyH_take (i := 13) (oi := ?oi13) (v := ?v13) ?hi13 kr_ kr_ kr_ ?hQ13 (Or.inl ⟨?hw13, ?hy13⟩) hHeld ?rest13
 case hi13 => exact rfl
 case hQ13 => exact fun _ _ _ h => h
 case hw13 => rfl
 case hy13 => exact hw_
 simp only [Act.put, List.setIfInBounds_toArray, List.set_cons_zero, List.set_cons_succ, List.getElem_toArray, List.getElem_cons_succ, List.getElem_cons_zero]
 refine wpAnyH_take (i := 14) (oi := ?oi14) (v := ?v14) ?hi14 kr_ kr_ kr_ ?hQ14 (Or.inl ⟨?hw14, ?hy14⟩) hHeld ?rest14
 case hi14 => exact rfl
 case hQ14 => exact fun _ _ _ h => h
 case hw14 => rfl
 case hy14 => exact hw_
 simp only [Act.put, List.setIfInBounds_toArray, List.set_cons_zero, List.set_cons_succ, List.getElem_toArray, List.getElem_cons_succ, List.getElem_cons_zero]
 refine wpAnyH_take (i := 15) (oi := ?oi15) (v := ?v15) ?hi15 kr_ kr_ kr_ ?hQ15 (Or.inl ⟨?hw15, ?hy15⟩) hHeld ?rest15
 case hi15 => exact rfl
 case hQ15 => exact fun _ _ _ h => h
 case hw15 => rfl
 case hy15 => exact hw_
 simp only [Act.put, List.setIfInBounds_toArray, List.set_cons_zero, List.set_cons_succ, List.getElem_toArray, List.getElem_cons_succ, List.getElem_cons_zero]
 refine wpAnyH_ready (rs := [10]) kr_ (by simp) ?_
 refine AllReadyH.cons (o := _) rfl (fun K hK => ?_) AllReadyH.nil
 (try simp only [List.getElem_toArray, List.getElem_cons_succ, List.getElem_cons_zero])
 go_simp
 go_at_call 61; refine (HA2.out _ _ _ _ HR.out).mono ?_; intro e w1 h; obtain ⟨E5, k5_, l5_, he, hsn, hc⟩ := h; subst he; replace hk := hk.trans hc sb_; (try replace HQ := hid (HQ.out.kept hc)); (try replace HR := hid (HR.out.kept hc)); (try replace HN5 := hid (HN5.out.kept hc)); (try replace HN6 := hid (HN6.out.kept hc)); (try replace HN7 := hid (HN7.out.kept hc)); replace hw6 := hw6.trans hc sb_; have HN5 := hid hsn; clear hsn; clear hc; obtain ⟨k0, k1, k2, f0, f1, f2⟩ := cell3 (kept_heap hk HZ.out); clear d0 d1 d2; obtain ⟨d0, d1, d2⟩ := HSS.out _ hk
 refine hK.out _ _ ?_ (fun hHeld => ?_)
 ·exact (HSS.out _ hk).1
 clear hK K
 try simp only [Act.put, List.setIfInBounds_toArray, List.set_cons_zero, List.set_cons_succ, List.getElem_toArray, List.getElem_cons_succ, List.getElem_cons_zero]
 refine wpAnyH_ready (rs := [12]) kr_ (by simp) ?_
 refine AllReadyH.cons (o := _) rfl (fun K hK => ?_) AllReadyH.nil
 (try simp only [List.getElem_toArray, List.getElem_cons_succ, List.getElem_cons_zero])
 go_simp
 go_at_call 60; refine (HCM.out _ _ _ _ (HC0.out.trans hk sb_) HN5.out).mono ?_; intro e w1 h; obtain ⟨he, hc⟩ := h; subst he; replace hk := hk.trans hc sb_; (try replace HQ := hid (HQ.out.kept hc)); (try replace HR := hid (HR.out.kept hc)); (try replace HN5 := hid (HN5.out.kept hc)); (try replace HN6 := hid (HN6.out.kept hc)); (try replace HN7 := hid (HN7.out.kept hc)); replace hw6 := hw6.trans hc sb_; skip; clear hc; obtain ⟨k0, k1, k2, f0, f1, f2⟩ := cell3 (kept_heap hk HZ.out); clear d0 d1 d2; obtain ⟨d0, d1, d2⟩ := HSS.out _ hk
 refine hK.out _ _ ?_ (fun hHeld => ?_)
 ·exact (HSS.out _ hk).1
 clear hK K
 try simp only [Act.put, List.setIfInBounds_toArray, List.set_cons_zero, List.set_cons_succ, List.getElem_toArray, List.getElem_cons_succ, List.getElem_cons_zero]
 refine wpAnyH_take (i := 16) (oi := ?oi16) (v := ?v16) ?hi16 kr_ kr_ kr_ ?hQ16 (Or.inl ⟨?hw16, ?hy16⟩) hHeld ?rest16
 case hi16 => exact rfl
 case hQ16 => exact fun _ _ _ h => h
 case hw16 => rfl
 case hy16 => exact hw_
 simp only [Act.put, List.setIfInBounds_toArray, List.set_cons_zero, List.set_cons_succ, List.getElem_toArray, List.getElem_cons_succ, List.getElem_cons_zero]
 refine wpAnyH_take (i := 17) (oi := ?oi17) (v := undef) ?hi17 kr_ kr_ kr_ ?hQ17 (Or.inr ⟨?hw17, rfl⟩) hHeld ?rest17
 case hi17 => exact rfl
 case hQ17 => exact fun _ _ _ h => h
 case hw17 => rfl
 simp only [Act.put, List.setIfInBounds_toArray, List.set_cons_zero, List.set_cons_succ, List.getElem_toArray, List.getElem_cons_succ, List.getElem_cons_zero]
 refine wpAnyH_take (i := 18) (oi := ?oi18) (v := undef) ?hi18 kr_ kr_ kr_ ?hQ18 (Or.inr ⟨?hw18, rfl⟩) hHeld ?rest18
 case hi18 => exact rfl
 case hQ18 => exact fun _ _ _ h => h
 case hw18 => rfl
 simp only [Act.put, List.setIfInBounds_toArray, List.set_cons_zero, List.set_cons_succ, List.getElem_toArray, List.getElem_cons_succ, List.getElem_cons_zero]
 refine wpAnyH_take (i := 19) (oi := ?oi19) (v := undef) ?hi19 kr_ kr_ kr_ ?hQ19 (Or.inr ⟨?hw19, rfl⟩) hHeld ?rest19
 case hi19 => exact rfl
 case hQ19 => exact fun _ _ _ h => h
 case hw19 => rfl
 simp only [Act.put, List.setIfInBounds_toArray, List.set_cons_zero, List.set_cons_succ, List.getElem_toArray, List.getElem_cons_succ, List.getElem_cons_zero]
 refine wpAnyH_take (i := 20) (oi := ?oi20) (v := undef) ?hi20 kr_ kr_ kr_ ?hQ20 (Or.inr ⟨?hw20, rfl⟩) hHeld ?rest20
 case hi20 => exact rfl
 case hQ20 => exact fun _ _ _ h => h
 case hw20 => rfl
 simp only [Act.put, List.setIfInBounds_toArray, List.set_cons_zero, List.set_cons_succ, List.getElem_toArray, List.getElem_cons_succ, List.getElem_cons_zero]
 refine wpAnyH_take (i := 21) (oi := ?oi21) (v := undef) ?hi21 kr_ kr_ kr_ ?hQ21 (Or.inr ⟨?hw21, rfl⟩) hHeld ?rest21
 case hi21 => exact rfl
 case hQ21 => exact fun _ _ _ h => h
 case hw21 => rfl
 simp only [Act.put, List.setIfInBounds_toArray, List.set_cons_zero, List.set_cons_succ, List.getElem_toArray, List.getElem_cons_succ, List.getElem_cons_zero]
 refine wpAnyH_take (i := 22) (oi := ?oi22) (v := ?v22) ?hi22 kr_ kr_ kr_ ?hQ22 (Or.inl ⟨?hw22, ?hy22⟩) hHeld ?rest22
 case hi22 => exact rfl
 case hQ22 => exact fun _ _ _ h => h
 case hw22 => rfl
 case hy22 => exact hw_
 simp only [Act.put, List.setIfInBounds_toArray, List.set_cons_zero, List.set_cons_succ, List.getElem_toArray, List.getElem_cons_succ, List.getElem_cons_zero]
 refine wpAnyH_ready (rs := [23]) kr_ (by simp) ?_
 refine AllReadyH.cons (o := _) rfl (fun K hK => ?_) AllReadyH.nil
 (try simp only [List.getElem_toArray, List.getElem_cons_succ, List.getElem_cons_zero])
 go_simp
 go_at_call 64; refine (HRD.out _).mono ?_; intro e w1 h; obtain ⟨he, hc⟩ := h; subst he; replace hk := hk.trans hc sb_; (try replace HQ := hid (HQ.out.kept hc)); (try replace HR := hid (HR.out.kept hc)); (try replace HN5 := hid (HN5.out.kept hc)); (try replace HN6 := hid (HN6.out.kept hc)); (try replace HN7 := hid (HN7.out.kept hc)); replace hw6 := hw6.trans hc sb_; skip; clear hc; obtain ⟨k0, k1, k2, f0, f1, f2⟩ := cell3 (kept_heap hk HZ.out); clear d0 d1 d2; obtain ⟨d0, d1, d2⟩ := HSS.out _ hk
 refine hK.out _ _ ?_ (fun hHeld => ?_)
 ·exact (HSS.out _ hk).1
 clear hK K
 try simp only [Act.put, List.setIfInBounds_toArray, List.set_cons_zero, List.set_cons_succ, List.getElem_toArray, List.getElem_cons_succ, List.getElem_cons_zero]
 refine wpAnyH_take (i := 24) (oi := ?oi24) (v := ?v24) ?hi24 kr_ kr_ kr_ ?hQ24 (Or.inl ⟨?hw24, ?hy24⟩) hHeld ?rest24
 case hi24 => exact rfl
 case hQ24 => exact fun _ _ _ h => h
 case hw24 => rfl
 case hy24 => exact hw_
 simp only [Act.put, List.setIfInBounds_toArray, List.set_cons_zero, List.set_cons_succ, List.getElem_toArray, List.getElem_cons_succ, List.getElem_cons_zero]
 refine wpAnyH_done kr_ ?_ _
 all_goals (go_wp2_with (first | (go_at_call 32; refine (wholeOf_sn n1 sb HQ.out HH.out).mono ?_; intro e w1 h; obtain ⟨he, hc⟩ := h; subst he; replace hk := hk.trans hc sb_; (try replace HQ := hid (HQ.out.kept hc)); (try replace HR := hid (HR.out.kept hc)); (try replace HN5 := hid (HN5.out.kept hc)); (try replace HN6 := hid (HN6.out.kept hc)); (try replace HN7 := hid (HN7.out.kept hc)); skip; clear hc; obtain ⟨k0, k1, k2, f0, f1, f2⟩ := cell3 (kept_heap hk HZ.out))); refine bodyPost_ret (v := .agg #[.bool sb, .slice EQ 0 lq, .int .i64 e0]) (by rw [results_cell_row rfl _ _ (w.heap.size + 1) _ _ _ _ rfl (store3 (kept_heap hk HZ.out) _ _ _) Tryz.underlying42 rfl sdec_size]) rfl ⟨_, _, _, rfl, sn_end3 HQ.out (kept_heap hk HZ.out) (by simp) _ _ _, chg3 (HC0.out.trans hk sb_) (by omega) _ _ _⟩)
end Go.Proofs.YthdkandofddohaaGreatDoor
namespace Go.Proofs.YthdkandofddohaaGreatDoor
open Go.RowKit
set_option linter.unusedVariables false
set_option linter.unusedSimpArgs false
set_option maxRecDepth 20000
theorem rhe_le1 {N x : Nat} : rhe N x ≤ N / x + 1 := by unfold rhe; split <;> omega
theorem Round_any {w : World} {A D1 : Option Addr} {n c p1 q1 a x : Nat} (n1 sb : Bool) (p : Nat) (ha : SN w A n c a) (hx : SN w D1 p1 q1 x) (ha1 : a < tn 850) (hx1 : x < tn 850) (hx0 : 0 < x) (hp : p ≤ 19)
  (hsb : (n1 && rhe (a * 10 ^ p) x != 0) = sb) :
  Calls Tryz.prog 39 #[.agg #[.bool n1, .slice A n c, .slice D1 p1 q1], .int .i64 (p : Int), .int .i64 5] w (PDN w sb (rhe (a * 10 ^ p) x) (-(p : Int))) := by
 by_cases hr : (a * 10 ^ p) % x = 0
 ·have e : rhe (a * 10 ^ p) x = (a * 10 ^ p) / x := rhe_no (by rw [hr]; omega)
  rw [e] at hsb ⊢
  exact Round_exact n1 sb p ha hx ha1 hx1 hx0 hp hr hsb
 ·by_cases hup : x < 2 * ((a * 10 ^ p) % x) ∨ (x = 2 * ((a * 10 ^ p) % x) ∧ ((a * 10 ^ p) / x) % 2 = 1)
  ·rw [rhe_up hup] at hsb ⊢
   by_cases hq : (a * 10 ^ p) / x = 0
   ·exact Round_zup n1 sb p ha hx ha1 hx1 hx0 hp hr hq hup hsb
   ·exact Round_qup n1 sb p ha hx ha1 hx1 hx0 hp hr hq hup hsb
  ·rw [rhe_no hup] at hsb ⊢
   by_cases hq : (a * 10 ^ p) / x = 0
   ·exact Round_zno n1 sb p ha hx ha1 hx1 hx0 hp hr hq hup hsb
   ·exact Round_qno n1 sb p ha hx ha1 hx1 hx0 hp hr hq hup hsb
def atP (a x : Nat) (n : Nat) : Nat := rhe (a * 10 ^ n) x
structure Places (a x : Nat) : Prop where
 pos : 0 < x
theorem sdec_result {fn : Func} {p u : Tmp} (h : fn.results = #[.cell p 42, .tmp u]) (tmps : Array Value) (w : World) (g : Nat) (a b d v : Value) (T : TypeId)
  (hp : tmps.getD p undef = .pointer (some ⟨g, 0, none⟩)) (hu : tmps.getD u undef = v) (hg : w.heap[g]? = some (.cells #[a, b, d] T (0, 0))) :
  (results fn tmps).run Tryz.prog w = .ok (.tuple #[.agg #[a, b, d], v]) w := by
 rw [results_cell_tmp h, hp, hu]
 have hl := run_loadVar_row (P := Tryz.prog) w g T 42 #[a, b, d] (0, 0) _ hg Tryz.underlying42 rfl sdec_size
 simp [asAddr, hl, Result.andThen]
theorem nb_f (w : World) (o : Obj) : (w.alloc o).heap.size = w.heap.size + 1 := by simp
theorem hand_f (w : World) (o : Obj) : (w.alloc o).drew.heap[w.heap.size]? = some o := heap_alloc_new w o
def POf (w : World) (sb : Bool) (a : Nat) (e0 : Int) (e : Ending) (w' : World) : Prop := ∃ (E : Option Addr) (k l : Nat), e = .returned (.tuple #[.agg #[.bool sb, .slice E k l, .int .i64 e0], .bool true]) ∧ SN w' E k l a ∧ Chg (fun _ => False) w w'
def GO (W : World) (sb : Bool) (a : Nat) (x : Value) (wx : World) : Prop := ∃ (g : Nat) (E : Option Addr) (k l : Nat), x = .pointer (some ⟨g, 0, none⟩) ∧ wx.heap[g]? = some (.cells #[.bool sb, .slice E k l] 32 (0, 0)) ∧ W.heap.size ≤ g ∧ SN wx E k l a ∧ Chg (fun _ => False) W wx
theorem go_new {W w1 : World} {sb : Bool} {a k l : Nat} {E : Option Addr} (h : SN w1 E k l a) (hk : Chg (fun _ => False) W w1) : GO W sb a (.pointer (some ⟨w1.heap.size, 0, none⟩)) (w1.alloc (.cells #[.bool sb, .slice E k l] 32)) :=
 ⟨w1.heap.size, E, k, l, rfl, heap_alloc_new _ _, hk.size, h.kept ((Chg.refl _ _).alloc _), hk.alloc _⟩
theorem go_old {W w1 : World} {sb b0 : Bool} {a k l g y0 z0 : Nat} {E x0 : Option Addr} (hg : w1.heap[g]? = some (.cells #[.bool b0, .slice x0 y0 z0] 32 (0, 0))) (hW : W.heap.size ≤ g) (h : SN w1 E k l a) (hk : Chg (fun _ => False) W w1) : GO W sb a (.pointer (some ⟨g, 0, none⟩)) ((w1.setCell ⟨g, 0, none⟩ (.bool sb)).setCell ⟨g, 1, none⟩ (.slice E k l)) :=
 ⟨g, E, k, l, rfl, store2 hg _ _, hW, sn_end2 h hg _ _, chg2 hk hW _ _⟩
set_option maxHeartbeats 4000000 in
theorem OfFix_ok {w : World} (n1 sb : Bool) (a s : Nat) (ha : a < 10 ^ 19) (hs : s ≤ 19) (hsb : (n1 && a != 0) = sb) :
  Calls Tryz.prog 41 #[.agg #[.bool n1, .int .u64 (a : Int), .int .i64 (s : Int)]] w (POf w sb a (-(s : Int))) := by
 have ha2 : (a : Int) < 18446744073709551616 := by
  have : (10 : Nat) ^ 19 = 10000000000000000000 := by decide
  omega
 have HP := hid (fun w1 => (NatFrom_any (w := w1) a ha2))
 have HDG := hid (fun (w1 : World) (E : Option Addr) (k l : Nat) (h : SN w1 E k l a) => Digits_any h (lt_tn ha (by omega)))
 have hd : ((digs a : Nat) : Int) ≤ 19 := by have := digs_le.2 ha; omega
 have hs0 : (0 : Int) ≤ (s : Int) := by omega
 have hs19 : (s : Int) ≤ 19 := by omega
 have c1 := decide_eq_true hd
 have c2 := decide_eq_true hs0
 have c3 := decide_eq_true hs19
 have hw0 : IntKind.i64.wrap (-(s : Int)) = -(s : Int) := IntWalk.i64_in _ (by omega)
 obtain ⟨v, hv⟩ : ∃ v : Int, (a : Int) = v := ⟨_, rfl⟩
 obtain ⟨s0, hs0'⟩ : ∃ v : Int, (s : Int) = v := ⟨_, rfl⟩
 obtain ⟨e0, he0⟩ : ∃ v : Int, -s0 = v := ⟨_, rfl⟩
 rw [hv] at HP ⊢
 rw [hs0'] at hs0 hs19 c2 c3 hw0 ⊢
 rw [he0] at hw0 ⊢
 obtain ⟨dg, hdg⟩ : ∃ v : Int, ((digs a : Nat) : Int) = v := ⟨_, rfl⟩
 rw [hdg] at HDG hd c1
 have hw1 : IntKind.i64.wrap (-s0) = e0 := by rw [he0]; exact hw0
 have HH := hid hsb
 clear ha ha2 hs hv hsb hs0' he0 hw0 hdg
 obtain ⟨HC0, HD, hB0, hB1⟩ := box2 w #[.bool n1, .int .u64 v, .int .i64 s0] 24 #[.bool false, .slice none 0 0, .int .i64 0] 42
 have HZ := hid hB1
 have HSS := hid (fun (w1 : World) h => c3_ (cell3 (kept_heap (w' := w1) h hB0)))
 obtain ⟨d0, d1, d2⟩ := HSS.out _ (Chg.refl _ _)
 obtain ⟨z0, z1, z2, y0, y1, y2⟩ := cell3 hB1
 have p0 := (Array.getElem?_eq_some_iff.1 hB0).1
 clear hB0 hB1
 have hk0 := Chg.refl (fun _ => False) ((w.alloc (.cells #[.bool n1, .int .u64 v, .int .i64 s0] 24)).alloc (.cells #[.bool false, .slice none 0 0, .int .i64 0] 42))
 have hk := hk0.drew
 go_enter Tryz.func41, Tryz.ntmps41
 go_upto_region 1 with fail
 go_cut [4] (fun x wx => GO ((w.alloc (.cells #[.bool n1, .int .u64 v, .int .i64 s0] 24)).alloc (.cells #[.bool false, .slice none 0 0, .int .i64 0] 42)) sb a x wx)
 case first =>
  go_region_held3 (fun w' => w'.cell? ⟨w.heap.size, 0, none⟩ = some (.bool n1) ∧ w'.cell? ⟨w.heap.size, 1, none⟩ = some (.int .u64 v) ∧ w'.cell? ⟨w.heap.size, 2, none⟩ = some (.int .i64 s0)) (first | with_reducible exact HSS.out _ (hk) | with_reducible exact HSS.out _ (hk.alloc _) | with_reducible exact HSS.out _ ((hk0.alloc _).drew) | with_reducible exact HSS.out _ (chg2 hk (by first | with_reducible assumption | (simp; done) | (simp; omega)) _ _)) (first | (go_at_call 31; refine (HP.out _).mono ?_; intro e w1 h; obtain ⟨E1, k1_, l1_, he, hsn, hc⟩ := h; subst he; have HN1 := hid hsn; (first | (have hq : Chg (fun _ => False) ((w.alloc (.cells #[.bool n1, .int .u64 v, .int .i64 s0] 24)).alloc (.cells #[.bool false, .slice none 0 0, .int .i64 0] 42)) w1 := (by with_reducible exact hk.trans hc sb_)) | (have hq : Chg (fun _ => False) ((w.alloc (.cells #[.bool n1, .int .u64 v, .int .i64 s0] 24)).alloc (.cells #[.bool false, .slice none 0 0, .int .i64 0] 42)) w1 := (by with_reducible exact ((hk0.alloc _).drew).trans hc sb_); have hy := kept_heap hc (hand_f _ _); simp only [nb_f] at hy; have HV := hid hy; clear hy)); replace hk := hq; clear hq hc hsn; have hz1 := hk.size) | (go_at_call 32; refine (wholeOf_sn n1 sb (by first | with_reducible exact HN1.out | with_reducible exact HN1.out.kept ((Chg.refl (fun _ => False) _).alloc _)) HH.out).mono ?_; intro e w2 h; obtain ⟨he, hc⟩ := h; subst he; (first | (have hq : Chg (fun _ => False) ((w.alloc (.cells #[.bool n1, .int .u64 v, .int .i64 s0] 24)).alloc (.cells #[.bool false, .slice none 0 0, .int .i64 0] 42)) w2 := (by with_reducible exact hk.trans hc sb_); replace HN1 := hid (HN1.out.kept hc); (try replace HV := hid (kept_heap hc HV.out))) | (have hq : Chg (fun _ => False) ((w.alloc (.cells #[.bool n1, .int .u64 v, .int .i64 s0] 24)).alloc (.cells #[.bool false, .slice none 0 0, .int .i64 0] 42)) w2 := (by with_reducible exact (hk.alloc _).trans hc sb_); have HV := hid (by with_reducible exact kept_heap hc (heap_alloc_new _ _)); replace HN1 := hid (HN1.out.kept (((Chg.refl (fun _ => False) _).alloc _).trans hc sb_)))); replace hk := hq; clear hq hc; (try (have hy := cell2 HV.out; obtain ⟨x0, x1, f0, f1⟩ := hy))))
  all_goals (go_wp2_with fail; go_meet; first | with_reducible exact go_new HN1.out hk | with_reducible exact go_old HV.out (by first | with_reducible assumption | (simp; done) | (simp; omega)) HN1.out hk)
 case rest =>
  obtain ⟨g, E1, k1_, l1_, hv, hx, hsz, hsn, hkc⟩ := hcut
  subst hv
  have HX := hid hx
  have HN := hid hsn
  have hgz : g ≠ w.heap.size + 1 := by simp only [nb_f] at hsz; omega
  have HS2 := hid (fun (w1 : World) h (h2 : Chg (fun _ => False) wc w1) => And.intro (HSS.out w1 h).1 (And.intro (HSS.out w1 h).2.1 (And.intro (HSS.out w1 h).2.2 (And.intro (cell2 (kept_heap h2 HX.out)).1 (cell2 (kept_heap h2 HX.out)).2.1))))
  have HS3 := hid (fun (w1 : World) x0 x1 x2 h (h2 : Chg (fun _ => False) wc w1) => And.intro (fr_ (w.heap.size + 1) x0 x1 x2 (HSS.out w1 h).1) (And.intro (fr_ (w.heap.size + 1) x0 x1 x2 (HSS.out w1 h).2.1) (And.intro (fr_ (w.heap.size + 1) x0 x1 x2 (HSS.out w1 h).2.2) (And.intro (far3 (z := w.heap.size + 1) (x0 := x0) (x1 := x1) (x2 := x2) (cell2 (kept_heap h2 HX.out)).1 hgz) (far3 (z := w.heap.size + 1) (x0 := x0) (x1 := x1) (x2 := x2) (cell2 (kept_heap h2 HX.out)).2.1 hgz)))))
  have hk := hkc.drew
  have hw := (Chg.refl (fun _ => False) wc).drew
  clear hx hsn hkc hsz d0 d1 d2 z0 z1 z2 y0 y1 y2
  obtain ⟨k0, k1, k2, f0, f1, f2⟩ := cell3 (kept_heap hk HZ.out)
  go_wp2_with fail
  first | (go_region_held3 (fun w' => w'.cell? ⟨w.heap.size, 0, none⟩ = some (.bool n1) ∧ w'.cell? ⟨w.heap.size, 1, none⟩ = some (.int .u64 v) ∧ w'.cell? ⟨w.heap.size, 2, none⟩ = some (.int .i64 s0) ∧ w'.cell? ⟨g, 0, none⟩ = some (.bool sb) ∧ w'.cell? ⟨g, 1, none⟩ = some (.slice E1 k1_ l1_)) (first | with_reducible exact HS2.out _ hk hw | with_reducible exact HS3.out _ _ _ _ hk hw) (first | (go_at_call 40; refine (HDG.out _ _ _ _ (HN.out.kept hw)).mono ?_; intro e w2 h; obtain ⟨he, hc⟩ := h; subst he; replace hk := hk.trans hc sb_; replace hw := hw.trans hc sb_; clear hc k0 k1 k2 f0 f1 f2; obtain ⟨k0, k1, k2, f0, f1, f2⟩ := cell3 (kept_heap hk HZ.out)))) | fail
  all_goals (go_wp2_with fail; refine bodyPost_ret (v := .tuple #[.agg #[.bool sb, .slice E1 k1_ l1_, .int .i64 e0], .bool true]) (sdec_result rfl _ _ (w.heap.size + 1) _ _ _ _ _ rfl rfl (store3 (kept_heap hk HZ.out) _ _ _)) rfl ⟨E1, k1_, l1_, rfl, sn_end3 (HN.out.kept hw) (kept_heap hk HZ.out) (by simp) _ _ _, chg3 (HC0.out.trans hk sb_) (by omega) _ _ _⟩)
def PFixed (w : World) (n1 : Bool) (f : Nat → Nat) (o : Option Nat) (e : Ending) (w' : World) : Prop := Chg (fun _ => False) w w' ∧ match o with
 | some R => ∃ (sb : Bool) (E : Option Addr) (k l : Nat), e = .returned (.tuple #[.agg #[.bool sb, .slice E k l, .int .i64 (-(R : Int))], .bool true]) ∧ SN w' E k l (f R) ∧ (n1 && f R != 0) = sb
 | none => e = .returned (.tuple #[.agg #[.bool false, .slice none 0 0, .int .i64 0], .bool false])
structure Two (w0 w2 : World) (p q : Nat) (x y : Int) : Prop where
 ex : ∃ bp bq, IntAt w2 p bp x ∧ IntAt w2 q bq y ∧ (∀ b, bp = some b → bq ≠ some b) ∧ (∀ b, bp = some b → w0.heap.size ≤ b) ∧ (∀ b, bq = some b → w0.heap.size ≤ b)
 p0 : w0.heap.size ≤ p
 q0 : w0.heap.size ≤ q
 ne : p ≠ q
 env : EnvD w2
 chg : Chg (fun _ => False) w0 w2
theorem Two.swap {w0 w2 : World} {p q : Nat} {x y : Int} (h : Two w0 w2 p q x y) : Two w0 w2 q p y x := by
 obtain ⟨⟨bp, bq, h1, h2, h3, h4, h5⟩, a, b, c, d, e⟩ := h
 exact ⟨⟨bq, bp, h2, h1, fun b hb h => h3 b h hb, h5, h4⟩, b, a, c.symm, d, e⟩
theorem Two.same {w0 w2 w3 : World} {p q : Nat} {x y : Int} (h : Two w0 w2 p q x y) (hc : Chg (fun _ => False) w2 w3) : Two w0 w3 p q x y := by
 obtain ⟨⟨bp, bq, h1, h2, h3, h4, h5⟩, a, b, c, d, e⟩ := h
 exact ⟨⟨bp, bq, h1.new hc, h2.new hc, h3, h4, h5⟩, a, b, c, d.kept hc, e.trans hc sb_⟩
theorem Two.start {w0 w1 w2 : World} {p q : Nat} (h1 : IntAt w1 p none 0) (hp : w0.heap.size ≤ p) (hc1 : Chg (fun _ => False) w0 w1) (h2 : IntAt w2 q none 0) (hq : w1.heap.size ≤ q) (hc2 : Chg (fun _ => False) w1 w2) (he : EnvD w0) : Two w0 w2 p q 0 0 := by
 have hl := h1.lt
 have hs := hc1.size
 exact ⟨⟨none, none, h1.new hc2, h2, (by intro b h; cases h), (by intro b h; cases h), (by intro b h; cases h)⟩, hp, by omega, by omega, (he.kept hc1).kept hc2, hc1.trans hc2 sb_⟩
theorem Two.step {w0 w2 w3 : World} {p q : Nat} {bp : Option Nat} {x y x' : Int} {r : Value} {e : Ending} (h : Two w0 w2 p q x y) (hp : IntAt w2 p bp x) (k : PInt w2 p bp x' r e w3) : Two w0 w3 p q x' y := by
 obtain ⟨⟨bp', bq, h1, h2, h3, h4, h5⟩, a, b, c, d, e⟩ := h
 obtain rfl := hp.uniq h1
 obtain ⟨_, bn, k1, k2, k3⟩ := k
 have hs := e.size
 refine ⟨⟨bn, bq, k1, h2.kept k3 ?_ ?_, ?_, ?_, h5⟩, a, b, c, d.int hp k3, e.trans k3 (fun i hi hh => ?_)⟩
 ·rintro (hh | hh)
  ·exact c hh.symm
  ·exact h2.ne hp hh rfl
 ·rintro b' hb (hh | hh)
  ·exact hp.ne h2 hb hh
  ·exact h3 b' hh hb
 ·intro b' hb hq
  rcases k2 with k | ⟨c', k, hk⟩
  ·exact h3 b' (k ▸ hb) hq
  ·rw [hb] at k
   simp only [Option.some.injEq] at k
   have := h2.blk hq
   omega
 ·intro b' hb
  rcases k2 with k | ⟨c', k, hk⟩
  ·exact h4 b' (k ▸ hb)
  ·rw [hb] at k
   simp only [Option.some.injEq] at k
   omega
 ·rcases hh with hh | hh
  ·omega
  ·have := h4 i hh; omega
theorem two_setFint {w0 w2 : World} {p q : Nat} {x y : Int} {c : Int} (h : Two w0 w2 p q x y) (hc : Wd c) :
  Calls Tryz.prog 80 #[.pointer (some ⟨p, 0, none⟩), .int .u64 c] w2 (fun e w3 => e = .returned (.tuple #[]) ∧ Two w0 w3 p q c y) := by
 obtain ⟨bp, bq, h1, h2, _⟩ := h.ex
 exact (bint_setFint p bp x c w2 h1 hc).mono (fun e w3 k => ⟨k.1, h.step h1 k⟩)
theorem two_setFint' {w0 w2 : World} {p q : Nat} {x y : Int} {c : Int} (h : Two w0 w2 q p y x) (hc : Wd c) :
  Calls Tryz.prog 80 #[.pointer (some ⟨p, 0, none⟩), .int .u64 c] w2 (fun e w3 => e = .returned (.tuple #[]) ∧ Two w0 w3 q p y c) :=
 (two_setFint h.swap hc).mono (fun _ _ k => ⟨k.1, k.2.swap⟩)
theorem two_lsh {w0 w2 : World} {p q : Nat} {c k : Nat} {y : Int} (h : Two w0 w2 p q (c : Int) y) (hc : digs c ≤ 80) (hk : k ≤ 99) :
  Calls Tryz.prog 81 #[.pointer (some ⟨p, 0, none⟩), .pointer (some ⟨p, 0, none⟩), .int .i64 k] w2 (fun e w3 => e = .returned (.tuple #[]) ∧ Two w0 w3 p q ((c * 10 ^ k : Nat) : Int) y) := by
 obtain ⟨bp, bq, h1, h2, _⟩ := h.ex
 have e : ((c * 10 ^ k : Nat) : Int) = (c : Int) * 10 ^ k := by rw [Int.natCast_mul, pow_cast]
 rw [e]
 exact (bint_lsh_same p bp (c : Int) k w2 h1 h.env.env (digs_bp hc) hk).mono (fun e w3 q => ⟨q.1, h.step h1 q⟩)
theorem two_lsh' {w0 w2 : World} {p q : Nat} {c k : Nat} {y : Int} (h : Two w0 w2 q p y (c : Int)) (hc : digs c ≤ 80) (hk : k ≤ 99) :
  Calls Tryz.prog 81 #[.pointer (some ⟨p, 0, none⟩), .pointer (some ⟨p, 0, none⟩), .int .i64 k] w2 (fun e w3 => e = .returned (.tuple #[]) ∧ Two w0 w3 q p y ((c * 10 ^ k : Nat) : Int)) :=
 (two_lsh h.swap hc hk).mono (fun _ _ k => ⟨k.1, k.2.swap⟩)
theorem two_add {w0 w2 : World} {p q : Nat} {a b : Nat} (h : Two w0 w2 p q (a : Int) (b : Int)) (ha : digs a ≤ 80) (hb : digs b ≤ 80) :
  Calls Tryz.prog 82 #[.pointer (some ⟨p, 0, none⟩), .pointer (some ⟨p, 0, none⟩), .pointer (some ⟨q, 0, none⟩)] w2 (fun e w3 => e = .returned (.tuple #[]) ∧ Two w0 w3 p q ((a + b : Nat) : Int) (b : Int)) := by
 obtain ⟨bp, bq, h1, h2, _⟩ := h.ex
 exact (bint_add p p q bp bp bq (a : Int) (a : Int) (b : Int) w2 h1 h1 h2 (digs_bp ha) (digs_bp hb)).mono (fun e w3 k => ⟨k.1, by rw [Int.natCast_add]; exact h.step h1 k⟩)
theorem two_subAbs {w0 w2 : World} {p q : Nat} {a b c : Nat} (h : Two w0 w2 p q (a : Int) (b : Int)) (ha : digs a ≤ 80) (hb : digs b ≤ 80) (hc : (if a < b then b - a else a - b) = c) :
  Calls Tryz.prog 84 #[.pointer (some ⟨p, 0, none⟩), .pointer (some ⟨p, 0, none⟩), .pointer (some ⟨q, 0, none⟩)] w2 (fun e w3 => e = .returned (.tuple #[]) ∧ Two w0 w3 p q (c : Int) (b : Int)) := by
 obtain ⟨bp, bq, h1, h2, _⟩ := h.ex
 have e : (if (b : Int) ≤ (a : Int) then (a : Int) - b else (b : Int) - a) = (c : Int) := by
  subst hc; split <;> split <;> omega
 have H := bint_subAbs p p q bp bp bq (a : Int) (a : Int) (b : Int) w2 h1 h1 h2 h.ne (digs_bp ha) (digs_bp hb)
 rw [e] at H
 exact H.mono (fun e w3 k => ⟨k.1, h.step h1 k⟩)
theorem two_cmp {w0 w2 : World} {p q : Nat} {a b : Nat} {k : Int} (h : Two w0 w2 p q (a : Int) (b : Int)) (hk : cmpI (b : Int) (a : Int) = k) :
  Calls Tryz.prog 83 #[.pointer (some ⟨q, 0, none⟩), .pointer (some ⟨p, 0, none⟩)] w2 (fun e w3 => e = .returned (.int .i64 k) ∧ Two w0 w3 p q (a : Int) (b : Int)) := by
 obtain ⟨bp, bq, h1, h2, _⟩ := h.ex
 subst hk
 exact (bint_cmp q p bq bp (b : Int) (a : Int) w2 h2 h1 h.ne.symm).mono (fun e w3 k => ⟨k.1, h.same (k.2.chg _)⟩)
def PDecN (w : World) (neg : Bool) (o : Option (Nat × Nat)) (e : Ending) (w' : World) : Prop :=
 Chg (fun _ => False) w w' ∧ match o with
 | some (c, s) => e = .returned (.tuple #[decV (neg && (c : Int) != 0) c s, .nilIface])
 | none => ∃ t v, e = .returned (.tuple #[decV false 0 0, .iface t v])
theorem PDecN.op {w w' : World} {neg : Bool} {o : Option (Nat × Nat)} {e : Ending} (h : PDecN w neg o e w') :
  ∃ (a : Bool) (b c : Int) (v : Value), e = .returned (.tuple #[.agg #[.bool a, .int .i8 b, .int .u64 c], v]) ∧ Chg (fun _ => False) w w' ∧ PDecN w neg o (.returned (.tuple #[.agg #[.bool a, .int .i8 b, .int .u64 c], v])) w' := by
 have hh := h
 obtain ⟨h1, h2⟩ := h
 match o, h2, hh with
 | some (c, s), h2, hh => subst h2; exact ⟨_, _, _, _, rfl, h1, hh⟩
 | none, ⟨t, v, h2⟩, hh => subst h2; exact ⟨_, _, _, _, rfl, h1, hh⟩
theorem PDecN.move {w w1 w' w'' : World} {neg : Bool} {o : Option (Nat × Nat)} {e : Ending} (h : PDecN w1 neg o e w'') (c : Chg (fun _ => False) w w') : PDecN w neg o e w' := ⟨c, h.2⟩
theorem two_nfb {w0 w2 : World} {p q : Nat} {c s m : Nat} {y : Int} (neg : Bool) (h : Two w0 w2 p q (c : Int) y) (hc : digs c ≤ 80) (hs : s ≤ 57) (hm : m ≤ 19) :
  Calls Tryz.prog 85 #[.bool neg, .pointer (some ⟨p, 0, none⟩), .int .i64 s, .int .i64 m] w2 (PDecN w0 neg (from19 (10 ^ 19) 2 c s m)) := by
 obtain ⟨bp, bq, h1, h2, _, h4, _⟩ := h.ex
 refine (newFromBint_any neg p bp c s m w2 h1 h.env hc hs hm).mono (fun e w3 k => ⟨h.chg.trans k.1 (fun i hi hh => ?_), k.2⟩)
 have := h.p0
 rcases hh with hh | hh
 ·omega
 ·have := h4 i hh; omega
structure Bx (w w' : World) (dn : Bool) (ds : Nat) (dc : Int) (en : Bool) (es : Nat) (ec : Int) : Prop where
 h0 : w'.heap[w.heap.size]? = some (.cells #[.bool dn, .int .i8 ds, .int .u64 dc] 54 (0, 0))
 h1 : w'.heap[w.heap.size + 1]? = some (.cells #[.bool en, .int .i8 es, .int .u64 ec] 54 (0, 0))
 h2 : w'.heap[w.heap.size + 1 + 1]? = some (.cells #[.bool false, .int .i8 0, .int .u64 0] 54 (0, 0))
theorem Bx.start (w : World) (dn : Bool) (ds : Nat) (dc : Int) (en : Bool) (es : Nat) (ec : Int) : Bx w (((w.alloc (.cells #[.bool dn, .int .i8 ds, .int .u64 dc] 54)).alloc (.cells #[.bool en, .int .i8 es, .int .u64 ec] 54)).alloc (.cells #[.bool false, .int .i8 0, .int .u64 0] 54)) dn ds dc en es ec := by
 refine ⟨?_, ?_, ?_⟩
 ·rw [Below.heap_alloc _ _ _ (by simp; omega), Below.heap_alloc _ _ _ (by simp)]; exact heap_alloc_new _ _
 ·rw [Below.heap_alloc _ _ _ (by simp)]; exact heap_alloc2_new _ _ _
 ·have := heap_alloc_new (((w.alloc (.cells #[.bool dn, .int .i8 ds, .int .u64 dc] 54)).alloc (.cells #[.bool en, .int .i8 es, .int .u64 ec] 54))) (.cells #[.bool false, .int .i8 0, .int .u64 0] 54)
  simpa using this
theorem Bx.kept {w a b : World} {dn en : Bool} {ds es : Nat} {dc ec : Int} (h : Bx w a dn ds dc en es ec) (hc : Chg (fun _ => False) a b) : Bx w b dn ds dc en es ec :=
 have f : ∀ {k : Nat} {o : Obj}, a.heap[k]? = some o → b.heap[k]? = some o := fun {k o} e => (hc.keep k (Array.getElem?_eq_some_iff.1 e).1 (fun h => h)).trans e
 ⟨f h.h0, f h.h1, f h.h2⟩
theorem Bx.facts {w a : World} {dn en : Bool} {ds es : Nat} {dc ec : Int} (h : Bx w a dn ds dc en es ec) :
  a.cell? ⟨w.heap.size, 0, none⟩ = some (.bool dn) ∧ a.cell? ⟨w.heap.size, 1, none⟩ = some (.int .i8 ds) ∧ a.cell? ⟨w.heap.size, 2, none⟩ = some (.int .u64 dc) ∧
  a.cell? ⟨w.heap.size + 1, 0, none⟩ = some (.bool en) ∧ a.cell? ⟨w.heap.size + 1, 1, none⟩ = some (.int .i8 es) ∧ a.cell? ⟨w.heap.size + 1, 2, none⟩ = some (.int .u64 ec) ∧
  a.cell? ⟨w.heap.size + 1 + 1, 0, none⟩ = some (.bool false) ∧ a.cell? ⟨w.heap.size + 1 + 1, 1, none⟩ = some (.int .i8 0) ∧ a.cell? ⟨w.heap.size + 1 + 1, 2, none⟩ = some (.int .u64 0) ∧
  a.frozen? ⟨w.heap.size + 1 + 1, 0, none⟩ = false ∧ a.frozen? ⟨w.heap.size + 1 + 1, 1, none⟩ = false ∧ a.frozen? ⟨w.heap.size + 1 + 1, 2, none⟩ = false := by
 obtain ⟨a0, a1, a2, _, _, _⟩ := cell3 h.h0
 obtain ⟨b0, b1, b2, _, _, _⟩ := cell3 h.h1
 obtain ⟨c0, c1, c2, g0, g1, g2⟩ := cell3 h.h2
 exact ⟨a0, a1, a2, b0, b1, b2, c0, c1, c2, g0, g1, g2⟩
theorem PDec.op {w w' : World} {neg : Bool} {o : Option (Int × Nat)} {e : Ending} (h : PDec w neg o e w') :
  ∃ (a : Bool) (b c : Int) (v : Value), e = .returned (.tuple #[.agg #[.bool a, .int .i8 b, .int .u64 c], v]) ∧ Chg (fun _ => False) w w' ∧ PDec w neg o (.returned (.tuple #[.agg #[.bool a, .int .i8 b, .int .u64 c], v])) w' := by
 have hh := h
 obtain ⟨h1, h2⟩ := h
 match o, h2, hh with
 | some (c, s), h2, hh => subst h2; exact ⟨_, _, _, _, rfl, h1, hh⟩
 | none, ⟨t, v, h2⟩, hh => subst h2; exact ⟨_, _, _, _, rfl, h1, hh⟩
theorem PDec.move {w w1 w' w'' : World} {neg : Bool} {o : Option (Int × Nat)} {e : Ending} (h : PDec w1 neg o e w'') (c : Chg (fun _ => False) w w') : PDec w neg o e w' := ⟨c, h.2⟩
theorem start3 (w : World) (a b c : Obj) : Chg (fun _ => False) w (((w.alloc a).alloc b).alloc c) := (((Chg.refl _ _).alloc _).alloc _).alloc _
end Go.Proofs.YthdkandofddohaaGreatDoor
