/- Part 16 of the proof. -/
import Derived.Test.YthdkandofddohaaGreatDoorP15
namespace Go.Proofs.YthdkandofddohaaGreatDoor
open Go.RowKit
set_option linter.unusedVariables false
set_option linter.unusedSimpArgs false
set_option maxRecDepth 20000
theorem val_top_pos {ys : List Int} {n : Nat} (hw : Wds ys) (hl : ys.length = n) (hn : 1 ≤ n) (h : 1 ≤ ys.getD (n - 1) 0) : 0 < val ys := by
 obtain ⟨k, rfl⟩ : ∃ k, n = k + 1 := ⟨n - 1, by omega⟩
 have e := getD_last (us := ys) (k := k) hl
 simp only [Nat.add_sub_cancel] at h
 have h0 := val_nonneg (hw.take k)
 have := Int.mul_pos (BP_pos k) (show 0 < ys.getD k 0 by omega)
 omega
theorem NatAt.lt' {w : World} {v : Value} {bo : Option Nat} {ds : List Int} {b : Nat} (h : NatAt w v bo ds) (e : bo = some b) : b < w.heap.size := by subst e; exact h.lt
set_option maxHeartbeats 4000000 in
theorem divLarge_any (v v2 : Value) (bz b2 : Option Nat) (s bx by_ n m L cx cy : Nat) (zs z2s xs xsp ys ysp : List Int) (w : World)
  (hz : NatAt w v bz zs) (h2 : NatAt w v2 b2 z2s) (hs : StkAt w s) (hx : Row w bx (xs ++ xsp)) (hy : Row w by_ (ys ++ ysp)) (hxl : xs.length = L) (hyl : ys.length = n) (hL : L = m + n)
  (hn2 : 2 ≤ n) (hn3 : n ≤ 3) (hm : m ≤ 10000) (htop : 1 ≤ ys.getD (n - 1) 0) (h2x : b2 ≠ some bx) (h2y : b2 ≠ some by_) (h2z : ∀ b, bz = some b → b2 ≠ some b)
  (hcx : L ≤ cx) (hcy : n ≤ cy) (hdt : w.cell? ⟨6, 0, none⟩ = some (.int .i64 40)) :
  Calls Tryz.prog 171 #[v, .pointer (some ⟨s, 0, none⟩), v2, .slice (some ⟨bx, 0, none⟩) L cx, .slice (some ⟨by_, 0, none⟩) n cy] w (PDiv w bz b2 (val xs) (val ys)) := by
 have hwt := hy.2.left.getD (n - 1)
 obtain ⟨hsh, ht1, ht2⟩ := nlzN_spec hwt htop
 have hnz := fun w => nlz_any (ys.getD (n - 1) 0) hwt w
 have hcell : ∀ w', Row w' by_ (ys ++ ysp) → w'.cell? ⟨by_, n - 1, none⟩ = some (.int .u64 (ys.getD (n - 1) 0)) := fun w' h => by
  have := h.cell (i := n - 1) (by simp; omega)
  rwa [getD_app (by omega)] at this
 generalize nlzN (ys.getD (n - 1) 0) = sh at *
 have hc1 := hcell w hy
 generalize htt : ys.getD (n - 1) 0 = tp at *
 have HTT := hid htt
 have HNZ := hid hnz
 have hsn := fun w h => stkNat_any s n w h (by omega) (by omega)
 have HSN := hid hsn
 have HSV := hid (fun w h => save_any s w h)
 have hmk := fun w h => make_any v2 b2 z2s (L + 1) w h (by omega) (by omega)
 rw [show ((L + 1 : Nat) : Int) = (L : Int) + 1 by omega] at hmk
 have HMK := hid hmk
 have hw1 : IntKind.i64.wrap ((L : Int) - (n : Int)) = (m : Int) := by rw [show (L : Int) - (n : Int) = (m : Int) by omega]; exact IntWalk.i64_in _ (by omega)
 have hw2 : IntKind.i64.wrap ((L : Int) + 1) = (L : Int) + 1 := IntWalk.i64_in _ (by omega)
 have hw3 : IntKind.i64.wrap ((n : Int) - 1) = (n : Int) - 1 := IntWalk.i64_in _ (by omega)
 have hn0 : (0 : Int) ≤ (n : Int) - 1 := by omega
 have htn : ((n : Int) - 1).toNat = n - 1 := by omega
 have hlt1 : (n : Int) - 1 < (n : Int) := by omega
 have hLb : L ≤ 100000 := by omega
 have hL1 : 1 ≤ L := by omega
 have H2 := hid h2; have HZ := hid hz; have HL := hid hL; have HXL := hid hxl; have HYL := hid hyl
 clear hnz hsn hmk htt hcell hz h2 hL hxl hyl
 go_enter_defers Tryz.func171, Tryz.ntmps171
 go_upto_region 7 with (first | (go_at_call 160; refine (HSV.out _ hs).mono ?_; rintro e w' ⟨rfl, rfl⟩) | (go_at_call 191; refine (HNZ.out _).mono ?_; rintro e w' ⟨rfl, rfl⟩) | (go_at_call 161; refine (HSN.out _ hs).mono ?_; rintro e w1 ⟨g, gs, rfl, hg, hg1, hg2, hg3, hg4, hgc⟩) | (go_at_call 121; refine (HMK.out _ (H2.out.kept hgc (fun _ _ h => h))).mono ?_; rintro e w2 ⟨bu, us, rfl, hu, hu1, hu2, hu3, hu4, huc⟩))
 generalize hcg : gs.length = cg at *
 generalize hcu : us.length = cu at *
 go_upto_if 40 with fail
 have hgu : g ≠ bu := by
  rcases hu4 with h | h
  ·have := (H2.out).lt' h; omega
  ·have := hg.lt; omega
 have hg2' := hg.kept huc (fun h => h)
 have hy2 := (hy.kept hgc (fun h => h)).kept huc (fun h => h)
 have hx2 := (hx.kept hgc (fun h => h)).kept huc (fun h => h)
 have hbuy : bu ≠ by_ := by
  rcases hu4 with h | h
  ·rintro rfl; exact h2y h
  ·have := (hy.kept hgc (fun h => h)).lt; omega
 have hbux : bu ≠ bx := by
  rcases hu4 with h | h
  ·rintro rfl; exact h2x h
  ·have := (hx.kept hgc (fun h => h)).lt; omega
 have hgy : g ≠ by_ := by have := hy.lt; omega
 have hgx : g ≠ bx := by have := hx.lt; omega
 have HXS : Hid (seg (xs ++ xsp) 0 L = xs) := by rw [seg_app (by have := HXL.out; omega), ← HXL.out, seg_all]; exact rfl
 have HYS : Hid (seg (ys ++ ysp) 0 n = ys) := by rw [seg_app (by have := HYL.out; omega), ← HYL.out, seg_all]; exact rfl
 have q1 : (L : Int) ≤ (cu : Int) := by omega
 have q2 : (L : Int) < (L : Int) + 1 := by omega
 have q3 : L ≤ cu := by omega
 have q4 : L < L + 1 := by omega
 have HGL := hid hcg; have HUL := hid hcu
 clear hcg hcu
 go_cut [41] from 40 to 68 (fun _ wx => Hid (Scaled w2 g bu cg cu n L sh (val xs) (val ys) wx))
 case first =>
  by_cases hz0 : sh = 0
  ·subst hz0
   have hb0 : ((((0 : Nat) : Int)) == 0) = true := rfl
   have hcp1 := fun ty => run_copy_words w2 ty g 0 n cg by_ 0 n cy n gs (ys ++ ysp) 119 119 Tryz.underlying119 hg2' hy2 (by simp) (by have := HGL.out; omega) (by simp; have := HYL.out; omega)
   rw [HYS.out] at hcp1
   have hu3' : Row (w2.setRow g ((put gs 0 ys).map (Value.int .u64)).toArray) bu us := hu.kept ((Chg.refl (· = g) w2).setRow (fun _ => rfl) _) (fun h => hgu h.symm)
   have hx3' : Row (w2.setRow g ((put gs 0 ys).map (Value.int .u64)).toArray) bx (xs ++ xsp) := hx2.kept ((Chg.refl (· = g) w2).setRow (fun _ => rfl) _) (fun h => hgx h.symm)
   have hcp2 := fun ty => run_copy_words _ ty bu 0 L cu bx 0 L cx L us (xs ++ xsp) 119 119 Tryz.underlying119 hu3' hx3' (by simp) (by have := HUL.out; omega) (by simp; have := HXL.out; omega)
   rw [HXS.out] at hcp2
   have hr4 := hu3'.setRow (put_wds hu3'.2 hx.2.left 0)
   have hput : (put us 0 xs).length = us.length := put_length (by have := HXL.out; have := HUL.out; omega)
   have hcell4 := hr4.cell (i := L) (by rw [hput, HUL.out]; omega)
   have hfree4 := hr4.free L
   have hsc := scaled_zero (w2 := w2) (g := g) (bu := bu) (n := n) (L := L) (gs := gs) (us := us) (by omega) HXL.out HYL.out hx.2.left hy.2.left (by have := HGL.out; omega) (by have := HUL.out; omega) (by rw [HTT.out]; simpa using ht1) hgu hg2' hu
   rw [HGL.out, HUL.out] at hsc
   have HSC := hid hsc
   clear hsc hr4 hu3' hx3' hput
   generalize (put us 0 xs).getD L 0 = old at *
   go_wp2_with fail
   go_meet
   exact HSC
  ·have hb0 : ((sh : Int) == 0) = false := beq_eq_false_iff_ne.2 (by omega)
   have hl1 := lshVU_any g 0 cg by_ 0 cy n sh gs (ys ++ ysp) w2 hg2' hy2 (by have := HGL.out; omega) (by simp; have := HYL.out; omega) (fun h => absurd h.symm hgy) (by omega) (by omega) (by omega) hsh
   have hl2 := fun w3 (h1 : Row w3 bu us) (h2 : Row w3 bx (xs ++ xsp)) => lshVU_any bu 0 cu bx 0 cx L sh us (xs ++ xsp) w3 h1 h2 (by have := HUL.out; omega) (by simp; have := HXL.out; omega) (fun h => absurd h.symm hbux) (by omega) (by omega) (by omega) hsh
   rw [HYS.out] at hl1
   rw [HXS.out] at hl2
   have HL1 := hid hl1; have HL2 := hid hl2
   have hsc := fun w3 w4 r3 c3 r4 c4 => scaled_pos (w2 := w2) (w3 := w3) (w4 := w4) (g := g) (bu := bu) (n := n) (L := L) (s := sh) (gs := gs) (us := us) (xs := xs) (ys := ys) (by omega) hsh HXL.out HYL.out hx.2.left hy.2.left (by have := HGL.out; omega) (by have := HUL.out; omega) (by rw [HTT.out]; exact ht1) (by rw [HTT.out]; exact ht2) hgu r3 c3 r4 c4
   rw [HGL.out, HUL.out] at hsc
   have HSC := hid hsc
   have hput : (put us 0 (mulD xs (2 ^ sh) 0)).length = cu := by rw [put_length (by rw [mulD_length]; have := HXL.out; have := HUL.out; omega)]; exact HUL.out
   have HP := hid hput
   clear hsc hl1 hl2 hput
   go_wp2_with (first | (go_at_call_of 173 (Value.slice (some ⟨g, 0, none⟩) n cg); refine HL1.out.mono ?_; rintro e w3 ⟨rfl, r3, c3⟩) | (go_at_call_of 173 (Value.slice (some ⟨bu, 0, none⟩) L cu); refine (HL2.out _ (hu.kept c3 (fun h => hgu h.symm)) (hx2.kept c3 (fun h => hgx h.symm))).mono ?_; rintro e w4 ⟨rfl, r4, c4⟩; have hcell4 := r4.cell (i := L) (by rw [HP.out]; omega); have hfree4 := r4.free L; have HFIN := hid (HSC.out _ _ r3 c3 r4 c4)))
   go_meet
   exact HFIN
 case rest =>
  obtain ⟨us1, vs1, usp, gsp, ru, rg, ul, vl, ucap, gcap, hvu, hvv, vtop, utop, cs⟩ := hcut.out
  have hzb : ∀ b, bz = some b → b ≠ g ∧ b ≠ bu := by
   intro b hb
   have hl := HZ.out.lt' hb
   refine ⟨by omega, ?_⟩
   rcases hu4 with h | h
   ·rintro rfl; exact h2z b hb h
   ·have := hgc.size; omega
  have hz2 : NatAt wc v bz zs := ((HZ.out.kept hgc (fun _ _ h => h)).kept huc (fun _ _ h => h)).kept cs (fun b hb h => by rcases h with h | h; exact (hzb b hb).1 h; exact (hzb b hb).2 h)
  have hun : NatAt wc (.slice (some ⟨bu, 0, none⟩) ((L + 1 : Nat)) cu) (some bu) us1 := ⟨usp, by rw [← ucap, ← ul]; simp, ru, by rw [← List.length_append, ucap]; omega, by rw [← List.length_append, ucap]; have := HUL.out; omega⟩
  have hal := alias_any v _ bz (some bu) zs us1 wc hz2 hun
  have hob : oneBlk bz (some bu) = false := by
   cases bz with
   | none => rfl
   | some b => simp [oneBlk]; exact (hzb b rfl).2
  rw [hob] at hal
  have hmk2 := fun w6 (h : NatAt w6 v bz zs) => make_any v bz zs (m + 1) w6 h (by omega) (by omega)
  rw [show ((m + 1 : Nat) : Int) = (m : Int) + 1 by omega] at hmk2
  have hdl : 6 < w.heap.size := by
   have := hdt
   unfold World.cell? at this
   cases h : w.heap[6]? with
   | none => simp [h] at this
   | some o => exact (Array.getElem?_eq_some_iff.1 h).1
  have hd2 : w2.cell? ⟨6, 0, none⟩ = some (.int .i64 40) := cell_kept (cell_kept hdt hgc (fun h => h)) huc (fun h => h)
  have hdbu : 6 ≠ bu := by
   rintro rfl
   have := hu.cell (i := 0) (by have := HUL.out; omega)
   rw [hd2] at this
   cases this
  have hdc : wc.cell? ⟨6, 0, none⟩ = some (.int .i64 40) := cell_kept hd2 cs (by rintro (h | h); (simp only at h; omega); exact hdbu h)
  have hn40 : (n : Int) < 40 := by omega
  have hw4 : IntKind.i64.wrap ((m : Int) + 1) = (m : Int) + 1 := IntWalk.i64_in _ (by omega)
  have HAL := hid hal; have HMK2 := hid hmk2; have HZ2 := hid hz2
  clear hal hmk2 hz2 hun hob hd2 hc1 hdt
  go_upto_region 17 with (first | (go_at_call 151; refine HAL.out.mono ?_; rintro e w6 ⟨rfl, i6, rfl⟩) | (go_at_call 121; refine (HMK2.out _ (HZ2.out.drewN _)).mono ?_; rintro e w7 ⟨bq, zq, rfl, rq, rq1, rq2, rq3, rq4, c7⟩; have hd7 := cell_kept (w := wc.drewN i6) hdc c7 (fun h => h)))
  have hs1 := hs.kept hgc (fun h => h)
  have hsb : s ≠ bu := StkAt.ne (hs1.kept huc (fun h => h)) hu (by have := HUL.out; omega)
  have hsg : s ≠ g := by have := hs.2; omega
  have hsq' : True := trivial
  have hs7 : StkAt w7 s := (((hs1.kept huc (fun h => h)).kept cs (by rintro (h | h); exact hsg h; exact hsb h)).drewN i6).kept c7 (fun h => h)
  have hsq : s ≠ bq := StkAt.ne hs7 rq (by omega)
  have ru7 : Row w7 bu (us1 ++ usp) := (ru.drewN i6).kept c7 (fun h => h)
  have rg7 : Row w7 g (vs1 ++ gsp) := (rg.drewN i6).kept c7 (fun h => h)
  have hqn : bq ≠ g ∧ bq ≠ bu := by
   rcases rq4 with h | h
   ·exact hzb bq h
   ·have := ru.lt; have := rg.lt; simp at h; omega
  have hdb := divBasic_any bq bu g s (m + 1) n zq us1 usp vs1 gsp w7 rq ru7 rg7 hs7 (by rw [ul, HL.out]; omega) vl hn2 hn3 (by omega) (by omega) rq1 vtop
   (by rw [show m + 1 + n - 1 = L by have := HL.out; omega]; exact utop) (fun h => hgu h.symm) hqn.2 hqn.1 hsb hsq cu cg zq.length (by have := HL.out; omega) (by omega) (by have := HUL.out; omega) (by have := HGL.out; omega)
  rw [show m + 1 + n = L + 1 by have := HL.out; omega] at hdb
  have hno := fun w8 qd (h : Row w8 bq (put zq 0 qd)) (hd : qd.length = m + 1) => norm_put bq (m + 1) zq qd w8 h hd rq1 rq2 rq3
  have HDB := hid hdb; have HNO := hid hno; have HRL := hid rq1
  have hYp : 0 < val ys := val_top_pos hy.2.left HYL.out (by omega) (by rw [HTT.out]; exact htop)
  have hcAll : Chg (fun k => b2 = some k) w w7 := by
   have h1 : Chg (fun k => b2 = some k) w w2 := (hgc.trans huc sb_).mono (fun _ h => h.elim)
   have h2 : Chg (fun k => b2 = some k) w wc := h1.trans cs (fun i hi h => by
    rcases h with h | h
    ·omega
    ·rcases hu4 with k | k
     ·rw [h]; exact k
     ·have := hgc.size; omega)
   exact (h2.drewN i6).trans c7 (fun _ _ h => h.elim)
  have hbq : some bq = bz ∨ ∃ b, some bq = some b ∧ w.heap.size ≤ b := by
   rcases rq4 with h | h
   ·exact .inl h.symm
   ·refine .inr ⟨bq, rfl, ?_⟩
    have := hgc.size; have := huc.size; have := cs.size; simp at h; omega
  have hbr : some bu = b2 ∨ ∃ b, some bu = some b ∧ w.heap.size ≤ b := by
   rcases hu4 with h | h
   ·exact .inl h.symm
   ·exact .inr ⟨bu, rfl, by have := hgc.size; omega⟩
  have hend : ∀ (qd us' : List Int) (w8 w9 : World) (vq vr : Value) (qs rs : List Int), Wds qd → Wds us' → val us' + val vs1 * val qd = val us1 → val us' < val vs1 → Chg (fun i => i = bu ∨ i = bq) w7 w8 →
    NatAt w8 vq (some bq) qs → Nrm qs → val qs = val qd → Chg (· = bu) w8 w9 → NatAt w9 vr (some bu) rs → Nrm rs → val rs = val us' / 2 ^ sh → PDiv w bz b2 (val xs) (val ys) (.returned (.tuple #[vq, vr])) w9 := by
   intro qd us' w8 w9 vq vr qs rs k1 k2 k3 k4 k5 k6 k7 k8 k9 k10 k11 k12
   rw [hvu] at k3
   obtain ⟨a1, a2⟩ := scaled_back hsh k2 hYp k3 k4 hvv
   refine ⟨vq, vr, some bq, some bu, qs, rs, rfl, k6.kept k9 (fun b hb h => ?_), k7, by rw [k8, a1], hbq, k10, k11, by rw [k12, a2], hbr, fun b hb h => ?_, ?_⟩
   ·simp only [Option.some.injEq] at hb; exact hqn.2 (hb.trans h)
   ·simp only [Option.some.injEq] at hb h; exact hqn.2 (hb.trans h.symm)
   ·have e1 : Chg (fun k => bz = some k ∨ b2 = some k) w w8 := (hcAll.mono (fun _ h => .inr h)).trans k5 (fun i hi h => by
     rcases h with h | h
     ·rcases hu4 with k | k
      ·exact .inr (by rw [h]; exact k)
      ·have := hgc.size; omega
     ·rcases rq4 with k | k
      ·exact .inl (by rw [h]; exact k)
      ·have := hgc.size; have := huc.size; have := cs.size; simp at k; omega)
    exact e1.trans k9 (fun i hi h => by
     have h' : i = bu := h
     rcases hu4 with k | k
     ·exact .inr (by rw [h']; exact k)
     ·have := hgc.size; omega)
  have HEND := hid hend
  have hsX := And.intro hsb hsq
  have hbu1 : (us1 ++ usp).length = cu := ucap
  clear hend hno hdb hcAll hbq hbr hzb hdc hd7 hs1 hsb hsg hsq rq4 rg7 rq ru7 rg ru cs c7 hvu hvv vtop utop
  have hcuc : cu ≤ 9223372036854775807 := by have := HUL.out; omega
  have HUC := hid hcuc
  by_cases hz0 : sh = 0
  ·subst hz0
   go_upto_region 20 with (first | (go_at_call 199; refine HDB.out.mono ?_; rintro e w8 ⟨rfl, qd, us', d1, d2, d3, d4, d5, d6, d7, d8⟩) | (go_at_call 129; refine (HNO.out _ _ d1 d3).mono ?_; rintro e w9 ⟨vq, qs, rfl, n1, n2, n3, n4, rfl⟩))
   have hL8 : us'.length = L + 1 := by have := HL.out; omega
   have hc8 : (us' ++ usp).length = cu := by rw [← hbu1, List.length_append, List.length_append, hL8, ul]
   have hno2 := norm_any bu (L + 1) (us' ++ usp) w8 d2 (by simp; omega) (by simp; omega) (by have := HUC.out; omega)
   have htk : (us' ++ usp).take (L + 1) = us' := by rw [← hL8]; simp
   rw [htk, hc8] at hno2
   have HNO2 := hid hno2
   have hs8 : StkAt w8 s := hs7.kept d8 (by rintro (h | h) <;> (first | exact hsX.1 h | exact hsX.2 h))
   have HE := hid (fun vr rs k1 k2 k3 => HEND.out qd us' w8 w8 vq vr qs rs d5 d2.2.left d6 d7 d8 n1 n2 n3 (Chg.refl _ _) k1 k2 k3)
   clear d1 d2 d3 d4 d5 d6 d7 d8 n1 n2 n3 n4 hno2 hc8 hL8 htk
   go_wp2_with (go_at_call 129; refine HNO2.out.mono ?_; rintro e w9 ⟨vr, rs, rfl, k1, k2, k3, k4, rfl⟩)
   refine leaves_cons (f := 159) (args := #[.pointer (some ⟨s, 0, none⟩), .int .i64 0]) (by simp) (by simp [go_sem]) ?_
   refine (restore_d s 0 .returning _ hs8).mono ?_
   rintro e u' w'' ⟨rfl, rfl, rfl⟩
   refine ⟨_, results_tmp2 rfl _ _ _, ?_⟩
   have hE := HE.out _ _ k1 k2 (by rw [k3]; simp)
   simp only [Array.getD_eq_getD_getElem?, List.getElem?_toArray, List.getElem?_cons_succ, List.getElem?_cons_zero, Option.getD_some]
   exact hE
  ·have hb0 : ((sh : Int) != 0) = true := by simp [hz0]
   go_upto_region 20 with (first | (go_at_call 199; refine HDB.out.mono ?_; rintro e w8 ⟨rfl, qd, us', d1, d2, d3, d4, d5, d6, d7, d8⟩) | (go_at_call 129; refine (HNO.out _ _ d1 d3).mono ?_; rintro e w9 ⟨vq, qs, rfl, n1, n2, n3, n4, rfl⟩))
   have hL8 : us'.length = L + 1 := by have := HL.out; omega
   have hc8 : (us' ++ usp).length = cu := by rw [← hbu1, List.length_append, List.length_append, hL8, ul]
   have hrs := rshVU_any bu 0 cu bu 0 cu (L + 1) sh (us' ++ usp) (us' ++ usp) w8 d2 d2 (by rw [hc8]; omega) (by rw [hc8]; omega) (fun _ => Nat.le_refl _) (by omega) (by omega) (by omega) hsh
   have hsg' : seg (us' ++ usp) 0 (L + 1) = us' := by rw [← hL8, seg_app (by omega), seg_all]
   rw [hsg'] at hrs
   have hno2 := fun w9 (h : Row w9 bu (put (us' ++ usp) 0 (shrD sh us'))) => norm_put bu (L + 1) (us' ++ usp) (shrD sh us') w9 h (by rw [shrD_length]; exact hL8) (by rw [hc8]; omega) (by rw [hc8]; omega) (by rw [hc8]; have := HUC.out; omega)
   rw [hc8, shrD_div (by omega) d2.2.left] at hno2
   have HNO2 := hid hno2
   have HRS := hid hrs
   have hs8 : StkAt w8 s := hs7.kept d8 (by rintro (h | h) <;> (first | exact hsX.1 h | exact hsX.2 h))
   have HE := hid (fun w9 vr rs k0 k1 k2 k3 => HEND.out qd us' w8 w9 vq vr qs rs d5 d2.2.left d6 d7 d8 n1 n2 n3 k0 k1 k2 k3)
   clear d1 d2 d3 d4 d5 d6 d7 d8 n1 n2 n3 n4 hno2 hc8 hL8 hrs hsg'
   go_wp2_with (first | (go_at_call 201; refine HRS.out.mono ?_; rintro e w9 ⟨rfl, x1, x2⟩) | (go_at_call 129; refine (HNO2.out _ x1).mono ?_; rintro e w10 ⟨vr, rs, rfl, k1, k2, k3, k4, rfl⟩))
   refine leaves_cons (f := 159) (args := #[.pointer (some ⟨s, 0, none⟩), .int .i64 0]) (by simp) (by simp [go_sem]) ?_
   refine (restore_d s 0 .returning _ (hs8.kept x2 hsX.1)).mono ?_
   rintro e u' w'' ⟨rfl, rfl, rfl⟩
   refine ⟨_, results_tmp2 rfl _ _ _, ?_⟩
   have hE := HE.out _ _ _ x2 k1 k2 k3
   simp only [Array.getD_eq_getD_getElem?, List.getElem?_toArray, List.getElem?_cons_succ, List.getElem?_cons_zero, Option.getD_some]
   exact hE
theorem pdiv_mk {w w1 w2 : World} {v v2 vq vr : Value} {bz b2 : Option Nat} {zs z2s : List Int} {Qt R X Y : Int} (hz : NatAt w v bz zs) (h2 : NatAt w v2 b2 z2s) (h2z : ∀ b, bz = some b → b2 ≠ some b)
  (hq : PNat w bz Qt (.returned vq) w1) (hr : PNat w1 b2 R (.returned vr) w2) (e1 : Qt = X / Y) (e2 : R = X % Y) : PDiv w bz b2 X Y (.returned (.tuple #[vq, vr])) w2 := by
 obtain ⟨_, bq, qd, eq, q1, q2, q3, q4, q5⟩ := hq
 obtain ⟨_, br, rd, er, r1, r2, r3, r4, r5⟩ := hr
 simp only [Ending.returned.injEq] at eq er
 subst eq; subst er
 have hne : ∀ b, bq = some b → b2 ≠ some b := by
  intro b hb h
  rcases q4 with k | ⟨c, k, hk⟩
  ·exact h2z b (k ▸ hb) h
  ·have := h2.lt' h
   rw [hb] at k
   simp only [Option.some.injEq] at k
   omega
 refine ⟨vq, vr, bq, br, qd, rd, rfl, q1.kept r5 (fun b hb h => hne b hb h), q2, by rw [q3, e1], q4, r1, r2, by rw [r3, e2], ?_, ?_, ?_⟩
 ·rcases r4 with k | ⟨c, k, hk⟩
  ·exact .inl k
  ·exact .inr ⟨c, k, by have := q5.size; omega⟩
 ·intro b hb h
  rcases r4 with k | ⟨c, k, hk⟩
  ·exact hne b hb (k ▸ h)
  ·have := q1.lt' hb
   rw [h] at k
   simp only [Option.some.injEq] at k
   omega
 ·exact (q5.mono (fun _ h => .inl h)).trans r5 (fun _ _ h => .inr h)
theorem PDiv.after {w w1 w' : World} {bz b2 : Option Nat} {X Y : Int} {e : Ending} (hc : Chg (fun _ => False) w w1) (h : PDiv w1 bz b2 X Y e w') : PDiv w bz b2 X Y e w' := by
 obtain ⟨vq, vr, bq, br, qd, rd, h1, h2, h3, h4, h5, h6, h7, h8, h9, h10, h11⟩ := h
 have hs := hc.size
 refine ⟨vq, vr, bq, br, qd, rd, h1, h2, h3, h4, ?_, h6, h7, h8, ?_, h10, (hc.mono (fun _ h => h.elim)).trans h11 sb_⟩
 ·rcases h5 with k | ⟨c, k, hk⟩
  ·exact .inl k
  ·exact .inr ⟨c, k, by omega⟩
 ·rcases h9 with k | ⟨c, k, hk⟩
  ·exact .inl k
  ·exact .inr ⟨c, k, by omega⟩
set_option maxHeartbeats 2000000 in
theorem div_any (v v2 vx vy : Value) (bz b2 bx by_ : Option Nat) (zs z2s xs ys : List Int) (w : World)
  (hz : NatAt w v bz zs) (h2 : NatAt w v2 b2 z2s) (hx : NatAt w vx bx xs) (hy : NatAt w vy by_ ys) (nx : Nrm xs) (ny : Nrm ys) (hyp : 0 < val ys) (hyl : ys.length ≤ 3) (hxl : xs.length ≤ 10000)
  (h2x : ∀ b, bx = some b → b2 ≠ some b) (h2y : ∀ b, by_ = some b → b2 ≠ some b) (h2z : ∀ b, bz = some b → b2 ≠ some b) (hdt : w.cell? ⟨6, 0, none⟩ = some (.int .i64 40)) :
  Calls Tryz.prog 146 #[v, .pointer none, v2, vx, vy] w (PDiv w bz b2 (val xs) (val ys)) := by
 have hyne : ys ≠ [] := by rintro rfl; simp [val] at hyp
 obtain ⟨by1, rfl⟩ := hy.ne_nil hyne
 have hy0 := hy
 obtain ⟨ysp, rfl, hry, hy1, hy2⟩ := hy
 have hl0 : ys.length ≠ 0 := fun h => hyne (List.length_eq_zero_iff.1 h)
 have hb0 : ((ys.length : Int) == 0) = false := beq_eq_false_iff_ne.2 (by omega)
 obtain ⟨a1, c1, rfl⟩ := hx.len
 obtain ⟨a0, c0, rfl⟩ := hz.len
 by_cases h1 : ys.length = 1
 ·obtain ⟨y, rfl⟩ : ∃ y, ys = [y] := by
   cases ys with
   | nil => simp at h1
   | cons y t => cases t with
    | nil => exact ⟨y, rfl⟩
    | cons z t => simp at h1
  have hv : val [y] = y := by simp [val]
  rw [hv] at hyp ⊢
  have hcell := hry.cell (i := 0) (by simp)
  simp only [List.cons_append, List.getD_cons_zero] at hcell
  have hwy := hry.2.left.head
  have hdw := divW_any _ _ bz bx zs xs y w hz hx nx (by omega) hwy (by omega)
  have hrw : Wd (val xs % y) := ⟨Int.emod_nonneg _ (by omega), by have := Int.emod_lt_of_pos (val xs) hyp; have := hwy.2; omega⟩
  have HDW := hid hdw
  have hset := fun w1 (h : NatAt w1 v2 b2 z2s) => setWord_any v2 b2 z2s (val xs % y) w1 h hrw
  have HSET := hid hset
  have HEND := hid (fun vq vr w1 w2 (h : PNat w bz (val xs / y) (.returned vq) w1) (k : PNat w1 b2 (val xs % y) (.returned vr) w2) => pdiv_mk hz h2 h2z h k rfl rfl)
  have H2 := hid (fun w1 (hc : Chg (fun k => bz = some k) w w1) => h2.kept hc (fun b hb h => h2z b h hb))
  have hb1 : (((([y] : List Int).length : Nat) : Int) == 1) = true := rfl
  clear hdw hset hx hz h2 nx ny hy0
  simp only [List.length_cons, List.length_nil] at *
  obtain ⟨hrw0, hrw1⟩ := hrw
  generalize xs.length = L at *
  generalize zs.length = Z at *
  go_enter_defers Tryz.func146, Tryz.ntmps146
  go_wp2_with (first | (go_at_call 170; refine HDW.out.mono ?_; rintro e w1 ⟨vq, rfl, hq⟩; have h2' := H2.out w1 hq.chg; have HQ := hid hq; clear hq) | (go_at_call 120; refine (HSET.out _ h2').mono ?_; rintro e w2 hp; obtain ⟨vr, rfl, hp2⟩ := hp.get; have HP := hid hp2; clear hp hp2))
  refine ⟨_, results_tmp2 rfl _ _ _, ?_⟩
  exact HEND.out _ _ _ _ HQ.out HP.out
 ·have hb1 : ((ys.length : Int) == 1) = false := beq_eq_false_iff_ne.2 (by omega)
  by_cases hlt : val xs < val ys
  ·have hc : cmpI (val xs) (val ys) = -1 := by unfold cmpI; rw [if_pos hlt]
   have hcm := cmp_any _ _ bx (some by1) xs ys w hx hy0 nx ny
   rw [hc] at hcm
   have hset := fun w1 (h : NatAt w1 v2 b2 z2s) (h' : NatAt w1 (.slice a1 xs.length c1) bx xs) => set_any v2 _ b2 bx z2s xs w1 h h' nx (by omega)
   have hz0 := hz.cut0
   have hX0 := val_nonneg hx.wds
   have hend := fun vr w1 w2 (hq : Q w w1) (k : PNat w1 b2 (val xs) (.returned vr) w2) =>
    pdiv_mk (vq := .slice a0 0 c0) (X := val xs) (Y := val ys) hz h2 h2z (show PNat w bz 0 (.returned (.slice a0 0 c0)) w1 from ⟨_, bz, [], rfl, hz0.q hq, Nrm.nil, rfl, .inl rfl, hq.chg _⟩) k (Int.ediv_eq_zero_of_lt hX0 hlt).symm (Int.emod_eq_of_lt hX0 hlt).symm
   have HCM := hid hcm; have HSET := hid hset; have HEND := hid hend; have H2 := hid h2; have HX := hid hx
   have hnb : (-1 : Int) < 0 := by omega
   clear hcm hset hend hx hz h2 nx ny hy0 hz0 hc hlt
   generalize xs.length = L at *
   generalize zs.length = Z at *
   generalize ys.length = N at *
   go_enter_defers Tryz.func146, Tryz.ntmps146
   go_wp2_with (first | (go_at_call 110; refine HCM.out.mono ?_; rintro e w1 ⟨rfl, i1, rfl⟩) | (go_at_call 126; refine (HSET.out _ (H2.out.drewN _) (HX.out.drewN _)).mono ?_; rintro e w2 hp; obtain ⟨vr, rfl, hp2⟩ := hp.get; have HP := hid hp2; clear hp hp2))
   refine ⟨_, results_tmp2 rfl _ _ _, ?_⟩
   exact HEND.out _ _ _ ⟨_, rfl⟩ HP.out
  ·have hge := cmpI_ge (show val ys ≤ val xs by omega)
   have hcm := cmp_any _ _ bx (some by1) xs ys w hx hy0 nx ny
   generalize cmpI (val xs) (val ys) = k at *
   have hnb : ¬ k < 0 := by omega
   have hlen : ys.length ≤ xs.length := by
    apply Nat.le_of_not_lt
    intro h
    have := len_lt_val hx.wds hry.2.left ny h
    omega
   obtain ⟨bx1, rfl⟩ := hx.ne_nil (by rintro rfl; have : ys.length ≤ 0 := hlen; omega)
   obtain ⟨xsp, hxv, hrx, hx1, hx2⟩ := hx
   simp only [Value.slice.injEq] at hxv
   obtain ⟨rfl, -, rfl⟩ := hxv
   obtain ⟨t1, t2⟩ : 1 ≤ ys.getD (ys.length - 1) 0 ∧ True := by
    rcases ny with h | ⟨r, x, h, hx0⟩
    ·exact absurd h hyne
    ·have : Wd x := hry.2.left x (by rw [h]; simp)
     rw [h]
     simp
     have := this.1
     omega
   have hdl := fun (w2 : World) (s : Nat) (hc : Chg (fun _ => False) w w2) (hs : StkAt w2 s) => (divLarge_any (.slice a0 zs.length c0) v2 bz b2 s bx1 by1 ys.length (xs.length - ys.length) xs.length (xs.length + xsp.length) (ys.length + ysp.length) zs z2s xs xsp ys ysp w2
    (hz.kept hc (fun _ _ h => h)) (h2.kept hc (fun _ _ h => h)) hs (hrx.kept hc (fun h => h)) (hry.kept hc (fun h => h)) rfl rfl (by omega) (by omega) hyl (by omega) t1 (h2x bx1 rfl) (h2y by1 rfl) h2z (by omega) (by omega) (cell_kept hdt hc (fun h => h))).mono (fun e w' h => (show PDiv w2 bz b2 (val xs) (val ys) e w' ∧ PDiv w bz b2 (val xs) (val ys) e w' ∧ (∀ b, b2 = some b → b < w.heap.size) ∧ (∀ b, bz = some b → b < w.heap.size) from ⟨h, h.after hc, fun b hb => h2.lt' hb, fun b hb => hz.lt' hb⟩))
   have HDL := hid hdl; have HCM := hid hcm
   clear hdl hcm hrx hz h2 nx ny hy0 hge hlt hlen t1 t2
   generalize xs.length + xsp.length = cx at *
   generalize ys.length + ysp.length = cy at *
   generalize xs.length = L at *
   generalize zs.length = Z at *
   generalize ys.length = N at *
   go_enter_defers Tryz.func146, Tryz.ntmps146
   go_wp2_with (first | (go_at_call 110; refine HCM.out.mono ?_; rintro e w1 ⟨rfl, i1, rfl⟩) | (go_at_call 153; refine (getStack_any _).mono ?_; rintro e w2 ⟨s, rfl, hs, hsz, hc⟩) | (go_at_call 171; refine (HDL.out _ s ((((Chg.refl _ w).drewN i1)).trans hc sb_) hs).mono ?_; rintro e w3 ⟨h, hpd, hb1', hb2'⟩; obtain ⟨vq, vr, bq, br, qd, rd, rfl, hh⟩ := h; have HH := hid hh; have HPD := hid hpd; clear hh hpd))
   have hgc := HH.out.2.2.2.2.2.2.2.2.2
   have hs3 : StkAt w3 s := hs.kept hgc (by
    rintro (h | h)
    ·have := hb2' s h; simp at hsz; omega
    ·have := hb1' s h; simp at hsz; omega)
   refine leaves_cons (f := 154) (args := #[.pointer (some ⟨s, 0, none⟩)]) (by simp) (by simp [go_sem]) ?_
   refine (free_d s .returning _ hs3).mono ?_
   rintro e u' w'' ⟨rfl, rfl, rfl⟩
   refine ⟨_, results_tmp2 rfl _ _ _, ?_⟩
   exact HPD.out
def PQuo (w : World) (p t : Nat) (bo bt : Option Nat) (X Y : Int) (e : Ending) (w' : World) : Prop :=
 e = .returned (.tuple #[.pointer (some ⟨p, 0, none⟩), .pointer (some ⟨t, 0, none⟩)]) ∧ ∃ bo' bt', IntAt w' p bo' (X / Y) ∧ IntAt w' t bt' (X % Y) ∧ (bo' = bo ∨ ∃ b, bo' = some b ∧ w.heap.size ≤ b) ∧
  (bt' = bt ∨ ∃ b, bt' = some b ∧ w.heap.size ≤ b) ∧ (∀ b, bo' = some b → bt' ≠ some b) ∧ Chg (fun k => (k = p ∨ bo = some k) ∨ (k = t ∨ bt = some k)) w w'
theorem quo_fin {w w1 : World} {p t : Nat} {bo bt : Option Nat} {x0 t0 X Y : Int} {vq vr : Value} (hp : IntAt w p bo x0) (ht : IntAt w t bt t0) (hpt : p ≠ t)
  (hd : PDiv w bo bt X Y (.returned (.tuple #[vq, vr])) w1) :
  PQuo w p t bo bt X Y (.returned (.tuple #[.pointer (some ⟨p, 0, none⟩), .pointer (some ⟨t, 0, none⟩)])) ((((w1.setCell ⟨p, 1, none⟩ vq).setCell ⟨t, 1, none⟩ vr).setCell ⟨p, 0, none⟩ (.bool false)).setCell ⟨t, 0, none⟩ (.bool false)) := by
 obtain ⟨vq', vr', bq, br, qd, rd, he, d1, d2, d3, d4, d5, d6, d7, d8, d9, d10⟩ := hd
 simp only [Ending.returned.injEq, Value.tuple.injEq, Array.mk.injEq, List.cons.injEq, and_true] at he
 obtain ⟨rfl, rfl⟩ := he
 have hlp := hp.lt
 have hlt := ht.lt
 have npp : bo ≠ some p := fun h => hp.ne hp h rfl
 have ntp : bt ≠ some p := fun h => hp.ne ht h rfl
 have npt : bo ≠ some t := fun h => ht.ne hp h rfl
 have ntt : bt ≠ some t := fun h => ht.ne ht h rfl
 obtain ⟨T, v, ds, h1, h2, _⟩ := hp
 obtain ⟨T', v', ds', k1, k2, _⟩ := ht
 have h1' := (d10.keep p hlp (by rintro (h | h); exact npp h; exact ntp h)).trans h1
 have k1' := (d10.keep t hlt (by rintro (h | h); exact npt h; exact ntt h)).trans k1
 have hbq : ∀ b, bq = some b → b ≠ p ∧ b ≠ t := by
  rintro b rfl
  obtain ⟨sp, _, hr, _⟩ := d1
  refine ⟨?_, ?_⟩
  ·rintro rfl; have := hr.1.symm.trans h1'; simp only [Option.some.injEq, Obj.cells.injEq] at this; exact h2 this.2.1.symm
  ·rintro rfl; have := hr.1.symm.trans k1'; simp only [Option.some.injEq, Obj.cells.injEq] at this; exact k2 this.2.1.symm
 have hbr : ∀ b, br = some b → b ≠ p ∧ b ≠ t := by
  rintro b rfl
  obtain ⟨sp, _, hr, _⟩ := d5
  refine ⟨?_, ?_⟩
  ·rintro rfl; have := hr.1.symm.trans h1'; simp only [Option.some.injEq, Obj.cells.injEq] at this; exact h2 this.2.1.symm
  ·rintro rfl; have := hr.1.symm.trans k1'; simp only [Option.some.injEq, Obj.cells.injEq] at this; exact k2 this.2.1.symm
 have hc : Chg (fun k => k = p ∨ k = t) w1 ((((w1.setCell ⟨p, 1, none⟩ vq).setCell ⟨t, 1, none⟩ vr).setCell ⟨p, 0, none⟩ (.bool false)).setCell ⟨t, 0, none⟩ (.bool false)) :=
  Chg.setCell (p := ⟨t, 0, none⟩) (Chg.setCell (p := ⟨p, 0, none⟩) (Chg.setCell (p := ⟨t, 1, none⟩) (Chg.setCell (p := ⟨p, 1, none⟩) (Chg.refl (fun k => k = p ∨ k = t) w1) (fun _ => .inl rfl) _) (fun _ => .inr rfl) _) (fun _ => .inl rfl) _) (fun _ => .inr rfl) _
 refine ⟨rfl, bq, br, ⟨T, vq, qd, ?_, h2, d1.kept hc (fun b hb h => ?_), d2, d3⟩, ⟨T', vr, rd, ?_, k2, d5.kept hc (fun b hb h => ?_), d6, d7⟩, d4, d8, d9, ?_⟩
 ·simp [World.setCell, Array.getElem?_modify, h1', hpt, Ne.symm hpt]
 ·rcases h with h | h
  ·exact (hbq b hb).1 h
  ·exact (hbq b hb).2 h
 ·simp [World.setCell, Array.getElem?_modify, k1', hpt, Ne.symm hpt]
 ·rcases h with h | h
  ·exact (hbr b hb).1 h
  ·exact (hbr b hb).2 h
 ·refine (d10.mono (fun k h => ?_)).trans hc (fun k _ h => ?_)
  ·rcases h with h | h
   ·exact .inl (.inr h)
   ·exact .inr (.inr h)
  ·rcases h with h | h
   ·exact .inl (.inl h)
   ·exact .inr (.inl h)
end Go.Proofs.YthdkandofddohaaGreatDoor
