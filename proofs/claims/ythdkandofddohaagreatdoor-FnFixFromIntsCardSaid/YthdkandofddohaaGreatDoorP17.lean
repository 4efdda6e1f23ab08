/- Part 17 of the proof. -/
import Derived.Test.YthdkandofddohaaGreatDoorP16
namespace Go.Proofs.YthdkandofddohaaGreatDoor
open Go.RowKit
set_option linter.unusedVariables false
set_option linter.unusedSimpArgs false
set_option maxRecDepth 20000
theorem PDiv.sl {w w' : World} {bz b2 : Option Nat} {X Y : Int} {e : Ending} (h : PDiv w bz b2 X Y e w') : ∃ a n c a' n' c', e = .returned (.tuple #[.slice a n c, .slice a' n' c']) ∧ PDiv w bz b2 X Y (.returned (.tuple #[.slice a n c, .slice a' n' c'])) w' := by
 obtain ⟨vq, vr, bq, br, qd, rd, rfl, h1, h2, h3, h4, h5, h6⟩ := h
 obtain ⟨a, c, rfl⟩ := h1.len
 obtain ⟨a', c', rfl⟩ := h5.len
 exact ⟨_, _, _, _, _, _, rfl, _, _, bq, br, qd, rd, rfl, h1, h2, h3, h4, h5, h6⟩
theorem PDiv.alike {w w1 w' : World} {bz b2 : Option Nat} {X Y : Int} {e : Ending} (h : PDiv w1 bz b2 X Y e w') (k : Alike w w1) : PDiv w bz b2 X Y e w' := by
 refine h.after ⟨k.os, k.tape, k.output, by rw [k.heap]; exact Nat.le_refl _, fun i _ _ => by rw [k.heap]⟩
theorem PDiv.chg {w w' : World} {bz b2 : Option Nat} {X Y : Int} {e : Ending} (h : PDiv w bz b2 X Y e w') : Chg (fun k => bz = some k ∨ b2 = some k) w w' := by
 obtain ⟨vq, vr, bq, br, qd, rd, rfl, h1, h2, h3, h4, h5, h6, h7, h8, h9, h10⟩ := h; exact h10
theorem IntAt.cells {S : Nat → Prop} {w w1 : World} {q : Nat} {bq : Option Nat} {y : Int} (hq : IntAt w q bq y) (hc : Chg S w w1) (hS : ¬ S q) :
  ∃ T v, w1.heap[q]? = some (.cells #[.bool false, v] T (0, 0)) := by
 have hl := hq.lt
 obtain ⟨T, v, ds, h1, _⟩ := hq
 exact ⟨T, v, (hc.keep q hl hS).trans h1⟩
theorem quo_step {w w1 : World} {p t : Nat} {bo bt : Option Nat} {x0 t0 X Y : Int} {e : Ending} (hp : IntAt w p bo x0) (ht : IntAt w t bt t0) (hpt : p ≠ t) (h : PDiv w bo bt X Y e w1) :
  ∃ a n c a' n' c' v1 v2, e = .returned (.tuple #[.slice a n c, .slice a' n' c']) ∧ Hid (PDiv w bo bt X Y (.returned (.tuple #[.slice a n c, .slice a' n' c'])) w1) ∧ w1.cell? ⟨p, 1, none⟩ = some v1 ∧
   (w1.setCell ⟨p, 1, none⟩ (.slice a n c)).cell? ⟨t, 1, none⟩ = some v2 ∧ w1.frozen? ⟨p, 1, none⟩ = false ∧ (w1.setCell ⟨p, 1, none⟩ (.slice a n c)).frozen? ⟨t, 1, none⟩ = false ∧ w1.cell? ⟨t, 1, none⟩ = some v2 ∧ w1.frozen? ⟨t, 1, none⟩ = false := by
 have npp : bo ≠ some p := fun h => hp.ne hp h rfl
 have ntp : bt ≠ some p := fun h => hp.ne ht h rfl
 have npt : bo ≠ some t := fun h => ht.ne hp h rfl
 have ntt : bt ≠ some t := fun h => ht.ne ht h rfl
 obtain ⟨T1, v1, e1⟩ := hp.cells h.chg (by rintro (h | h); exact npp h; exact ntp h)
 obtain ⟨T2, v2, e2⟩ := ht.cells h.chg (by rintro (h | h); exact npt h; exact ntt h)
 obtain ⟨a, n, c, a', n', c', rfl, h'⟩ := h.sl
 exact ⟨a, n, c, a', n', c', v1, v2, rfl, h', by simp [World.cell?, e1], by simp [World.cell?, World.setCell, Array.getElem?_modify, e2, hpt], by simp [World.frozen?, e1], by simp [World.frozen?, World.setCell, Array.getElem?_modify, e2, hpt], by simp [World.cell?, e2], by simp [World.frozen?, e2]⟩
theorem PQuo.drew {w w' : World} {p t : Nat} {bo bt : Option Nat} {X Y : Int} {e : Ending} (h : PQuo w p t bo bt X Y e w') : PQuo w p t bo bt X Y e w'.drew := by
 obtain ⟨h1, b1, b2, h2, h3, h4, h5, h6, h7⟩ := h
 exact ⟨h1, b1, b2, h2.drew, h3.drew, h4, h5, h6, h7.drew⟩
theorem quo_reads {p t : Nat} {T1 T2 : TypeId} {v1 v2 : Value} (a a' : Option Addr) (n c n' c' : Nat) (w1 : World) (e1 : w1.heap[p]? = some (.cells #[.bool false, v1] T1 (0, 0))) (e2 : w1.heap[t]? = some (.cells #[.bool false, v2] T2 (0, 0))) (hpt : p ≠ t) :
  ((w1.setCell ⟨p, 1, none⟩ (.slice a n c)).setCell ⟨t, 1, none⟩ (.slice a' n' c')).cell? ⟨p, 1, none⟩ = some (.slice a n c) ∧ ((w1.setCell ⟨p, 1, none⟩ (.slice a n c)).setCell ⟨t, 1, none⟩ (.slice a' n' c')).cell? ⟨t, 1, none⟩ = some (.slice a' n' c') ∧
  ((w1.setCell ⟨p, 1, none⟩ (.slice a n c)).setCell ⟨t, 1, none⟩ (.slice a' n' c')).cell? ⟨p, 0, none⟩ = some (.bool false) ∧ ((w1.setCell ⟨p, 1, none⟩ (.slice a n c)).setCell ⟨t, 1, none⟩ (.slice a' n' c')).cell? ⟨t, 0, none⟩ = some (.bool false) ∧
  ((w1.setCell ⟨p, 1, none⟩ (.slice a n c)).setCell ⟨t, 1, none⟩ (.slice a' n' c')).frozen? ⟨p, 0, none⟩ = false ∧ ((w1.setCell ⟨p, 1, none⟩ (.slice a n c)).setCell ⟨t, 1, none⟩ (.slice a' n' c')).frozen? ⟨t, 0, none⟩ = false ∧
  (((w1.setCell ⟨p, 1, none⟩ (.slice a n c)).setCell ⟨t, 1, none⟩ (.slice a' n' c')).setCell ⟨p, 0, none⟩ (.bool false)).cell? ⟨t, 0, none⟩ = some (.bool false) ∧
  (((w1.setCell ⟨p, 1, none⟩ (.slice a n c)).setCell ⟨t, 1, none⟩ (.slice a' n' c')).setCell ⟨p, 0, none⟩ (.bool false)).frozen? ⟨t, 0, none⟩ = false := by
 refine ⟨?_, ?_, ?_, ?_, ?_, ?_, ?_, ?_⟩ <;> simp [World.cell?, World.frozen?, World.setCell, Array.getElem?_modify, e1, e2, hpt, Ne.symm hpt]
theorem quo_read0 {p t q : Nat} {T1 T2 T3 : TypeId} {v1 v2 v3 : Value} (a a' : Option Addr) (n c n' c' : Nat) (w1 : World) (e1 : w1.heap[p]? = some (.cells #[.bool false, v1] T1 (0, 0))) (e2 : w1.heap[t]? = some (.cells #[.bool false, v2] T2 (0, 0)))
  (e3 : w1.heap[q]? = some (.cells #[.bool false, v3] T3 (0, 0))) (hpt : p ≠ t) :
  ((w1.setCell ⟨p, 1, none⟩ (.slice a n c)).setCell ⟨t, 1, none⟩ (.slice a' n' c')).cell? ⟨q, 0, none⟩ = some (.bool false) := by
 by_cases h1 : q = p
 ·subst h1; exact (quo_reads a a' n c n' c' w1 e1 e2 hpt).2.2.1
 ·by_cases h2 : q = t
  ·subst h2; exact (quo_reads a a' n c n' c' w1 e1 e2 hpt).2.2.2.1
  ·simp [World.cell?, World.setCell, Array.getElem?_modify, e3, Ne.symm h1, Ne.symm h2]
set_option maxHeartbeats 8000000 in
theorem Int_QuoRem (p q r t : Nat) (bo bq br bt : Option Nat) (x0 x y t0 : Int) (w : World) (hp : IntAt w p bo x0) (hq : IntAt w q bq x) (hr : IntAt w r br y) (ht : IntAt w t bt t0)
  (hpt : p ≠ t) (hqt : q ≠ t) (hrt : r ≠ t) (hbx : ∀ b, bq = some b → bt ≠ some b) (hby : ∀ b, br = some b → bt ≠ some b) (hbz : ∀ b, bo = some b → bt ≠ some b) (hx : x < BP 30) (hy : 0 < y) (hy2 : y < BP 3)
  (hdt : w.cell? ⟨6, 0, none⟩ = some (.int .i64 40)) :
  Calls Tryz.prog 134 #[.pointer (some ⟨p, 0, none⟩), .pointer (some ⟨q, 0, none⟩), .pointer (some ⟨r, 0, none⟩), .pointer (some ⟨t, 0, none⟩)] w (PQuo w p t bo bt x y) := by
 obtain ⟨v, ds, c0, c1, cf, hn, nn, hv⟩ := hp.fld
 obtain ⟨vx, xs, cx0, cx1, cxf, hnx, nx, rfl⟩ := hq.fld
 obtain ⟨vy, ys, cy0, cy1, cyf, hny, ny, rfl⟩ := hr.fld
 obtain ⟨vt, ts, ct0, ct1, ctf, hnt, nt, hvt⟩ := ht.fld
 have hyl := len_le_of_val hny.wds ny hy2
 have HC := hid (fun (w1 : World) (h1 : NatAt w1 v bo ds) (h2 : NatAt w1 vt bt ts) (h3 : NatAt w1 vx bq xs) (h4 : NatAt w1 vy br ys) (h5 : w1.cell? ⟨6, 0, none⟩ = some (.int .i64 40)) =>
  div_any v vt vx vy bo bt bq br ds ts xs ys w1 h1 h2 h3 h4 nx ny hy hyl (by have := len_bd h3.wds nx rfl hx; omega) hbx hby hbz h5)
 have HN := hid hn; have HX := hid hnx; have HY := hid hny; have HT := hid hnt; have HK := hid hdt
 have HST := hid (fun e w1 (h : PDiv w.drew bo bt (val xs) (val ys) e w1) => quo_step hp ht hpt (h.alike (w := w) ⟨rfl, rfl, rfl, rfl⟩))
 have HF := hid (fun vq vr w1 (h : PDiv w bo bt (val xs) (val ys) (.returned (.tuple #[vq, vr])) w1) => quo_fin hp ht hpt h)
 have npp : bo ≠ some p := fun h => hp.ne hp h rfl
 have ntp : bt ≠ some p := fun h => hp.ne ht h rfl
 have npt : bo ≠ some t := fun h => ht.ne hp h rfl
 have ntt : bt ≠ some t := fun h => ht.ne ht h rfl
 have npq : bo ≠ some q := fun h => hq.ne hp h rfl
 have ntq : bt ≠ some q := fun h => hq.ne ht h rfl
 have npr : bo ≠ some r := fun h => hr.ne hp h rfl
 have ntr : bt ≠ some r := fun h => hr.ne ht h rfl
 have HP := hid (fun w1 (h : Chg (fun k => bo = some k ∨ bt = some k) w w1) => hp.cells h (by rintro (h | h); exact npp h; exact ntp h))
 have HTT := hid (fun w1 (h : Chg (fun k => bo = some k ∨ bt = some k) w w1) => ht.cells h (by rintro (h | h); exact npt h; exact ntt h))
 have HQ := hid (fun w1 (h : Chg (fun k => bo = some k ∨ bt = some k) w w1) => hq.cells h (by rintro (h | h); exact npq h; exact ntq h))
 have HR := hid (fun w1 (h : Chg (fun k => bo = some k ∨ bt = some k) w w1) => hr.cells h (by rintro (h | h); exact npr h; exact ntr h))
 clear cf hn nn hv cxf hnx cyf hny ctf hnt hvt hdt npp ntp npt ntt npq ntq npr ntr
 go_enter Tryz.func134, Tryz.ntmps134
 go_upto_region 1 with fail
 go_cut [10] from 10 to 35 (fun _ wx => ∃ (a a' : Option Addr) (n c n' c' : Nat) (w1 : World), wx = (w1.setCell ⟨p, 1, none⟩ (.slice a n c)).setCell ⟨t, 1, none⟩ (.slice a' n' c') ∧ Hid (PDiv w bo bt (val xs) (val ys) (.returned (.tuple #[.slice a n c, .slice a' n' c'])) w1))
 case first =>
  go_region_with (go_at_call 146; have z1 : NatAt w.drew v bo ds := HN.out.heap rfl; have z2 : NatAt w.drew vt bt ts := HT.out.heap rfl; have z3 : NatAt w.drew vx bq xs := HX.out.heap rfl; have z4 : NatAt w.drew vy br ys := HY.out.heap rfl; refine (HC.out w.drew z1 z2 z3 z4 HK.out).mono ?_; rintro e w1 h; have hz := HST.out e w1 h; obtain ⟨a, n, c, a', n', c', v1, v2, he, hrest⟩ := hz; subst he; obtain ⟨HH, d1, d2, d3, d4, d5, d6⟩ := hrest; clear h)
  all_goals (go_wp2_with fail; go_meet; exact ⟨_, _, _, _, _, _, _, rfl, HH⟩)
 case rest =>
  obtain ⟨a, a', n, c, n', c', w1, rfl, HH⟩ := hcut
  have hc1 := HH.out.chg
  obtain ⟨T1, v1, e1⟩ := HP.out w1 hc1
  obtain ⟨T2, v2, e2⟩ := HTT.out w1 hc1
  obtain ⟨T3, v3, e3⟩ := HQ.out w1 hc1
  obtain ⟨T4, v4, e4⟩ := HR.out w1 hc1
  have HFIN := hid (HF.out _ _ w1 HH.out)
  have hqr := quo_reads a a' n c n' c' w1 e1 e2 hpt
  have hq0 := quo_read0 a a' n c n' c' w1 e1 e2 e3 hpt
  have hr0 := quo_read0 a a' n c n' c' w1 e1 e2 e4 hpt
  generalize (w1.setCell ⟨p, 1, none⟩ (.slice a n c)).setCell ⟨t, 1, none⟩ (.slice a' n' c') = w2 at *
  obtain ⟨k1, k2, k3, k4, k5, k6, k7, k8⟩ := hqr
  clear e1 e2 e3 e4 hc1 HP HTT HQ HR HF HST HC HN HX HY HT HK
  by_cases h0 : 0 < n
  ·have hd : decide ((0 : Int) < (n : Int)) = true := decide_eq_true (by omega)
   by_cases h0' : 0 < n'
   ·have hd' : decide ((0 : Int) < (n' : Int)) = true := decide_eq_true (by omega)
    go_wp2_with fail
    go_region
    all_goals (go_wp2_with fail; go_ret2; first | exact HFIN.out | exact HFIN.out.drew)
   ·have hd' : decide ((0 : Int) < (n' : Int)) = false := decide_eq_false (by omega)
    go_wp2_with fail
    go_region
    all_goals (go_wp2_with fail; go_ret2; first | exact HFIN.out | exact HFIN.out.drew)
  ·have hd : decide ((0 : Int) < (n : Int)) = false := decide_eq_false (by omega)
   by_cases h0' : 0 < n'
   ·have hd' : decide ((0 : Int) < (n' : Int)) = true := decide_eq_true (by omega)
    go_wp2_with fail
    go_region
    all_goals (go_wp2_with fail; go_ret2; first | exact HFIN.out | exact HFIN.out.drew)
   ·have hd' : decide ((0 : Int) < (n' : Int)) = false := decide_eq_false (by omega)
    go_wp2_with fail
    go_region
    all_goals (go_wp2_with fail; go_ret2; first | exact HFIN.out | exact HFIN.out.drew)
end Go.Proofs.YthdkandofddohaaGreatDoor
