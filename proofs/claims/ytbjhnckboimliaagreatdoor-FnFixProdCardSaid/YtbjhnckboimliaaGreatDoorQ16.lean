/- Part 16 of the proof. -/
import Derived.Test.YtbjhnckboimliaaGreatDoorQ15
namespace Go.Proofs.YtbjhnckboimliaaGreatDoor
open Go.RowKit
set_option linter.unusedVariables false
set_option linter.unusedSimpArgs false
set_option maxRecDepth 20000
theorem PDiv.sl {w w' : World} {bz b2 : Option Nat} {X Y : Int} {e : Ending} (h : PDiv w bz b2 X Y e w') : ∃ a n c a' n' c', e = .returned (.tuple #[.slice a n c, .slice a' n' c']) ∧ PDiv w bz b2 X Y (.returned (.tuple #[.slice a n c, .slice a' n' c'])) w' := by
 obtain ⟨vq, vr, bq, br, qd, rd, rfl, h1, h2, h3, h4, h5, h6⟩ := h
 obtain ⟨a, c, rfl⟩ := h1.len
 obtain ⟨a', c', rfl⟩ := h5.len
 exact ⟨_, _, _, _, _, _, rfl, _, _, bq, br, qd, rd, rfl, h1, h2, h3, h4, h5, h6⟩
theorem PDiv.alike {w w1 w' : World} {bz b2 : Option Nat} {X Y : Int} {e : Ending} (h : PDiv w1 bz b2 X Y e w') (k : Alike w w1) : PDiv w bz b2 X Y e w' := by
 refine h.after ⟨k.os, k.tape, k.output, by rw [k.heap]; exact Nat.le_refl _, fun i _ _ => by rw [k.heap]⟩
theorem PDiv.chg {w w' : World} {bz b2 : Option Nat} {X Y : Int} {e : Ending} (h : PDiv w bz b2 X Y e w') : Chg (fun k => bz = some k ∨ b2 = some k) w w' := by
 obtain ⟨vq, vr, bq, br, qd, rd, rfl, h1, h2, h3, h4, h5, h6, h7, h8, h9, h10⟩ := h; exact h10
theorem IntAt.cells {S : Nat → Prop} {w w1 : World} {q : Nat} {bq : Option Nat} {y : Int} (hq : IntAt w q bq y) (hc : Chg S w w1) (hS : ¬ S q) :
  ∃ T v, w1.heap[q]? = some (.cells #[.bool false, v] T (0, 0)) := by
 have hl := hq.lt
 obtain ⟨T, v, ds, h1, _⟩ := hq
 exact ⟨T, v, (hc.keep q hl hS).trans h1⟩
theorem quo_step {w w1 : World} {p t : Nat} {bo bt : Option Nat} {x0 t0 X Y : Int} {e : Ending} (hp : IntAt w p bo x0) (ht : IntAt w t bt t0) (hpt : p ≠ t) (h : PDiv w bo bt X Y e w1) :
  ∃ a n c a' n' c' v1 v2, e = .returned (.tuple #[.slice a n c, .slice a' n' c']) ∧ Hid (PDiv w bo bt X Y (.returned (.tuple #[.slice a n c, .slice a' n' c'])) w1) ∧ w1.cell? ⟨p, 1, none⟩ = some v1 ∧
   (w1.setCell ⟨p, 1, none⟩ (.slice a n c)).cell? ⟨t, 1, none⟩ = some v2 ∧ w1.frozen? ⟨p, 1, none⟩ = false ∧ (w1.setCell ⟨p, 1, none⟩ (.slice a n c)).frozen? ⟨t, 1, none⟩ = false ∧ w1.cell? ⟨t, 1, none⟩ = some v2 ∧ w1.frozen? ⟨t, 1, none⟩ = false := by
 have npp : bo ≠ some p := fun h => hp.ne hp h rfl
 have ntp : bt ≠ some p := fun h => hp.ne ht h rfl
 have npt : bo ≠ some t := fun h => ht.ne hp h rfl
 have ntt : bt ≠ some t := fun h => ht.ne ht h rfl
 obtain ⟨T1, v1, e1⟩ := hp.cells h.chg (by rintro (h | h); exact npp h; exact ntp h)
 obtain ⟨T2, v2, e2⟩ := ht.cells h.chg (by rintro (h | h); exact npt h; exact ntt h)
 obtain ⟨a, n, c, a', n', c', rfl, h'⟩ := h.sl
 exact ⟨a, n, c, a', n', c', v1, v2, rfl, h', by simp [World.cell?, e1], by simp [World.cell?, World.setCell, Array.getElem?_modify, e2, hpt], by simp [World.frozen?, e1], by simp [World.frozen?, World.setCell, Array.getElem?_modify, e2, hpt], by simp [World.cell?, e2], by simp [World.frozen?, e2]⟩
theorem PQuo.drew {w w' : World} {p t : Nat} {bo bt : Option Nat} {X Y : Int} {e : Ending} (h : PQuo w p t bo bt X Y e w') : PQuo w p t bo bt X Y e w'.drew := by
 obtain ⟨h1, b1, b2, h2, h3, h4, h5, h6, h7⟩ := h
 exact ⟨h1, b1, b2, h2.drew, h3.drew, h4, h5, h6, h7.drew⟩
theorem quo_reads {p t : Nat} {T1 T2 : TypeId} {v1 v2 : Value} (a a' : Option Addr) (n c n' c' : Nat) (w1 : World) (e1 : w1.heap[p]? = some (.cells #[.bool false, v1] T1 (0, 0))) (e2 : w1.heap[t]? = some (.cells #[.bool false, v2] T2 (0, 0))) (hpt : p ≠ t) :
  ((w1.setCell ⟨p, 1, none⟩ (.slice a n c)).setCell ⟨t, 1, none⟩ (.slice a' n' c')).cell? ⟨p, 1, none⟩ = some (.slice a n c) ∧ ((w1.setCell ⟨p, 1, none⟩ (.slice a n c)).setCell ⟨t, 1, none⟩ (.slice a' n' c')).cell? ⟨t, 1, none⟩ = some (.slice a' n' c') ∧
  ((w1.setCell ⟨p, 1, none⟩ (.slice a n c)).setCell ⟨t, 1, none⟩ (.slice a' n' c')).cell? ⟨p, 0, none⟩ = some (.bool false) ∧ ((w1.setCell ⟨p, 1, none⟩ (.slice a n c)).setCell ⟨t, 1, none⟩ (.slice a' n' c')).cell? ⟨t, 0, none⟩ = some (.bool false) ∧
  ((w1.setCell ⟨p, 1, none⟩ (.slice a n c)).setCell ⟨t, 1, none⟩ (.slice a' n' c')).frozen? ⟨p, 0, none⟩ = false ∧ ((w1.setCell ⟨p, 1, none⟩ (.slice a n c)).setCell ⟨t, 1, none⟩ (.slice a' n' c')).frozen? ⟨t, 0, none⟩ = false ∧
  (((w1.setCell ⟨p, 1, none⟩ (.slice a n c)).setCell ⟨t, 1, none⟩ (.slice a' n' c')).setCell ⟨p, 0, none⟩ (.bool false)).cell? ⟨t, 0, none⟩ = some (.bool false) ∧
  (((w1.setCell ⟨p, 1, none⟩ (.slice a n c)).setCell ⟨t, 1, none⟩ (.slice a' n' c')).setCell ⟨p, 0, none⟩ (.bool false)).frozen? ⟨t, 0, none⟩ = false := by
 refine ⟨?_, ?_, ?_, ?_, ?_, ?_, ?_, ?_⟩ <;> simp [World.cell?, World.frozen?, World.setCell, Array.getElem?_modify, e1, e2, hpt, Ne.symm hpt]
theorem quo_read0 {p t q : Nat} {T1 T2 T3 : TypeId} {v1 v2 v3 : Value} (a a' : Option Addr) (n c n' c' : Nat) (w1 : World) (e1 : w1.heap[p]? = some (.cells #[.bool false, v1] T1 (0, 0))) (e2 : w1.heap[t]? = some (.cells #[.bool false, v2] T2 (0, 0)))
  (e3 : w1.heap[q]? = some (.cells #[.bool false, v3] T3 (0, 0))) (hpt : p ≠ t) :
  ((w1.setCell ⟨p, 1, none⟩ (.slice a n c)).setCell ⟨t, 1, none⟩ (.slice a' n' c')).cell? ⟨q, 0, none⟩ = some (.bool false) := by
 by_cases h1 : q = p
 ·subst h1; exact (quo_reads a a' n c n' c' w1 e1 e2 hpt).2.2.1
 ·by_cases h2 : q = t
  ·subst h2; exact (quo_reads a a' n c n' c' w1 e1 e2 hpt).2.2.2.1
  ·simp [World.cell?, World.setCell, Array.getElem?_modify, e3, Ne.symm h1, Ne.symm h2]
set_option maxHeartbeats 8000000 in
theorem Int_QuoRem (p q r t : Nat) (bo bq br bt : Option Nat) (x0 x y t0 : Int) (w : World) (hp : IntAt w p bo x0) (hq : IntAt w q bq x) (hr : IntAt w r br y) (ht : IntAt w t bt t0)
  (hpt : p ≠ t) (hqt : q ≠ t) (hrt : r ≠ t) (hbx : ∀ b, bq = some b → bt ≠ some b) (hby : ∀ b, br = some b → bt ≠ some b) (hbz : ∀ b, bo = some b → bt ≠ some b) (hx : x < BP 30) (hy : 0 < y) (hy2 : y < BP 3)
  (hdt : w.cell? ⟨7, 0, none⟩ = some (.int .i64 40)) :
  Calls Tryz.prog 156 #[.pointer (some ⟨p, 0, none⟩), .pointer (some ⟨q, 0, none⟩), .pointer (some ⟨r, 0, none⟩), .pointer (some ⟨t, 0, none⟩)] w (PQuo w p t bo bt x y) := by
 obtain ⟨v, ds, c0, c1, cf, hn, nn, hv⟩ := hp.fld
 obtain ⟨vx, xs, cx0, cx1, cxf, hnx, nx, rfl⟩ := hq.fld
 obtain ⟨vy, ys, cy0, cy1, cyf, hny, ny, rfl⟩ := hr.fld
 obtain ⟨vt, ts, ct0, ct1, ctf, hnt, nt, hvt⟩ := ht.fld
 have hyl := len_le_of_val hny.wds ny hy2
 have HC := hid (fun (w1 : World) (h1 : NatAt w1 v bo ds) (h2 : NatAt w1 vt bt ts) (h3 : NatAt w1 vx bq xs) (h4 : NatAt w1 vy br ys) (h5 : w1.cell? ⟨7, 0, none⟩ = some (.int .i64 40)) =>
  div_any v vt vx vy bo bt bq br ds ts xs ys w1 h1 h2 h3 h4 nx ny hy hyl (by have := len_bd h3.wds nx rfl hx; omega) hbx hby hbz h5)
 have HN := hid hn; have HX := hid hnx; have HY := hid hny; have HT := hid hnt; have HK := hid hdt
 have HST := hid (fun e w1 (h : PDiv w.drew bo bt (val xs) (val ys) e w1) => quo_step hp ht hpt (h.alike (w := w) ⟨rfl, rfl, rfl, rfl⟩))
 have HF := hid (fun vq vr w1 (h : PDiv w bo bt (val xs) (val ys) (.returned (.tuple #[vq, vr])) w1) => quo_fin hp ht hpt h)
 have npp : bo ≠ some p := fun h => hp.ne hp h rfl
 have ntp : bt ≠ some p := fun h => hp.ne ht h rfl
 have npt : bo ≠ some t := fun h => ht.ne hp h rfl
 have ntt : bt ≠ some t := fun h => ht.ne ht h rfl
 have npq : bo ≠ some q := fun h => hq.ne hp h rfl
 have ntq : bt ≠ some q := fun h => hq.ne ht h rfl
 have npr : bo ≠ some r := fun h => hr.ne hp h rfl
 have ntr : bt ≠ some r := fun h => hr.ne ht h rfl
 have HP := hid (fun w1 (h : Chg (fun k => bo = some k ∨ bt = some k) w w1) => hp.cells h (by rintro (h | h); exact npp h; exact ntp h))
 have HTT := hid (fun w1 (h : Chg (fun k => bo = some k ∨ bt = some k) w w1) => ht.cells h (by rintro (h | h); exact npt h; exact ntt h))
 have HQ := hid (fun w1 (h : Chg (fun k => bo = some k ∨ bt = some k) w w1) => hq.cells h (by rintro (h | h); exact npq h; exact ntq h))
 have HR := hid (fun w1 (h : Chg (fun k => bo = some k ∨ bt = some k) w w1) => hr.cells h (by rintro (h | h); exact npr h; exact ntr h))
 clear cf hn nn hv cxf hnx cyf hny ctf hnt hvt hdt npp ntp npt ntt npq ntq npr ntr
 go_enter Tryz.func156, Tryz.ntmps156
 go_upto_region 1 with fail
 go_cut [10] from 10 to 35 (fun _ wx => ∃ (a a' : Option Addr) (n c n' c' : Nat) (w1 : World), wx = (w1.setCell ⟨p, 1, none⟩ (.slice a n c)).setCell ⟨t, 1, none⟩ (.slice a' n' c') ∧ Hid (PDiv w bo bt (val xs) (val ys) (.returned (.tuple #[.slice a n c, .slice a' n' c'])) w1))
 case first =>
  go_region_with (go_at_call 172; have z1 : NatAt w.drew v bo ds := HN.out.heap rfl; have z2 : NatAt w.drew vt bt ts := HT.out.heap rfl; have z3 : NatAt w.drew vx bq xs := HX.out.heap rfl; have z4 : NatAt w.drew vy br ys := HY.out.heap rfl; refine (HC.out w.drew z1 z2 z3 z4 HK.out).mono ?_; rintro e w1 h; have hz := HST.out e w1 h; obtain ⟨a, n, c, a', n', c', v1, v2, he, hrest⟩ := hz; subst he; obtain ⟨HH, d1, d2, d3, d4, d5, d6⟩ := hrest; clear h)
  all_goals (go_wp2_with fail; go_meet; exact ⟨_, _, _, _, _, _, _, rfl, HH⟩)
 case rest =>
  obtain ⟨a, a', n, c, n', c', w1, rfl, HH⟩ := hcut
  have hc1 := HH.out.chg
  obtain ⟨T1, v1, e1⟩ := HP.out w1 hc1
  obtain ⟨T2, v2, e2⟩ := HTT.out w1 hc1
  obtain ⟨T3, v3, e3⟩ := HQ.out w1 hc1
  obtain ⟨T4, v4, e4⟩ := HR.out w1 hc1
  have HFIN := hid (HF.out _ _ w1 HH.out)
  have hqr := quo_reads a a' n c n' c' w1 e1 e2 hpt
  have hq0 := quo_read0 a a' n c n' c' w1 e1 e2 e3 hpt
  have hr0 := quo_read0 a a' n c n' c' w1 e1 e2 e4 hpt
  generalize (w1.setCell ⟨p, 1, none⟩ (.slice a n c)).setCell ⟨t, 1, none⟩ (.slice a' n' c') = w2 at *
  obtain ⟨k1, k2, k3, k4, k5, k6, k7, k8⟩ := hqr
  clear e1 e2 e3 e4 hc1 HP HTT HQ HR HF HST HC HN HX HY HT HK
  by_cases h0 : 0 < n
  ·have hd : decide ((0 : Int) < (n : Int)) = true := decide_eq_true (by omega)
   by_cases h0' : 0 < n'
   ·have hd' : decide ((0 : Int) < (n' : Int)) = true := decide_eq_true (by omega)
    go_wp2_with fail
    go_region
    all_goals (go_wp2_with fail; go_ret2; first | exact HFIN.out | exact HFIN.out.drew)
   ·have hd' : decide ((0 : Int) < (n' : Int)) = false := decide_eq_false (by omega)
    go_wp2_with fail
    go_region
    all_goals (go_wp2_with fail; go_ret2; first | exact HFIN.out | exact HFIN.out.drew)
  ·have hd : decide ((0 : Int) < (n : Int)) = false := decide_eq_false (by omega)
   by_cases h0' : 0 < n'
   ·have hd' : decide ((0 : Int) < (n' : Int)) = true := decide_eq_true (by omega)
    go_wp2_with fail
    go_region
    all_goals (go_wp2_with fail; go_ret2; first | exact HFIN.out | exact HFIN.out.drew)
   ·have hd' : decide ((0 : Int) < (n' : Int)) = false := decide_eq_false (by omega)
    go_wp2_with fail
    go_region
    all_goals (go_wp2_with fail; go_ret2; first | exact HFIN.out | exact HFIN.out.drew)
theorem bint_quoRem (p q r t : Nat) (bo bq br bt : Option Nat) (x0 x y t0 : Int) (w : World) (hp : IntAt w p bo x0) (hq : IntAt w q bq x) (hr : IntAt w r br y) (ht : IntAt w t bt t0)
  (hpt : p ≠ t) (hqt : q ≠ t) (hrt : r ≠ t) (hbx : ∀ b, bq = some b → bt ≠ some b) (hby : ∀ b, br = some b → bt ≠ some b) (hbz : ∀ b, bo = some b → bt ≠ some b) (hx : x < BP 30) (hy : 0 < y) (hy2 : y < BP 3)
  (hdt : w.cell? ⟨7, 0, none⟩ = some (.int .i64 40)) :
  Calls Tryz.prog 136 #[.pointer (some ⟨p, 0, none⟩), .pointer (some ⟨q, 0, none⟩), .pointer (some ⟨r, 0, none⟩), .pointer (some ⟨t, 0, none⟩)] w
   (fun e w' => e = .returned (.tuple #[]) ∧ PQuo w p t bo bt x y (.returned (.tuple #[.pointer (some ⟨p, 0, none⟩), .pointer (some ⟨t, 0, none⟩)])) w') := by
 have H := hid (Int_QuoRem p q r t bo bq br bt x0 x y t0 w hp hq hr ht hpt hqt hrt hbx hby hbz hx hy hy2 hdt)
 go_enter Tryz.func136, Tryz.ntmps136
 go_wp2_with (go_at_call 156; refine H.out.mono ?_; intro e w1 h; have he := h.1; subst he; have HH := hid h; clear h)
 go_end0
 exact ⟨rfl, HH.out⟩
structure RS (w w3 : World) (p t y : Nat) (bo : Option Nat) (q r Y : Int) : Prop where
 ints : ∃ bp bt by_, IntAt w3 p bp q ∧ IntAt w3 t bt r ∧ IntAt w3 y by_ Y ∧ (∀ b, bp = some b → bt ≠ some b) ∧ (∀ b, by_ = some b → bt ≠ some b) ∧ (bp = bo ∨ ∃ b, bp = some b ∧ w.heap.size ≤ b) ∧ (∀ b, bt = some b → w.heap.size ≤ b)
 pt : p ≠ t
 py : p ≠ y
 yt : y ≠ t
 tn : w.heap.size ≤ t
 env : Env w3
 chg : Chg (fun k => k = p ∨ bo = some k) w w3
theorem rs_quo {w w1 w2 w3 : World} {p t y : Nat} {bo : Option Nat} {x Y : Int} (hp : IntAt w p bo x) (he : Env w) (ht : IntAt w1 t none 0) (htn : w.heap.size ≤ t) (hc1 : Chg (fun _ => False) w w1) (hv : ValAt w1 y Y w2)
  (h : PQuo w2 p t bo none x Y (.returned (.tuple #[.pointer (some ⟨p, 0, none⟩), .pointer (some ⟨t, 0, none⟩)])) w3) : RS w w3 p t y bo (x / Y) (x % Y) Y := by
 obtain ⟨bb, v1, v2, v3, v4⟩ := hv
 obtain ⟨_, bp, bt, q1, q2, q3, q4, q5, q6⟩ := h
 have hpl := hp.lt
 have htl := ht.lt
 have hs1 := hc1.size
 have hs2 := v4.size
 have hc12 := hc1.trans v4 sb_
 have hp2 := hp.new hc12
 have hby : ∀ b, bb = some b → ¬ ((b = p ∨ bo = some b) ∨ (b = t ∨ (none : Option Nat) = some b)) := by
  rintro b hb ((h | h) | (h | h))
  ·have := v3 b hb; omega
  ·have := v3 b hb; have := hp.blk h; omega
  ·exact (ht.new v4).ne v1 hb h
  ·cases h
 have hy3 := v1.kept q6 (by rintro ((h | h) | (h | h)); omega; (have := hp.blk h; omega); omega; cases h) hby
 have hbt : ∀ b, bt = some b → w2.heap.size ≤ b := by
  intro b hb
  rcases q4 with k | ⟨c, k, hk⟩
  ·rw [hb] at k; cases k
  ·rw [hb] at k; simp only [Option.some.injEq] at k; omega
 refine ⟨⟨bp, bt, bb, q1, q2, hy3, q5, fun b hb h => ?_, ?_, fun b hb => by have := hbt b hb; omega⟩, by omega, by omega, by omega, htn, ?_, ?_⟩
 ·have := hbt b h
  have := v1.blk hb
  omega
 ·rcases q3 with k | ⟨c, k, hk⟩
  ·exact .inl k
  ·exact .inr ⟨c, k, by omega⟩
 ·refine ((he.kept hc12).keep q6 ?_ ?_ ?_)
  ·rintro ((h | h) | (h | h))
   ·exact hp.notInt (he.tab 0 (by omega)) h
   ·subst h
    obtain ⟨_, _, ds, _, _, ⟨sp, _, hr, _⟩, _⟩ := hp
    exact he.apart _ hr
   ·have := he.tab.lt; omega
   ·cases h
  ·rintro ((h | h) | (h | h))
   ·exact hp.notInt he.kar h
   ·exact hp.notBlk he.kar h
   ·have := cell_lt he.kar; omega
   ·cases h
  ·rintro ((h | h) | (h | h))
   ·exact hp.notInt he.div h
   ·exact hp.notBlk he.div h
   ·have := cell_lt he.div; omega
   ·cases h
 ·refine (hc12.mono (fun _ h => h.elim)).trans q6 (fun i hi h => ?_)
  rcases h with h | (h | h)
  ·exact h
  ·omega
  ·cases h
theorem rs_dbl {w w3 w4 : World} {p t y : Nat} {bo bt : Option Nat} {q r r' Y : Int} {e : Ending} {v : Value} (h : RS w w3 p t y bo q r Y) (hbt : IntAt w3 t bt r) (k : PInt w3 t bt r' v e w4)
  (hsame : ∀ bp bt' by_, IntAt w3 p bp q → IntAt w3 t bt' r → IntAt w3 y by_ Y → bt' = bt) : RS w w4 p t y bo q r' Y := by
 obtain ⟨⟨bp, bt', by_, h1, h2, h3, h4, h5, h6, h7⟩, pt, py, yt, tn, env, chg⟩ := h
 obtain rfl := hsame _ _ _ h1 h2 h3
 obtain ⟨_, bn, k1, k2, k3⟩ := k
 have hs := chg.size
 have hn : ∀ b, bn = some b → bt' = some b ∨ w3.heap.size ≤ b := by
  intro b hb
  rcases k2 with e | ⟨c, e, hc⟩
  ·exact .inl (e ▸ hb)
  ·rw [hb] at e; simp only [Option.some.injEq] at e; exact .inr (by omega)
 refine ⟨⟨bp, bn, by_, h1.kept k3 ?_ ?_, k1, h3.kept k3 ?_ ?_, ?_, ?_, h6, ?_⟩, pt, py, yt, tn, env.int h2 k3, chg.trans k3 (fun i hi hh => ?_)⟩
 ·rintro (hh | hh); exact pt hh; exact h1.ne h2 hh rfl
 ·rintro b hb (hh | hh); exact h2.ne h1 hb hh; exact h4 b hb hh
 ·rintro (hh | hh); exact yt hh; exact h3.ne h2 hh rfl
 ·rintro b hb (hh | hh); exact h2.ne h3 hb hh; exact h5 b hb hh
 ·intro b hb hh
  rcases hn b hh with k | k
  ·exact h4 b hb k
  ·have := h1.blk hb; omega
 ·intro b hb hh
  rcases hn b hh with k | k
  ·exact h5 b hb k
  ·have := h3.blk hb; omega
 ·intro b hb
  rcases hn b hb with k | k
  ·exact h7 b k
  ·omega
 ·rcases hh with hh | hh
  ·omega
  ·have := h7 i hh; omega
theorem rs_end {w w4 w5 : World} {p t y : Nat} {bo bp : Option Nat} {q r Y X : Int} {e : Ending} {v : Value} (h : RS w w4 p t y bo q r Y) (hb : IntAt w4 p bp q) (hbo : bp = bo ∨ ∃ b, bp = some b ∧ w.heap.size ≤ b) (k : PInt w4 p bp X v e w5) : PInt w p bo X v e w5 := by
 obtain ⟨k0, bn, k1, k2, k3⟩ := k
 have hs := h.chg.size
 refine ⟨k0, bn, k1, ?_, h.chg.trans k3 (fun i hi hh => ?_)⟩
 ·rcases k2 with e | ⟨c, e, hc⟩
  ·rw [e]; exact hbo
  ·exact .inr ⟨c, e, by omega⟩
 ·rcases hh with hh | hh
  ·exact .inl hh
  ·rcases hbo with e | ⟨c, e, hc⟩
   ·exact .inr (e ▸ hh)
   ·rw [hh] at e; simp only [Option.some.injEq] at e; omega
theorem IntAt.uniq {w : World} {p : Nat} {bo bq : Option Nat} {x y : Int} (h : IntAt w p bo x) (k : IntAt w p bq y) : bo = bq := by
 obtain ⟨T, v, ds, h1, h2, h3, h4, h5⟩ := h
 obtain ⟨T', v', ds', k1, k2, k3, k4, k5⟩ := k
 have e := h1.symm.trans k1
 simp only [Option.some.injEq, Obj.cells.injEq, Array.mk.injEq, List.cons.injEq, and_true, true_and] at e
 obtain ⟨rfl, -⟩ := e
 cases bo with
 | none =>
  cases bq with
  | none => rfl
  | some b => obtain ⟨sp, hv, _⟩ := k3; rw [h3.1] at hv; cases hv
 | some b =>
  obtain ⟨sp, hv, _⟩ := h3
  cases bq with
  | none => rw [k3.1] at hv; cases hv
  | some c => obtain ⟨sp', hv', _⟩ := k3; rw [hv] at hv'; simp only [Value.slice.injEq, Option.some.injEq, Addr.mk.injEq] at hv'; rw [hv'.1.1]
def rheI (x Y : Int) : Int := if Y < 2 * (x % Y) ∨ (Y = 2 * (x % Y) ∧ (x / Y) % 2 = 1) then x / Y + 1 else x / Y
theorem rheI_nat (a b : Nat) : rheI (a : Int) (b : Int) = ((rhe a b : Nat) : Int) := by
 unfold rheI rhe
 have h1 : ((a : Int) % (b : Int)) = ((a % b : Nat) : Int) := by omega
 have h2 : ((a : Int) / (b : Int)) = ((a / b : Nat) : Int) := by omega
 rw [h1, h2]
 by_cases h : b < 2 * (a % b) ∨ (b = 2 * (a % b) ∧ (a / b) % 2 = 1)
 ·rw [if_pos h, if_pos (by omega)]; omega
 ·rw [if_neg h, if_neg (by omega)]
theorem p10_nat3 : (10 : Nat) ^ 57 < 18446744073709551616 ^ 3 := by decide
theorem p10_bd3 {k : Nat} (h : k ≤ 57) : (10 : Int) ^ k < BP 3 := by
 have h1 : (10 : Nat) ^ k ≤ 10 ^ 57 := Nat.pow_le_pow_right (by omega) h
 have h3 : ((10 ^ k : Nat) : Int) < ((18446744073709551616 ^ 3 : Nat) : Int) := by exact_mod_cast Nat.lt_of_le_of_lt h1 p10_nat3
 rw [Int.natCast_pow, Int.natCast_pow] at h3
 exact h3
theorem BP3_30 : BP 3 < BP 30 := by
 unfold BP
 have h : (18446744073709551616 : Nat) ^ 3 < 18446744073709551616 ^ 30 := by decide
 have h3 : ((18446744073709551616 ^ 3 : Nat) : Int) < ((18446744073709551616 ^ 30 : Nat) : Int) := by exact_mod_cast h
 rw [Int.natCast_pow, Int.natCast_pow] at h3
 exact h3
theorem rs_step_quo {w : World} {p : Nat} {bo : Option Nat} {x Y : Int} (hp : IntAt w p bo x) (he : Env w) (hx : x < BP 30) (hY : 0 < Y) (hY3 : Y < BP 3) (w1 w2 : World) (t y : Nat) (ht : IntAt w1 t none 0) (htn : w.heap.size ≤ t) (hc1 : Chg (fun _ => False) w w1) (hv : ValAt w1 y Y w2) :
  Calls Tryz.prog 136 #[.pointer (some ⟨p, 0, none⟩), .pointer (some ⟨p, 0, none⟩), .pointer (some ⟨y, 0, none⟩), .pointer (some ⟨t, 0, none⟩)] w2 (fun e w3 => e = .returned (.tuple #[]) ∧ RS w w3 p t y bo (x / Y) (x % Y) Y) := by
 have hv' := hv
 obtain ⟨bb, v1, v2, v3, v4⟩ := hv
 have hc12 := hc1.trans v4 sb_
 have hp2 := hp.new hc12
 have hpl := hp.lt
 have htl := ht.lt
 have hs1 := hc1.size
 exact (bint_quoRem p p y t bo bo bb none x x Y 0 w2 hp2 hp2 v1 (ht.new v4) (by omega) (by omega) (by omega) (fun _ _ h => by cases h) (fun _ _ h => by cases h) (fun _ _ h => by cases h) hx hY hY3 (cell_kept he.div hc12 (fun h => h))).mono
  (fun e w3 h => ⟨h.1, rs_quo hp he ht htn hc1 hv' h.2⟩)
theorem rs_step_dbl {w w3 : World} {p t y : Nat} {bo : Option Nat} {q r Y : Int} (h : RS w w3 p t y bo q r Y) (hr : r < BP 30) :
  Calls Tryz.prog 148 #[.pointer (some ⟨t, 0, none⟩), .pointer (some ⟨t, 0, none⟩)] w3 (fun e w4 => e = .returned (.tuple #[]) ∧ RS w w4 p t y bo q (r * 2) Y) := by
 obtain ⟨bp, bt, by_, h1, h2, h3, _⟩ := h.ints
 exact (bint_dbl t t bt bt r r w3 h2 h2 hr).mono (fun e w4 k => ⟨k.1, rs_dbl h h2 k (fun _ bt' _ _ k2 _ => k2.uniq h2)⟩)
theorem RS.alike {w w3 w4 : World} {p t y : Nat} {bo : Option Nat} {q r Y : Int} (h : RS w w3 p t y bo q r Y) (k : Q w3 w4) : RS w w4 p t y bo q r Y := by
 obtain ⟨n, rfl⟩ := k
 obtain ⟨⟨bp, bt, by_, h1, h2, h3, h4⟩, pt, py, yt, tn, env, chg⟩ := h
 exact ⟨⟨bp, bt, by_, h1.drewN n, h2.drewN n, h3.drewN n, h4⟩, pt, py, yt, tn, env.kept ((Chg.refl _ _).drewN n), chg.drewN n⟩
theorem rs_step_cmp {w w4 : World} {p t y : Nat} {bo : Option Nat} {q r Y : Int} (h : RS w w4 p t y bo q r Y) :
  Calls Tryz.prog 103 #[.pointer (some ⟨y, 0, none⟩), .pointer (some ⟨t, 0, none⟩)] w4 (fun e w5 => e = .returned (.int .i64 (cmpI Y r)) ∧ RS w w5 p t y bo q r Y) := by
 obtain ⟨bp, bt, by_, h1, h2, h3, _⟩ := h.ints
 exact (bint_cmp y t by_ bt Y r w4 h3 h2 h.yt).mono (fun e w5 k => ⟨k.1, h.alike k.2⟩)
theorem rs_step_inc {w w4 : World} {p t y : Nat} {bo : Option Nat} {q r Y : Int} (h : RS w w4 p t y bo q r Y) (hq : q < BP 30) :
  Calls Tryz.prog 149 #[.pointer (some ⟨p, 0, none⟩), .pointer (some ⟨p, 0, none⟩)] w4 (fun e w5 => e = .returned (.tuple #[]) ∧ PInt w p bo (q + 1) (.tuple #[]) (.returned (.tuple #[])) w5) := by
 obtain ⟨bp, bt, by_, h1, h2, h3, h4, h5, h6, _⟩ := h.ints
 exact (bint_inc_same p bp q w4 h1 h.env hq).mono (fun e w5 k => ⟨k.1, rs_end h h1 h6 (by have := k.1; subst this; exact k)⟩)
theorem rs_step_odd {w w4 : World} {p t y : Nat} {bo : Option Nat} {q r Y : Int} (h : RS w w4 p t y bo q r Y) :
  Calls Tryz.prog 150 #[.pointer (some ⟨p, 0, none⟩)] w4 (fun e w5 => e = .returned (.bool (q % 2 != 0)) ∧ w4 = w5) := by
 obtain ⟨bp, bt, by_, h1, _⟩ := h.ints
 exact bint_isOdd p bp q w4 h1
theorem rs_same {w w4 : World} {p t y : Nat} {bo : Option Nat} {q r Y : Int} (h : RS w w4 p t y bo q r Y) : PInt w p bo q (.tuple #[]) (.returned (.tuple #[])) w4 := by
 obtain ⟨bp, bt, by_, h1, h2, h3, h4, h5, h6, _⟩ := h.ints
 exact ⟨rfl, bp, h1, h6, h.chg⟩
set_option maxHeartbeats 2000000 in
theorem bint_rshHalfEven (p n : Nat) (bo : Option Nat) (x : Int) (w : World) (hp : IntAt w p bo x) (he : Env w) (hx : x < BP 30) (hn1 : 1 ≤ n) (hn : n ≤ 57) :
  Calls Tryz.prog 129 #[.pointer (some ⟨p, 0, none⟩), .pointer (some ⟨p, 0, none⟩), .int .i64 n] w (PInt w p bo (rheI x (10 ^ n)) (.tuple #[])) := by
 have hx0 := hp.nonneg
 have hY := p10_pos n
 have hY3 := p10_bd3 hn
 have hsg := bint_sign p bo x w hp
 by_cases hz : x = 0
 ·subst hz
  rw [if_pos rfl] at hsg
  have e : rheI 0 (10 ^ n) = 0 := by unfold rheI; rw [Int.zero_emod, Int.zero_ediv, if_neg (by omega)]
  rw [e]
  have HS := hid hsg
  have HF := hid (bint_setFint p bo 0 0 w hp wd0)
  have hb : ((0 : Int) == 0) = true := rfl
  clear hsg e
  go_enter_defers Tryz.func129, Tryz.ntmps129
  go_wp2_with (first | (go_at_call 133; refine HS.out.mono ?_; intro e w1 h; obtain ⟨h1, h2⟩ := h; subst h1; subst h2) | (go_at_call 100; refine HF.out.mono ?_; intro e w1 h; have he1 := h.1; subst he1; have HH := hid h; clear h))
  exact ⟨_, results_none rfl _ _ _, HH.out⟩
 ·rw [if_neg hz] at hsg
  have HS := hid hsg
  have hb : ((1 : Int) == 0) = false := rfl
  have hpw := fun w1 (hc : Chg (fun _ => False) w w1) => bpow10_any n w1 (by omega) (he.kept hc).tab (he.kept hc).kar
  have hq := rs_step_quo hp he hx hY hY3
  have hqb : x / 10 ^ n < BP 30 := by
   have := Int.ediv_le_self (10 ^ n) hx0
   omega
  have hrb : x % 10 ^ n < BP 30 := by
   have := Int.emod_lt_of_pos x hY
   have := BP3_30
   omega
  have hr0 := Int.emod_nonneg x (show (10 : Int) ^ n ≠ 0 by omega)
  have hdef : rheI x (10 ^ n) = if 10 ^ n < 2 * (x % 10 ^ n) ∨ (10 ^ n = 2 * (x % 10 ^ n) ∧ (x / 10 ^ n) % 2 = 1) then x / 10 ^ n + 1 else x / 10 ^ n := rfl
  generalize rheI x (10 ^ n) = RES at *
  generalize x / 10 ^ n = q at *
  generalize x % 10 ^ n = r at *
  generalize (10 : Int) ^ n = Y at *
  have hle : ¬ (n : Int) ≤ 0 := by omega
  have hlt : (n : Int) < 100 := by omega
  have HQ := hid hq; have HPW := hid hpw
  clear hsg hq hpw hY hY3 hx hp he
  by_cases hc1 : Y < r * 2
  ·have hk : cmpI Y (r * 2) = -1 := by unfold cmpI; rw [if_pos hc1]
   have hres : RES = q + 1 := by rw [hdef, if_pos (by omega)]
   subst hres
   have hb1 : ((-1 : Int) == -1) = true := rfl
   clear hdef hc1
   go_enter_defers Tryz.func129, Tryz.ntmps129
   go_wp2_with (first | (go_at_call 133; refine HS.out.mono ?_; intro e w1 h; obtain ⟨h1, h2⟩ := h; subst h1; subst h2) | (go_at_call 98; refine (getBint_any _).mono ?_; intro e w1 h; obtain ⟨t, he1, ht, htn, hc1⟩ := h; subst he1; have HT := hid ht; clear ht) | (go_at_call 122; refine (HPW.out _ hc1).mono ?_; intro e w2 h; obtain ⟨y, he2, hv⟩ := h; subst he2; have hq2 := HQ.out _ _ t y HT.out htn hc1 hv; have HQ2 := hid hq2; clear hv hq2) | (go_at_call 136; refine HQ2.out.mono ?_; intro e w3 h; obtain ⟨he3, hr3⟩ := h; subst he3; have hdb := rs_step_dbl hr3 hrb; have HD := hid hdb; clear hr3 hdb) | (go_at_call 148; refine HD.out.mono ?_; intro e w4 h; obtain ⟨he4, hr4⟩ := h; subst he4; have hcm := rs_step_cmp hr4; rw [hk] at hcm; have HCM := hid hcm; clear hr4 hcm) | (go_at_call 103; refine HCM.out.mono ?_; intro e w5 h; obtain ⟨he5, hr5⟩ := h; subst he5; have HR5 := hid hr5; clear hr5) | (go_at_call 150; refine (rs_step_odd HR5.out).mono ?_; intro e w6 h; obtain ⟨he6, hw6⟩ := h; subst he6; subst hw6) | (go_at_call 149; refine (rs_step_inc HR5.out hqb).mono ?_; intro e w6 h; obtain ⟨he6, hp6⟩ := h; subst he6; have HH := hid hp6; clear hp6))
   refine leaves_cons (f := 99) (args := #[.pointer (some ⟨t, 0, none⟩)]) (by simp) (by simp [go_sem]) ?_
   refine (putBint_d _ .returning _).mono ?_
   intro e u' w'' h
   obtain ⟨hu1, hu2, hu3⟩ := h
   subst hu1; subst hu2; subst hu3
   exact ⟨_, results_none rfl _ _ _, HH.out⟩
  ·by_cases hc2 : Y = r * 2
   ·have hk : cmpI Y (r * 2) = 0 := by unfold cmpI; rw [if_neg hc1, if_neg (by omega)]
    have hb1 : ((0 : Int) == -1) = false := rfl
    have hb2 : ((0 : Int) == 0) = true := rfl
    by_cases ho : q % 2 = 1
    ·have hres : RES = q + 1 := by rw [hdef, if_pos (by omega)]
     subst hres
     have hb3 : (q % 2 != 0) = true := by rw [ho]; rfl
     clear hdef hc1 hc2 ho
     go_enter_defers Tryz.func129, Tryz.ntmps129
     go_wp2_with (first | (go_at_call 133; refine HS.out.mono ?_; intro e w1 h; obtain ⟨h1, h2⟩ := h; subst h1; subst h2) | (go_at_call 98; refine (getBint_any _).mono ?_; intro e w1 h; obtain ⟨t, he1, ht, htn, hc1⟩ := h; subst he1; have HT := hid ht; clear ht) | (go_at_call 122; refine (HPW.out _ hc1).mono ?_; intro e w2 h; obtain ⟨y, he2, hv⟩ := h; subst he2; have hq2 := HQ.out _ _ t y HT.out htn hc1 hv; have HQ2 := hid hq2; clear hv hq2) | (go_at_call 136; refine HQ2.out.mono ?_; intro e w3 h; obtain ⟨he3, hr3⟩ := h; subst he3; have hdb := rs_step_dbl hr3 hrb; have HD := hid hdb; clear hr3 hdb) | (go_at_call 148; refine HD.out.mono ?_; intro e w4 h; obtain ⟨he4, hr4⟩ := h; subst he4; have hcm := rs_step_cmp hr4; rw [hk] at hcm; have HCM := hid hcm; clear hr4 hcm) | (go_at_call 103; refine HCM.out.mono ?_; intro e w5 h; obtain ⟨he5, hr5⟩ := h; subst he5; have HR5 := hid hr5; clear hr5) | (go_at_call 150; refine (rs_step_odd HR5.out).mono ?_; intro e w6 h; obtain ⟨he6, hw6⟩ := h; subst he6; subst hw6) | (go_at_call 149; refine (rs_step_inc HR5.out hqb).mono ?_; intro e w6 h; obtain ⟨he6, hp6⟩ := h; subst he6; have HH := hid hp6; clear hp6))
     refine leaves_cons (f := 99) (args := #[.pointer (some ⟨t, 0, none⟩)]) (by simp) (by simp [go_sem]) ?_
     refine (putBint_d _ .returning _).mono ?_
     intro e u' w'' h
     obtain ⟨hu1, hu2, hu3⟩ := h
     subst hu1; subst hu2; subst hu3
     exact ⟨_, results_none rfl _ _ _, HH.out⟩
    ·have hres : RES = q := by rw [hdef, if_neg (by omega)]
     rw [hres]; clear hres
     have ho' : q % 2 = 0 := by omega
     have hb3 : (q % 2 != 0) = false := by rw [ho']; rfl
     clear hdef hc1 hc2 ho ho'
     go_enter_defers Tryz.func129, Tryz.ntmps129
     go_wp2_with (first | (go_at_call 133; refine HS.out.mono ?_; intro e w1 h; obtain ⟨h1, h2⟩ := h; subst h1; subst h2) | (go_at_call 98; refine (getBint_any _).mono ?_; intro e w1 h; obtain ⟨t, he1, ht, htn, hc1⟩ := h; subst he1; have HT := hid ht; clear ht) | (go_at_call 122; refine (HPW.out _ hc1).mono ?_; intro e w2 h; obtain ⟨y, he2, hv⟩ := h; subst he2; have hq2 := HQ.out _ _ t y HT.out htn hc1 hv; have HQ2 := hid hq2; clear hv hq2) | (go_at_call 136; refine HQ2.out.mono ?_; intro e w3 h; obtain ⟨he3, hr3⟩ := h; subst he3; have hdb := rs_step_dbl hr3 hrb; have HD := hid hdb; clear hr3 hdb) | (go_at_call 148; refine HD.out.mono ?_; intro e w4 h; obtain ⟨he4, hr4⟩ := h; subst he4; have hcm := rs_step_cmp hr4; rw [hk] at hcm; have HCM := hid hcm; clear hr4 hcm) | (go_at_call 103; refine HCM.out.mono ?_; intro e w5 h; obtain ⟨he5, hr5⟩ := h; subst he5; have HR5 := hid hr5; clear hr5) | (go_at_call 150; refine (rs_step_odd HR5.out).mono ?_; intro e w6 h; obtain ⟨he6, hw6⟩ := h; subst he6; subst hw6) | (go_at_call 149; refine (rs_step_inc HR5.out hqb).mono ?_; intro e w6 h; obtain ⟨he6, hp6⟩ := h; subst he6; have HH := hid hp6; clear hp6))
     refine leaves_cons (f := 99) (args := #[.pointer (some ⟨t, 0, none⟩)]) (by simp) (by simp [go_sem]) ?_
     refine (putBint_d _ .returning _).mono ?_
     intro e u' w'' h
     obtain ⟨hu1, hu2, hu3⟩ := h
     subst hu1; subst hu2; subst hu3
     exact ⟨_, results_none rfl _ _ _, rs_same HR5.out⟩
   ·have hk : cmpI Y (r * 2) = 1 := by unfold cmpI; rw [if_neg hc1, if_pos (by omega)]
    have hres : RES = q := by rw [hdef, if_neg (by omega)]
    rw [hres]; clear hres
    have hb1 : ((1 : Int) == -1) = false := rfl
    have hb2 : ((1 : Int) == 0) = false := rfl
    clear hdef hc1 hc2
    go_enter_defers Tryz.func129, Tryz.ntmps129
    go_wp2_with (first | (go_at_call 133; refine HS.out.mono ?_; intro e w1 h; obtain ⟨h1, h2⟩ := h; subst h1; subst h2) | (go_at_call 98; refine (getBint_any _).mono ?_; intro e w1 h; obtain ⟨t, he1, ht, htn, hc1⟩ := h; subst he1; have HT := hid ht; clear ht) | (go_at_call 122; refine (HPW.out _ hc1).mono ?_; intro e w2 h; obtain ⟨y, he2, hv⟩ := h; subst he2; have hq2 := HQ.out _ _ t y HT.out htn hc1 hv; have HQ2 := hid hq2; clear hv hq2) | (go_at_call 136; refine HQ2.out.mono ?_; intro e w3 h; obtain ⟨he3, hr3⟩ := h; subst he3; have hdb := rs_step_dbl hr3 hrb; have HD := hid hdb; clear hr3 hdb) | (go_at_call 148; refine HD.out.mono ?_; intro e w4 h; obtain ⟨he4, hr4⟩ := h; subst he4; have hcm := rs_step_cmp hr4; rw [hk] at hcm; have HCM := hid hcm; clear hr4 hcm) | (go_at_call 103; refine HCM.out.mono ?_; intro e w5 h; obtain ⟨he5, hr5⟩ := h; subst he5; have HR5 := hid hr5; clear hr5) | (go_at_call 150; refine (rs_step_odd HR5.out).mono ?_; intro e w6 h; obtain ⟨he6, hw6⟩ := h; subst he6; subst hw6) | (go_at_call 149; refine (rs_step_inc HR5.out hqb).mono ?_; intro e w6 h; obtain ⟨he6, hp6⟩ := h; subst he6; have HH := hid hp6; clear hp6))
    refine leaves_cons (f := 99) (args := #[.pointer (some ⟨t, 0, none⟩)]) (by simp) (by simp [go_sem]) ?_
    refine (putBint_d _ .returning _).mono ?_
    intro e u' w'' h
    obtain ⟨hu1, hu2, hu3⟩ := h
    subst hu1; subst hu2; subst hu3
    exact ⟨_, results_none rfl _ _ _, rs_same HR5.out⟩
def Fi (x : Int) : Prop := 0 ≤ x ∧ x ≤ 9999999999999999999
theorem Fi.wd {x : Int} (h : Fi x) : Wd x := ⟨h.1, by have := h.2; omega⟩
theorem fint_add (x y : Int) (hx : Fi x) (hy : Fi y) (w : World) :
  Calls Tryz.prog 95 #[.int .u64 x, .int .u64 y] w (fun e w' => e = .returned (.tuple #[.int .u64 (if x + y ≤ 9999999999999999999 then x + y else 0), .bool (decide (x + y ≤ 9999999999999999999))]) ∧ w = w') := by
 obtain ⟨hx0, hx1⟩ := hx
 obtain ⟨hy0, hy1⟩ := hy
 have hs : IntKind.u64.wrap (9999999999999999999 - x) = 9999999999999999999 - x := by rw [IntKind.wrap_u64]; omega
 by_cases h : x + y ≤ 9999999999999999999
 ·rw [if_pos h, decide_eq_true h]
  have hlt : ¬ 9999999999999999999 - x < y := by omega
  have hw : IntKind.u64.wrap (x + y) = x + y := by rw [IntKind.wrap_u64]; omega
  clear h
  go_enter Tryz.func95, Tryz.ntmps95
  go_wp2_with fail
  go_ret2
  exact ⟨rfl, rfl⟩
 ·rw [if_neg h, decide_eq_false h]
  have hlt : 9999999999999999999 - x < y := by omega
  clear h
  go_enter Tryz.func95, Tryz.ntmps95
  go_wp2_with fail
  go_ret2
  exact ⟨rfl, rfl⟩
theorem fint_subAbs (x y : Int) (hx : Fi x) (hy : Fi y) (w : World) :
  Calls Tryz.prog 96 #[.int .u64 x, .int .u64 y] w (fun e w' => e = .returned (.int .u64 (if y ≤ x then x - y else y - x)) ∧ w = w') := by
 obtain ⟨hx0, hx1⟩ := hx
 obtain ⟨hy0, hy1⟩ := hy
 by_cases h : y < x
 ·rw [if_pos (by omega)]
  have hw : IntKind.u64.wrap (x - y) = x - y := by rw [IntKind.wrap_u64]; omega
  go_enter Tryz.func96, Tryz.ntmps96
  go_wp2_with fail
  go_ret
  exact ⟨rfl, rfl⟩
 ·have e : (if y ≤ x then x - y else y - x) = y - x := by split <;> omega
  rw [e]
  have hw : IntKind.u64.wrap (y - x) = y - x := by rw [IntKind.wrap_u64]; omega
  clear e
  go_enter Tryz.func96, Tryz.ntmps96
  go_wp2_with fail
  go_ret
  exact ⟨rfl, rfl⟩
theorem fint_mul (x y : Int) (hx : Fi x) (hy : Wd y) (w : World) :
  Calls Tryz.prog 108 #[.int .u64 x, .int .u64 y] w (fun e w' => e = .returned (.tuple #[.int .u64 (if x * y ≤ 9999999999999999999 then x * y else 0), .bool (decide (x * y ≤ 9999999999999999999))]) ∧ w = w') := by
 obtain ⟨hx0, hx1⟩ := hx
 obtain ⟨hy0, hy1⟩ := hy
 by_cases hyz : y = 0
 ·subst hyz
  have hb : ((0 : Int) == 0) = true := rfl
  rw [Int.mul_zero, if_pos (by omega), decide_eq_true (by omega)]
  go_enter Tryz.func108, Tryz.ntmps108
  go_wp2_with fail
  go_ret2
  exact ⟨rfl, rfl⟩
 ·have hb : (y == 0) = false := beq_eq_false_iff_ne.2 hyz
  have hp : 0 ≤ x * y := Int.mul_nonneg hx0 hy0
  by_cases h : x * y ≤ 9999999999999999999
  ·rw [if_pos h, decide_eq_true h]
   have hw : IntKind.u64.wrap (x * y) = x * y := by rw [IntKind.wrap_u64]; omega
   have hq : x * y / y = x := Int.mul_ediv_cancel _ hyz
   have hne : (x != x) = false := by simp
   have hgt : ¬ 9999999999999999999 < x * y := by omega
   clear h
   go_enter Tryz.func108, Tryz.ntmps108
   go_wp2_with fail
   go_ret2
   exact ⟨rfl, rfl⟩
  ·rw [if_neg h, decide_eq_false h]
   by_cases h64 : x * y < 18446744073709551616
   ·have hw : IntKind.u64.wrap (x * y) = x * y := by rw [IntKind.wrap_u64]; omega
    have hq : x * y / y = x := Int.mul_ediv_cancel _ hyz
    have hne : (x != x) = false := by simp
    have hgt : 9999999999999999999 < x * y := by omega
    clear h
    go_enter Tryz.func108, Tryz.ntmps108
    go_wp2_with fail
    go_ret2
    exact ⟨rfl, rfl⟩
   ·obtain ⟨z, hz⟩ : ∃ z, z = (x * y) % 18446744073709551616 := ⟨_, rfl⟩
    have hw : IntKind.u64.wrap (x * y) = z := by rw [IntKind.wrap_u64]; omega
    have hz0 : 0 ≤ z := by omega
    have hz1 : z < 18446744073709551616 := by omega
    have hzq : z / y < x := by
     apply Int.ediv_lt_of_lt_mul (by omega)
     omega
    have hne : (z / y != x) = true := by simp; omega
    have hq0 : 0 ≤ z / y := Int.ediv_nonneg hz0 hy0
    have hq1 : z / y < 18446744073709551616 := by omega
    clear h h64 hz
    go_enter Tryz.func108, Tryz.ntmps108
    go_wp2_with fail
    go_ret2
    exact ⟨rfl, rfl⟩
theorem fint_lsh (x : Int) (s : Nat) (hx : Fi x) (hs : s ≤ 19) (w : World) (ht : Tab w) :
  Calls Tryz.prog 94 #[.int .u64 x, .int .i64 s] w (fun e w' => e = .returned (.tuple #[.int .u64 (if x * 10 ^ s ≤ 9999999999999999999 then x * 10 ^ s else 0), .bool (decide (x * 10 ^ s ≤ 9999999999999999999))]) ∧ w = w') := by
 have hcell := ht s (by omega)
 have hwp := p10_wd (k := s) (by omega)
 have hm := fint_mul x (10 ^ s) hx hwp w
 by_cases h0 : s = 0
 ·subst h0
  have e : x * 10 ^ 0 = x := by rw [Int.pow_zero, Int.mul_one]
  rw [e, if_pos hx.2, decide_eq_true hx.2]
  have hle : ((0 : Nat) : Int) ≤ 0 := by omega
  clear hm hcell hwp
  go_enter Tryz.func94, Tryz.ntmps94
  go_wp2_with fail
  go_ret2
  exact ⟨rfl, rfl⟩
 ·have hle : ¬ (s : Int) ≤ 0 := by omega
  obtain ⟨hx0, hx1⟩ := hx
  by_cases h1 : s = 1 ∧ x < 999999999999999999
  ·obtain ⟨rfl, hlt⟩ := h1
   have e : x * 10 ^ 1 = x * 10 := by rw [Int.pow_one]
   rw [e, if_pos (by omega), decide_eq_true (by omega)]
   have hb1 : (((1 : Nat) : Int) == 1) = true := rfl
   have hw : IntKind.u64.wrap (x * 10) = x * 10 := by rw [IntKind.wrap_u64]; omega
   clear hm hcell hwp
   go_enter Tryz.func94, Tryz.ntmps94
   go_wp2_with fail
   go_ret2
   exact ⟨rfl, rfl⟩
  ·have hge : ¬ (20 : Int) ≤ (s : Int) := by omega
   have hlt20 : (s : Int) < 20 := by omega
   have hs0 : (0 : Int) ≤ (s : Int) := by omega
   generalize (10 : Int) ^ s = T at *
   generalize hr : (if x * T ≤ 9999999999999999999 then x * T else 0) = rv at *
   generalize hd : decide (x * T ≤ 9999999999999999999) = dv at *
   have HM := hid hm
   obtain ⟨hT0, hT1⟩ := hwp
   have hrv : 0 ≤ rv ∧ rv < 18446744073709551616 := by
    rw [← hr]
    have := Int.mul_nonneg hx0 hT0
    split <;> omega
   obtain ⟨hrv0, hrv1⟩ := hrv
   clear hm hr hd
   by_cases h2 : s = 1
   ·have hb1 : ((s : Int) == 1) = true := by subst h2; rfl
    have hnl : ¬ x < 999999999999999999 := fun h => h1 ⟨h2, h⟩
    clear h1 h2
    go_enter Tryz.func94, Tryz.ntmps94
    go_wp2_with (go_at_call 108; refine HM.out.mono ?_; rintro e w' ⟨rfl, rfl⟩)
    go_ret2
    exact ⟨rfl, rfl⟩
   ·have hb1 : ((s : Int) == 1) = false := beq_eq_false_iff_ne.2 (by omega)
    clear h1
    go_enter Tryz.func94, Tryz.ntmps94
    go_wp2_with (go_at_call 108; refine HM.out.mono ?_; rintro e w' ⟨rfl, rfl⟩)
    go_ret2
    exact ⟨rfl, rfl⟩
def decV (neg : Bool) (coef : Int) (scale : Nat) : Value := .agg #[.bool neg, .int .i8 scale, .int .u64 coef]
theorem wrap_i8 {s : Nat} (hs : s ≤ 19) : IntKind.i8.wrap (s : Int) = (s : Int) := by
 have : s < 20 := by omega
 revert this
 have h : ∀ k : Fin 20, IntKind.i8.wrap ((k : Nat) : Int) = ((k : Nat) : Int) := by decide
 intro hk
 exact h ⟨s, hk⟩
theorem newUnsafe_any (neg : Bool) (c : Int) (s : Nat) (hc : Fi c) (hs : s ≤ 19) (w : World) :
  Calls Tryz.prog 88 #[.bool neg, .int .u64 c, .int .i64 s] w (fun e w' => e = .returned (decV (neg && c != 0) c s) ∧ Chg (fun _ => False) w w') := by
 have hw := wrap_i8 hs
 obtain ⟨hc0, hc1⟩ := hc
 by_cases h : c = 0
 ·subst h
  have hb : ((0 : Int) == 0) = true := rfl
  go_enter Tryz.func88, Tryz.ntmps88
  go_wp2_with fail
  refine bodyPost_ret (v := decV (neg && (0 : Int) != 0) 0 s) (by simp [results, Tryz.results88, go_sem, decV]) rfl ⟨rfl, (Chg.refl _ _).alloc _⟩
 ·have hb : (c == 0) = false := beq_eq_false_iff_ne.2 h
  have hb2 : (c != 0) = true := by simp [h]
  go_enter Tryz.func88, Tryz.ntmps88
  go_wp2_with fail
  refine bodyPost_ret (v := decV (neg && c != 0) c s) (by simp [results, Tryz.results88, go_sem, decV, hb2]) rfl ⟨rfl, (Chg.refl _ _).alloc _⟩
structure EnvD (w : World) : Prop where
 env : Env w
 ovf : ∃ t v, w.cell? ⟨0, 0, none⟩ = some (.iface t v)
theorem EnvD.kept {w w' : World} (h : EnvD w) (hc : Chg (fun _ => False) w w') : EnvD w' := ⟨h.env.kept hc, by obtain ⟨t, v, e⟩ := h.ovf; exact ⟨t, v, cell_kept e hc (fun h => h)⟩⟩
def PDec (w : World) (neg : Bool) (o : Option (Int × Nat)) (e : Ending) (w' : World) : Prop :=
 Chg (fun _ => False) w w' ∧ match o with
 | some (c, s) => e = .returned (.tuple #[decV (neg && c != 0) c s, .nilIface])
 | none => ∃ t v, e = .returned (.tuple #[decV false 0 0, .iface t v])
theorem cell3 {w1 : World} {z : Nat} {x0 x1 x2 : Value} {T : TypeId} (hh : w1.heap[z]? = some (.cells #[x0, x1, x2] T (0, 0))) :
  w1.cell? ⟨z, 0, none⟩ = some x0 ∧ w1.cell? ⟨z, 1, none⟩ = some x1 ∧ w1.cell? ⟨z, 2, none⟩ = some x2 ∧ w1.frozen? ⟨z, 0, none⟩ = false ∧ w1.frozen? ⟨z, 1, none⟩ = false ∧ w1.frozen? ⟨z, 2, none⟩ = false := by
 refine ⟨?_, ?_, ?_, ?_, ?_, ?_⟩ <;> simp [World.cell?, World.frozen?, hh]
theorem store3 {w1 : World} {z : Nat} {x0 x1 x2 : Value} {T : TypeId} (hh : w1.heap[z]? = some (.cells #[x0, x1, x2] T (0, 0))) (a b d : Value) :
  (((w1.setCell ⟨z, 0, none⟩ a).setCell ⟨z, 1, none⟩ b).setCell ⟨z, 2, none⟩ d).heap[z]? = some (.cells #[a, b, d] T (0, 0)) := by
 simp [World.setCell, Array.getElem?_modify, hh]
theorem chg3 {w w1 : World} {z : Nat} (hc : Chg (fun _ => False) w w1) (hz : w.heap.size ≤ z) (a b d : Value) : Chg (fun _ => False) w (((w1.setCell ⟨z, 0, none⟩ a).setCell ⟨z, 1, none⟩ b).setCell ⟨z, 2, none⟩ d) :=
 Chg.setCell (p := ⟨z, 2, none⟩) (Chg.setCell (p := ⟨z, 1, none⟩) (Chg.setCell (p := ⟨z, 0, none⟩) hc (fun h => by simp only at h; omega) a) (fun h => by simp only at h; omega) b) (fun h => by simp only at h; omega) d
theorem dec_size : (Tryz.prog.info? 55).map (·.size) = some 3 := by kernel_rfl
theorem dec_result {fn : Func} {p u : Tmp} (h : fn.results = #[.cell p 55, .tmp u]) (tmps : Array Value) (w : World) (g : Nat) (a b d v : Value) (T : TypeId)
  (hp : tmps.getD p undef = .pointer (some ⟨g, 0, none⟩)) (hu : tmps.getD u undef = v) (hg : w.heap[g]? = some (.cells #[a, b, d] T (0, 0))) :
  (results fn tmps).run Tryz.prog w = .ok (.tuple #[.agg #[a, b, d], v]) w := by
 rw [results_cell_tmp h, hp, hu]
 have hl := run_loadVar_row (P := Tryz.prog) w g T 55 #[a, b, d] (0, 0) _ hg Tryz.underlying55 rfl dec_size
 simp [asAddr, hl, Result.andThen]
theorem newSafe_any (neg : Bool) (c : Int) (s : Nat) (hc : Fi c) (hs : s ≤ 19) (w : World) :
  Calls Tryz.prog 85 #[.bool neg, .int .u64 c, .int .i64 s] w (PDec w neg (some (c, s))) := by
 have H := hid (fun w => newUnsafe_any neg c s hc hs w)
 have hb1 : decide ((s : Int) < 0) = false := decide_eq_false (by omega)
 have hb2 : decide ((19 : Int) < (s : Int)) = false := decide_eq_false (by omega)
 obtain ⟨hc0, hc1⟩ := hc
 have hgt : ¬ 9999999999999999999 < c := by omega
 unfold decV at H
 generalize hnb : (neg && c != 0) = nb at *
 have HNB := hid hnb
 clear hnb
 generalize hz : w.heap.size = z at *
 have hnew := heap_alloc_new w (.cells #[.bool false, .int .i8 0, .int .u64 0] 55)
 rw [hz] at hnew
 have hzl : z < (w.alloc (.cells #[.bool false, .int .i8 0, .int .u64 0] 55)).heap.size := by simp [hz]
 have HW := hid (fun w1 (h : Chg (fun _ => False) (w.alloc (.cells #[.bool false, .int .i8 0, .int .u64 0] 55)) w1) => (h.keep z hzl (fun h => h)).trans hnew)
 have HZ := hid hz
 clear hnew hzl
 go_enter Tryz.func85, Tryz.ntmps85
 go_wp2_with (go_at_call 88; refine (H.out _).mono ?_; intro e w1 h; obtain ⟨he, hc⟩ := h; subst he; obtain ⟨k0, k1, k2, f0, f1, f2⟩ := cell3 (HW.out w1 hc))
 have hh := HW.out w1 hc
 have hw3 := store3 hh (.bool nb) (.int .i8 s) (.int .u64 c)
 have hchg := chg3 (((Chg.refl (fun _ => False) w).alloc (.cells #[.bool false, .int .i8 0, .int .u64 0] 55)).trans hc sb_) (Nat.le_of_eq HZ.out) (.bool nb) (.int .i8 s) (.int .u64 c)
 refine bodyPost_ret (v := .tuple #[.agg #[.bool nb, .int .i8 s, .int .u64 c], .nilIface]) (dec_result rfl _ _ z _ _ _ _ _ rfl rfl hw3) rfl ⟨hchg, ?_⟩
 show _ = Ending.returned (.tuple #[decV (neg && c != 0) c s, .nilIface])
 rw [HNB.out]
 rfl
theorem newSafe_flat (neg nb : Bool) (c : Int) (s : Nat) (hc : Fi c) (hs : s ≤ 19) (hnb : (neg && c != 0) = nb) (w : World) :
  Calls Tryz.prog 85 #[.bool neg, .int .u64 c, .int .i64 s] w (fun e w' => e = .returned (.tuple #[.agg #[.bool nb, .int .i8 s, .int .u64 c], .nilIface]) ∧ Chg (fun _ => False) w w') :=
 (newSafe_any neg c s hc hs w).mono (fun e w' h => ⟨by have := h.2; rw [← hnb]; exact this, h.1⟩)
def fromFint (c : Int) (s m : Nat) : Option (Int × Nat) :=
 if s < m then (if c * 10 ^ (m - s) ≤ 9999999999999999999 then some (c * 10 ^ (m - s), m) else none) else some (c, s)
set_option maxHeartbeats 1000000 in
theorem newFromFint_any (neg : Bool) (c : Int) (s m : Nat) (hc : Fi c) (hs : s ≤ 19) (hm : m ≤ 19) (w : World) (he : EnvD w) :
  Calls Tryz.prog 97 #[.bool neg, .int .u64 c, .int .i64 s, .int .i64 m] w (PDec w neg (fromFint c s m)) := by
 have hA := heap_alloc_new w (.cells #[.bool false, .int .i8 0, .int .u64 0] 55)
 have hzl : w.heap.size < (w.alloc (.cells #[.bool false, .int .i8 0, .int .u64 0] 55)).heap.size := by simp
 have HW := hid (fun w1 (h : Chg (fun _ => False) (w.alloc (.cells #[.bool false, .int .i8 0, .int .u64 0] 55)) w1) => (h.keep w.heap.size hzl (fun h => h)).trans hA)
 have hch : Chg (fun _ => False) w (w.alloc (.cells #[.bool false, .int .i8 0, .int .u64 0] 55)) := (Chg.refl _ w).alloc _
 have HCH := hid hch
 have HA := hid hA
 have heA := he.kept hch
 have hend : ∀ (c' : Int) (s' : Nat) (nb : Bool) (w1 : World), (neg && c' != 0) = nb → fromFint c s m = some (c', s') → Chg (fun _ => False) (w.alloc (.cells #[.bool false, .int .i8 0, .int .u64 0] 55)) w1 →
   PDec w neg (fromFint c s m) (.returned (.tuple #[.agg #[.bool nb, .int .i8 s', .int .u64 c'], .nilIface])) (((w1.setCell ⟨w.heap.size, 0, none⟩ (.bool nb)).setCell ⟨w.heap.size, 1, none⟩ (.int .i8 s')).setCell ⟨w.heap.size, 2, none⟩ (.int .u64 c')) := by
  intro c' s' nb w1 h1 h2 h3
  rw [h2]
  refine ⟨chg3 (hch.trans h3 sb_) (Nat.le_refl _) _ _ _, ?_⟩
  show _ = Ending.returned (.tuple #[decV (neg && c' != 0) c' s', .nilIface])
  rw [h1]; rfl
 have HEND := hid hend
 clear hend hA hzl hch
 by_cases h1 : s < m
 ·have hlt : (s : Int) < (m : Int) := by omega
  have hsub : IntKind.i64.wrap ((m : Int) - (s : Int)) = ((m - s : Nat) : Int) := by rw [show (m : Int) - (s : Int) = ((m - s : Nat) : Int) by omega]; exact IntWalk.i64_in _ (by omega)
  have hl := fint_lsh c (m - s) hc (by omega) (w.alloc (.cells #[.bool false, .int .i8 0, .int .u64 0] 55)) heA.env.tab
  have hp := Int.mul_nonneg hc.1 (Int.le_of_lt (p10_pos (m - s)))
  by_cases h2 : c * 10 ^ (m - s) ≤ 9999999999999999999
  ·rw [if_pos h2, decide_eq_true h2] at hl
   have hf : fromFint c s m = some (c * 10 ^ (m - s), m) := by unfold fromFint; rw [if_pos h1, if_pos h2]
   have hFi : Fi (c * 10 ^ (m - s)) := ⟨hp, h2⟩
   generalize c * 10 ^ (m - s) = C at *
   obtain ⟨nb, hnb⟩ : ∃ nb, (neg && C != 0) = nb := ⟨_, rfl⟩
   have hns := fun w => newSafe_flat neg nb C m hFi hm hnb w
   have HL := hid hl; have HNS := hid hns
   have HE2 := hid (fun w1 h => HEND.out C m nb w1 hnb hf h)
   clear hl hns hf h2
   obtain ⟨hC0, hC1⟩ := hFi
   generalize m - s = d at *
   go_enter Tryz.func97, Tryz.ntmps97
   go_wp2_with (first | (go_at_call 94; refine HL.out.mono ?_; intro e w' h; obtain ⟨he1, he2⟩ := h; subst he1; subst he2) | (go_at_call 85; refine (HNS.out _).mono ?_; intro e w1 h; obtain ⟨he3, hc1⟩ := h; subst he3; obtain ⟨k0, k1, k2, f0, f1, f2⟩ := cell3 (HW.out w1 hc1)))
   refine bodyPost_ret (v := .tuple #[.agg #[.bool nb, .int .i8 m, .int .u64 C], .nilIface]) (dec_result rfl _ _ w.heap.size _ _ _ _ _ rfl rfl (store3 (HW.out w1 hc1) _ _ _)) rfl (HE2.out _ hc1)
  ·rw [if_neg h2, decide_eq_false h2] at hl
   have hf : fromFint c s m = none := by unfold fromFint; rw [if_pos h1, if_neg h2]
   rw [hf]
   obtain ⟨t, v, hov⟩ := heA.ovf
   have HL := hid hl
   clear hl h2 hp
   generalize m - s = d at *
   go_enter Tryz.func97, Tryz.ntmps97
   go_wp2_with (go_at_call 94; refine HL.out.mono ?_; intro e w' h; obtain ⟨he1, he2⟩ := h; subst he1; subst he2)
   go_region
   all_goals (go_wp2_with fail; refine bodyPost_ret (v := .tuple #[.agg #[.bool false, .int .i8 0, .int .u64 0], .iface t v]) (dec_result rfl _ _ w.heap.size _ _ _ _ 55 rfl rfl (by exact HA.out)) rfl ⟨HCH.out.drew, t, v, rfl⟩)
 ·have hlt : ¬ (s : Int) < (m : Int) := by omega
  have h19 : ¬ (19 : Int) < (s : Int) := by omega
  have hf : fromFint c s m = some (c, s) := by unfold fromFint; rw [if_neg h1]
  obtain ⟨nb, hnb⟩ : ∃ nb, (neg && c != 0) = nb := ⟨_, rfl⟩
  have hns := fun w => newSafe_flat neg nb c s hc hs hnb w
  have HNS := hid hns
  have HE2 := hid (fun w1 h => HEND.out c s nb w1 hnb hf h)
  clear hns hf
  obtain ⟨hC0, hC1⟩ := hc
  go_enter Tryz.func97, Tryz.ntmps97
  go_wp2_with (go_at_call 85; refine (HNS.out _).mono ?_; intro e w1 h; obtain ⟨he3, hc1⟩ := h; subst he3; obtain ⟨k0, k1, k2, f0, f1, f2⟩ := cell3 (HW.out w1 hc1))
  refine bodyPost_ret (v := .tuple #[.agg #[.bool nb, .int .i8 s, .int .u64 c], .nilIface]) (dec_result rfl _ _ w.heap.size _ _ _ _ _ rfl rfl (store3 (HW.out w1 hc1) _ _ _)) rfl (HE2.out _ hc1)
def PErr (w : World) (e : Ending) (w' : World) : Prop := (∃ t v, e = .returned (.iface t v)) ∧ Chg (fun _ => False) w w'
theorem errorsNew_any (s : ByteArray) (w : World) : Calls Tryz.prog 76 #[.string s] w (PErr w) := by
 go_enter Tryz.func76, Tryz.ntmps76
 go_wp2_with fail
 go_ret
 exact ⟨⟨_, _, rfl⟩, (Chg.refl _ _).alloc _⟩
theorem overflowError_any (a b c : Int) (w : World) : Calls Tryz.prog 128 #[.int .i64 a, .int .i64 b, .int .i64 c] w (PErr w) := by
 go_enter Tryz.func128, Tryz.ntmps128
 go_wp2_with (go_at_call 76; refine (errorsNew_any _ _).mono ?_; intro e w1 h; obtain ⟨⟨t, v, he⟩, hc⟩ := h; subst he)
 go_ret
 exact ⟨⟨_, _, rfl⟩, hc⟩
def PDecB (w : World) (p : Nat) (bo : Option Nat) (neg : Bool) (o : Option (Nat × Nat)) (e : Ending) (w' : World) : Prop :=
 Chg (fun k => k = p ∨ bo = some k) w w' ∧ match o with
 | some (c, s) => e = .returned (.tuple #[decV (neg && (c : Int) != 0) c s, .nilIface])
 | none => ∃ t v, e = .returned (.tuple #[decV false 0 0, .iface t v])
theorem cell_z {w : World} {p : Nat} {bo : Option Nat} {x : Int} (hp : IntAt w p bo x) {w1 : World} (h : Chg (fun k => k = p ∨ bo = some k) (w.alloc (.cells #[.bool false, .int .i8 0, .int .u64 0] 55)) w1) :
  w1.heap[w.heap.size]? = some (.cells #[.bool false, .int .i8 0, .int .u64 0] 55 (0, 0)) := by
 rw [h.keep w.heap.size (by simp) (by rintro (k | k); (have := hp.lt; omega); (have := hp.blk k; omega))]
 exact heap_alloc_new w _
set_option maxHeartbeats 1000000 in
theorem nfb_none (neg : Bool) (p : Nat) (bo : Option Nat) (c s m : Nat) (w : World) (hp : IntAt w p bo (c : Int)) (he : EnvD w) (hc : digs c ≤ 80) (hs : s ≤ 57) (hm : m ≤ 19) (h1 : 19 + s < digs c + m) :
  Calls Tryz.prog 105 #[.bool neg, .pointer (some ⟨p, 0, none⟩), .int .i64 s, .int .i64 m] w (PDecB w p bo neg none) := by
 have hch : Chg (fun _ => False) w (w.alloc (.cells #[.bool false, .int .i8 0, .int .u64 0] 55)) := (Chg.refl _ w).alloc _
 have hc99 : (c : Int) < 10 ^ 99 := by
  have h1 := digs_le.1 hc
  have h2 : (10 : Nat) ^ 80 ≤ 10 ^ 99 := Nat.pow_le_pow_right (by omega) (by omega)
  have := pow_cast 99
  omega
 have hpr := bint_prec p bo (c : Int) _ (hp.new hch) (he.env.kept hch) hc99
 rw [Int.toNat_natCast] at hpr
 have HW := hid (fun w1 (h : Chg (fun k => k = p ∨ bo = some k) (w.alloc (.cells #[.bool false, .int .i8 0, .int .u64 0] 55)) w1) => cell_z hp h)
 generalize digs c = D at *
 have HP := hid hpr
 have HCH := hid hch
 have hw1 : IntKind.i64.wrap ((D : Int) - (s : Int)) = (D : Int) - (s : Int) := IntWalk.i64_in _ (by omega)
 have hw2 : IntKind.i64.wrap (19 - (m : Int)) = 19 - (m : Int) := IntWalk.i64_in _ (by omega)
 have hgt : 19 - (m : Int) < (D : Int) - (s : Int) := by omega
 clear hpr hch hc99 hp he
 go_enter Tryz.func105, Tryz.ntmps105
 go_wp2_with (first | (go_at_call 127; refine HP.out.mono ?_; intro e w1 h; obtain ⟨he1, hc1⟩ := h; subst he1) | (go_at_call 128; refine (overflowError_any _ _ _ _).mono ?_; intro e w2 h; obtain ⟨⟨t, v, he2⟩, hc2⟩ := h; subst he2; have hcc := hc1.trans hc2 sb_; obtain ⟨k0, k1, k2, f0, f1, f2⟩ := cell3 (HW.out w2 (hcc.mono (fun _ h => h.elim)))))
 refine bodyPost_ret (v := .tuple #[.agg #[.bool false, .int .i8 0, .int .u64 0], .iface t v]) (dec_result rfl _ _ w.heap.size _ _ _ _ 55 rfl rfl (store3 (HW.out w2 (hcc.mono (fun _ h => h.elim))) _ _ _)) rfl ⟨(chg3 (HCH.out.trans hcc sb_) (Nat.le_refl _) _ _ _).mono (fun _ h => h.elim), t, v, rfl⟩
theorem EnvD.int {w w' : World} {p : Nat} {bo : Option Nat} {x : Int} (h : EnvD w) (hp : IntAt w p bo x) (hc : Chg (fun k => k = p ∨ bo = some k) w w') : EnvD w' := by
 refine ⟨h.env.int hp hc, ?_⟩
 obtain ⟨t, v, e⟩ := h.ovf
 refine ⟨t, v, cell_kept e hc ?_⟩
 rintro (k | k)
 ·have k' : 0 = p := k
  subst k'
  obtain ⟨_, _, c0, _⟩ := hp.fld
  rw [c0] at e; cases e
 ·subst k
  obtain ⟨_, _, ds, _, _, ⟨sp, _, hr, h1, _⟩, _⟩ := hp
  have := hr.cell (i := 0) (by simp; omega)
  rw [e] at this; cases this
structure Mid (w0 w2 : World) (p : Nat) (bo : Option Nat) (x : Int) : Prop where
 int : ∃ b2, IntAt w2 p b2 x ∧ (b2 = bo ∨ ∃ b, b2 = some b ∧ w0.heap.size ≤ b)
 env : EnvD w2
 chg : Chg (fun k => k = p ∨ bo = some k) w0 w2
theorem Mid.same {w0 w2 w3 : World} {p : Nat} {bo : Option Nat} {x : Int} (h : Mid w0 w2 p bo x) (hc : Chg (fun _ => False) w2 w3) : Mid w0 w3 p bo x := by
 obtain ⟨b2, h1, h2⟩ := h.int
 exact ⟨⟨b2, h1.new hc, h2⟩, h.env.kept hc, h.chg.trans hc (fun _ _ h => h.elim)⟩
theorem Mid.step {w0 w2 w3 : World} {p : Nat} {bo b2 : Option Nat} {x y : Int} {r : Value} {e : Ending} (h : Mid w0 w2 p bo x) (h1 : IntAt w2 p b2 x) (k : PInt w2 p b2 y r e w3) : Mid w0 w3 p bo y := by
 obtain ⟨b2', h1', h2⟩ := h.int
 obtain rfl := h1.uniq h1'
 obtain ⟨_, bn, k1, k2, k3⟩ := k
 have hs := h.chg.size
 refine ⟨⟨bn, k1, ?_⟩, h.env.int h1 k3, h.chg.trans k3 (fun i hi hh => ?_)⟩
 ·rcases k2 with e | ⟨c, e, hc⟩
  ·rw [e]; exact h2
  ·exact .inr ⟨c, e, by omega⟩
 ·rcases hh with hh | hh
  ·exact .inl hh
  ·rcases h2 with e | ⟨c, e, hc⟩
   ·exact .inr (e ▸ hh)
   ·rw [hh] at e; simp only [Option.some.injEq] at e; omega
theorem mid_prec {w0 w2 : World} {p : Nat} {bo : Option Nat} {c : Nat} (h : Mid w0 w2 p bo (c : Int)) (hc : digs c ≤ 80) :
  Calls Tryz.prog 127 #[.pointer (some ⟨p, 0, none⟩)] w2 (fun e w3 => e = .returned (.int .i64 (digs c)) ∧ Mid w0 w3 p bo (c : Int)) := by
 obtain ⟨b2, h1, _⟩ := h.int
 have hc99 : (c : Int) < 10 ^ 99 := by
  have h1 := digs_le.1 hc
  have h2 : (10 : Nat) ^ 80 ≤ 10 ^ 99 := Nat.pow_le_pow_right (by omega) (by omega)
  have := pow_cast 99
  omega
 have hpr := bint_prec p b2 (c : Int) _ h1 h.env.env hc99
 rw [Int.toNat_natCast] at hpr
 exact hpr.mono (fun e w3 k => ⟨k.1, h.same k.2⟩)
theorem mid_hasPrec {w0 w2 : World} {p : Nat} {bo : Option Nat} {x : Int} {b : Bool} (h : Mid w0 w2 p bo x) (hb : decide ((10 : Int) ^ 19 ≤ x) = b) :
  Calls Tryz.prog 111 #[.pointer (some ⟨p, 0, none⟩), .int .i64 20] w2 (fun e w3 => e = .returned (.bool b) ∧ Mid w0 w3 p bo x) := by
 obtain ⟨b2, h1, _⟩ := h.int
 subst hb
 exact (bint_hasPrec p b2 x w2 h1 h.env.env).mono (fun e w3 k => ⟨k.1, h.same k.2⟩)
theorem mid_fint {w0 w2 : World} {p : Nat} {bo : Option Nat} {x : Int} (h : Mid w0 w2 p bo x) (hx : Wd x) :
  Calls Tryz.prog 130 #[.pointer (some ⟨p, 0, none⟩)] w2 (fun e w3 => e = .returned (.int .u64 x) ∧ w2 = w3) := by
 obtain ⟨b2, h1, _⟩ := h.int
 exact bint_fint p b2 x w2 h1 hx
theorem digs_bp {c : Nat} (hc : digs c ≤ 80) : (c : Int) < BP 30 := by
 have h1 := digs_le.1 hc
 have h2 := pow_cast 80
 have := p10_bd (k := 80) (by omega)
 omega
theorem mid_lsh {w0 w2 : World} {p : Nat} {bo : Option Nat} {c k : Nat} (h : Mid w0 w2 p bo (c : Int)) (hc : digs c ≤ 80) (hk : k ≤ 99) :
  Calls Tryz.prog 101 #[.pointer (some ⟨p, 0, none⟩), .pointer (some ⟨p, 0, none⟩), .int .i64 k] w2 (fun e w3 => e = .returned (.tuple #[]) ∧ Mid w0 w3 p bo ((c * 10 ^ k : Nat) : Int)) := by
 obtain ⟨b2, h1, _⟩ := h.int
 have e : ((c * 10 ^ k : Nat) : Int) = (c : Int) * 10 ^ k := by rw [Int.natCast_mul, pow_cast]
 rw [e]
 exact (bint_lsh_same p b2 (c : Int) k w2 h1 h.env.env (digs_bp hc) hk).mono (fun e w3 q => ⟨q.1, h.step h1 q⟩)
theorem mid_rsh {w0 w2 : World} {p : Nat} {bo : Option Nat} {c k : Nat} (h : Mid w0 w2 p bo (c : Int)) (hc : digs c ≤ 80) (hk1 : 1 ≤ k) (hk : k ≤ 57) :
  Calls Tryz.prog 129 #[.pointer (some ⟨p, 0, none⟩), .pointer (some ⟨p, 0, none⟩), .int .i64 k] w2 (fun e w3 => e = .returned (.tuple #[]) ∧ Mid w0 w3 p bo ((rhe c (10 ^ k) : Nat) : Int)) := by
 obtain ⟨b2, h1, _⟩ := h.int
 rw [← rheI_nat, pow_cast]
 exact (bint_rshHalfEven p k b2 (c : Int) w2 h1 h.env.env (digs_bp hc) hk1 hk).mono (fun e w3 q => ⟨q.1, h.step h1 q⟩)
theorem mid_start {w : World} {p : Nat} {bo : Option Nat} {x : Int} (hp : IntAt w p bo x) (he : EnvD w) :
  Mid (w.alloc (.cells #[.bool false, .int .i8 0, .int .u64 0] 55)) (w.alloc (.cells #[.bool false, .int .i8 0, .int .u64 0] 55)) p bo x := by
 have hch : Chg (fun _ => False) w (w.alloc (.cells #[.bool false, .int .i8 0, .int .u64 0] 55)) := (Chg.refl _ w).alloc _
 exact ⟨⟨bo, hp.new hch, .inl rfl⟩, he.kept hch, Chg.refl _ _⟩
theorem mid_end {w w2 : World} {p : Nat} {bo : Option Nat} {x : Int} {neg nb : Bool} {c1 t : Nat} (hp : IntAt w p bo x) (hnb : (neg && (c1 : Int) != 0) = nb)
  (h : Chg (fun k => k = p ∨ bo = some k) (w.alloc (.cells #[.bool false, .int .i8 0, .int .u64 0] 55)) w2) :
  PDecB w p bo neg (some (c1, t)) (.returned (.tuple #[.agg #[.bool nb, .int .i8 t, .int .u64 c1], .nilIface])) (((w2.setCell ⟨w.heap.size, 0, none⟩ (.bool nb)).setCell ⟨w.heap.size, 1, none⟩ (.int .i8 t)).setCell ⟨w.heap.size, 2, none⟩ (.int .u64 c1)) := by
 have hch : Chg (fun k => k = p ∨ bo = some k) w (w.alloc (.cells #[.bool false, .int .i8 0, .int .u64 0] 55)) := (Chg.refl _ w).alloc _
 have h2 := hch.trans h sb_
 refine ⟨Chg.setCell (p := ⟨w.heap.size, 2, none⟩) (Chg.setCell (p := ⟨w.heap.size, 1, none⟩) (Chg.setCell (p := ⟨w.heap.size, 0, none⟩) h2 (fun h => by simp only at h; omega) _) (fun h => by simp only at h; omega) _) (fun h => by simp only at h; omega) _, ?_⟩
 show _ = Ending.returned (.tuple #[decV (neg && (c1 : Int) != 0) c1 t, .nilIface])
 rw [hnb]; rfl
set_option maxHeartbeats 1000000 in
theorem nfb_exact1 (neg : Bool) (p : Nat) (bo : Option Nat) (c s m : Nat) (w : World) (hp : IntAt w p bo (c : Int)) (he : EnvD w) (hc : digs c ≤ 80) (hs : s ≤ 57) (hm : m ≤ 19) (h1 : ¬ 19 + s < digs c + m)(ha : ¬ s < m) (hb : s ≤ 19) (hd : digs c ≤ 19) (hds : digs c ≤ s) (hlt : c < 10 ^ 19) :
    Calls Tryz.prog 105 #[.bool neg, .pointer (some ⟨p, 0, none⟩), .int .i64 s, .int .i64 m] w (PDecB w p bo neg (some (c, s))) := by
  have hpr := mid_prec (mid_start hp he) hc
  have HPR := hid hpr
  have HW := hid (fun w1 (h : Chg (fun k => k = p ∨ bo = some k) (w.alloc (.cells #[.bool false, .int .i8 0, .int .u64 0] 55)) w1) => cell_z hp h)
  obtain ⟨c1, hc1e⟩ : ∃ c1, c = c1 := ⟨_, rfl⟩
  rw [hc1e] at hlt
  rw [hc1e]
  have hfi : Fi (c1 : Int) := ⟨by omega, by have : (10 : Nat) ^ 19 = 10000000000000000000 := by decide
                                            omega⟩
  have hwd := hfi.wd
  have hb19 : decide ((10 : Int) ^ 19 ≤ (c1 : Int)) = false := decide_eq_false (by have := pow_cast 19; omega)
  obtain ⟨nb, hnb⟩ : ∃ nb, (neg && (c1 : Int) != 0) = nb := ⟨_, rfl⟩
  have hns := fun w => newSafe_flat neg nb (c1 : Int) s hfi (by omega) hnb w
  have HNS := hid hns
  have HEND := hid (fun w2 h => mid_end (w := w) (w2 := w2) (t := s) hp hnb h)
  have hlt1 : ¬ (s : Int) < (m : Int) := by omega
  have hle1 : ¬ (19 : Int) < (s : Int) := by omega
  have hd2 : ¬ (19 : Int) < (digs c : Int) := by omega
  have hd3 : (digs c : Int) ≤ (s : Int) := by omega
  have hd4 : ¬ (s : Int) < (digs c : Int) := by omega
  have hw1 : IntKind.i64.wrap ((digs c : Int) - (s : Int)) = (digs c : Int) - (s : Int) := IntWalk.i64_in _ (by omega)
  have hw2 : IntKind.i64.wrap (19 - (m : Int)) = 19 - (m : Int) := IntWalk.i64_in _ (by omega)
  obtain ⟨A, hA⟩ : ∃ A, (digs c : Int) - (s : Int) = A := ⟨_, rfl⟩
  obtain ⟨B, hB⟩ : ∃ B, 19 - (m : Int) = B := ⟨_, rfl⟩
  have hgt : ¬ B < A := by omega
  replace hw1 : IntKind.i64.wrap ((digs c : Int) - (s : Int)) = A := by rw [hw1, hA]
  replace hw2 : IntKind.i64.wrap (19 - (m : Int)) = B := by rw [hw2, hB]
  clear hA hB
  have HWD := hid hwd
  clear hwd
  have HC1 := hid hc1e
  have HMID := True.intro
  clear hpr hns hp he hlt hfi hc1e h1 ha hb hd hds
  clear hc
  generalize digs c = D at *
  go_enter Tryz.func105, Tryz.ntmps105
  go_wp2_with (first | (go_at_call 127; refine HPR.out.mono ?_; intro e w1 h; obtain ⟨he1, hm1⟩ := h; subst he1; rw [HC1.out] at hm1; have HM1 := hid hm1; clear hm1) | (go_at_call 111; refine (mid_hasPrec HM1.out hb19).mono ?_; intro e w3 h; obtain ⟨he3, hm3⟩ := h; subst he3; have HM3 := hid hm3; clear hm3) | (go_at_call 130; refine (mid_fint HM3.out HWD.out).mono ?_; intro e w4 h; obtain ⟨he4, hw4⟩ := h; subst he4; subst hw4) | (go_at_call 85; refine (HNS.out _).mono ?_; intro e w5 h; obtain ⟨he5, hc5⟩ := h; subst he5; have hcc := HM3.out.chg.trans hc5 (fun _ _ h => h.elim); obtain ⟨k0, k1, k2, f0, f1, f2⟩ := cell3 (HW.out w5 hcc); have HCC := hid hcc; clear hcc))
  refine bodyPost_ret (v := .tuple #[.agg #[.bool nb, .int .i8 s, .int .u64 c1], .nilIface]) (dec_result rfl _ _ w.heap.size _ _ _ _ 55 rfl rfl (store3 (HW.out w5 HCC.out) _ _ _)) rfl (HEND.out _ HCC.out)
set_option maxHeartbeats 1000000 in
theorem nfb_exact2 (neg : Bool) (p : Nat) (bo : Option Nat) (c s m : Nat) (w : World) (hp : IntAt w p bo (c : Int)) (he : EnvD w) (hc : digs c ≤ 80) (hs : s ≤ 57) (hm : m ≤ 19) (h1 : ¬ 19 + s < digs c + m)(ha : ¬ s < m) (hb : s ≤ 19) (hd : digs c ≤ 19) (hds : s < digs c) (hlt : c < 10 ^ 19) :
    Calls Tryz.prog 105 #[.bool neg, .pointer (some ⟨p, 0, none⟩), .int .i64 s, .int .i64 m] w (PDecB w p bo neg (some (c, s))) := by
  have hpr := mid_prec (mid_start hp he) hc
  have HPR := hid hpr
  have HW := hid (fun w1 (h : Chg (fun k => k = p ∨ bo = some k) (w.alloc (.cells #[.bool false, .int .i8 0, .int .u64 0] 55)) w1) => cell_z hp h)
  obtain ⟨c1, hc1e⟩ : ∃ c1, c = c1 := ⟨_, rfl⟩
  rw [hc1e] at hlt
  rw [hc1e]
  have hfi : Fi (c1 : Int) := ⟨by omega, by have : (10 : Nat) ^ 19 = 10000000000000000000 := by decide
                                            omega⟩
  have hwd := hfi.wd
  have hb19 : decide ((10 : Int) ^ 19 ≤ (c1 : Int)) = false := decide_eq_false (by have := pow_cast 19; omega)
  obtain ⟨nb, hnb⟩ : ∃ nb, (neg && (c1 : Int) != 0) = nb := ⟨_, rfl⟩
  have hns := fun w => newSafe_flat neg nb (c1 : Int) s hfi (by omega) hnb w
  have HNS := hid hns
  have HEND := hid (fun w2 h => mid_end (w := w) (w2 := w2) (t := s) hp hnb h)
  have hlt1 : ¬ (s : Int) < (m : Int) := by omega
  have hle1 : ¬ (19 : Int) < (s : Int) := by omega
  have hd2 : ¬ (19 : Int) < (digs c : Int) := by omega
  have hd3 : ¬ (digs c : Int) ≤ (s : Int) := by omega
  have hd4 : (s : Int) < (digs c : Int) := by omega
  have hw1 : IntKind.i64.wrap ((digs c : Int) - (s : Int)) = (digs c : Int) - (s : Int) := IntWalk.i64_in _ (by omega)
  have hw2 : IntKind.i64.wrap (19 - (m : Int)) = 19 - (m : Int) := IntWalk.i64_in _ (by omega)
  obtain ⟨A, hA⟩ : ∃ A, (digs c : Int) - (s : Int) = A := ⟨_, rfl⟩
  obtain ⟨B, hB⟩ : ∃ B, 19 - (m : Int) = B := ⟨_, rfl⟩
  have hgt : ¬ B < A := by omega
  replace hw1 : IntKind.i64.wrap ((digs c : Int) - (s : Int)) = A := by rw [hw1, hA]
  replace hw2 : IntKind.i64.wrap (19 - (m : Int)) = B := by rw [hw2, hB]
  clear hA hB
  have HWD := hid hwd
  clear hwd
  have HC1 := hid hc1e
  have HMID := True.intro
  clear hpr hns hp he hlt hfi hc1e h1 ha hb hd hds
  clear hc
  generalize digs c = D at *
  go_enter Tryz.func105, Tryz.ntmps105
  go_wp2_with (first | (go_at_call 127; refine HPR.out.mono ?_; intro e w1 h; obtain ⟨he1, hm1⟩ := h; subst he1; rw [HC1.out] at hm1; have HM1 := hid hm1; clear hm1) | (go_at_call 111; refine (mid_hasPrec HM1.out hb19).mono ?_; intro e w3 h; obtain ⟨he3, hm3⟩ := h; subst he3; have HM3 := hid hm3; clear hm3) | (go_at_call 130; refine (mid_fint HM3.out HWD.out).mono ?_; intro e w4 h; obtain ⟨he4, hw4⟩ := h; subst he4; subst hw4) | (go_at_call 85; refine (HNS.out _).mono ?_; intro e w5 h; obtain ⟨he5, hc5⟩ := h; subst he5; have hcc := HM3.out.chg.trans hc5 (fun _ _ h => h.elim); obtain ⟨k0, k1, k2, f0, f1, f2⟩ := cell3 (HW.out w5 hcc); have HCC := hid hcc; clear hcc))
  refine bodyPost_ret (v := .tuple #[.agg #[.bool nb, .int .i8 s, .int .u64 c1], .nilIface]) (dec_result rfl _ _ w.heap.size _ _ _ _ 55 rfl rfl (store3 (HW.out w5 HCC.out) _ _ _)) rfl (HEND.out _ HCC.out)
set_option maxHeartbeats 1000000 in
theorem nfb_lsh (neg : Bool) (p : Nat) (bo : Option Nat) (c s m : Nat) (w : World) (hp : IntAt w p bo (c : Int)) (he : EnvD w) (hc : digs c ≤ 80) (hs : s ≤ 57) (hm : m ≤ 19) (h1 : ¬ 19 + s < digs c + m)(ha : s < m) (hlt : (c * 10 ^ (m - s)) < 10 ^ 19) :
    Calls Tryz.prog 105 #[.bool neg, .pointer (some ⟨p, 0, none⟩), .int .i64 s, .int .i64 m] w (PDecB w p bo neg (some ((c * 10 ^ (m - s)), m))) := by
  have hpr := mid_prec (mid_start hp he) hc
  have HPR := hid hpr
  have HW := hid (fun w1 (h : Chg (fun k => k = p ∨ bo = some k) (w.alloc (.cells #[.bool false, .int .i8 0, .int .u64 0] 55)) w1) => cell_z hp h)
  obtain ⟨c1, hc1e⟩ : ∃ c1, (c * 10 ^ (m - s)) = c1 := ⟨_, rfl⟩
  rw [hc1e] at hlt
  rw [hc1e]
  have hfi : Fi (c1 : Int) := ⟨by omega, by have : (10 : Nat) ^ 19 = 10000000000000000000 := by decide
                                            omega⟩
  have hwd := hfi.wd
  have hb19 : decide ((10 : Int) ^ 19 ≤ (c1 : Int)) = false := decide_eq_false (by have := pow_cast 19; omega)
  obtain ⟨nb, hnb⟩ : ∃ nb, (neg && (c1 : Int) != 0) = nb := ⟨_, rfl⟩
  have hns := fun w => newSafe_flat neg nb (c1 : Int) m hfi (by omega) hnb w
  have HNS := hid hns
  have HEND := hid (fun w2 h => mid_end (w := w) (w2 := w2) (t := m) hp hnb h)
  have hlt1 : (s : Int) < (m : Int) := by omega
  have hsub : IntKind.i64.wrap ((m : Int) - (s : Int)) = ((m - s : Nat) : Int) := by rw [show (m : Int) - (s : Int) = ((m - s : Nat) : Int) by omega]; exact IntWalk.i64_in _ (by omega)
  have hw1 : IntKind.i64.wrap ((digs c : Int) - (s : Int)) = (digs c : Int) - (s : Int) := IntWalk.i64_in _ (by omega)
  have hw2 : IntKind.i64.wrap (19 - (m : Int)) = 19 - (m : Int) := IntWalk.i64_in _ (by omega)
  obtain ⟨A, hA⟩ : ∃ A, (digs c : Int) - (s : Int) = A := ⟨_, rfl⟩
  obtain ⟨B, hB⟩ : ∃ B, 19 - (m : Int) = B := ⟨_, rfl⟩
  have hgt : ¬ B < A := by omega
  replace hw1 : IntKind.i64.wrap ((digs c : Int) - (s : Int)) = A := by rw [hw1, hA]
  replace hw2 : IntKind.i64.wrap (19 - (m : Int)) = B := by rw [hw2, hB]
  clear hA hB
  have HWD := hid hwd
  clear hwd
  have HC1 := hid hc1e
  have HMID := hid (fun w2 (h : Mid (w.alloc (.cells #[.bool false, .int .i8 0, .int .u64 0] 55)) w2 p bo (c : Int)) => mid_lsh (k := m - s) h hc (by omega))
  clear hpr hns hp he hlt hfi hc1e h1 ha
  clear hc
  generalize m - s = d at *
  generalize digs c = D at *
  go_enter Tryz.func105, Tryz.ntmps105
  go_wp2_with (first | (go_at_call 127; refine HPR.out.mono ?_; intro e w1 h; obtain ⟨he1, hm1⟩ := h; subst he1; have HM1 := hid hm1; clear hm1) | (go_at_call 101; refine (HMID.out _ HM1.out).mono ?_; intro e w2 h; obtain ⟨he2, hm2⟩ := h; subst he2; rw [HC1.out] at hm2; have HM2 := hid hm2; clear hm2) | (go_at_call 111; refine (mid_hasPrec HM2.out hb19).mono ?_; intro e w3 h; obtain ⟨he3, hm3⟩ := h; subst he3; have HM3 := hid hm3; clear hm3) | (go_at_call 130; refine (mid_fint HM3.out HWD.out).mono ?_; intro e w4 h; obtain ⟨he4, hw4⟩ := h; subst he4; subst hw4) | (go_at_call 85; refine (HNS.out _).mono ?_; intro e w5 h; obtain ⟨he5, hc5⟩ := h; subst he5; have hcc := HM3.out.chg.trans hc5 (fun _ _ h => h.elim); obtain ⟨k0, k1, k2, f0, f1, f2⟩ := cell3 (HW.out w5 hcc); have HCC := hid hcc; clear hcc))
  refine bodyPost_ret (v := .tuple #[.agg #[.bool nb, .int .i8 (m : Nat), .int .u64 c1], .nilIface]) (dec_result rfl _ _ w.heap.size _ _ _ _ 55 rfl rfl (store3 (HW.out w5 HCC.out) _ _ _)) rfl (HEND.out _ HCC.out)
set_option maxHeartbeats 1000000 in
theorem nfb_rsh (neg : Bool) (p : Nat) (bo : Option Nat) (c s m : Nat) (w : World) (hp : IntAt w p bo (c : Int)) (he : EnvD w) (hc : digs c ≤ 80) (hs : s ≤ 57) (hm : m ≤ 19) (h1 : ¬ 19 + s < digs c + m)(ha : ¬ s < m) (hb : digs c ≤ s ∧ 19 < s) (hlt : (rhe c (10 ^ (s - 19))) < 10 ^ 19) :
    Calls Tryz.prog 105 #[.bool neg, .pointer (some ⟨p, 0, none⟩), .int .i64 s, .int .i64 m] w (PDecB w p bo neg (some ((rhe c (10 ^ (s - 19))), 19))) := by
  have hpr := mid_prec (mid_start hp he) hc
  have HPR := hid hpr
  have HW := hid (fun w1 (h : Chg (fun k => k = p ∨ bo = some k) (w.alloc (.cells #[.bool false, .int .i8 0, .int .u64 0] 55)) w1) => cell_z hp h)
  obtain ⟨c1, hc1e⟩ : ∃ c1, (rhe c (10 ^ (s - 19))) = c1 := ⟨_, rfl⟩
  rw [hc1e] at hlt
  rw [hc1e]
  have hfi : Fi (c1 : Int) := ⟨by omega, by have : (10 : Nat) ^ 19 = 10000000000000000000 := by decide
                                            omega⟩
  have hwd := hfi.wd
  have hb19 : decide ((10 : Int) ^ 19 ≤ (c1 : Int)) = false := decide_eq_false (by have := pow_cast 19; omega)
  obtain ⟨nb, hnb⟩ : ∃ nb, (neg && (c1 : Int) != 0) = nb := ⟨_, rfl⟩
  have hns := fun w => newSafe_flat neg nb (c1 : Int) 19 hfi (by omega) hnb w
  have HNS := hid hns
  have HEND := hid (fun w2 h => mid_end (w := w) (w2 := w2) (t := 19) hp hnb h)
  have hlt1 : ¬ (s : Int) < (m : Int) := by omega
  have hd3 : (digs c : Int) ≤ (s : Int) := by omega
  have hd5 : (19 : Int) < (s : Int) := by omega
  have hsub : IntKind.i64.wrap ((s : Int) - 19) = ((s - 19 : Nat) : Int) := by rw [show (s : Int) - 19 = ((s - 19 : Nat) : Int) by omega]; exact IntWalk.i64_in _ (by omega)
  have hw1 : IntKind.i64.wrap ((digs c : Int) - (s : Int)) = (digs c : Int) - (s : Int) := IntWalk.i64_in _ (by omega)
  have hw2 : IntKind.i64.wrap (19 - (m : Int)) = 19 - (m : Int) := IntWalk.i64_in _ (by omega)
  obtain ⟨A, hA⟩ : ∃ A, (digs c : Int) - (s : Int) = A := ⟨_, rfl⟩
  obtain ⟨B, hB⟩ : ∃ B, 19 - (m : Int) = B := ⟨_, rfl⟩
  have hgt : ¬ B < A := by omega
  replace hw1 : IntKind.i64.wrap ((digs c : Int) - (s : Int)) = A := by rw [hw1, hA]
  replace hw2 : IntKind.i64.wrap (19 - (m : Int)) = B := by rw [hw2, hB]
  clear hA hB
  have HWD := hid hwd
  clear hwd
  have HC1 := hid hc1e
  have HMID := hid (fun w2 (h : Mid (w.alloc (.cells #[.bool false, .int .i8 0, .int .u64 0] 55)) w2 p bo (c : Int)) => mid_rsh (k := s - 19) h hc (by omega) (by omega))
  clear hpr hns hp he hlt hfi hc1e h1 ha hb
  clear hc
  generalize s - 19 = d at *
  generalize digs c = D at *
  go_enter Tryz.func105, Tryz.ntmps105
  go_wp2_with (first | (go_at_call 127; refine HPR.out.mono ?_; intro e w1 h; obtain ⟨he1, hm1⟩ := h; subst he1; have HM1 := hid hm1; clear hm1) | (go_at_call 129; refine (HMID.out _ HM1.out).mono ?_; intro e w2 h; obtain ⟨he2, hm2⟩ := h; subst he2; rw [HC1.out] at hm2; have HM2 := hid hm2; clear hm2) | (go_at_call 111; refine (mid_hasPrec HM2.out hb19).mono ?_; intro e w3 h; obtain ⟨he3, hm3⟩ := h; subst he3; have HM3 := hid hm3; clear hm3) | (go_at_call 130; refine (mid_fint HM3.out HWD.out).mono ?_; intro e w4 h; obtain ⟨he4, hw4⟩ := h; subst he4; subst hw4) | (go_at_call 85; refine (HNS.out _).mono ?_; intro e w5 h; obtain ⟨he5, hc5⟩ := h; subst he5; have hcc := HM3.out.chg.trans hc5 (fun _ _ h => h.elim); obtain ⟨k0, k1, k2, f0, f1, f2⟩ := cell3 (HW.out w5 hcc); have HCC := hid hcc; clear hcc))
  refine bodyPost_ret (v := .tuple #[.agg #[.bool nb, .int .i8 (19 : Nat), .int .u64 c1], .nilIface]) (dec_result rfl _ _ w.heap.size _ _ _ _ 55 rfl rfl (store3 (HW.out w5 HCC.out) _ _ _)) rfl (HEND.out _ HCC.out)
set_option maxHeartbeats 1000000 in
theorem nfb_cut (neg : Bool) (p : Nat) (bo : Option Nat) (c s m : Nat) (w : World) (hp : IntAt w p bo (c : Int)) (he : EnvD w) (hc : digs c ≤ 80) (hs : s ≤ 57) (hm : m ≤ 19) (h1 : ¬ 19 + s < digs c + m)(ha : ¬ s < m) (hb : s < digs c ∧ 19 < digs c) (hlt : (rhe c (10 ^ (digs c - 19))) < 10 ^ 19) :
    Calls Tryz.prog 105 #[.bool neg, .pointer (some ⟨p, 0, none⟩), .int .i64 s, .int .i64 m] w (PDecB w p bo neg (some ((rhe c (10 ^ (digs c - 19))), (19 + s - digs c)))) := by
  have hpr := mid_prec (mid_start hp he) hc
  have HPR := hid hpr
  have HW := hid (fun w1 (h : Chg (fun k => k = p ∨ bo = some k) (w.alloc (.cells #[.bool false, .int .i8 0, .int .u64 0] 55)) w1) => cell_z hp h)
  obtain ⟨c1, hc1e⟩ : ∃ c1, (rhe c (10 ^ (digs c - 19))) = c1 := ⟨_, rfl⟩
  obtain ⟨tt, hte⟩ : ∃ tt, (19 + s - digs c) = tt := ⟨_, rfl⟩
  rw [hc1e] at hlt
  rw [hc1e, hte]
  have hfi : Fi (c1 : Int) := ⟨by omega, by have : (10 : Nat) ^ 19 = 10000000000000000000 := by decide
                                            omega⟩
  have hwd := hfi.wd
  have hb19 : decide ((10 : Int) ^ 19 ≤ (c1 : Int)) = false := decide_eq_false (by have := pow_cast 19; omega)
  obtain ⟨nb, hnb⟩ : ∃ nb, (neg && (c1 : Int) != 0) = nb := ⟨_, rfl⟩
  have hns := fun w => newSafe_flat neg nb (c1 : Int) tt hfi (by omega) hnb w
  have HNS := hid hns
  have HEND := hid (fun w2 h => mid_end (w := w) (w2 := w2) (t := tt) hp hnb h)
  have hlt1 : ¬ (s : Int) < (m : Int) := by omega
  have hd3 : ¬ (digs c : Int) ≤ (s : Int) := by omega
  have hd4 : (s : Int) < (digs c : Int) := by omega
  have hd5 : (19 : Int) < (digs c : Int) := by omega
  have hsub : IntKind.i64.wrap ((digs c : Int) - 19) = ((digs c - 19 : Nat) : Int) := by rw [show (digs c : Int) - 19 = ((digs c - 19 : Nat) : Int) by omega]; exact IntWalk.i64_in _ (by omega)
  have hw5 : IntKind.i64.wrap (19 - (digs c : Int)) = 19 - (digs c : Int) := IntWalk.i64_in _ (by omega)
  have hw6 : IntKind.i64.wrap (19 - (digs c : Int) + (s : Int)) = (tt : Int) := by rw [show 19 - (digs c : Int) + (s : Int) = (tt : Int) by omega]; exact IntWalk.i64_in _ (by omega)
  have hw1 : IntKind.i64.wrap ((digs c : Int) - (s : Int)) = (digs c : Int) - (s : Int) := IntWalk.i64_in _ (by omega)
  have hw2 : IntKind.i64.wrap (19 - (m : Int)) = 19 - (m : Int) := IntWalk.i64_in _ (by omega)
  obtain ⟨A, hA⟩ : ∃ A, (digs c : Int) - (s : Int) = A := ⟨_, rfl⟩
  obtain ⟨B, hB⟩ : ∃ B, 19 - (m : Int) = B := ⟨_, rfl⟩
  have hgt : ¬ B < A := by omega
  replace hw1 : IntKind.i64.wrap ((digs c : Int) - (s : Int)) = A := by rw [hw1, hA]
  replace hw2 : IntKind.i64.wrap (19 - (m : Int)) = B := by rw [hw2, hB]
  clear hA hB
  have HWD := hid hwd
  clear hwd
  have HC1 := hid hc1e
  have HMID := hid (fun w2 (h : Mid (w.alloc (.cells #[.bool false, .int .i8 0, .int .u64 0] 55)) w2 p bo (c : Int)) => mid_rsh (k := digs c - 19) h hc (by omega) (by omega))
  clear hpr hns hp he hlt hfi hc1e h1 ha hb hte
  clear hc
  generalize digs c - 19 = d at *
  generalize digs c = D at *
  go_enter Tryz.func105, Tryz.ntmps105
  go_wp2_with (first | (go_at_call 127; refine HPR.out.mono ?_; intro e w1 h; obtain ⟨he1, hm1⟩ := h; subst he1; have HM1 := hid hm1; clear hm1) | (go_at_call 129; refine (HMID.out _ HM1.out).mono ?_; intro e w2 h; obtain ⟨he2, hm2⟩ := h; subst he2; rw [HC1.out] at hm2; have HM2 := hid hm2; clear hm2) | (go_at_call 111; refine (mid_hasPrec HM2.out hb19).mono ?_; intro e w3 h; obtain ⟨he3, hm3⟩ := h; subst he3; have HM3 := hid hm3; clear hm3) | (go_at_call 130; refine (mid_fint HM3.out HWD.out).mono ?_; intro e w4 h; obtain ⟨he4, hw4⟩ := h; subst he4; subst hw4) | (go_at_call 85; refine (HNS.out _).mono ?_; intro e w5 h; obtain ⟨he5, hc5⟩ := h; subst he5; have hcc := HM3.out.chg.trans hc5 (fun _ _ h => h.elim); obtain ⟨k0, k1, k2, f0, f1, f2⟩ := cell3 (HW.out w5 hcc); have HCC := hid hcc; clear hcc))
  refine bodyPost_ret (v := .tuple #[.agg #[.bool nb, .int .i8 tt, .int .u64 c1], .nilIface]) (dec_result rfl _ _ w.heap.size _ _ _ _ 55 rfl rfl (store3 (HW.out w5 HCC.out) _ _ _)) rfl (HEND.out _ HCC.out)
end Go.Proofs.YtbjhnckboimliaaGreatDoor
