/- Part 24 of the proof. -/
import Derived.Test.YtmpkgkjnoanlhaaGreatDoorP21
namespace Go.Proofs.YtmpkgkjnoanlhaaGreatDoor
open Go.RowKit
set_option linter.unusedVariables false
set_option linter.unusedSimpArgs false
set_option maxRecDepth 20000
structure Thr (w0 w2 : World) (p q r : Nat) (x y z : Int) : Prop where
 ex : ∃ bp bq br, IntAt w2 p bp x ∧ IntAt w2 q bq y ∧ IntAt w2 r br z ∧ ((∀ b, bp = some b → bq ≠ some b ∧ br ≠ some b) ∧ ∀ b, bq = some b → br ≠ some b) ∧ (∀ b, bp = some b → w0.heap.size ≤ b) ∧ (∀ b, bq = some b → w0.heap.size ≤ b) ∧ (∀ b, br = some b → w0.heap.size ≤ b)
 p0 : w0.heap.size ≤ p
 q0 : w0.heap.size ≤ q
 r0 : w0.heap.size ≤ r
 ne : p ≠ q ∧ p ≠ r ∧ q ≠ r
 env : EnvD w2
 chg : Chg (fun _ => False) w0 w2
theorem Thr.rot {w0 w2 : World} {p q r : Nat} {x y z : Int} (h : Thr w0 w2 p q r x y z) : Thr w0 w2 q r p y z x := by
 obtain ⟨⟨bp, bq, br, h1, h2, h3, ⟨h4, h5⟩, h6, h7, h8⟩, a, b, c, ⟨n1, n2, n3⟩, d, e⟩ := h
 exact ⟨⟨bq, br, bp, h2, h3, h1, ⟨fun b hb => ⟨h5 b hb, fun h => (h4 b h).1 hb⟩, fun b hb h => (h4 b h).2 hb⟩, h7, h8, h6⟩, b, c, a, ⟨n3, n1.symm, n2.symm⟩, d, e⟩
theorem Thr.same {w0 w2 w3 : World} {p q r : Nat} {x y z : Int} (h : Thr w0 w2 p q r x y z) (hc : Chg (fun _ => False) w2 w3) : Thr w0 w3 p q r x y z := by
 obtain ⟨⟨bp, bq, br, h1, h2, h3, hh⟩, a, b, c, n, d, e⟩ := h
 exact ⟨⟨bp, bq, br, h1.new hc, h2.new hc, h3.new hc, hh⟩, a, b, c, n, d.kept hc, e.trans hc sb_⟩
theorem Thr.start {w0 w1 w2 : World} {p q r : Nat} {x y : Int} (h : Two w0 w1 p q x y) (h3 : IntAt w2 r none 0) (hr : w1.heap.size ≤ r) (hc : Chg (fun _ => False) w1 w2) : Thr w0 w2 p q r x y 0 := by
 obtain ⟨⟨bp, bq, h1, h2, h4, h5, h6⟩, a, b, c, d, e⟩ := h
 have hs := e.size
 have hp := h1.lt
 have hq := h2.lt
 exact ⟨⟨bp, bq, none, h1.new hc, h2.new hc, h3, ⟨fun b hb => ⟨h4 b hb, by intro h; cases h⟩, fun b hb h => by cases h⟩, h5, h6, by intro b h; cases h⟩, a, b, by omega, ⟨c, by omega, by omega⟩, d.kept hc, e.trans hc sb_⟩
theorem Thr.two {w0 w2 : World} {p q r : Nat} {x y z : Int} (h : Thr w0 w2 p q r x y z) : Two w0 w2 p q x y := by
 obtain ⟨⟨bp, bq, br, h1, h2, h3, ⟨h4, h5⟩, h6, h7, h8⟩, a, b, c, ⟨n1, n2, n3⟩, d, e⟩ := h
 exact ⟨⟨bp, bq, h1, h2, fun b hb => (h4 b hb).1, h6, h7⟩, a, b, n1, d, e⟩
theorem Thr.step {w0 w2 w3 : World} {p q r : Nat} {bp : Option Nat} {x y z x' : Int} {v : Value} {e : Ending} (h : Thr w0 w2 p q r x y z) (hp : IntAt w2 p bp x) (k : PInt w2 p bp x' v e w3) : Thr w0 w3 p q r x' y z := by
 obtain ⟨⟨bp', bq, br, h1, h2, h3, ⟨h4, h5⟩, h6, h7, h8⟩, a, b, c, ⟨n1, n2, n3⟩, d, e⟩ := h
 obtain rfl := hp.uniq h1
 obtain ⟨_, bn, k1, k2, k3⟩ := k
 have hs := e.size
 have far : ∀ {s : Nat} {bs : Option Nat} {u : Int}, IntAt w2 s bs u → p ≠ s → (∀ b, bp = some b → bs ≠ some b) → IntAt w3 s bs u ∧ ∀ b, bn = some b → bs ≠ some b := by
  intro s bs u hu hne hap
  refine ⟨hu.kept k3 ?_ ?_, ?_⟩
  ·rintro (hh | hh)
   ·exact hne hh.symm
   ·exact hu.ne hp hh rfl
  ·rintro b' hb (hh | hh)
   ·exact hp.ne hu hb hh
   ·exact hap b' hh hb
  ·intro b' hb hq
   rcases k2 with k | ⟨c', k, hk⟩
   ·exact hap b' (k ▸ hb) hq
   ·rw [hb] at k
    simp only [Option.some.injEq] at k
    have := hu.blk hq
    omega
 obtain ⟨g1, g2⟩ := far h2 n1 (fun b hb => (h4 b hb).1)
 obtain ⟨g3, g4⟩ := far h3 n2 (fun b hb => (h4 b hb).2)
 refine ⟨⟨bn, bq, br, k1, g1, g3, ⟨fun b hb => ⟨g2 b hb, g4 b hb⟩, h5⟩, ?_, h7, h8⟩, a, b, c, ⟨n1, n2, n3⟩, d.int hp k3, e.trans k3 (fun i hi hh => ?_)⟩
 ·intro b' hb
  rcases k2 with k | ⟨c', k, hk⟩
  ·exact h6 b' (k ▸ hb)
  ·rw [hb] at k
   simp only [Option.some.injEq] at k
   omega
 ·rcases hh with hh | hh
  ·omega
  ·have := h6 i hh; omega
theorem thr_setFint {w0 w2 : World} {p q r : Nat} {x y z : Int} {c : Int} (h : Thr w0 w2 p q r x y z) (hc : Wd c) :
  Calls Tryz.prog 73 #[.pointer (some ⟨p, 0, none⟩), .int .u64 c] w2 (fun e w3 => e = .returned (.tuple #[]) ∧ Thr w0 w3 p q r c y z) := by
 obtain ⟨bp, bq, br, h1, h2, _⟩ := h.ex
 exact (bint_setFint p bp x c w2 h1 hc).mono (fun e w3 k => ⟨k.1, h.step h1 k⟩)
theorem thr_setFint2 {w0 w2 : World} {p q r : Nat} {x y z : Int} {c : Int} (h : Thr w0 w2 p q r x y z) (hc : Wd c) :
  Calls Tryz.prog 73 #[.pointer (some ⟨q, 0, none⟩), .int .u64 c] w2 (fun e w3 => e = .returned (.tuple #[]) ∧ Thr w0 w3 p q r x c z) :=
 (thr_setFint h.rot hc).mono (fun _ _ k => ⟨k.1, k.2.rot.rot⟩)
theorem thr_setFint3 {w0 w2 : World} {p q r : Nat} {x y z : Int} {c : Int} (h : Thr w0 w2 p q r x y z) (hc : Wd c) :
  Calls Tryz.prog 73 #[.pointer (some ⟨r, 0, none⟩), .int .u64 c] w2 (fun e w3 => e = .returned (.tuple #[]) ∧ Thr w0 w3 p q r x y c) :=
 (thr_setFint h.rot.rot hc).mono (fun _ _ k => ⟨k.1, k.2.rot⟩)
theorem thr_mul {w0 w2 : World} {p q r : Nat} {x : Int} {a b : Nat} (h : Thr w0 w2 p q r x (a : Int) (b : Int)) (ha : digs a ≤ 57) (hb : digs b ≤ 57) :
  Calls Tryz.prog 74 #[.pointer (some ⟨q, 0, none⟩), .pointer (some ⟨q, 0, none⟩), .pointer (some ⟨r, 0, none⟩)] w2 (fun e w3 => e = .returned (.tuple #[]) ∧ Two w0 w3 p q x ((a * b : Nat) : Int)) := by
 obtain ⟨bp, bq, br, h1, h2, h3, _⟩ := h.ex
 rw [Int.natCast_mul]
 exact (bint_mul_same q r bq br (a : Int) (b : Int) w2 h2 h3 h.ne.2.2 (digs_bp ha) (digs_bp hb) h.env.env.kar).mono (fun e w3 k => ⟨k.1, (h.rot.step h2 k).rot.rot.two⟩)
theorem bx4 (w : World) (dn : Bool) (ds : Nat) (dc : Int) (en : Bool) (es : Nat) (ec : Int) (fn : Bool) (fs : Nat) (fc : Int) :
  Hid (∀ a, Chg (fun _ => False) ((((w.alloc (.cells #[.bool dn, .int .i8 ds, .int .u64 dc] 46)).alloc (.cells #[.bool en, .int .i8 es, .int .u64 ec] 46)).alloc (.cells #[.bool fn, .int .i8 fs, .int .u64 fc] 46)).alloc (.cells #[.bool false, .int .i8 0, .int .u64 0] 46)) a →
   a.cell? ⟨w.heap.size, 0, none⟩ = some (.bool dn) ∧ a.cell? ⟨w.heap.size, 1, none⟩ = some (.int .i8 ds) ∧ a.cell? ⟨w.heap.size, 2, none⟩ = some (.int .u64 dc) ∧
   a.cell? ⟨w.heap.size + 1, 0, none⟩ = some (.bool en) ∧ a.cell? ⟨w.heap.size + 1, 1, none⟩ = some (.int .i8 es) ∧ a.cell? ⟨w.heap.size + 1, 2, none⟩ = some (.int .u64 ec) ∧
   a.cell? ⟨w.heap.size + 1 + 1, 0, none⟩ = some (.bool fn) ∧ a.cell? ⟨w.heap.size + 1 + 1, 1, none⟩ = some (.int .i8 fs) ∧ a.cell? ⟨w.heap.size + 1 + 1, 2, none⟩ = some (.int .u64 fc) ∧
   a.cell? ⟨w.heap.size + 1 + 1 + 1, 0, none⟩ = some (.bool false) ∧ a.cell? ⟨w.heap.size + 1 + 1 + 1, 1, none⟩ = some (.int .i8 0) ∧ a.cell? ⟨w.heap.size + 1 + 1 + 1, 2, none⟩ = some (.int .u64 0) ∧
   a.frozen? ⟨w.heap.size + 1 + 1 + 1, 0, none⟩ = false ∧ a.frozen? ⟨w.heap.size + 1 + 1 + 1, 1, none⟩ = false ∧ a.frozen? ⟨w.heap.size + 1 + 1 + 1, 2, none⟩ = false) ∧
  Hid (∀ a, Chg (fun _ => False) ((((w.alloc (.cells #[.bool dn, .int .i8 ds, .int .u64 dc] 46)).alloc (.cells #[.bool en, .int .i8 es, .int .u64 ec] 46)).alloc (.cells #[.bool fn, .int .i8 fs, .int .u64 fc] 46)).alloc (.cells #[.bool false, .int .i8 0, .int .u64 0] 46)) a →
   a.heap[w.heap.size + 1 + 1 + 1]? = some (.cells #[.bool false, .int .i8 0, .int .u64 0] 46 (0, 0))) ∧
  Hid (Chg (fun _ => False) w ((((w.alloc (.cells #[.bool dn, .int .i8 ds, .int .u64 dc] 46)).alloc (.cells #[.bool en, .int .i8 es, .int .u64 ec] 46)).alloc (.cells #[.bool fn, .int .i8 fs, .int .u64 fc] 46)).alloc (.cells #[.bool false, .int .i8 0, .int .u64 0] 46))) ∧
  Chg (fun _ => False) ((((w.alloc (.cells #[.bool dn, .int .i8 ds, .int .u64 dc] 46)).alloc (.cells #[.bool en, .int .i8 es, .int .u64 ec] 46)).alloc (.cells #[.bool fn, .int .i8 fs, .int .u64 fc] 46)).alloc (.cells #[.bool false, .int .i8 0, .int .u64 0] 46)) ((((w.alloc (.cells #[.bool dn, .int .i8 ds, .int .u64 dc] 46)).alloc (.cells #[.bool en, .int .i8 es, .int .u64 ec] 46)).alloc (.cells #[.bool fn, .int .i8 fs, .int .u64 fc] 46)).alloc (.cells #[.bool false, .int .i8 0, .int .u64 0] 46)) := by
 obtain ⟨W3, hW3⟩ : ∃ W3, ((w.alloc (.cells #[.bool dn, .int .i8 ds, .int .u64 dc] 46)).alloc (.cells #[.bool en, .int .i8 es, .int .u64 ec] 46)).alloc (.cells #[.bool fn, .int .i8 fs, .int .u64 fc] 46) = W3 := ⟨_, rfl⟩
 have hz : W3.heap.size = w.heap.size + 1 + 1 + 1 := by rw [← hW3]; simp
 have b0 : W3.heap[w.heap.size]? = some (.cells #[.bool dn, .int .i8 ds, .int .u64 dc] 46 (0, 0)) := by
  rw [← hW3, Below.heap_alloc _ _ _ (by simp; omega), Below.heap_alloc _ _ _ (by simp)]; exact heap_alloc_new _ _
 have b1 : W3.heap[w.heap.size + 1]? = some (.cells #[.bool en, .int .i8 es, .int .u64 ec] 46 (0, 0)) := by
  rw [← hW3, Below.heap_alloc _ _ _ (by simp)]; exact heap_alloc2_new _ _ _
 have b2 : W3.heap[w.heap.size + 1 + 1]? = some (.cells #[.bool fn, .int .i8 fs, .int .u64 fc] 46 (0, 0)) := by
  have := heap_alloc_new ((w.alloc (.cells #[.bool dn, .int .i8 ds, .int .u64 dc] 46)).alloc (.cells #[.bool en, .int .i8 es, .int .u64 ec] 46)) (.cells #[.bool fn, .int .i8 fs, .int .u64 fc] 46)
  rw [← hW3]
  simpa using this
 have hc : Chg (fun _ => False) w W3 := by rw [← hW3]; exact (((Chg.refl _ _).alloc _).alloc _).alloc _
 rw [hW3]
 have k : ∀ {i : Nat} {o : Obj}, W3.heap[i]? = some o → (W3.alloc (.cells #[.bool false, .int .i8 0, .int .u64 0] 46)).heap[i]? = some o := fun {i o} h => by
  rw [Below.heap_alloc _ _ _ (Array.getElem?_eq_some_iff.1 h).1]; exact h
 have b3 : (W3.alloc (.cells #[.bool false, .int .i8 0, .int .u64 0] 46)).heap[w.heap.size + 1 + 1 + 1]? = some (.cells #[.bool false, .int .i8 0, .int .u64 0] 46 (0, 0)) := by rw [← hz]; exact heap_alloc_new _ _
 refine ⟨fun a h => ?_, fun a h => kept_heap h b3, hc.alloc _, Chg.refl _ _⟩
 obtain ⟨x0, x1, x2, _, _, _⟩ := cell3 (kept_heap h (k b0))
 obtain ⟨y0, y1, y2, _, _, _⟩ := cell3 (kept_heap h (k b1))
 obtain ⟨z0, z1, z2, _, _, _⟩ := cell3 (kept_heap h (k b2))
 obtain ⟨u0, u1, u2, v0, v1, v2⟩ := cell3 (kept_heap h b3)
 exact ⟨x0, x1, x2, y0, y1, y2, z0, z1, z2, u0, u1, u2, v0, v1, v2⟩
set_option maxHeartbeats 4000000 in
theorem amb_gt_same (dn en fn xn : Bool) (dc ec fc ds es fs m Y S : Nat) (hdc : digs dc ≤ 19) (hec : digs ec ≤ 19) (hfc : digs fc ≤ 19) (hwd : Wd (dc : Int)) (hwe : Wd (ec : Int)) (hwf : Wd (fc : Int)) (hds : ds ≤ 19) (hes : es ≤ 19) (hfs : fs ≤ 19) (hm : m ≤ 19) (hY : ec * fc = Y) (hYd : digs Y ≤ 38) (hS : es + fs = S) (hx : (!(en == fn)) = xn) (w : World) (he : EnvD w) (hlt : S < ds) (X : Nat) (hX : Y * 10 ^ (ds - S) = X) (hXd : digs X ≤ 57) (hs : (dn == xn) = true) (C : Nat) (hC : dc + X = C) (hCd : digs C ≤ 57) :
  Calls Tryz.prog 56 #[.agg #[.bool dn, .int .i8 ds, .int .u64 (dc : Int)], .agg #[.bool en, .int .i8 es, .int .u64 (ec : Int)], .agg #[.bool fn, .int .i8 fs, .int .u64 (fc : Int)], .int .i64 m] w (PDecN w dn (from19 (10 ^ 19) 2 C ds m)) := by
 have hwa : IntKind.i64.wrap ((es : Int) + (fs : Int)) = (S : Int) := by rw [show (es : Int) + (fs : Int) = (S : Int) by omega]; exact IntWalk.i64_in _ (by omega)
 have c1 : (S : Int) < (ds : Int) := by omega
 have hw : IntKind.i64.wrap ((ds : Int) - (S : Int)) = ((ds - S : Nat) : Int) := by rw [show (ds : Int) - (S : Int) = ((ds - S : Nat) : Int) by omega]; exact IntWalk.i64_in _ (by omega)
 have HL := hid (fun w0 w2 p q (h : Two w0 w2 q p (dc : Int) (Y : Int)) => two_lsh' (k := ds - S) h (Nat.le_trans hYd (by omega)) (by omega))
 rw [hX] at HL
 have HA := hid (fun w0 w2 p q (h : Two w0 w2 p q (dc : Int) (X : Int)) => two_add h (Nat.le_trans hdc (by omega)) hXd)
 rw [hC] at HA
 have HF := hid (fun w0 w2 p q y (h : Two w0 w2 p q (C : Int) y) => two_nfb (s := ds) dn h hCd (by omega) hm)
 generalize from19 (10 ^ 19) 2 C ds m = o at *
 have HMU := hid (fun w0 w2 p q r (h : Thr w0 w2 p q r (dc : Int) (ec : Int) (fc : Int)) => thr_mul h (Nat.le_trans hec (by omega)) (Nat.le_trans hfc (by omega)))
 rw [hY] at HMU
 have HWD := hid hwd
 have HWE := hid hwe
 have HWF := hid hwf
 clear hX hXd
 have HSD := hid (fun w => Scale_any dn (dc : Int) ds hds w)
 have HSE := hid (fun w => Scale_any en (ec : Int) es hes w)
 have HSF := hid (fun w => Scale_any fn (fc : Int) fs hfs w)
 have HND := hid (fun w => IsNeg_any dn (dc : Int) ds w)
 have HNE := hid (fun w => IsNeg_any en (ec : Int) es w)
 have HNF := hid (fun w => IsNeg_any fn (fc : Int) fs w)
 obtain ⟨HB, HBX, HC0, hk⟩ := bx4 w dn ds (dc : Int) en es (ec : Int) fn fs (fc : Int)
 have HE0 := hid (he.kept HC0.out)
 obtain ⟨d0, d1, d2, e0, e1, e2, f0, f1, f2, r0, r1, r2, q0, q1, q2⟩ := HB.out _ hk
 clear hC hCd hdc hec hfc hYd hY hwd hwe hwf hes hfs hS he
 generalize ds - S = j at *
 go_enter_defers Tryz.func56, Tryz.ntmps56
 go_wp2_with (first | (go_at_call 71; refine (getBint_any _).mono ?_; intro e w1 h; obtain ⟨r, he1, hi2, hs2, hc2⟩ := h; subst he1; have HT := hid (Thr.start HT.out hi2 hs2 hc2); replace hk := hk.trans hc2 sb_; clear hi2 hs2 hc2; clear d0 d1 d2 e0 e1 e2 f0 f1 f2 r0 r1 r2 q0 q1 q2; obtain ⟨d0, d1, d2, e0, e1, e2, f0, f1, f2, r0, r1, r2, q0, q1, q2⟩ := HB.out _ hk) | (go_at_call 71; refine (getBint_any _).mono ?_; intro e w1 h; obtain ⟨q, he1, hi2, hs2, hc2⟩ := h; subst he1; have HT := hid (Two.start HIP.out hsp hcp hi2 hs2 hc2 HE0.out); replace hk := hk.trans hc2 sb_; clear hi2 hs2 hc2; clear d0 d1 d2 e0 e1 e2 f0 f1 f2 r0 r1 r2 q0 q1 q2; obtain ⟨d0, d1, d2, e0, e1, e2, f0, f1, f2, r0, r1, r2, q0, q1, q2⟩ := HB.out _ hk) | (go_at_call 71; refine (getBint_any _).mono ?_; intro e w1 h; obtain ⟨p, he1, hip, hsp, hcp⟩ := h; subst he1; have HIP := hid hip; clear hip; replace hk := hk.trans hcp sb_; clear d0 d1 d2 e0 e1 e2 f0 f1 f2 r0 r1 r2 q0 q1 q2; obtain ⟨d0, d1, d2, e0, e1, e2, f0, f1, f2, r0, r1, r2, q0, q1, q2⟩ := HB.out _ hk) | (go_at_call 44; (first | refine (HSD.out _).mono ?_ | refine (HSE.out _).mono ?_ | refine (HSF.out _).mono ?_); intro e w1 h; obtain ⟨he1, hc1⟩ := h; subst he1; have HT := hid (HT.out.same hc1); replace hk := hk.trans hc1 sb_; clear hc1; clear d0 d1 d2 e0 e1 e2 f0 f1 f2 r0 r1 r2 q0 q1 q2; obtain ⟨d0, d1, d2, e0, e1, e2, f0, f1, f2, r0, r1, r2, q0, q1, q2⟩ := HB.out _ hk) | (go_at_call 42; (first | refine (HND.out _).mono ?_ | refine (HNE.out _).mono ?_ | refine (HNF.out _).mono ?_); intro e w1 h; obtain ⟨he1, hc1⟩ := h; subst he1; have HT := hid (HT.out.same hc1); replace hk := hk.trans hc1 sb_; clear hc1; clear d0 d1 d2 e0 e1 e2 f0 f1 f2 r0 r1 r2 q0 q1 q2; obtain ⟨d0, d1, d2, e0, e1, e2, f0, f1, f2, r0, r1, r2, q0, q1, q2⟩ := HB.out _ hk) | (go_at_call 73; (first | refine (thr_setFint HT.out HWD.out).mono ?_ | refine (thr_setFint2 HT.out HWE.out).mono ?_ | refine (thr_setFint3 HT.out HWF.out).mono ?_); intro e w1 h; obtain ⟨he1, h⟩ := h; subst he1; have HT := hid h; clear h; replace hk := HT.out.chg; clear d0 d1 d2 e0 e1 e2 f0 f1 f2 r0 r1 r2 q0 q1 q2; obtain ⟨d0, d1, d2, e0, e1, e2, f0, f1, f2, r0, r1, r2, q0, q1, q2⟩ := HB.out _ hk) | (go_at_call 74; refine (HMU.out _ _ _ _ _ HT.out).mono ?_; intro e w1 h; obtain ⟨he1, h⟩ := h; subst he1; have HT := hid h; clear h; replace hk := HT.out.chg; clear d0 d1 d2 e0 e1 e2 f0 f1 f2 r0 r1 r2 q0 q1 q2; obtain ⟨d0, d1, d2, e0, e1, e2, f0, f1, f2, r0, r1, r2, q0, q1, q2⟩ := HB.out _ hk) | (go_at_call 75; refine (HL.out _ _ _ _ HT.out).mono ?_; intro e w1 h; obtain ⟨he1, h⟩ := h; subst he1; have HT := hid h; clear h; replace hk := HT.out.chg; clear d0 d1 d2 e0 e1 e2 f0 f1 f2 r0 r1 r2 q0 q1 q2; obtain ⟨d0, d1, d2, e0, e1, e2, f0, f1, f2, r0, r1, r2, q0, q1, q2⟩ := HB.out _ hk) | (go_at_call 76; refine (HA.out _ _ _ _ HT.out).mono ?_; intro e w1 h; obtain ⟨he1, h⟩ := h; subst he1; have HT := hid h; clear h; replace hk := HT.out.chg; clear d0 d1 d2 e0 e1 e2 f0 f1 f2 r0 r1 r2 q0 q1 q2; obtain ⟨d0, d1, d2, e0, e1, e2, f0, f1, f2, r0, r1, r2, q0, q1, q2⟩ := HB.out _ hk) | (go_at_call 79; refine (HF.out _ _ _ _ _ HT.out).mono ?_; intro e w1 h; obtain ⟨na, nb, nc, nv, he1, hc1, hp⟩ := h.op; subst he1; replace hk := hc1; clear h hc1; clear d0 d1 d2 e0 e1 e2 f0 f1 f2 r0 r1 r2 q0 q1 q2; obtain ⟨d0, d1, d2, e0, e1, e2, f0, f1, f2, r0, r1, r2, q0, q1, q2⟩ := HB.out _ hk; have HP := hid hp; clear hp))
 refine leaves_cons (f := 72) (args := #[.pointer (some ⟨r, 0, none⟩)]) (by simp) (by simp [go_sem]) ?_
 refine (putBint_d _ .returning _).mono ?_
 rintro e u' w'' ⟨rfl, rfl, rfl⟩
 refine leaves_cons (f := 72) (args := #[.pointer (some ⟨q, 0, none⟩)]) (by simp [settle]) (by simp [go_sem]) ?_
 refine (putBint_d _ .returning _).mono ?_
 rintro e u' w'' ⟨rfl, rfl, rfl⟩
 refine leaves_cons (f := 72) (args := #[.pointer (some ⟨p, 0, none⟩)]) (by simp [settle]) (by simp [go_sem]) ?_
 refine (putBint_d _ .returning _).mono ?_
 rintro e u' w'' ⟨rfl, rfl, rfl⟩
 exact ⟨.tuple #[.agg #[.bool na, .int .i8 nb, .int .u64 nc], nv], dec_result rfl _ _ (w.heap.size + 1 + 1 + 1) _ _ _ _ 46 rfl rfl (store3 (HBX.out _ hk) _ _ _), HP.out.move (chg3 (HC0.out.trans hk sb_) (by omega) _ _ _)⟩
set_option maxHeartbeats 4000000 in
theorem amb_gt_dgt (dn en fn xn : Bool) (dc ec fc ds es fs m Y S : Nat) (hdc : digs dc ≤ 19) (hec : digs ec ≤ 19) (hfc : digs fc ≤ 19) (hwd : Wd (dc : Int)) (hwe : Wd (ec : Int)) (hwf : Wd (fc : Int)) (hds : ds ≤ 19) (hes : es ≤ 19) (hfs : fs ≤ 19) (hm : m ≤ 19) (hY : ec * fc = Y) (hYd : digs Y ≤ 38) (hS : es + fs = S) (hx : (!(en == fn)) = xn) (w : World) (he : EnvD w) (hlt : S < ds) (X : Nat) (hX : Y * 10 ^ (ds - S) = X) (hXd : digs X ≤ 57) (hs : (dn == xn) = false) (hg : dc < X) (C : Nat) (hC : X - dc = C) (hCd : digs C ≤ 57) :
  Calls Tryz.prog 56 #[.agg #[.bool dn, .int .i8 ds, .int .u64 (dc : Int)], .agg #[.bool en, .int .i8 es, .int .u64 (ec : Int)], .agg #[.bool fn, .int .i8 fs, .int .u64 (fc : Int)], .int .i64 m] w (PDecN w xn (from19 (10 ^ 19) 2 C ds m)) := by
 have hwa : IntKind.i64.wrap ((es : Int) + (fs : Int)) = (S : Int) := by rw [show (es : Int) + (fs : Int) = (S : Int) by omega]; exact IntWalk.i64_in _ (by omega)
 have c1 : (S : Int) < (ds : Int) := by omega
 have hw : IntKind.i64.wrap ((ds : Int) - (S : Int)) = ((ds - S : Nat) : Int) := by rw [show (ds : Int) - (S : Int) = ((ds - S : Nat) : Int) by omega]; exact IntWalk.i64_in _ (by omega)
 have HL := hid (fun w0 w2 p q (h : Two w0 w2 q p (dc : Int) (Y : Int)) => two_lsh' (k := ds - S) h (Nat.le_trans hYd (by omega)) (by omega))
 rw [hX] at HL
 have hcc : (if dc < X then X - dc else dc - X) = C := by rw [if_pos hg]; exact hC
 have HSB := hid (fun w0 w2 p q (h : Two w0 w2 p q (dc : Int) (X : Int)) => two_subAbs h (Nat.le_trans hdc (by omega)) hXd hcc)
 have hcm : cmpI (X : Int) (dc : Int) = 1 := by unfold cmpI; rw [if_neg (by omega), if_pos (by omega)]
 obtain ⟨kk, hkk⟩ : ∃ kk : Int, kk = 1 := ⟨_, rfl⟩
 rw [← hkk] at hcm
 have hkp : (0 : Int) < kk := by omega
 have HCM := hid (fun w0 w2 p q (h : Two w0 w2 p q (dc : Int) (X : Int)) => two_cmp h hcm)
 clear hcc hcm hg
 clear hkk
 have HF := hid (fun w0 w2 p q y (h : Two w0 w2 p q (C : Int) y) => two_nfb (s := ds) xn h hCd (by omega) hm)
 generalize from19 (10 ^ 19) 2 C ds m = o at *
 have HMU := hid (fun w0 w2 p q r (h : Thr w0 w2 p q r (dc : Int) (ec : Int) (fc : Int)) => thr_mul h (Nat.le_trans hec (by omega)) (Nat.le_trans hfc (by omega)))
 rw [hY] at HMU
 have HWD := hid hwd
 have HWE := hid hwe
 have HWF := hid hwf
 clear hX hXd
 have HSD := hid (fun w => Scale_any dn (dc : Int) ds hds w)
 have HSE := hid (fun w => Scale_any en (ec : Int) es hes w)
 have HSF := hid (fun w => Scale_any fn (fc : Int) fs hfs w)
 have HND := hid (fun w => IsNeg_any dn (dc : Int) ds w)
 have HNE := hid (fun w => IsNeg_any en (ec : Int) es w)
 have HNF := hid (fun w => IsNeg_any fn (fc : Int) fs w)
 obtain ⟨HB, HBX, HC0, hk⟩ := bx4 w dn ds (dc : Int) en es (ec : Int) fn fs (fc : Int)
 have HE0 := hid (he.kept HC0.out)
 obtain ⟨d0, d1, d2, e0, e1, e2, f0, f1, f2, r0, r1, r2, q0, q1, q2⟩ := HB.out _ hk
 clear hC hCd hdc hec hfc hYd hY hwd hwe hwf hes hfs hS he
 generalize ds - S = j at *
 go_enter_defers Tryz.func56, Tryz.ntmps56
 go_wp2_with (first | (go_at_call 71; refine (getBint_any _).mono ?_; intro e w1 h; obtain ⟨r, he1, hi2, hs2, hc2⟩ := h; subst he1; have HT := hid (Thr.start HT.out hi2 hs2 hc2); replace hk := hk.trans hc2 sb_; clear hi2 hs2 hc2; clear d0 d1 d2 e0 e1 e2 f0 f1 f2 r0 r1 r2 q0 q1 q2; obtain ⟨d0, d1, d2, e0, e1, e2, f0, f1, f2, r0, r1, r2, q0, q1, q2⟩ := HB.out _ hk) | (go_at_call 71; refine (getBint_any _).mono ?_; intro e w1 h; obtain ⟨q, he1, hi2, hs2, hc2⟩ := h; subst he1; have HT := hid (Two.start HIP.out hsp hcp hi2 hs2 hc2 HE0.out); replace hk := hk.trans hc2 sb_; clear hi2 hs2 hc2; clear d0 d1 d2 e0 e1 e2 f0 f1 f2 r0 r1 r2 q0 q1 q2; obtain ⟨d0, d1, d2, e0, e1, e2, f0, f1, f2, r0, r1, r2, q0, q1, q2⟩ := HB.out _ hk) | (go_at_call 71; refine (getBint_any _).mono ?_; intro e w1 h; obtain ⟨p, he1, hip, hsp, hcp⟩ := h; subst he1; have HIP := hid hip; clear hip; replace hk := hk.trans hcp sb_; clear d0 d1 d2 e0 e1 e2 f0 f1 f2 r0 r1 r2 q0 q1 q2; obtain ⟨d0, d1, d2, e0, e1, e2, f0, f1, f2, r0, r1, r2, q0, q1, q2⟩ := HB.out _ hk) | (go_at_call 44; (first | refine (HSD.out _).mono ?_ | refine (HSE.out _).mono ?_ | refine (HSF.out _).mono ?_); intro e w1 h; obtain ⟨he1, hc1⟩ := h; subst he1; have HT := hid (HT.out.same hc1); replace hk := hk.trans hc1 sb_; clear hc1; clear d0 d1 d2 e0 e1 e2 f0 f1 f2 r0 r1 r2 q0 q1 q2; obtain ⟨d0, d1, d2, e0, e1, e2, f0, f1, f2, r0, r1, r2, q0, q1, q2⟩ := HB.out _ hk) | (go_at_call 42; (first | refine (HND.out _).mono ?_ | refine (HNE.out _).mono ?_ | refine (HNF.out _).mono ?_); intro e w1 h; obtain ⟨he1, hc1⟩ := h; subst he1; have HT := hid (HT.out.same hc1); replace hk := hk.trans hc1 sb_; clear hc1; clear d0 d1 d2 e0 e1 e2 f0 f1 f2 r0 r1 r2 q0 q1 q2; obtain ⟨d0, d1, d2, e0, e1, e2, f0, f1, f2, r0, r1, r2, q0, q1, q2⟩ := HB.out _ hk) | (go_at_call 73; (first | refine (thr_setFint HT.out HWD.out).mono ?_ | refine (thr_setFint2 HT.out HWE.out).mono ?_ | refine (thr_setFint3 HT.out HWF.out).mono ?_); intro e w1 h; obtain ⟨he1, h⟩ := h; subst he1; have HT := hid h; clear h; replace hk := HT.out.chg; clear d0 d1 d2 e0 e1 e2 f0 f1 f2 r0 r1 r2 q0 q1 q2; obtain ⟨d0, d1, d2, e0, e1, e2, f0, f1, f2, r0, r1, r2, q0, q1, q2⟩ := HB.out _ hk) | (go_at_call 74; refine (HMU.out _ _ _ _ _ HT.out).mono ?_; intro e w1 h; obtain ⟨he1, h⟩ := h; subst he1; have HT := hid h; clear h; replace hk := HT.out.chg; clear d0 d1 d2 e0 e1 e2 f0 f1 f2 r0 r1 r2 q0 q1 q2; obtain ⟨d0, d1, d2, e0, e1, e2, f0, f1, f2, r0, r1, r2, q0, q1, q2⟩ := HB.out _ hk) | (go_at_call 75; refine (HL.out _ _ _ _ HT.out).mono ?_; intro e w1 h; obtain ⟨he1, h⟩ := h; subst he1; have HT := hid h; clear h; replace hk := HT.out.chg; clear d0 d1 d2 e0 e1 e2 f0 f1 f2 r0 r1 r2 q0 q1 q2; obtain ⟨d0, d1, d2, e0, e1, e2, f0, f1, f2, r0, r1, r2, q0, q1, q2⟩ := HB.out _ hk) | (go_at_call 77; refine (HCM.out _ _ _ _ HT.out).mono ?_; intro e w1 h; obtain ⟨he1, h⟩ := h; subst he1; have HT := hid h; clear h; replace hk := HT.out.chg; clear d0 d1 d2 e0 e1 e2 f0 f1 f2 r0 r1 r2 q0 q1 q2; obtain ⟨d0, d1, d2, e0, e1, e2, f0, f1, f2, r0, r1, r2, q0, q1, q2⟩ := HB.out _ hk) | (go_at_call 78; refine (HSB.out _ _ _ _ HT.out).mono ?_; intro e w1 h; obtain ⟨he1, h⟩ := h; subst he1; have HT := hid h; clear h; replace hk := HT.out.chg; clear d0 d1 d2 e0 e1 e2 f0 f1 f2 r0 r1 r2 q0 q1 q2; obtain ⟨d0, d1, d2, e0, e1, e2, f0, f1, f2, r0, r1, r2, q0, q1, q2⟩ := HB.out _ hk) | (go_at_call 79; refine (HF.out _ _ _ _ _ HT.out).mono ?_; intro e w1 h; obtain ⟨na, nb, nc, nv, he1, hc1, hp⟩ := h.op; subst he1; replace hk := hc1; clear h hc1; clear d0 d1 d2 e0 e1 e2 f0 f1 f2 r0 r1 r2 q0 q1 q2; obtain ⟨d0, d1, d2, e0, e1, e2, f0, f1, f2, r0, r1, r2, q0, q1, q2⟩ := HB.out _ hk; have HP := hid hp; clear hp))
 refine leaves_cons (f := 72) (args := #[.pointer (some ⟨r, 0, none⟩)]) (by simp) (by simp [go_sem]) ?_
 refine (putBint_d _ .returning _).mono ?_
 rintro e u' w'' ⟨rfl, rfl, rfl⟩
 refine leaves_cons (f := 72) (args := #[.pointer (some ⟨q, 0, none⟩)]) (by simp [settle]) (by simp [go_sem]) ?_
 refine (putBint_d _ .returning _).mono ?_
 rintro e u' w'' ⟨rfl, rfl, rfl⟩
 refine leaves_cons (f := 72) (args := #[.pointer (some ⟨p, 0, none⟩)]) (by simp [settle]) (by simp [go_sem]) ?_
 refine (putBint_d _ .returning _).mono ?_
 rintro e u' w'' ⟨rfl, rfl, rfl⟩
 exact ⟨.tuple #[.agg #[.bool na, .int .i8 nb, .int .u64 nc], nv], dec_result rfl _ _ (w.heap.size + 1 + 1 + 1) _ _ _ _ 46 rfl rfl (store3 (HBX.out _ hk) _ _ _), HP.out.move (chg3 (HC0.out.trans hk sb_) (by omega) _ _ _)⟩
set_option maxHeartbeats 4000000 in
theorem amb_gt_dle (dn en fn xn : Bool) (dc ec fc ds es fs m Y S : Nat) (hdc : digs dc ≤ 19) (hec : digs ec ≤ 19) (hfc : digs fc ≤ 19) (hwd : Wd (dc : Int)) (hwe : Wd (ec : Int)) (hwf : Wd (fc : Int)) (hds : ds ≤ 19) (hes : es ≤ 19) (hfs : fs ≤ 19) (hm : m ≤ 19) (hY : ec * fc = Y) (hYd : digs Y ≤ 38) (hS : es + fs = S) (hx : (!(en == fn)) = xn) (w : World) (he : EnvD w) (hlt : S < ds) (X : Nat) (hX : Y * 10 ^ (ds - S) = X) (hXd : digs X ≤ 57) (hs : (dn == xn) = false) (hg : ¬ dc < X) (C : Nat) (hC : dc - X = C) (hCd : digs C ≤ 57) :
  Calls Tryz.prog 56 #[.agg #[.bool dn, .int .i8 ds, .int .u64 (dc : Int)], .agg #[.bool en, .int .i8 es, .int .u64 (ec : Int)], .agg #[.bool fn, .int .i8 fs, .int .u64 (fc : Int)], .int .i64 m] w (PDecN w dn (from19 (10 ^ 19) 2 C ds m)) := by
 have hwa : IntKind.i64.wrap ((es : Int) + (fs : Int)) = (S : Int) := by rw [show (es : Int) + (fs : Int) = (S : Int) by omega]; exact IntWalk.i64_in _ (by omega)
 have c1 : (S : Int) < (ds : Int) := by omega
 have hw : IntKind.i64.wrap ((ds : Int) - (S : Int)) = ((ds - S : Nat) : Int) := by rw [show (ds : Int) - (S : Int) = ((ds - S : Nat) : Int) by omega]; exact IntWalk.i64_in _ (by omega)
 have HL := hid (fun w0 w2 p q (h : Two w0 w2 q p (dc : Int) (Y : Int)) => two_lsh' (k := ds - S) h (Nat.le_trans hYd (by omega)) (by omega))
 rw [hX] at HL
 have hcc : (if dc < X then X - dc else dc - X) = C := by rw [if_neg hg]; exact hC
 have HSB := hid (fun w0 w2 p q (h : Two w0 w2 p q (dc : Int) (X : Int)) => two_subAbs h (Nat.le_trans hdc (by omega)) hXd hcc)
 obtain ⟨kk, hcm⟩ : ∃ kk : Int, cmpI (X : Int) (dc : Int) = kk := ⟨_, rfl⟩
 have hkp : ¬ (0 : Int) < kk := by rw [← hcm]; unfold cmpI; split <;> (try split) <;> omega
 have HCM := hid (fun w0 w2 p q (h : Two w0 w2 p q (dc : Int) (X : Int)) => two_cmp h hcm)
 clear hcc hcm hg
 have HF := hid (fun w0 w2 p q y (h : Two w0 w2 p q (C : Int) y) => two_nfb (s := ds) dn h hCd (by omega) hm)
 generalize from19 (10 ^ 19) 2 C ds m = o at *
 have HMU := hid (fun w0 w2 p q r (h : Thr w0 w2 p q r (dc : Int) (ec : Int) (fc : Int)) => thr_mul h (Nat.le_trans hec (by omega)) (Nat.le_trans hfc (by omega)))
 rw [hY] at HMU
 have HWD := hid hwd
 have HWE := hid hwe
 have HWF := hid hwf
 clear hX hXd
 have HSD := hid (fun w => Scale_any dn (dc : Int) ds hds w)
 have HSE := hid (fun w => Scale_any en (ec : Int) es hes w)
 have HSF := hid (fun w => Scale_any fn (fc : Int) fs hfs w)
 have HND := hid (fun w => IsNeg_any dn (dc : Int) ds w)
 have HNE := hid (fun w => IsNeg_any en (ec : Int) es w)
 have HNF := hid (fun w => IsNeg_any fn (fc : Int) fs w)
 obtain ⟨HB, HBX, HC0, hk⟩ := bx4 w dn ds (dc : Int) en es (ec : Int) fn fs (fc : Int)
 have HE0 := hid (he.kept HC0.out)
 obtain ⟨d0, d1, d2, e0, e1, e2, f0, f1, f2, r0, r1, r2, q0, q1, q2⟩ := HB.out _ hk
 clear hC hCd hdc hec hfc hYd hY hwd hwe hwf hes hfs hS he
 generalize ds - S = j at *
 go_enter_defers Tryz.func56, Tryz.ntmps56
 go_wp2_with (first | (go_at_call 71; refine (getBint_any _).mono ?_; intro e w1 h; obtain ⟨r, he1, hi2, hs2, hc2⟩ := h; subst he1; have HT := hid (Thr.start HT.out hi2 hs2 hc2); replace hk := hk.trans hc2 sb_; clear hi2 hs2 hc2; clear d0 d1 d2 e0 e1 e2 f0 f1 f2 r0 r1 r2 q0 q1 q2; obtain ⟨d0, d1, d2, e0, e1, e2, f0, f1, f2, r0, r1, r2, q0, q1, q2⟩ := HB.out _ hk) | (go_at_call 71; refine (getBint_any _).mono ?_; intro e w1 h; obtain ⟨q, he1, hi2, hs2, hc2⟩ := h; subst he1; have HT := hid (Two.start HIP.out hsp hcp hi2 hs2 hc2 HE0.out); replace hk := hk.trans hc2 sb_; clear hi2 hs2 hc2; clear d0 d1 d2 e0 e1 e2 f0 f1 f2 r0 r1 r2 q0 q1 q2; obtain ⟨d0, d1, d2, e0, e1, e2, f0, f1, f2, r0, r1, r2, q0, q1, q2⟩ := HB.out _ hk) | (go_at_call 71; refine (getBint_any _).mono ?_; intro e w1 h; obtain ⟨p, he1, hip, hsp, hcp⟩ := h; subst he1; have HIP := hid hip; clear hip; replace hk := hk.trans hcp sb_; clear d0 d1 d2 e0 e1 e2 f0 f1 f2 r0 r1 r2 q0 q1 q2; obtain ⟨d0, d1, d2, e0, e1, e2, f0, f1, f2, r0, r1, r2, q0, q1, q2⟩ := HB.out _ hk) | (go_at_call 44; (first | refine (HSD.out _).mono ?_ | refine (HSE.out _).mono ?_ | refine (HSF.out _).mono ?_); intro e w1 h; obtain ⟨he1, hc1⟩ := h; subst he1; have HT := hid (HT.out.same hc1); replace hk := hk.trans hc1 sb_; clear hc1; clear d0 d1 d2 e0 e1 e2 f0 f1 f2 r0 r1 r2 q0 q1 q2; obtain ⟨d0, d1, d2, e0, e1, e2, f0, f1, f2, r0, r1, r2, q0, q1, q2⟩ := HB.out _ hk) | (go_at_call 42; (first | refine (HND.out _).mono ?_ | refine (HNE.out _).mono ?_ | refine (HNF.out _).mono ?_); intro e w1 h; obtain ⟨he1, hc1⟩ := h; subst he1; have HT := hid (HT.out.same hc1); replace hk := hk.trans hc1 sb_; clear hc1; clear d0 d1 d2 e0 e1 e2 f0 f1 f2 r0 r1 r2 q0 q1 q2; obtain ⟨d0, d1, d2, e0, e1, e2, f0, f1, f2, r0, r1, r2, q0, q1, q2⟩ := HB.out _ hk) | (go_at_call 73; (first | refine (thr_setFint HT.out HWD.out).mono ?_ | refine (thr_setFint2 HT.out HWE.out).mono ?_ | refine (thr_setFint3 HT.out HWF.out).mono ?_); intro e w1 h; obtain ⟨he1, h⟩ := h; subst he1; have HT := hid h; clear h; replace hk := HT.out.chg; clear d0 d1 d2 e0 e1 e2 f0 f1 f2 r0 r1 r2 q0 q1 q2; obtain ⟨d0, d1, d2, e0, e1, e2, f0, f1, f2, r0, r1, r2, q0, q1, q2⟩ := HB.out _ hk) | (go_at_call 74; refine (HMU.out _ _ _ _ _ HT.out).mono ?_; intro e w1 h; obtain ⟨he1, h⟩ := h; subst he1; have HT := hid h; clear h; replace hk := HT.out.chg; clear d0 d1 d2 e0 e1 e2 f0 f1 f2 r0 r1 r2 q0 q1 q2; obtain ⟨d0, d1, d2, e0, e1, e2, f0, f1, f2, r0, r1, r2, q0, q1, q2⟩ := HB.out _ hk) | (go_at_call 75; refine (HL.out _ _ _ _ HT.out).mono ?_; intro e w1 h; obtain ⟨he1, h⟩ := h; subst he1; have HT := hid h; clear h; replace hk := HT.out.chg; clear d0 d1 d2 e0 e1 e2 f0 f1 f2 r0 r1 r2 q0 q1 q2; obtain ⟨d0, d1, d2, e0, e1, e2, f0, f1, f2, r0, r1, r2, q0, q1, q2⟩ := HB.out _ hk) | (go_at_call 77; refine (HCM.out _ _ _ _ HT.out).mono ?_; intro e w1 h; obtain ⟨he1, h⟩ := h; subst he1; have HT := hid h; clear h; replace hk := HT.out.chg; clear d0 d1 d2 e0 e1 e2 f0 f1 f2 r0 r1 r2 q0 q1 q2; obtain ⟨d0, d1, d2, e0, e1, e2, f0, f1, f2, r0, r1, r2, q0, q1, q2⟩ := HB.out _ hk) | (go_at_call 78; refine (HSB.out _ _ _ _ HT.out).mono ?_; intro e w1 h; obtain ⟨he1, h⟩ := h; subst he1; have HT := hid h; clear h; replace hk := HT.out.chg; clear d0 d1 d2 e0 e1 e2 f0 f1 f2 r0 r1 r2 q0 q1 q2; obtain ⟨d0, d1, d2, e0, e1, e2, f0, f1, f2, r0, r1, r2, q0, q1, q2⟩ := HB.out _ hk) | (go_at_call 79; refine (HF.out _ _ _ _ _ HT.out).mono ?_; intro e w1 h; obtain ⟨na, nb, nc, nv, he1, hc1, hp⟩ := h.op; subst he1; replace hk := hc1; clear h hc1; clear d0 d1 d2 e0 e1 e2 f0 f1 f2 r0 r1 r2 q0 q1 q2; obtain ⟨d0, d1, d2, e0, e1, e2, f0, f1, f2, r0, r1, r2, q0, q1, q2⟩ := HB.out _ hk; have HP := hid hp; clear hp))
 refine leaves_cons (f := 72) (args := #[.pointer (some ⟨r, 0, none⟩)]) (by simp) (by simp [go_sem]) ?_
 refine (putBint_d _ .returning _).mono ?_
 rintro e u' w'' ⟨rfl, rfl, rfl⟩
 refine leaves_cons (f := 72) (args := #[.pointer (some ⟨q, 0, none⟩)]) (by simp [settle]) (by simp [go_sem]) ?_
 refine (putBint_d _ .returning _).mono ?_
 rintro e u' w'' ⟨rfl, rfl, rfl⟩
 refine leaves_cons (f := 72) (args := #[.pointer (some ⟨p, 0, none⟩)]) (by simp [settle]) (by simp [go_sem]) ?_
 refine (putBint_d _ .returning _).mono ?_
 rintro e u' w'' ⟨rfl, rfl, rfl⟩
 exact ⟨.tuple #[.agg #[.bool na, .int .i8 nb, .int .u64 nc], nv], dec_result rfl _ _ (w.heap.size + 1 + 1 + 1) _ _ _ _ 46 rfl rfl (store3 (HBX.out _ hk) _ _ _), HP.out.move (chg3 (HC0.out.trans hk sb_) (by omega) _ _ _)⟩
set_option maxHeartbeats 4000000 in
theorem amb_lt_same (dn en fn xn : Bool) (dc ec fc ds es fs m Y S : Nat) (hdc : digs dc ≤ 19) (hec : digs ec ≤ 19) (hfc : digs fc ≤ 19) (hwd : Wd (dc : Int)) (hwe : Wd (ec : Int)) (hwf : Wd (fc : Int)) (hds : ds ≤ 19) (hes : es ≤ 19) (hfs : fs ≤ 19) (hm : m ≤ 19) (hY : ec * fc = Y) (hYd : digs Y ≤ 38) (hS : es + fs = S) (hx : (!(en == fn)) = xn) (w : World) (he : EnvD w) (hlt : ds < S) (X : Nat) (hX : dc * 10 ^ (S - ds) = X) (hXd : digs X ≤ 57) (hs : (dn == xn) = true) (C : Nat) (hC : X + Y = C) (hCd : digs C ≤ 57) :
  Calls Tryz.prog 56 #[.agg #[.bool dn, .int .i8 ds, .int .u64 (dc : Int)], .agg #[.bool en, .int .i8 es, .int .u64 (ec : Int)], .agg #[.bool fn, .int .i8 fs, .int .u64 (fc : Int)], .int .i64 m] w (PDecN w dn (from19 (10 ^ 19) 2 C S m)) := by
 have hwa : IntKind.i64.wrap ((es : Int) + (fs : Int)) = (S : Int) := by rw [show (es : Int) + (fs : Int) = (S : Int) by omega]; exact IntWalk.i64_in _ (by omega)
 have c1 : ¬ (S : Int) < (ds : Int) := by omega
 have c2 : (ds : Int) < (S : Int) := by omega
 have hw : IntKind.i64.wrap ((S : Int) - (ds : Int)) = ((S - ds : Nat) : Int) := by rw [show (S : Int) - (ds : Int) = ((S - ds : Nat) : Int) by omega]; exact IntWalk.i64_in _ (by omega)
 have HL := hid (fun w0 w2 p q (h : Two w0 w2 p q (dc : Int) (Y : Int)) => two_lsh (k := S - ds) h (Nat.le_trans hdc (by omega)) (by omega))
 rw [hX] at HL
 have HA := hid (fun w0 w2 p q (h : Two w0 w2 p q (X : Int) (Y : Int)) => two_add h hXd (Nat.le_trans hYd (by omega)))
 rw [hC] at HA
 have HF := hid (fun w0 w2 p q y (h : Two w0 w2 p q (C : Int) y) => two_nfb (s := S) dn h hCd (by omega) hm)
 generalize from19 (10 ^ 19) 2 C S m = o at *
 have HMU := hid (fun w0 w2 p q r (h : Thr w0 w2 p q r (dc : Int) (ec : Int) (fc : Int)) => thr_mul h (Nat.le_trans hec (by omega)) (Nat.le_trans hfc (by omega)))
 rw [hY] at HMU
 have HWD := hid hwd
 have HWE := hid hwe
 have HWF := hid hwf
 clear hX hXd
 have HSD := hid (fun w => Scale_any dn (dc : Int) ds hds w)
 have HSE := hid (fun w => Scale_any en (ec : Int) es hes w)
 have HSF := hid (fun w => Scale_any fn (fc : Int) fs hfs w)
 have HND := hid (fun w => IsNeg_any dn (dc : Int) ds w)
 have HNE := hid (fun w => IsNeg_any en (ec : Int) es w)
 have HNF := hid (fun w => IsNeg_any fn (fc : Int) fs w)
 obtain ⟨HB, HBX, HC0, hk⟩ := bx4 w dn ds (dc : Int) en es (ec : Int) fn fs (fc : Int)
 have HE0 := hid (he.kept HC0.out)
 obtain ⟨d0, d1, d2, e0, e1, e2, f0, f1, f2, r0, r1, r2, q0, q1, q2⟩ := HB.out _ hk
 clear hC hCd hdc hec hfc hYd hY hwd hwe hwf hes hfs hS he
 generalize S - ds = j at *
 go_enter_defers Tryz.func56, Tryz.ntmps56
 go_wp2_with (first | (go_at_call 71; refine (getBint_any _).mono ?_; intro e w1 h; obtain ⟨r, he1, hi2, hs2, hc2⟩ := h; subst he1; have HT := hid (Thr.start HT.out hi2 hs2 hc2); replace hk := hk.trans hc2 sb_; clear hi2 hs2 hc2; clear d0 d1 d2 e0 e1 e2 f0 f1 f2 r0 r1 r2 q0 q1 q2; obtain ⟨d0, d1, d2, e0, e1, e2, f0, f1, f2, r0, r1, r2, q0, q1, q2⟩ := HB.out _ hk) | (go_at_call 71; refine (getBint_any _).mono ?_; intro e w1 h; obtain ⟨q, he1, hi2, hs2, hc2⟩ := h; subst he1; have HT := hid (Two.start HIP.out hsp hcp hi2 hs2 hc2 HE0.out); replace hk := hk.trans hc2 sb_; clear hi2 hs2 hc2; clear d0 d1 d2 e0 e1 e2 f0 f1 f2 r0 r1 r2 q0 q1 q2; obtain ⟨d0, d1, d2, e0, e1, e2, f0, f1, f2, r0, r1, r2, q0, q1, q2⟩ := HB.out _ hk) | (go_at_call 71; refine (getBint_any _).mono ?_; intro e w1 h; obtain ⟨p, he1, hip, hsp, hcp⟩ := h; subst he1; have HIP := hid hip; clear hip; replace hk := hk.trans hcp sb_; clear d0 d1 d2 e0 e1 e2 f0 f1 f2 r0 r1 r2 q0 q1 q2; obtain ⟨d0, d1, d2, e0, e1, e2, f0, f1, f2, r0, r1, r2, q0, q1, q2⟩ := HB.out _ hk) | (go_at_call 44; (first | refine (HSD.out _).mono ?_ | refine (HSE.out _).mono ?_ | refine (HSF.out _).mono ?_); intro e w1 h; obtain ⟨he1, hc1⟩ := h; subst he1; have HT := hid (HT.out.same hc1); replace hk := hk.trans hc1 sb_; clear hc1; clear d0 d1 d2 e0 e1 e2 f0 f1 f2 r0 r1 r2 q0 q1 q2; obtain ⟨d0, d1, d2, e0, e1, e2, f0, f1, f2, r0, r1, r2, q0, q1, q2⟩ := HB.out _ hk) | (go_at_call 42; (first | refine (HND.out _).mono ?_ | refine (HNE.out _).mono ?_ | refine (HNF.out _).mono ?_); intro e w1 h; obtain ⟨he1, hc1⟩ := h; subst he1; have HT := hid (HT.out.same hc1); replace hk := hk.trans hc1 sb_; clear hc1; clear d0 d1 d2 e0 e1 e2 f0 f1 f2 r0 r1 r2 q0 q1 q2; obtain ⟨d0, d1, d2, e0, e1, e2, f0, f1, f2, r0, r1, r2, q0, q1, q2⟩ := HB.out _ hk) | (go_at_call 73; (first | refine (thr_setFint HT.out HWD.out).mono ?_ | refine (thr_setFint2 HT.out HWE.out).mono ?_ | refine (thr_setFint3 HT.out HWF.out).mono ?_); intro e w1 h; obtain ⟨he1, h⟩ := h; subst he1; have HT := hid h; clear h; replace hk := HT.out.chg; clear d0 d1 d2 e0 e1 e2 f0 f1 f2 r0 r1 r2 q0 q1 q2; obtain ⟨d0, d1, d2, e0, e1, e2, f0, f1, f2, r0, r1, r2, q0, q1, q2⟩ := HB.out _ hk) | (go_at_call 74; refine (HMU.out _ _ _ _ _ HT.out).mono ?_; intro e w1 h; obtain ⟨he1, h⟩ := h; subst he1; have HT := hid h; clear h; replace hk := HT.out.chg; clear d0 d1 d2 e0 e1 e2 f0 f1 f2 r0 r1 r2 q0 q1 q2; obtain ⟨d0, d1, d2, e0, e1, e2, f0, f1, f2, r0, r1, r2, q0, q1, q2⟩ := HB.out _ hk) | (go_at_call 75; refine (HL.out _ _ _ _ HT.out).mono ?_; intro e w1 h; obtain ⟨he1, h⟩ := h; subst he1; have HT := hid h; clear h; replace hk := HT.out.chg; clear d0 d1 d2 e0 e1 e2 f0 f1 f2 r0 r1 r2 q0 q1 q2; obtain ⟨d0, d1, d2, e0, e1, e2, f0, f1, f2, r0, r1, r2, q0, q1, q2⟩ := HB.out _ hk) | (go_at_call 76; refine (HA.out _ _ _ _ HT.out).mono ?_; intro e w1 h; obtain ⟨he1, h⟩ := h; subst he1; have HT := hid h; clear h; replace hk := HT.out.chg; clear d0 d1 d2 e0 e1 e2 f0 f1 f2 r0 r1 r2 q0 q1 q2; obtain ⟨d0, d1, d2, e0, e1, e2, f0, f1, f2, r0, r1, r2, q0, q1, q2⟩ := HB.out _ hk) | (go_at_call 79; refine (HF.out _ _ _ _ _ HT.out).mono ?_; intro e w1 h; obtain ⟨na, nb, nc, nv, he1, hc1, hp⟩ := h.op; subst he1; replace hk := hc1; clear h hc1; clear d0 d1 d2 e0 e1 e2 f0 f1 f2 r0 r1 r2 q0 q1 q2; obtain ⟨d0, d1, d2, e0, e1, e2, f0, f1, f2, r0, r1, r2, q0, q1, q2⟩ := HB.out _ hk; have HP := hid hp; clear hp))
 refine leaves_cons (f := 72) (args := #[.pointer (some ⟨r, 0, none⟩)]) (by simp) (by simp [go_sem]) ?_
 refine (putBint_d _ .returning _).mono ?_
 rintro e u' w'' ⟨rfl, rfl, rfl⟩
 refine leaves_cons (f := 72) (args := #[.pointer (some ⟨q, 0, none⟩)]) (by simp [settle]) (by simp [go_sem]) ?_
 refine (putBint_d _ .returning _).mono ?_
 rintro e u' w'' ⟨rfl, rfl, rfl⟩
 refine leaves_cons (f := 72) (args := #[.pointer (some ⟨p, 0, none⟩)]) (by simp [settle]) (by simp [go_sem]) ?_
 refine (putBint_d _ .returning _).mono ?_
 rintro e u' w'' ⟨rfl, rfl, rfl⟩
 exact ⟨.tuple #[.agg #[.bool na, .int .i8 nb, .int .u64 nc], nv], dec_result rfl _ _ (w.heap.size + 1 + 1 + 1) _ _ _ _ 46 rfl rfl (store3 (HBX.out _ hk) _ _ _), HP.out.move (chg3 (HC0.out.trans hk sb_) (by omega) _ _ _)⟩
set_option maxHeartbeats 4000000 in
theorem amb_lt_dgt (dn en fn xn : Bool) (dc ec fc ds es fs m Y S : Nat) (hdc : digs dc ≤ 19) (hec : digs ec ≤ 19) (hfc : digs fc ≤ 19) (hwd : Wd (dc : Int)) (hwe : Wd (ec : Int)) (hwf : Wd (fc : Int)) (hds : ds ≤ 19) (hes : es ≤ 19) (hfs : fs ≤ 19) (hm : m ≤ 19) (hY : ec * fc = Y) (hYd : digs Y ≤ 38) (hS : es + fs = S) (hx : (!(en == fn)) = xn) (w : World) (he : EnvD w) (hlt : ds < S) (X : Nat) (hX : dc * 10 ^ (S - ds) = X) (hXd : digs X ≤ 57) (hs : (dn == xn) = false) (hg : X < Y) (C : Nat) (hC : Y - X = C) (hCd : digs C ≤ 57) :
  Calls Tryz.prog 56 #[.agg #[.bool dn, .int .i8 ds, .int .u64 (dc : Int)], .agg #[.bool en, .int .i8 es, .int .u64 (ec : Int)], .agg #[.bool fn, .int .i8 fs, .int .u64 (fc : Int)], .int .i64 m] w (PDecN w xn (from19 (10 ^ 19) 2 C S m)) := by
 have hwa : IntKind.i64.wrap ((es : Int) + (fs : Int)) = (S : Int) := by rw [show (es : Int) + (fs : Int) = (S : Int) by omega]; exact IntWalk.i64_in _ (by omega)
 have c1 : ¬ (S : Int) < (ds : Int) := by omega
 have c2 : (ds : Int) < (S : Int) := by omega
 have hw : IntKind.i64.wrap ((S : Int) - (ds : Int)) = ((S - ds : Nat) : Int) := by rw [show (S : Int) - (ds : Int) = ((S - ds : Nat) : Int) by omega]; exact IntWalk.i64_in _ (by omega)
 have HL := hid (fun w0 w2 p q (h : Two w0 w2 p q (dc : Int) (Y : Int)) => two_lsh (k := S - ds) h (Nat.le_trans hdc (by omega)) (by omega))
 rw [hX] at HL
 have hcc : (if X < Y then Y - X else X - Y) = C := by rw [if_pos hg]; exact hC
 have HSB := hid (fun w0 w2 p q (h : Two w0 w2 p q (X : Int) (Y : Int)) => two_subAbs h hXd (Nat.le_trans hYd (by omega)) hcc)
 have hcm : cmpI (Y : Int) (X : Int) = 1 := by unfold cmpI; rw [if_neg (by omega), if_pos (by omega)]
 obtain ⟨kk, hkk⟩ : ∃ kk : Int, kk = 1 := ⟨_, rfl⟩
 rw [← hkk] at hcm
 have hkp : (0 : Int) < kk := by omega
 have HCM := hid (fun w0 w2 p q (h : Two w0 w2 p q (X : Int) (Y : Int)) => two_cmp h hcm)
 clear hcc hcm hg
 clear hkk
 have HF := hid (fun w0 w2 p q y (h : Two w0 w2 p q (C : Int) y) => two_nfb (s := S) xn h hCd (by omega) hm)
 generalize from19 (10 ^ 19) 2 C S m = o at *
 have HMU := hid (fun w0 w2 p q r (h : Thr w0 w2 p q r (dc : Int) (ec : Int) (fc : Int)) => thr_mul h (Nat.le_trans hec (by omega)) (Nat.le_trans hfc (by omega)))
 rw [hY] at HMU
 have HWD := hid hwd
 have HWE := hid hwe
 have HWF := hid hwf
 clear hX hXd
 have HSD := hid (fun w => Scale_any dn (dc : Int) ds hds w)
 have HSE := hid (fun w => Scale_any en (ec : Int) es hes w)
 have HSF := hid (fun w => Scale_any fn (fc : Int) fs hfs w)
 have HND := hid (fun w => IsNeg_any dn (dc : Int) ds w)
 have HNE := hid (fun w => IsNeg_any en (ec : Int) es w)
 have HNF := hid (fun w => IsNeg_any fn (fc : Int) fs w)
 obtain ⟨HB, HBX, HC0, hk⟩ := bx4 w dn ds (dc : Int) en es (ec : Int) fn fs (fc : Int)
 have HE0 := hid (he.kept HC0.out)
 obtain ⟨d0, d1, d2, e0, e1, e2, f0, f1, f2, r0, r1, r2, q0, q1, q2⟩ := HB.out _ hk
 clear hC hCd hdc hec hfc hYd hY hwd hwe hwf hes hfs hS he
 generalize S - ds = j at *
 go_enter_defers Tryz.func56, Tryz.ntmps56
 go_wp2_with (first | (go_at_call 71; refine (getBint_any _).mono ?_; intro e w1 h; obtain ⟨r, he1, hi2, hs2, hc2⟩ := h; subst he1; have HT := hid (Thr.start HT.out hi2 hs2 hc2); replace hk := hk.trans hc2 sb_; clear hi2 hs2 hc2; clear d0 d1 d2 e0 e1 e2 f0 f1 f2 r0 r1 r2 q0 q1 q2; obtain ⟨d0, d1, d2, e0, e1, e2, f0, f1, f2, r0, r1, r2, q0, q1, q2⟩ := HB.out _ hk) | (go_at_call 71; refine (getBint_any _).mono ?_; intro e w1 h; obtain ⟨q, he1, hi2, hs2, hc2⟩ := h; subst he1; have HT := hid (Two.start HIP.out hsp hcp hi2 hs2 hc2 HE0.out); replace hk := hk.trans hc2 sb_; clear hi2 hs2 hc2; clear d0 d1 d2 e0 e1 e2 f0 f1 f2 r0 r1 r2 q0 q1 q2; obtain ⟨d0, d1, d2, e0, e1, e2, f0, f1, f2, r0, r1, r2, q0, q1, q2⟩ := HB.out _ hk) | (go_at_call 71; refine (getBint_any _).mono ?_; intro e w1 h; obtain ⟨p, he1, hip, hsp, hcp⟩ := h; subst he1; have HIP := hid hip; clear hip; replace hk := hk.trans hcp sb_; clear d0 d1 d2 e0 e1 e2 f0 f1 f2 r0 r1 r2 q0 q1 q2; obtain ⟨d0, d1, d2, e0, e1, e2, f0, f1, f2, r0, r1, r2, q0, q1, q2⟩ := HB.out _ hk) | (go_at_call 44; (first | refine (HSD.out _).mono ?_ | refine (HSE.out _).mono ?_ | refine (HSF.out _).mono ?_); intro e w1 h; obtain ⟨he1, hc1⟩ := h; subst he1; have HT := hid (HT.out.same hc1); replace hk := hk.trans hc1 sb_; clear hc1; clear d0 d1 d2 e0 e1 e2 f0 f1 f2 r0 r1 r2 q0 q1 q2; obtain ⟨d0, d1, d2, e0, e1, e2, f0, f1, f2, r0, r1, r2, q0, q1, q2⟩ := HB.out _ hk) | (go_at_call 42; (first | refine (HND.out _).mono ?_ | refine (HNE.out _).mono ?_ | refine (HNF.out _).mono ?_); intro e w1 h; obtain ⟨he1, hc1⟩ := h; subst he1; have HT := hid (HT.out.same hc1); replace hk := hk.trans hc1 sb_; clear hc1; clear d0 d1 d2 e0 e1 e2 f0 f1 f2 r0 r1 r2 q0 q1 q2; obtain ⟨d0, d1, d2, e0, e1, e2, f0, f1, f2, r0, r1, r2, q0, q1, q2⟩ := HB.out _ hk) | (go_at_call 73; (first | refine (thr_setFint HT.out HWD.out).mono ?_ | refine (thr_setFint2 HT.out HWE.out).mono ?_ | refine (thr_setFint3 HT.out HWF.out).mono ?_); intro e w1 h; obtain ⟨he1, h⟩ := h; subst he1; have HT := hid h; clear h; replace hk := HT.out.chg; clear d0 d1 d2 e0 e1 e2 f0 f1 f2 r0 r1 r2 q0 q1 q2; obtain ⟨d0, d1, d2, e0, e1, e2, f0, f1, f2, r0, r1, r2, q0, q1, q2⟩ := HB.out _ hk) | (go_at_call 74; refine (HMU.out _ _ _ _ _ HT.out).mono ?_; intro e w1 h; obtain ⟨he1, h⟩ := h; subst he1; have HT := hid h; clear h; replace hk := HT.out.chg; clear d0 d1 d2 e0 e1 e2 f0 f1 f2 r0 r1 r2 q0 q1 q2; obtain ⟨d0, d1, d2, e0, e1, e2, f0, f1, f2, r0, r1, r2, q0, q1, q2⟩ := HB.out _ hk) | (go_at_call 75; refine (HL.out _ _ _ _ HT.out).mono ?_; intro e w1 h; obtain ⟨he1, h⟩ := h; subst he1; have HT := hid h; clear h; replace hk := HT.out.chg; clear d0 d1 d2 e0 e1 e2 f0 f1 f2 r0 r1 r2 q0 q1 q2; obtain ⟨d0, d1, d2, e0, e1, e2, f0, f1, f2, r0, r1, r2, q0, q1, q2⟩ := HB.out _ hk) | (go_at_call 77; refine (HCM.out _ _ _ _ HT.out).mono ?_; intro e w1 h; obtain ⟨he1, h⟩ := h; subst he1; have HT := hid h; clear h; replace hk := HT.out.chg; clear d0 d1 d2 e0 e1 e2 f0 f1 f2 r0 r1 r2 q0 q1 q2; obtain ⟨d0, d1, d2, e0, e1, e2, f0, f1, f2, r0, r1, r2, q0, q1, q2⟩ := HB.out _ hk) | (go_at_call 78; refine (HSB.out _ _ _ _ HT.out).mono ?_; intro e w1 h; obtain ⟨he1, h⟩ := h; subst he1; have HT := hid h; clear h; replace hk := HT.out.chg; clear d0 d1 d2 e0 e1 e2 f0 f1 f2 r0 r1 r2 q0 q1 q2; obtain ⟨d0, d1, d2, e0, e1, e2, f0, f1, f2, r0, r1, r2, q0, q1, q2⟩ := HB.out _ hk) | (go_at_call 79; refine (HF.out _ _ _ _ _ HT.out).mono ?_; intro e w1 h; obtain ⟨na, nb, nc, nv, he1, hc1, hp⟩ := h.op; subst he1; replace hk := hc1; clear h hc1; clear d0 d1 d2 e0 e1 e2 f0 f1 f2 r0 r1 r2 q0 q1 q2; obtain ⟨d0, d1, d2, e0, e1, e2, f0, f1, f2, r0, r1, r2, q0, q1, q2⟩ := HB.out _ hk; have HP := hid hp; clear hp))
 refine leaves_cons (f := 72) (args := #[.pointer (some ⟨r, 0, none⟩)]) (by simp) (by simp [go_sem]) ?_
 refine (putBint_d _ .returning _).mono ?_
 rintro e u' w'' ⟨rfl, rfl, rfl⟩
 refine leaves_cons (f := 72) (args := #[.pointer (some ⟨q, 0, none⟩)]) (by simp [settle]) (by simp [go_sem]) ?_
 refine (putBint_d _ .returning _).mono ?_
 rintro e u' w'' ⟨rfl, rfl, rfl⟩
 refine leaves_cons (f := 72) (args := #[.pointer (some ⟨p, 0, none⟩)]) (by simp [settle]) (by simp [go_sem]) ?_
 refine (putBint_d _ .returning _).mono ?_
 rintro e u' w'' ⟨rfl, rfl, rfl⟩
 exact ⟨.tuple #[.agg #[.bool na, .int .i8 nb, .int .u64 nc], nv], dec_result rfl _ _ (w.heap.size + 1 + 1 + 1) _ _ _ _ 46 rfl rfl (store3 (HBX.out _ hk) _ _ _), HP.out.move (chg3 (HC0.out.trans hk sb_) (by omega) _ _ _)⟩
set_option maxHeartbeats 4000000 in
theorem amb_lt_dle (dn en fn xn : Bool) (dc ec fc ds es fs m Y S : Nat) (hdc : digs dc ≤ 19) (hec : digs ec ≤ 19) (hfc : digs fc ≤ 19) (hwd : Wd (dc : Int)) (hwe : Wd (ec : Int)) (hwf : Wd (fc : Int)) (hds : ds ≤ 19) (hes : es ≤ 19) (hfs : fs ≤ 19) (hm : m ≤ 19) (hY : ec * fc = Y) (hYd : digs Y ≤ 38) (hS : es + fs = S) (hx : (!(en == fn)) = xn) (w : World) (he : EnvD w) (hlt : ds < S) (X : Nat) (hX : dc * 10 ^ (S - ds) = X) (hXd : digs X ≤ 57) (hs : (dn == xn) = false) (hg : ¬ X < Y) (C : Nat) (hC : X - Y = C) (hCd : digs C ≤ 57) :
  Calls Tryz.prog 56 #[.agg #[.bool dn, .int .i8 ds, .int .u64 (dc : Int)], .agg #[.bool en, .int .i8 es, .int .u64 (ec : Int)], .agg #[.bool fn, .int .i8 fs, .int .u64 (fc : Int)], .int .i64 m] w (PDecN w dn (from19 (10 ^ 19) 2 C S m)) := by
 have hwa : IntKind.i64.wrap ((es : Int) + (fs : Int)) = (S : Int) := by rw [show (es : Int) + (fs : Int) = (S : Int) by omega]; exact IntWalk.i64_in _ (by omega)
 have c1 : ¬ (S : Int) < (ds : Int) := by omega
 have c2 : (ds : Int) < (S : Int) := by omega
 have hw : IntKind.i64.wrap ((S : Int) - (ds : Int)) = ((S - ds : Nat) : Int) := by rw [show (S : Int) - (ds : Int) = ((S - ds : Nat) : Int) by omega]; exact IntWalk.i64_in _ (by omega)
 have HL := hid (fun w0 w2 p q (h : Two w0 w2 p q (dc : Int) (Y : Int)) => two_lsh (k := S - ds) h (Nat.le_trans hdc (by omega)) (by omega))
 rw [hX] at HL
 have hcc : (if X < Y then Y - X else X - Y) = C := by rw [if_neg hg]; exact hC
 have HSB := hid (fun w0 w2 p q (h : Two w0 w2 p q (X : Int) (Y : Int)) => two_subAbs h hXd (Nat.le_trans hYd (by omega)) hcc)
 obtain ⟨kk, hcm⟩ : ∃ kk : Int, cmpI (Y : Int) (X : Int) = kk := ⟨_, rfl⟩
 have hkp : ¬ (0 : Int) < kk := by rw [← hcm]; unfold cmpI; split <;> (try split) <;> omega
 have HCM := hid (fun w0 w2 p q (h : Two w0 w2 p q (X : Int) (Y : Int)) => two_cmp h hcm)
 clear hcc hcm hg
 have HF := hid (fun w0 w2 p q y (h : Two w0 w2 p q (C : Int) y) => two_nfb (s := S) dn h hCd (by omega) hm)
 generalize from19 (10 ^ 19) 2 C S m = o at *
 have HMU := hid (fun w0 w2 p q r (h : Thr w0 w2 p q r (dc : Int) (ec : Int) (fc : Int)) => thr_mul h (Nat.le_trans hec (by omega)) (Nat.le_trans hfc (by omega)))
 rw [hY] at HMU
 have HWD := hid hwd
 have HWE := hid hwe
 have HWF := hid hwf
 clear hX hXd
 have HSD := hid (fun w => Scale_any dn (dc : Int) ds hds w)
 have HSE := hid (fun w => Scale_any en (ec : Int) es hes w)
 have HSF := hid (fun w => Scale_any fn (fc : Int) fs hfs w)
 have HND := hid (fun w => IsNeg_any dn (dc : Int) ds w)
 have HNE := hid (fun w => IsNeg_any en (ec : Int) es w)
 have HNF := hid (fun w => IsNeg_any fn (fc : Int) fs w)
 obtain ⟨HB, HBX, HC0, hk⟩ := bx4 w dn ds (dc : Int) en es (ec : Int) fn fs (fc : Int)
 have HE0 := hid (he.kept HC0.out)
 obtain ⟨d0, d1, d2, e0, e1, e2, f0, f1, f2, r0, r1, r2, q0, q1, q2⟩ := HB.out _ hk
 clear hC hCd hdc hec hfc hYd hY hwd hwe hwf hes hfs hS he
 generalize S - ds = j at *
 go_enter_defers Tryz.func56, Tryz.ntmps56
 go_wp2_with (first | (go_at_call 71; refine (getBint_any _).mono ?_; intro e w1 h; obtain ⟨r, he1, hi2, hs2, hc2⟩ := h; subst he1; have HT := hid (Thr.start HT.out hi2 hs2 hc2); replace hk := hk.trans hc2 sb_; clear hi2 hs2 hc2; clear d0 d1 d2 e0 e1 e2 f0 f1 f2 r0 r1 r2 q0 q1 q2; obtain ⟨d0, d1, d2, e0, e1, e2, f0, f1, f2, r0, r1, r2, q0, q1, q2⟩ := HB.out _ hk) | (go_at_call 71; refine (getBint_any _).mono ?_; intro e w1 h; obtain ⟨q, he1, hi2, hs2, hc2⟩ := h; subst he1; have HT := hid (Two.start HIP.out hsp hcp hi2 hs2 hc2 HE0.out); replace hk := hk.trans hc2 sb_; clear hi2 hs2 hc2; clear d0 d1 d2 e0 e1 e2 f0 f1 f2 r0 r1 r2 q0 q1 q2; obtain ⟨d0, d1, d2, e0, e1, e2, f0, f1, f2, r0, r1, r2, q0, q1, q2⟩ := HB.out _ hk) | (go_at_call 71; refine (getBint_any _).mono ?_; intro e w1 h; obtain ⟨p, he1, hip, hsp, hcp⟩ := h; subst he1; have HIP := hid hip; clear hip; replace hk := hk.trans hcp sb_; clear d0 d1 d2 e0 e1 e2 f0 f1 f2 r0 r1 r2 q0 q1 q2; obtain ⟨d0, d1, d2, e0, e1, e2, f0, f1, f2, r0, r1, r2, q0, q1, q2⟩ := HB.out _ hk) | (go_at_call 44; (first | refine (HSD.out _).mono ?_ | refine (HSE.out _).mono ?_ | refine (HSF.out _).mono ?_); intro e w1 h; obtain ⟨he1, hc1⟩ := h; subst he1; have HT := hid (HT.out.same hc1); replace hk := hk.trans hc1 sb_; clear hc1; clear d0 d1 d2 e0 e1 e2 f0 f1 f2 r0 r1 r2 q0 q1 q2; obtain ⟨d0, d1, d2, e0, e1, e2, f0, f1, f2, r0, r1, r2, q0, q1, q2⟩ := HB.out _ hk) | (go_at_call 42; (first | refine (HND.out _).mono ?_ | refine (HNE.out _).mono ?_ | refine (HNF.out _).mono ?_); intro e w1 h; obtain ⟨he1, hc1⟩ := h; subst he1; have HT := hid (HT.out.same hc1); replace hk := hk.trans hc1 sb_; clear hc1; clear d0 d1 d2 e0 e1 e2 f0 f1 f2 r0 r1 r2 q0 q1 q2; obtain ⟨d0, d1, d2, e0, e1, e2, f0, f1, f2, r0, r1, r2, q0, q1, q2⟩ := HB.out _ hk) | (go_at_call 73; (first | refine (thr_setFint HT.out HWD.out).mono ?_ | refine (thr_setFint2 HT.out HWE.out).mono ?_ | refine (thr_setFint3 HT.out HWF.out).mono ?_); intro e w1 h; obtain ⟨he1, h⟩ := h; subst he1; have HT := hid h; clear h; replace hk := HT.out.chg; clear d0 d1 d2 e0 e1 e2 f0 f1 f2 r0 r1 r2 q0 q1 q2; obtain ⟨d0, d1, d2, e0, e1, e2, f0, f1, f2, r0, r1, r2, q0, q1, q2⟩ := HB.out _ hk) | (go_at_call 74; refine (HMU.out _ _ _ _ _ HT.out).mono ?_; intro e w1 h; obtain ⟨he1, h⟩ := h; subst he1; have HT := hid h; clear h; replace hk := HT.out.chg; clear d0 d1 d2 e0 e1 e2 f0 f1 f2 r0 r1 r2 q0 q1 q2; obtain ⟨d0, d1, d2, e0, e1, e2, f0, f1, f2, r0, r1, r2, q0, q1, q2⟩ := HB.out _ hk) | (go_at_call 75; refine (HL.out _ _ _ _ HT.out).mono ?_; intro e w1 h; obtain ⟨he1, h⟩ := h; subst he1; have HT := hid h; clear h; replace hk := HT.out.chg; clear d0 d1 d2 e0 e1 e2 f0 f1 f2 r0 r1 r2 q0 q1 q2; obtain ⟨d0, d1, d2, e0, e1, e2, f0, f1, f2, r0, r1, r2, q0, q1, q2⟩ := HB.out _ hk) | (go_at_call 77; refine (HCM.out _ _ _ _ HT.out).mono ?_; intro e w1 h; obtain ⟨he1, h⟩ := h; subst he1; have HT := hid h; clear h; replace hk := HT.out.chg; clear d0 d1 d2 e0 e1 e2 f0 f1 f2 r0 r1 r2 q0 q1 q2; obtain ⟨d0, d1, d2, e0, e1, e2, f0, f1, f2, r0, r1, r2, q0, q1, q2⟩ := HB.out _ hk) | (go_at_call 78; refine (HSB.out _ _ _ _ HT.out).mono ?_; intro e w1 h; obtain ⟨he1, h⟩ := h; subst he1; have HT := hid h; clear h; replace hk := HT.out.chg; clear d0 d1 d2 e0 e1 e2 f0 f1 f2 r0 r1 r2 q0 q1 q2; obtain ⟨d0, d1, d2, e0, e1, e2, f0, f1, f2, r0, r1, r2, q0, q1, q2⟩ := HB.out _ hk) | (go_at_call 79; refine (HF.out _ _ _ _ _ HT.out).mono ?_; intro e w1 h; obtain ⟨na, nb, nc, nv, he1, hc1, hp⟩ := h.op; subst he1; replace hk := hc1; clear h hc1; clear d0 d1 d2 e0 e1 e2 f0 f1 f2 r0 r1 r2 q0 q1 q2; obtain ⟨d0, d1, d2, e0, e1, e2, f0, f1, f2, r0, r1, r2, q0, q1, q2⟩ := HB.out _ hk; have HP := hid hp; clear hp))
 refine leaves_cons (f := 72) (args := #[.pointer (some ⟨r, 0, none⟩)]) (by simp) (by simp [go_sem]) ?_
 refine (putBint_d _ .returning _).mono ?_
 rintro e u' w'' ⟨rfl, rfl, rfl⟩
 refine leaves_cons (f := 72) (args := #[.pointer (some ⟨q, 0, none⟩)]) (by simp [settle]) (by simp [go_sem]) ?_
 refine (putBint_d _ .returning _).mono ?_
 rintro e u' w'' ⟨rfl, rfl, rfl⟩
 refine leaves_cons (f := 72) (args := #[.pointer (some ⟨p, 0, none⟩)]) (by simp [settle]) (by simp [go_sem]) ?_
 refine (putBint_d _ .returning _).mono ?_
 rintro e u' w'' ⟨rfl, rfl, rfl⟩
 exact ⟨.tuple #[.agg #[.bool na, .int .i8 nb, .int .u64 nc], nv], dec_result rfl _ _ (w.heap.size + 1 + 1 + 1) _ _ _ _ 46 rfl rfl (store3 (HBX.out _ hk) _ _ _), HP.out.move (chg3 (HC0.out.trans hk sb_) (by omega) _ _ _)⟩
set_option maxHeartbeats 4000000 in
theorem amb_eq_same (dn en fn xn : Bool) (dc ec fc ds es fs m Y S : Nat) (hdc : digs dc ≤ 19) (hec : digs ec ≤ 19) (hfc : digs fc ≤ 19) (hwd : Wd (dc : Int)) (hwe : Wd (ec : Int)) (hwf : Wd (fc : Int)) (hds : ds ≤ 19) (hes : es ≤ 19) (hfs : fs ≤ 19) (hm : m ≤ 19) (hY : ec * fc = Y) (hYd : digs Y ≤ 38) (hS : es + fs = S) (hx : (!(en == fn)) = xn) (w : World) (he : EnvD w) (hlt : S = ds) (hs : (dn == xn) = true) (C : Nat) (hC : dc + Y = C) (hCd : digs C ≤ 57) :
  Calls Tryz.prog 56 #[.agg #[.bool dn, .int .i8 ds, .int .u64 (dc : Int)], .agg #[.bool en, .int .i8 es, .int .u64 (ec : Int)], .agg #[.bool fn, .int .i8 fs, .int .u64 (fc : Int)], .int .i64 m] w (PDecN w dn (from19 (10 ^ 19) 2 C ds m)) := by
 have hwa : IntKind.i64.wrap ((es : Int) + (fs : Int)) = (S : Int) := by rw [show (es : Int) + (fs : Int) = (S : Int) by omega]; exact IntWalk.i64_in _ (by omega)
 subst hlt
 have c1 : ¬ (S : Int) < (S : Int) := by omega
 have HA := hid (fun w0 w2 p q (h : Two w0 w2 p q (dc : Int) (Y : Int)) => two_add h (Nat.le_trans hdc (by omega)) (Nat.le_trans hYd (by omega)))
 rw [hC] at HA
 have HF := hid (fun w0 w2 p q y (h : Two w0 w2 p q (C : Int) y) => two_nfb (s := S) dn h hCd (by omega) hm)
 generalize from19 (10 ^ 19) 2 C S m = o at *
 have HMU := hid (fun w0 w2 p q r (h : Thr w0 w2 p q r (dc : Int) (ec : Int) (fc : Int)) => thr_mul h (Nat.le_trans hec (by omega)) (Nat.le_trans hfc (by omega)))
 rw [hY] at HMU
 have HWD := hid hwd
 have HWE := hid hwe
 have HWF := hid hwf
 have HSD := hid (fun w => Scale_any dn (dc : Int) S hds w)
 have HSE := hid (fun w => Scale_any en (ec : Int) es hes w)
 have HSF := hid (fun w => Scale_any fn (fc : Int) fs hfs w)
 have HND := hid (fun w => IsNeg_any dn (dc : Int) S w)
 have HNE := hid (fun w => IsNeg_any en (ec : Int) es w)
 have HNF := hid (fun w => IsNeg_any fn (fc : Int) fs w)
 obtain ⟨HB, HBX, HC0, hk⟩ := bx4 w dn S (dc : Int) en es (ec : Int) fn fs (fc : Int)
 have HE0 := hid (he.kept HC0.out)
 obtain ⟨d0, d1, d2, e0, e1, e2, f0, f1, f2, r0, r1, r2, q0, q1, q2⟩ := HB.out _ hk
 clear hC hCd hdc hec hfc hYd hY hwd hwe hwf hes hfs hS he
 go_enter_defers Tryz.func56, Tryz.ntmps56
 go_wp2_with (first | (go_at_call 71; refine (getBint_any _).mono ?_; intro e w1 h; obtain ⟨r, he1, hi2, hs2, hc2⟩ := h; subst he1; have HT := hid (Thr.start HT.out hi2 hs2 hc2); replace hk := hk.trans hc2 sb_; clear hi2 hs2 hc2; clear d0 d1 d2 e0 e1 e2 f0 f1 f2 r0 r1 r2 q0 q1 q2; obtain ⟨d0, d1, d2, e0, e1, e2, f0, f1, f2, r0, r1, r2, q0, q1, q2⟩ := HB.out _ hk) | (go_at_call 71; refine (getBint_any _).mono ?_; intro e w1 h; obtain ⟨q, he1, hi2, hs2, hc2⟩ := h; subst he1; have HT := hid (Two.start HIP.out hsp hcp hi2 hs2 hc2 HE0.out); replace hk := hk.trans hc2 sb_; clear hi2 hs2 hc2; clear d0 d1 d2 e0 e1 e2 f0 f1 f2 r0 r1 r2 q0 q1 q2; obtain ⟨d0, d1, d2, e0, e1, e2, f0, f1, f2, r0, r1, r2, q0, q1, q2⟩ := HB.out _ hk) | (go_at_call 71; refine (getBint_any _).mono ?_; intro e w1 h; obtain ⟨p, he1, hip, hsp, hcp⟩ := h; subst he1; have HIP := hid hip; clear hip; replace hk := hk.trans hcp sb_; clear d0 d1 d2 e0 e1 e2 f0 f1 f2 r0 r1 r2 q0 q1 q2; obtain ⟨d0, d1, d2, e0, e1, e2, f0, f1, f2, r0, r1, r2, q0, q1, q2⟩ := HB.out _ hk) | (go_at_call 44; (first | refine (HSD.out _).mono ?_ | refine (HSE.out _).mono ?_ | refine (HSF.out _).mono ?_); intro e w1 h; obtain ⟨he1, hc1⟩ := h; subst he1; have HT := hid (HT.out.same hc1); replace hk := hk.trans hc1 sb_; clear hc1; clear d0 d1 d2 e0 e1 e2 f0 f1 f2 r0 r1 r2 q0 q1 q2; obtain ⟨d0, d1, d2, e0, e1, e2, f0, f1, f2, r0, r1, r2, q0, q1, q2⟩ := HB.out _ hk) | (go_at_call 42; (first | refine (HND.out _).mono ?_ | refine (HNE.out _).mono ?_ | refine (HNF.out _).mono ?_); intro e w1 h; obtain ⟨he1, hc1⟩ := h; subst he1; have HT := hid (HT.out.same hc1); replace hk := hk.trans hc1 sb_; clear hc1; clear d0 d1 d2 e0 e1 e2 f0 f1 f2 r0 r1 r2 q0 q1 q2; obtain ⟨d0, d1, d2, e0, e1, e2, f0, f1, f2, r0, r1, r2, q0, q1, q2⟩ := HB.out _ hk) | (go_at_call 73; (first | refine (thr_setFint HT.out HWD.out).mono ?_ | refine (thr_setFint2 HT.out HWE.out).mono ?_ | refine (thr_setFint3 HT.out HWF.out).mono ?_); intro e w1 h; obtain ⟨he1, h⟩ := h; subst he1; have HT := hid h; clear h; replace hk := HT.out.chg; clear d0 d1 d2 e0 e1 e2 f0 f1 f2 r0 r1 r2 q0 q1 q2; obtain ⟨d0, d1, d2, e0, e1, e2, f0, f1, f2, r0, r1, r2, q0, q1, q2⟩ := HB.out _ hk) | (go_at_call 74; refine (HMU.out _ _ _ _ _ HT.out).mono ?_; intro e w1 h; obtain ⟨he1, h⟩ := h; subst he1; have HT := hid h; clear h; replace hk := HT.out.chg; clear d0 d1 d2 e0 e1 e2 f0 f1 f2 r0 r1 r2 q0 q1 q2; obtain ⟨d0, d1, d2, e0, e1, e2, f0, f1, f2, r0, r1, r2, q0, q1, q2⟩ := HB.out _ hk) | (go_at_call 76; refine (HA.out _ _ _ _ HT.out).mono ?_; intro e w1 h; obtain ⟨he1, h⟩ := h; subst he1; have HT := hid h; clear h; replace hk := HT.out.chg; clear d0 d1 d2 e0 e1 e2 f0 f1 f2 r0 r1 r2 q0 q1 q2; obtain ⟨d0, d1, d2, e0, e1, e2, f0, f1, f2, r0, r1, r2, q0, q1, q2⟩ := HB.out _ hk) | (go_at_call 79; refine (HF.out _ _ _ _ _ HT.out).mono ?_; intro e w1 h; obtain ⟨na, nb, nc, nv, he1, hc1, hp⟩ := h.op; subst he1; replace hk := hc1; clear h hc1; clear d0 d1 d2 e0 e1 e2 f0 f1 f2 r0 r1 r2 q0 q1 q2; obtain ⟨d0, d1, d2, e0, e1, e2, f0, f1, f2, r0, r1, r2, q0, q1, q2⟩ := HB.out _ hk; have HP := hid hp; clear hp))
 refine leaves_cons (f := 72) (args := #[.pointer (some ⟨r, 0, none⟩)]) (by simp) (by simp [go_sem]) ?_
 refine (putBint_d _ .returning _).mono ?_
 rintro e u' w'' ⟨rfl, rfl, rfl⟩
 refine leaves_cons (f := 72) (args := #[.pointer (some ⟨q, 0, none⟩)]) (by simp [settle]) (by simp [go_sem]) ?_
 refine (putBint_d _ .returning _).mono ?_
 rintro e u' w'' ⟨rfl, rfl, rfl⟩
 refine leaves_cons (f := 72) (args := #[.pointer (some ⟨p, 0, none⟩)]) (by simp [settle]) (by simp [go_sem]) ?_
 refine (putBint_d _ .returning _).mono ?_
 rintro e u' w'' ⟨rfl, rfl, rfl⟩
 exact ⟨.tuple #[.agg #[.bool na, .int .i8 nb, .int .u64 nc], nv], dec_result rfl _ _ (w.heap.size + 1 + 1 + 1) _ _ _ _ 46 rfl rfl (store3 (HBX.out _ hk) _ _ _), HP.out.move (chg3 (HC0.out.trans hk sb_) (by omega) _ _ _)⟩
set_option maxHeartbeats 4000000 in
theorem amb_eq_dgt (dn en fn xn : Bool) (dc ec fc ds es fs m Y S : Nat) (hdc : digs dc ≤ 19) (hec : digs ec ≤ 19) (hfc : digs fc ≤ 19) (hwd : Wd (dc : Int)) (hwe : Wd (ec : Int)) (hwf : Wd (fc : Int)) (hds : ds ≤ 19) (hes : es ≤ 19) (hfs : fs ≤ 19) (hm : m ≤ 19) (hY : ec * fc = Y) (hYd : digs Y ≤ 38) (hS : es + fs = S) (hx : (!(en == fn)) = xn) (w : World) (he : EnvD w) (hlt : S = ds) (hs : (dn == xn) = false) (hg : dc < Y) (C : Nat) (hC : Y - dc = C) (hCd : digs C ≤ 57) :
  Calls Tryz.prog 56 #[.agg #[.bool dn, .int .i8 ds, .int .u64 (dc : Int)], .agg #[.bool en, .int .i8 es, .int .u64 (ec : Int)], .agg #[.bool fn, .int .i8 fs, .int .u64 (fc : Int)], .int .i64 m] w (PDecN w xn (from19 (10 ^ 19) 2 C ds m)) := by
 have hwa : IntKind.i64.wrap ((es : Int) + (fs : Int)) = (S : Int) := by rw [show (es : Int) + (fs : Int) = (S : Int) by omega]; exact IntWalk.i64_in _ (by omega)
 subst hlt
 have c1 : ¬ (S : Int) < (S : Int) := by omega
 have hcc : (if dc < Y then Y - dc else dc - Y) = C := by rw [if_pos hg]; exact hC
 have HSB := hid (fun w0 w2 p q (h : Two w0 w2 p q (dc : Int) (Y : Int)) => two_subAbs h (Nat.le_trans hdc (by omega)) (Nat.le_trans hYd (by omega)) hcc)
 have hcm : cmpI (Y : Int) (dc : Int) = 1 := by unfold cmpI; rw [if_neg (by omega), if_pos (by omega)]
 obtain ⟨kk, hkk⟩ : ∃ kk : Int, kk = 1 := ⟨_, rfl⟩
 rw [← hkk] at hcm
 have hkp : (0 : Int) < kk := by omega
 have HCM := hid (fun w0 w2 p q (h : Two w0 w2 p q (dc : Int) (Y : Int)) => two_cmp h hcm)
 clear hcc hcm hg
 clear hkk
 have HF := hid (fun w0 w2 p q y (h : Two w0 w2 p q (C : Int) y) => two_nfb (s := S) xn h hCd (by omega) hm)
 generalize from19 (10 ^ 19) 2 C S m = o at *
 have HMU := hid (fun w0 w2 p q r (h : Thr w0 w2 p q r (dc : Int) (ec : Int) (fc : Int)) => thr_mul h (Nat.le_trans hec (by omega)) (Nat.le_trans hfc (by omega)))
 rw [hY] at HMU
 have HWD := hid hwd
 have HWE := hid hwe
 have HWF := hid hwf
 have HSD := hid (fun w => Scale_any dn (dc : Int) S hds w)
 have HSE := hid (fun w => Scale_any en (ec : Int) es hes w)
 have HSF := hid (fun w => Scale_any fn (fc : Int) fs hfs w)
 have HND := hid (fun w => IsNeg_any dn (dc : Int) S w)
 have HNE := hid (fun w => IsNeg_any en (ec : Int) es w)
 have HNF := hid (fun w => IsNeg_any fn (fc : Int) fs w)
 obtain ⟨HB, HBX, HC0, hk⟩ := bx4 w dn S (dc : Int) en es (ec : Int) fn fs (fc : Int)
 have HE0 := hid (he.kept HC0.out)
 obtain ⟨d0, d1, d2, e0, e1, e2, f0, f1, f2, r0, r1, r2, q0, q1, q2⟩ := HB.out _ hk
 clear hC hCd hdc hec hfc hYd hY hwd hwe hwf hes hfs hS he
 go_enter_defers Tryz.func56, Tryz.ntmps56
 go_wp2_with (first | (go_at_call 71; refine (getBint_any _).mono ?_; intro e w1 h; obtain ⟨r, he1, hi2, hs2, hc2⟩ := h; subst he1; have HT := hid (Thr.start HT.out hi2 hs2 hc2); replace hk := hk.trans hc2 sb_; clear hi2 hs2 hc2; clear d0 d1 d2 e0 e1 e2 f0 f1 f2 r0 r1 r2 q0 q1 q2; obtain ⟨d0, d1, d2, e0, e1, e2, f0, f1, f2, r0, r1, r2, q0, q1, q2⟩ := HB.out _ hk) | (go_at_call 71; refine (getBint_any _).mono ?_; intro e w1 h; obtain ⟨q, he1, hi2, hs2, hc2⟩ := h; subst he1; have HT := hid (Two.start HIP.out hsp hcp hi2 hs2 hc2 HE0.out); replace hk := hk.trans hc2 sb_; clear hi2 hs2 hc2; clear d0 d1 d2 e0 e1 e2 f0 f1 f2 r0 r1 r2 q0 q1 q2; obtain ⟨d0, d1, d2, e0, e1, e2, f0, f1, f2, r0, r1, r2, q0, q1, q2⟩ := HB.out _ hk) | (go_at_call 71; refine (getBint_any _).mono ?_; intro e w1 h; obtain ⟨p, he1, hip, hsp, hcp⟩ := h; subst he1; have HIP := hid hip; clear hip; replace hk := hk.trans hcp sb_; clear d0 d1 d2 e0 e1 e2 f0 f1 f2 r0 r1 r2 q0 q1 q2; obtain ⟨d0, d1, d2, e0, e1, e2, f0, f1, f2, r0, r1, r2, q0, q1, q2⟩ := HB.out _ hk) | (go_at_call 44; (first | refine (HSD.out _).mono ?_ | refine (HSE.out _).mono ?_ | refine (HSF.out _).mono ?_); intro e w1 h; obtain ⟨he1, hc1⟩ := h; subst he1; have HT := hid (HT.out.same hc1); replace hk := hk.trans hc1 sb_; clear hc1; clear d0 d1 d2 e0 e1 e2 f0 f1 f2 r0 r1 r2 q0 q1 q2; obtain ⟨d0, d1, d2, e0, e1, e2, f0, f1, f2, r0, r1, r2, q0, q1, q2⟩ := HB.out _ hk) | (go_at_call 42; (first | refine (HND.out _).mono ?_ | refine (HNE.out _).mono ?_ | refine (HNF.out _).mono ?_); intro e w1 h; obtain ⟨he1, hc1⟩ := h; subst he1; have HT := hid (HT.out.same hc1); replace hk := hk.trans hc1 sb_; clear hc1; clear d0 d1 d2 e0 e1 e2 f0 f1 f2 r0 r1 r2 q0 q1 q2; obtain ⟨d0, d1, d2, e0, e1, e2, f0, f1, f2, r0, r1, r2, q0, q1, q2⟩ := HB.out _ hk) | (go_at_call 73; (first | refine (thr_setFint HT.out HWD.out).mono ?_ | refine (thr_setFint2 HT.out HWE.out).mono ?_ | refine (thr_setFint3 HT.out HWF.out).mono ?_); intro e w1 h; obtain ⟨he1, h⟩ := h; subst he1; have HT := hid h; clear h; replace hk := HT.out.chg; clear d0 d1 d2 e0 e1 e2 f0 f1 f2 r0 r1 r2 q0 q1 q2; obtain ⟨d0, d1, d2, e0, e1, e2, f0, f1, f2, r0, r1, r2, q0, q1, q2⟩ := HB.out _ hk) | (go_at_call 74; refine (HMU.out _ _ _ _ _ HT.out).mono ?_; intro e w1 h; obtain ⟨he1, h⟩ := h; subst he1; have HT := hid h; clear h; replace hk := HT.out.chg; clear d0 d1 d2 e0 e1 e2 f0 f1 f2 r0 r1 r2 q0 q1 q2; obtain ⟨d0, d1, d2, e0, e1, e2, f0, f1, f2, r0, r1, r2, q0, q1, q2⟩ := HB.out _ hk) | (go_at_call 77; refine (HCM.out _ _ _ _ HT.out).mono ?_; intro e w1 h; obtain ⟨he1, h⟩ := h; subst he1; have HT := hid h; clear h; replace hk := HT.out.chg; clear d0 d1 d2 e0 e1 e2 f0 f1 f2 r0 r1 r2 q0 q1 q2; obtain ⟨d0, d1, d2, e0, e1, e2, f0, f1, f2, r0, r1, r2, q0, q1, q2⟩ := HB.out _ hk) | (go_at_call 78; refine (HSB.out _ _ _ _ HT.out).mono ?_; intro e w1 h; obtain ⟨he1, h⟩ := h; subst he1; have HT := hid h; clear h; replace hk := HT.out.chg; clear d0 d1 d2 e0 e1 e2 f0 f1 f2 r0 r1 r2 q0 q1 q2; obtain ⟨d0, d1, d2, e0, e1, e2, f0, f1, f2, r0, r1, r2, q0, q1, q2⟩ := HB.out _ hk) | (go_at_call 79; refine (HF.out _ _ _ _ _ HT.out).mono ?_; intro e w1 h; obtain ⟨na, nb, nc, nv, he1, hc1, hp⟩ := h.op; subst he1; replace hk := hc1; clear h hc1; clear d0 d1 d2 e0 e1 e2 f0 f1 f2 r0 r1 r2 q0 q1 q2; obtain ⟨d0, d1, d2, e0, e1, e2, f0, f1, f2, r0, r1, r2, q0, q1, q2⟩ := HB.out _ hk; have HP := hid hp; clear hp))
 refine leaves_cons (f := 72) (args := #[.pointer (some ⟨r, 0, none⟩)]) (by simp) (by simp [go_sem]) ?_
 refine (putBint_d _ .returning _).mono ?_
 rintro e u' w'' ⟨rfl, rfl, rfl⟩
 refine leaves_cons (f := 72) (args := #[.pointer (some ⟨q, 0, none⟩)]) (by simp [settle]) (by simp [go_sem]) ?_
 refine (putBint_d _ .returning _).mono ?_
 rintro e u' w'' ⟨rfl, rfl, rfl⟩
 refine leaves_cons (f := 72) (args := #[.pointer (some ⟨p, 0, none⟩)]) (by simp [settle]) (by simp [go_sem]) ?_
 refine (putBint_d _ .returning _).mono ?_
 rintro e u' w'' ⟨rfl, rfl, rfl⟩
 exact ⟨.tuple #[.agg #[.bool na, .int .i8 nb, .int .u64 nc], nv], dec_result rfl _ _ (w.heap.size + 1 + 1 + 1) _ _ _ _ 46 rfl rfl (store3 (HBX.out _ hk) _ _ _), HP.out.move (chg3 (HC0.out.trans hk sb_) (by omega) _ _ _)⟩
set_option maxHeartbeats 4000000 in
theorem amb_eq_dle (dn en fn xn : Bool) (dc ec fc ds es fs m Y S : Nat) (hdc : digs dc ≤ 19) (hec : digs ec ≤ 19) (hfc : digs fc ≤ 19) (hwd : Wd (dc : Int)) (hwe : Wd (ec : Int)) (hwf : Wd (fc : Int)) (hds : ds ≤ 19) (hes : es ≤ 19) (hfs : fs ≤ 19) (hm : m ≤ 19) (hY : ec * fc = Y) (hYd : digs Y ≤ 38) (hS : es + fs = S) (hx : (!(en == fn)) = xn) (w : World) (he : EnvD w) (hlt : S = ds) (hs : (dn == xn) = false) (hg : ¬ dc < Y) (C : Nat) (hC : dc - Y = C) (hCd : digs C ≤ 57) :
  Calls Tryz.prog 56 #[.agg #[.bool dn, .int .i8 ds, .int .u64 (dc : Int)], .agg #[.bool en, .int .i8 es, .int .u64 (ec : Int)], .agg #[.bool fn, .int .i8 fs, .int .u64 (fc : Int)], .int .i64 m] w (PDecN w dn (from19 (10 ^ 19) 2 C ds m)) := by
 have hwa : IntKind.i64.wrap ((es : Int) + (fs : Int)) = (S : Int) := by rw [show (es : Int) + (fs : Int) = (S : Int) by omega]; exact IntWalk.i64_in _ (by omega)
 subst hlt
 have c1 : ¬ (S : Int) < (S : Int) := by omega
 have hcc : (if dc < Y then Y - dc else dc - Y) = C := by rw [if_neg hg]; exact hC
 have HSB := hid (fun w0 w2 p q (h : Two w0 w2 p q (dc : Int) (Y : Int)) => two_subAbs h (Nat.le_trans hdc (by omega)) (Nat.le_trans hYd (by omega)) hcc)
 obtain ⟨kk, hcm⟩ : ∃ kk : Int, cmpI (Y : Int) (dc : Int) = kk := ⟨_, rfl⟩
 have hkp : ¬ (0 : Int) < kk := by rw [← hcm]; unfold cmpI; split <;> (try split) <;> omega
 have HCM := hid (fun w0 w2 p q (h : Two w0 w2 p q (dc : Int) (Y : Int)) => two_cmp h hcm)
 clear hcc hcm hg
 have HF := hid (fun w0 w2 p q y (h : Two w0 w2 p q (C : Int) y) => two_nfb (s := S) dn h hCd (by omega) hm)
 generalize from19 (10 ^ 19) 2 C S m = o at *
 have HMU := hid (fun w0 w2 p q r (h : Thr w0 w2 p q r (dc : Int) (ec : Int) (fc : Int)) => thr_mul h (Nat.le_trans hec (by omega)) (Nat.le_trans hfc (by omega)))
 rw [hY] at HMU
 have HWD := hid hwd
 have HWE := hid hwe
 have HWF := hid hwf
 have HSD := hid (fun w => Scale_any dn (dc : Int) S hds w)
 have HSE := hid (fun w => Scale_any en (ec : Int) es hes w)
 have HSF := hid (fun w => Scale_any fn (fc : Int) fs hfs w)
 have HND := hid (fun w => IsNeg_any dn (dc : Int) S w)
 have HNE := hid (fun w => IsNeg_any en (ec : Int) es w)
 have HNF := hid (fun w => IsNeg_any fn (fc : Int) fs w)
 obtain ⟨HB, HBX, HC0, hk⟩ := bx4 w dn S (dc : Int) en es (ec : Int) fn fs (fc : Int)
 have HE0 := hid (he.kept HC0.out)
 obtain ⟨d0, d1, d2, e0, e1, e2, f0, f1, f2, r0, r1, r2, q0, q1, q2⟩ := HB.out _ hk
 clear hC hCd hdc hec hfc hYd hY hwd hwe hwf hes hfs hS he
 go_enter_defers Tryz.func56, Tryz.ntmps56
 go_wp2_with (first | (go_at_call 71; refine (getBint_any _).mono ?_; intro e w1 h; obtain ⟨r, he1, hi2, hs2, hc2⟩ := h; subst he1; have HT := hid (Thr.start HT.out hi2 hs2 hc2); replace hk := hk.trans hc2 sb_; clear hi2 hs2 hc2; clear d0 d1 d2 e0 e1 e2 f0 f1 f2 r0 r1 r2 q0 q1 q2; obtain ⟨d0, d1, d2, e0, e1, e2, f0, f1, f2, r0, r1, r2, q0, q1, q2⟩ := HB.out _ hk) | (go_at_call 71; refine (getBint_any _).mono ?_; intro e w1 h; obtain ⟨q, he1, hi2, hs2, hc2⟩ := h; subst he1; have HT := hid (Two.start HIP.out hsp hcp hi2 hs2 hc2 HE0.out); replace hk := hk.trans hc2 sb_; clear hi2 hs2 hc2; clear d0 d1 d2 e0 e1 e2 f0 f1 f2 r0 r1 r2 q0 q1 q2; obtain ⟨d0, d1, d2, e0, e1, e2, f0, f1, f2, r0, r1, r2, q0, q1, q2⟩ := HB.out _ hk) | (go_at_call 71; refine (getBint_any _).mono ?_; intro e w1 h; obtain ⟨p, he1, hip, hsp, hcp⟩ := h; subst he1; have HIP := hid hip; clear hip; replace hk := hk.trans hcp sb_; clear d0 d1 d2 e0 e1 e2 f0 f1 f2 r0 r1 r2 q0 q1 q2; obtain ⟨d0, d1, d2, e0, e1, e2, f0, f1, f2, r0, r1, r2, q0, q1, q2⟩ := HB.out _ hk) | (go_at_call 44; (first | refine (HSD.out _).mono ?_ | refine (HSE.out _).mono ?_ | refine (HSF.out _).mono ?_); intro e w1 h; obtain ⟨he1, hc1⟩ := h; subst he1; have HT := hid (HT.out.same hc1); replace hk := hk.trans hc1 sb_; clear hc1; clear d0 d1 d2 e0 e1 e2 f0 f1 f2 r0 r1 r2 q0 q1 q2; obtain ⟨d0, d1, d2, e0, e1, e2, f0, f1, f2, r0, r1, r2, q0, q1, q2⟩ := HB.out _ hk) | (go_at_call 42; (first | refine (HND.out _).mono ?_ | refine (HNE.out _).mono ?_ | refine (HNF.out _).mono ?_); intro e w1 h; obtain ⟨he1, hc1⟩ := h; subst he1; have HT := hid (HT.out.same hc1); replace hk := hk.trans hc1 sb_; clear hc1; clear d0 d1 d2 e0 e1 e2 f0 f1 f2 r0 r1 r2 q0 q1 q2; obtain ⟨d0, d1, d2, e0, e1, e2, f0, f1, f2, r0, r1, r2, q0, q1, q2⟩ := HB.out _ hk) | (go_at_call 73; (first | refine (thr_setFint HT.out HWD.out).mono ?_ | refine (thr_setFint2 HT.out HWE.out).mono ?_ | refine (thr_setFint3 HT.out HWF.out).mono ?_); intro e w1 h; obtain ⟨he1, h⟩ := h; subst he1; have HT := hid h; clear h; replace hk := HT.out.chg; clear d0 d1 d2 e0 e1 e2 f0 f1 f2 r0 r1 r2 q0 q1 q2; obtain ⟨d0, d1, d2, e0, e1, e2, f0, f1, f2, r0, r1, r2, q0, q1, q2⟩ := HB.out _ hk) | (go_at_call 74; refine (HMU.out _ _ _ _ _ HT.out).mono ?_; intro e w1 h; obtain ⟨he1, h⟩ := h; subst he1; have HT := hid h; clear h; replace hk := HT.out.chg; clear d0 d1 d2 e0 e1 e2 f0 f1 f2 r0 r1 r2 q0 q1 q2; obtain ⟨d0, d1, d2, e0, e1, e2, f0, f1, f2, r0, r1, r2, q0, q1, q2⟩ := HB.out _ hk) | (go_at_call 77; refine (HCM.out _ _ _ _ HT.out).mono ?_; intro e w1 h; obtain ⟨he1, h⟩ := h; subst he1; have HT := hid h; clear h; replace hk := HT.out.chg; clear d0 d1 d2 e0 e1 e2 f0 f1 f2 r0 r1 r2 q0 q1 q2; obtain ⟨d0, d1, d2, e0, e1, e2, f0, f1, f2, r0, r1, r2, q0, q1, q2⟩ := HB.out _ hk) | (go_at_call 78; refine (HSB.out _ _ _ _ HT.out).mono ?_; intro e w1 h; obtain ⟨he1, h⟩ := h; subst he1; have HT := hid h; clear h; replace hk := HT.out.chg; clear d0 d1 d2 e0 e1 e2 f0 f1 f2 r0 r1 r2 q0 q1 q2; obtain ⟨d0, d1, d2, e0, e1, e2, f0, f1, f2, r0, r1, r2, q0, q1, q2⟩ := HB.out _ hk) | (go_at_call 79; refine (HF.out _ _ _ _ _ HT.out).mono ?_; intro e w1 h; obtain ⟨na, nb, nc, nv, he1, hc1, hp⟩ := h.op; subst he1; replace hk := hc1; clear h hc1; clear d0 d1 d2 e0 e1 e2 f0 f1 f2 r0 r1 r2 q0 q1 q2; obtain ⟨d0, d1, d2, e0, e1, e2, f0, f1, f2, r0, r1, r2, q0, q1, q2⟩ := HB.out _ hk; have HP := hid hp; clear hp))
 refine leaves_cons (f := 72) (args := #[.pointer (some ⟨r, 0, none⟩)]) (by simp) (by simp [go_sem]) ?_
 refine (putBint_d _ .returning _).mono ?_
 rintro e u' w'' ⟨rfl, rfl, rfl⟩
 refine leaves_cons (f := 72) (args := #[.pointer (some ⟨q, 0, none⟩)]) (by simp [settle]) (by simp [go_sem]) ?_
 refine (putBint_d _ .returning _).mono ?_
 rintro e u' w'' ⟨rfl, rfl, rfl⟩
 refine leaves_cons (f := 72) (args := #[.pointer (some ⟨p, 0, none⟩)]) (by simp [settle]) (by simp [go_sem]) ?_
 refine (putBint_d _ .returning _).mono ?_
 rintro e u' w'' ⟨rfl, rfl, rfl⟩
 exact ⟨.tuple #[.agg #[.bool na, .int .i8 nb, .int .u64 nc], nv], dec_result rfl _ _ (w.heap.size + 1 + 1 + 1) _ _ _ _ 46 rfl rfl (store3 (HBX.out _ hk) _ _ _), HP.out.move (chg3 (HC0.out.trans hk sb_) (by omega) _ _ _)⟩
end Go.Proofs.YtmpkgkjnoanlhaaGreatDoor
namespace Go.Proofs.YtmpkgkjnoanlhaaGreatDoor
open Go.RowKit
set_option linter.unusedVariables false
set_option maxRecDepth 20000
theorem mul_bd {dc ec fc ds S : Nat} (hdc : dc < 10 ^ 19) (hec : ec < 10 ^ 19) (hfc : fc < 10 ^ 19) (hds : ds ≤ 19) (hS : S ≤ 38) :
  dc * 10 ^ (mxp ds S - ds) + ec * fc * 10 ^ (mxp ds S - S) < 10 ^ 57 := by
 have e1 : (10 : Nat) ^ 19 = 10000000000000000000 := by decide
 have e2 : (10 : Nat) ^ 38 = 100000000000000000000000000000000000000 := by decide
 have e3 : (10 : Nat) ^ 57 = 1000000000000000000000000000000000000000000000000000000000 := by decide
 rw [e1] at hdc hec hfc
 have hY : ec * fc ≤ 9999999999999999999 * 9999999999999999999 := Nat.mul_le_mul (by omega) (by omega)
 unfold mxp
 split
 ·have h1 : dc * 10 ^ (S - ds) ≤ dc * 10 ^ 38 := Nat.mul_le_mul_left _ (pow_le' (by omega))
  rw [Nat.sub_self, Nat.pow_zero, Nat.mul_one]
  rw [e2] at h1
  rw [e3]
  omega
 ·have h1 : ec * fc * 10 ^ (ds - S) ≤ ec * fc * 10 ^ 19 := Nat.mul_le_mul_left _ (pow_le' (by omega))
  rw [Nat.sub_self, Nat.pow_zero, Nat.mul_one]
  rw [e1] at h1
  rw [e3]
  omega
theorem digs_prod {a b : Nat} (ha : a < 10 ^ 19) (hb : b < 10 ^ 19) : digs (a * b) ≤ 38 := by
 rw [digs_le]
 have e1 : (10 : Nat) ^ 38 = 10 ^ 19 * 10 ^ 19 := by rw [← Nat.pow_add]
 rw [e1]
 exact Nat.lt_of_le_of_lt (Nat.mul_le_mul_left _ (Nat.le_of_lt hb)) (Nat.mul_lt_mul_of_pos_right ha (by decide))
theorem addMulBint_any (dn en fn xn : Bool) (dc ec fc ds es fs m : Nat) (hdc : dc < 10 ^ 19) (hec : ec < 10 ^ 19) (hfc : fc < 10 ^ 19) (hds : ds ≤ 19) (hes : es ≤ 19) (hfs : fs ≤ 19) (hm : m ≤ 19) (hx : (!(en == fn)) = xn) (w : World) (he : EnvD w) :
  Calls Tryz.prog 56 #[.agg #[.bool dn, .int .i8 ds, .int .u64 (dc : Int)], .agg #[.bool en, .int .i8 es, .int .u64 (ec : Int)], .agg #[.bool fn, .int .i8 fs, .int .u64 (fc : Int)], .int .i64 m] w
   (PDecN w (sumD dn dc ds xn (ec * fc) (es + fs)).1 (from19 (10 ^ 19) 2 (sumD dn dc ds xn (ec * fc) (es + fs)).2 (mxp ds (es + fs)) m)) := by
 have hdd := digs_le.2 hdc
 have hde := digs_le.2 hec
 have hdf := digs_le.2 hfc
 have hwd := (fiN hdc).wd
 have hwe := (fiN hec).wd
 have hwf := (fiN hfc).wd
 have hYd := digs_prod hec hfc
 obtain ⟨S, hS⟩ : ∃ S, es + fs = S := ⟨_, rfl⟩
 have hbd := mul_bd (S := S) hdc hec hfc hds (by omega)
 obtain ⟨Y, hY⟩ : ∃ Y, ec * fc = Y := ⟨_, rfl⟩
 rw [hS, hY]
 rw [hY] at hYd hbd
 have dl : ∀ {c : Nat}, c ≤ dc * 10 ^ (mxp ds S - ds) + Y * 10 ^ (mxp ds S - S) → digs c ≤ 57 := fun h => digs_le.2 (Nat.lt_of_le_of_lt h hbd)
 have key : ∀ (A B T : Nat), mxp ds S = T → dc * 10 ^ (T - ds) = A → Y * 10 ^ (T - S) = B → mxp ds S = T ∧ sumD dn dc ds xn Y S = sumS dn A xn B ∧ (∀ {c : Nat}, c ≤ A + B → digs c ≤ 57) := by
  rintro A B T rfl rfl rfl
  exact ⟨rfl, rfl, dl⟩
 rcases Nat.lt_trichotomy S ds with hlt | hlt | hlt
 ·obtain ⟨k1, k2, k3⟩ := key dc (Y * 10 ^ (ds - S)) ds (by unfold mxp; rw [if_neg (by omega)]) (by rw [Nat.sub_self, Nat.pow_zero, Nat.mul_one]) rfl
  rw [k1, k2]
  by_cases hs : dn = xn
  ·rw [show sumS dn dc xn (Y * 10 ^ (ds - S)) = (dn, dc + Y * 10 ^ (ds - S)) by unfold sumS; rw [if_pos hs]]
   exact amb_gt_same dn en fn xn dc ec fc ds es fs m Y S hdd hde hdf hwd hwe hwf hds hes hfs hm hY hYd hS hx w he hlt _ rfl (k3 (by omega)) (by simpa using hs) _ rfl (k3 (by omega))
  ·by_cases hg : dc < Y * 10 ^ (ds - S)
   ·rw [show sumS dn dc xn (Y * 10 ^ (ds - S)) = (xn, Y * 10 ^ (ds - S) - dc) by unfold sumS; rw [if_neg hs, if_pos hg]]
    exact amb_gt_dgt dn en fn xn dc ec fc ds es fs m Y S hdd hde hdf hwd hwe hwf hds hes hfs hm hY hYd hS hx w he hlt _ rfl (k3 (by omega)) (by simpa using hs) hg _ rfl (k3 (by omega))
   ·rw [show sumS dn dc xn (Y * 10 ^ (ds - S)) = (dn, dc - Y * 10 ^ (ds - S)) by unfold sumS; rw [if_neg hs, if_neg hg]]
    exact amb_gt_dle dn en fn xn dc ec fc ds es fs m Y S hdd hde hdf hwd hwe hwf hds hes hfs hm hY hYd hS hx w he hlt _ rfl (k3 (by omega)) (by simpa using hs) hg _ rfl (k3 (by omega))
 ·obtain ⟨k1, k2, k3⟩ := key dc Y ds (by unfold mxp; rw [if_neg (by omega)]) (by rw [Nat.sub_self, Nat.pow_zero, Nat.mul_one]) (by rw [hlt, Nat.sub_self, Nat.pow_zero, Nat.mul_one])
  rw [k1, k2]
  by_cases hs : dn = xn
  ·rw [show sumS dn dc xn Y = (dn, dc + Y) by unfold sumS; rw [if_pos hs]]
   exact amb_eq_same dn en fn xn dc ec fc ds es fs m Y S hdd hde hdf hwd hwe hwf hds hes hfs hm hY hYd hS hx w he hlt (by simpa using hs) _ rfl (k3 (by omega))
  ·by_cases hg : dc < Y
   ·rw [show sumS dn dc xn Y = (xn, Y - dc) by unfold sumS; rw [if_neg hs, if_pos hg]]
    exact amb_eq_dgt dn en fn xn dc ec fc ds es fs m Y S hdd hde hdf hwd hwe hwf hds hes hfs hm hY hYd hS hx w he hlt (by simpa using hs) hg _ rfl (k3 (by omega))
   ·rw [show sumS dn dc xn Y = (dn, dc - Y) by unfold sumS; rw [if_neg hs, if_neg hg]]
    exact amb_eq_dle dn en fn xn dc ec fc ds es fs m Y S hdd hde hdf hwd hwe hwf hds hes hfs hm hY hYd hS hx w he hlt (by simpa using hs) hg _ rfl (k3 (by omega))
 ·obtain ⟨k1, k2, k3⟩ := key (dc * 10 ^ (S - ds)) Y S (by unfold mxp; rw [if_pos hlt]) rfl (by rw [Nat.sub_self, Nat.pow_zero, Nat.mul_one])
  rw [k1, k2]
  by_cases hs : dn = xn
  ·rw [show sumS dn (dc * 10 ^ (S - ds)) xn Y = (dn, dc * 10 ^ (S - ds) + Y) by unfold sumS; rw [if_pos hs]]
   exact amb_lt_same dn en fn xn dc ec fc ds es fs m Y S hdd hde hdf hwd hwe hwf hds hes hfs hm hY hYd hS hx w he hlt _ rfl (k3 (by omega)) (by simpa using hs) _ rfl (k3 (by omega))
  ·by_cases hg : dc * 10 ^ (S - ds) < Y
   ·rw [show sumS dn (dc * 10 ^ (S - ds)) xn Y = (xn, Y - dc * 10 ^ (S - ds)) by unfold sumS; rw [if_neg hs, if_pos hg]]
    exact amb_lt_dgt dn en fn xn dc ec fc ds es fs m Y S hdd hde hdf hwd hwe hwf hds hes hfs hm hY hYd hS hx w he hlt _ rfl (k3 (by omega)) (by simpa using hs) hg _ rfl (k3 (by omega))
   ·rw [show sumS dn (dc * 10 ^ (S - ds)) xn Y = (dn, dc * 10 ^ (S - ds) - Y) by unfold sumS; rw [if_neg hs, if_neg hg]]
    exact amb_lt_dle dn en fn xn dc ec fc ds es fs m Y S hdd hde hdf hwd hwe hwf hds hes hfs hm hY hYd hS hx w he hlt _ rfl (k3 (by omega)) (by simpa using hs) hg _ rfl (k3 (by omega))
end Go.Proofs.YtmpkgkjnoanlhaaGreatDoor
