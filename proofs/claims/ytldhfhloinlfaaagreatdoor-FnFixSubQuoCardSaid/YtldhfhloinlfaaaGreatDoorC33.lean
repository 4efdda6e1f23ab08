/- Part 33 of the proof. -/
import Derived.Test.YtldhfhloinlfaaaGreatDoorC22
namespace Go.Proofs.YtldhfhloinlfaaaGreatDoor
open Go.RowKit
set_option linter.unusedVariables false
set_option linter.unusedSimpArgs false
set_option maxRecDepth 20000
structure Thr (w0 w2 : World) (p q r : Nat) (x y z : Int) : Prop where
 ex : ∃ bp bq br, IntAt w2 p bp x ∧ IntAt w2 q bq y ∧ IntAt w2 r br z ∧ ((∀ b, bp = some b → bq ≠ some b ∧ br ≠ some b) ∧ ∀ b, bq = some b → br ≠ some b) ∧ (∀ b, bp = some b → w0.heap.size ≤ b) ∧ (∀ b, bq = some b → w0.heap.size ≤ b) ∧ (∀ b, br = some b → w0.heap.size ≤ b)
 p0 : w0.heap.size ≤ p
 q0 : w0.heap.size ≤ q
 r0 : w0.heap.size ≤ r
 ne : p ≠ q ∧ p ≠ r ∧ q ≠ r
 env : EnvD w2
 chg : Chg (fun _ => False) w0 w2
theorem Thr.rot {w0 w2 : World} {p q r : Nat} {x y z : Int} (h : Thr w0 w2 p q r x y z) : Thr w0 w2 q r p y z x := by
 obtain ⟨⟨bp, bq, br, h1, h2, h3, ⟨h4, h5⟩, h6, h7, h8⟩, a, b, c, ⟨n1, n2, n3⟩, d, e⟩ := h
 exact ⟨⟨bq, br, bp, h2, h3, h1, ⟨fun b hb => ⟨h5 b hb, fun h => (h4 b h).1 hb⟩, fun b hb h => (h4 b h).2 hb⟩, h7, h8, h6⟩, b, c, a, ⟨n3, n1.symm, n2.symm⟩, d, e⟩
theorem Thr.same {w0 w2 w3 : World} {p q r : Nat} {x y z : Int} (h : Thr w0 w2 p q r x y z) (hc : Chg (fun _ => False) w2 w3) : Thr w0 w3 p q r x y z := by
 obtain ⟨⟨bp, bq, br, h1, h2, h3, hh⟩, a, b, c, n, d, e⟩ := h
 exact ⟨⟨bp, bq, br, h1.new hc, h2.new hc, h3.new hc, hh⟩, a, b, c, n, d.kept hc, e.trans hc sb_⟩
theorem Thr.start {w0 w1 w2 : World} {p q r : Nat} {x y : Int} (h : Two w0 w1 p q x y) (h3 : IntAt w2 r none 0) (hr : w1.heap.size ≤ r) (hc : Chg (fun _ => False) w1 w2) : Thr w0 w2 p q r x y 0 := by
 obtain ⟨⟨bp, bq, h1, h2, h4, h5, h6⟩, a, b, c, d, e⟩ := h
 have hs := e.size
 have hp := h1.lt
 have hq := h2.lt
 exact ⟨⟨bp, bq, none, h1.new hc, h2.new hc, h3, ⟨fun b hb => ⟨h4 b hb, by intro h; cases h⟩, fun b hb h => by cases h⟩, h5, h6, by intro b h; cases h⟩, a, b, by omega, ⟨c, by omega, by omega⟩, d.kept hc, e.trans hc sb_⟩
theorem Thr.two {w0 w2 : World} {p q r : Nat} {x y z : Int} (h : Thr w0 w2 p q r x y z) : Two w0 w2 p q x y := by
 obtain ⟨⟨bp, bq, br, h1, h2, h3, ⟨h4, h5⟩, h6, h7, h8⟩, a, b, c, ⟨n1, n2, n3⟩, d, e⟩ := h
 exact ⟨⟨bp, bq, h1, h2, fun b hb => (h4 b hb).1, h6, h7⟩, a, b, n1, d, e⟩
theorem Thr.step {w0 w2 w3 : World} {p q r : Nat} {bp : Option Nat} {x y z x' : Int} {v : Value} {e : Ending} (h : Thr w0 w2 p q r x y z) (hp : IntAt w2 p bp x) (k : PInt w2 p bp x' v e w3) : Thr w0 w3 p q r x' y z := by
 obtain ⟨⟨bp', bq, br, h1, h2, h3, ⟨h4, h5⟩, h6, h7, h8⟩, a, b, c, ⟨n1, n2, n3⟩, d, e⟩ := h
 obtain rfl := hp.uniq h1
 obtain ⟨_, bn, k1, k2, k3⟩ := k
 have hs := e.size
 have far : ∀ {s : Nat} {bs : Option Nat} {u : Int}, IntAt w2 s bs u → p ≠ s → (∀ b, bp = some b → bs ≠ some b) → IntAt w3 s bs u ∧ ∀ b, bn = some b → bs ≠ some b := by
  intro s bs u hu hne hap
  refine ⟨hu.kept k3 ?_ ?_, ?_⟩
  ·rintro (hh | hh)
   ·exact hne hh.symm
   ·exact hu.ne hp hh rfl
  ·rintro b' hb (hh | hh)
   ·exact hp.ne hu hb hh
   ·exact hap b' hh hb
  ·intro b' hb hq
   rcases k2 with k | ⟨c', k, hk⟩
   ·exact hap b' (k ▸ hb) hq
   ·rw [hb] at k
    simp only [Option.some.injEq] at k
    have := hu.blk hq
    omega
 obtain ⟨g1, g2⟩ := far h2 n1 (fun b hb => (h4 b hb).1)
 obtain ⟨g3, g4⟩ := far h3 n2 (fun b hb => (h4 b hb).2)
 refine ⟨⟨bn, bq, br, k1, g1, g3, ⟨fun b hb => ⟨g2 b hb, g4 b hb⟩, h5⟩, ?_, h7, h8⟩, a, b, c, ⟨n1, n2, n3⟩, d.int hp k3, e.trans k3 (fun i hi hh => ?_)⟩
 ·intro b' hb
  rcases k2 with k | ⟨c', k, hk⟩
  ·exact h6 b' (k ▸ hb)
  ·rw [hb] at k
   simp only [Option.some.injEq] at k
   omega
 ·rcases hh with hh | hh
  ·omega
  ·have := h6 i hh; omega
theorem thr_setFint {w0 w2 : World} {p q r : Nat} {x y z : Int} {c : Int} (h : Thr w0 w2 p q r x y z) (hc : Wd c) :
  Calls Tryz.prog 105 #[.pointer (some ⟨p, 0, none⟩), .int .u64 c] w2 (fun e w3 => e = .returned (.tuple #[]) ∧ Thr w0 w3 p q r c y z) := by
 obtain ⟨bp, bq, br, h1, h2, _⟩ := h.ex
 exact (bint_setFint p bp x c w2 h1 hc).mono (fun e w3 k => ⟨k.1, h.step h1 k⟩)
theorem thr_setFint2 {w0 w2 : World} {p q r : Nat} {x y z : Int} {c : Int} (h : Thr w0 w2 p q r x y z) (hc : Wd c) :
  Calls Tryz.prog 105 #[.pointer (some ⟨q, 0, none⟩), .int .u64 c] w2 (fun e w3 => e = .returned (.tuple #[]) ∧ Thr w0 w3 p q r x c z) :=
 (thr_setFint h.rot hc).mono (fun _ _ k => ⟨k.1, k.2.rot.rot⟩)
theorem thr_setFint3 {w0 w2 : World} {p q r : Nat} {x y z : Int} {c : Int} (h : Thr w0 w2 p q r x y z) (hc : Wd c) :
  Calls Tryz.prog 105 #[.pointer (some ⟨r, 0, none⟩), .int .u64 c] w2 (fun e w3 => e = .returned (.tuple #[]) ∧ Thr w0 w3 p q r x y c) :=
 (thr_setFint h.rot.rot hc).mono (fun _ _ k => ⟨k.1, k.2.rot⟩)
theorem bx4 (w : World) (dn : Bool) (ds : Nat) (dc : Int) (en : Bool) (es : Nat) (ec : Int) (fn : Bool) (fs : Nat) (fc : Int) :
  Hid (∀ a, Chg (fun _ => False) ((((w.alloc (.cells #[.bool dn, .int .i8 ds, .int .u64 dc] 53)).alloc (.cells #[.bool en, .int .i8 es, .int .u64 ec] 53)).alloc (.cells #[.bool fn, .int .i8 fs, .int .u64 fc] 53)).alloc (.cells #[.bool false, .int .i8 0, .int .u64 0] 53)) a →
   a.cell? ⟨w.heap.size, 0, none⟩ = some (.bool dn) ∧ a.cell? ⟨w.heap.size, 1, none⟩ = some (.int .i8 ds) ∧ a.cell? ⟨w.heap.size, 2, none⟩ = some (.int .u64 dc) ∧
   a.cell? ⟨w.heap.size + 1, 0, none⟩ = some (.bool en) ∧ a.cell? ⟨w.heap.size + 1, 1, none⟩ = some (.int .i8 es) ∧ a.cell? ⟨w.heap.size + 1, 2, none⟩ = some (.int .u64 ec) ∧
   a.cell? ⟨w.heap.size + 1 + 1, 0, none⟩ = some (.bool fn) ∧ a.cell? ⟨w.heap.size + 1 + 1, 1, none⟩ = some (.int .i8 fs) ∧ a.cell? ⟨w.heap.size + 1 + 1, 2, none⟩ = some (.int .u64 fc) ∧
   a.cell? ⟨w.heap.size + 1 + 1 + 1, 0, none⟩ = some (.bool false) ∧ a.cell? ⟨w.heap.size + 1 + 1 + 1, 1, none⟩ = some (.int .i8 0) ∧ a.cell? ⟨w.heap.size + 1 + 1 + 1, 2, none⟩ = some (.int .u64 0) ∧
   a.frozen? ⟨w.heap.size + 1 + 1 + 1, 0, none⟩ = false ∧ a.frozen? ⟨w.heap.size + 1 + 1 + 1, 1, none⟩ = false ∧ a.frozen? ⟨w.heap.size + 1 + 1 + 1, 2, none⟩ = false) ∧
  Hid (∀ a, Chg (fun _ => False) ((((w.alloc (.cells #[.bool dn, .int .i8 ds, .int .u64 dc] 53)).alloc (.cells #[.bool en, .int .i8 es, .int .u64 ec] 53)).alloc (.cells #[.bool fn, .int .i8 fs, .int .u64 fc] 53)).alloc (.cells #[.bool false, .int .i8 0, .int .u64 0] 53)) a →
   a.heap[w.heap.size + 1 + 1 + 1]? = some (.cells #[.bool false, .int .i8 0, .int .u64 0] 53 (0, 0))) ∧
  Hid (Chg (fun _ => False) w ((((w.alloc (.cells #[.bool dn, .int .i8 ds, .int .u64 dc] 53)).alloc (.cells #[.bool en, .int .i8 es, .int .u64 ec] 53)).alloc (.cells #[.bool fn, .int .i8 fs, .int .u64 fc] 53)).alloc (.cells #[.bool false, .int .i8 0, .int .u64 0] 53))) ∧
  Chg (fun _ => False) ((((w.alloc (.cells #[.bool dn, .int .i8 ds, .int .u64 dc] 53)).alloc (.cells #[.bool en, .int .i8 es, .int .u64 ec] 53)).alloc (.cells #[.bool fn, .int .i8 fs, .int .u64 fc] 53)).alloc (.cells #[.bool false, .int .i8 0, .int .u64 0] 53)) ((((w.alloc (.cells #[.bool dn, .int .i8 ds, .int .u64 dc] 53)).alloc (.cells #[.bool en, .int .i8 es, .int .u64 ec] 53)).alloc (.cells #[.bool fn, .int .i8 fs, .int .u64 fc] 53)).alloc (.cells #[.bool false, .int .i8 0, .int .u64 0] 53)) := by
 obtain ⟨W3, hW3⟩ : ∃ W3, ((w.alloc (.cells #[.bool dn, .int .i8 ds, .int .u64 dc] 53)).alloc (.cells #[.bool en, .int .i8 es, .int .u64 ec] 53)).alloc (.cells #[.bool fn, .int .i8 fs, .int .u64 fc] 53) = W3 := ⟨_, rfl⟩
 have hz : W3.heap.size = w.heap.size + 1 + 1 + 1 := by rw [← hW3]; simp
 have b0 : W3.heap[w.heap.size]? = some (.cells #[.bool dn, .int .i8 ds, .int .u64 dc] 53 (0, 0)) := by
  rw [← hW3, Below.heap_alloc _ _ _ (by simp; omega), Below.heap_alloc _ _ _ (by simp)]; exact heap_alloc_new _ _
 have b1 : W3.heap[w.heap.size + 1]? = some (.cells #[.bool en, .int .i8 es, .int .u64 ec] 53 (0, 0)) := by
  rw [← hW3, Below.heap_alloc _ _ _ (by simp)]; exact heap_alloc2_new _ _ _
 have b2 : W3.heap[w.heap.size + 1 + 1]? = some (.cells #[.bool fn, .int .i8 fs, .int .u64 fc] 53 (0, 0)) := by
  have := heap_alloc_new ((w.alloc (.cells #[.bool dn, .int .i8 ds, .int .u64 dc] 53)).alloc (.cells #[.bool en, .int .i8 es, .int .u64 ec] 53)) (.cells #[.bool fn, .int .i8 fs, .int .u64 fc] 53)
  rw [← hW3]
  simpa using this
 have hc : Chg (fun _ => False) w W3 := by rw [← hW3]; exact (((Chg.refl _ _).alloc _).alloc _).alloc _
 rw [hW3]
 have k : ∀ {i : Nat} {o : Obj}, W3.heap[i]? = some o → (W3.alloc (.cells #[.bool false, .int .i8 0, .int .u64 0] 53)).heap[i]? = some o := fun {i o} h => by
  rw [Below.heap_alloc _ _ _ (Array.getElem?_eq_some_iff.1 h).1]; exact h
 have b3 : (W3.alloc (.cells #[.bool false, .int .i8 0, .int .u64 0] 53)).heap[w.heap.size + 1 + 1 + 1]? = some (.cells #[.bool false, .int .i8 0, .int .u64 0] 53 (0, 0)) := by rw [← hz]; exact heap_alloc_new _ _
 refine ⟨fun a h => ?_, fun a h => kept_heap h b3, hc.alloc _, Chg.refl _ _⟩
 obtain ⟨x0, x1, x2, _, _, _⟩ := cell3 (kept_heap h (k b0))
 obtain ⟨y0, y1, y2, _, _, _⟩ := cell3 (kept_heap h (k b1))
 obtain ⟨z0, z1, z2, _, _, _⟩ := cell3 (kept_heap h (k b2))
 obtain ⟨u0, u1, u2, v0, v1, v2⟩ := cell3 (kept_heap h b3)
 exact ⟨x0, x1, x2, y0, y1, y2, z0, z1, z2, u0, u1, u2, v0, v1, v2⟩
end Go.Proofs.YtldhfhloinlfaaaGreatDoor
