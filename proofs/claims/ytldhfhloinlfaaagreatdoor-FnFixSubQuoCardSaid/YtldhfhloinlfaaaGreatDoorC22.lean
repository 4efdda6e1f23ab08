/- Part 22 of the proof. -/
import Derived.Recover
import Derived.Test.YtldhfhloinlfaaaGreatDoorC20
import Derived.Test.YtldhfhloinlfaaaGreatDoorC21
namespace Go.Proofs.YtldhfhloinlfaaaGreatDoor
open Go.RowKit
set_option linter.unusedVariables false
set_option linter.unusedSimpArgs false
set_option maxRecDepth 20000
structure Two (w0 w2 : World) (p q : Nat) (x y : Int) : Prop where
 ex : ∃ bp bq, IntAt w2 p bp x ∧ IntAt w2 q bq y ∧ (∀ b, bp = some b → bq ≠ some b) ∧ (∀ b, bp = some b → w0.heap.size ≤ b) ∧ (∀ b, bq = some b → w0.heap.size ≤ b)
 p0 : w0.heap.size ≤ p
 q0 : w0.heap.size ≤ q
 ne : p ≠ q
 env : EnvD w2
 chg : Chg (fun _ => False) w0 w2
theorem Two.same {w0 w2 w3 : World} {p q : Nat} {x y : Int} (h : Two w0 w2 p q x y) (hc : Chg (fun _ => False) w2 w3) : Two w0 w3 p q x y := by
 obtain ⟨⟨bp, bq, h1, h2, h3, h4, h5⟩, a, b, c, d, e⟩ := h
 exact ⟨⟨bp, bq, h1.new hc, h2.new hc, h3, h4, h5⟩, a, b, c, d.kept hc, e.trans hc sb_⟩
theorem Two.start {w0 w1 w2 : World} {p q : Nat} (h1 : IntAt w1 p none 0) (hp : w0.heap.size ≤ p) (hc1 : Chg (fun _ => False) w0 w1) (h2 : IntAt w2 q none 0) (hq : w1.heap.size ≤ q) (hc2 : Chg (fun _ => False) w1 w2) (he : EnvD w0) : Two w0 w2 p q 0 0 := by
 have hl := h1.lt
 have hs := hc1.size
 exact ⟨⟨none, none, h1.new hc2, h2, (by intro b h; cases h), (by intro b h; cases h), (by intro b h; cases h)⟩, hp, by omega, by omega, (he.kept hc1).kept hc2, hc1.trans hc2 sb_⟩
theorem Two.step {w0 w2 w3 : World} {p q : Nat} {bp : Option Nat} {x y x' : Int} {r : Value} {e : Ending} (h : Two w0 w2 p q x y) (hp : IntAt w2 p bp x) (k : PInt w2 p bp x' r e w3) : Two w0 w3 p q x' y := by
 obtain ⟨⟨bp', bq, h1, h2, h3, h4, h5⟩, a, b, c, d, e⟩ := h
 obtain rfl := hp.uniq h1
 obtain ⟨_, bn, k1, k2, k3⟩ := k
 have hs := e.size
 refine ⟨⟨bn, bq, k1, h2.kept k3 ?_ ?_, ?_, ?_, h5⟩, a, b, c, d.int hp k3, e.trans k3 (fun i hi hh => ?_)⟩
 ·rintro (hh | hh)
  ·exact c hh.symm
  ·exact h2.ne hp hh rfl
 ·rintro b' hb (hh | hh)
  ·exact hp.ne h2 hb hh
  ·exact h3 b' hh hb
 ·intro b' hb hq
  rcases k2 with k | ⟨c', k, hk⟩
  ·exact h3 b' (k ▸ hb) hq
  ·rw [hb] at k
   simp only [Option.some.injEq] at k
   have := h2.blk hq
   omega
 ·intro b' hb
  rcases k2 with k | ⟨c', k, hk⟩
  ·exact h4 b' (k ▸ hb)
  ·rw [hb] at k
   simp only [Option.some.injEq] at k
   omega
 ·rcases hh with hh | hh
  ·omega
  ·have := h4 i hh; omega
theorem two_lsh {w0 w2 : World} {p q : Nat} {c k : Nat} {y : Int} (h : Two w0 w2 p q (c : Int) y) (hc : digs c ≤ 80) (hk : k ≤ 99) :
  Calls Tryz.prog 106 #[.pointer (some ⟨p, 0, none⟩), .pointer (some ⟨p, 0, none⟩), .int .i64 k] w2 (fun e w3 => e = .returned (.tuple #[]) ∧ Two w0 w3 p q ((c * 10 ^ k : Nat) : Int) y) := by
 obtain ⟨bp, bq, h1, h2, _⟩ := h.ex
 have e : ((c * 10 ^ k : Nat) : Int) = (c : Int) * 10 ^ k := by rw [Int.natCast_mul, pow_cast]
 rw [e]
 exact (bint_lsh_same p bp (c : Int) k w2 h1 h.env.env (digs_bp hc) hk).mono (fun e w3 q => ⟨q.1, h.step h1 q⟩)
theorem two_add {w0 w2 : World} {p q : Nat} {a b : Nat} (h : Two w0 w2 p q (a : Int) (b : Int)) (ha : digs a ≤ 80) (hb : digs b ≤ 80) :
  Calls Tryz.prog 108 #[.pointer (some ⟨p, 0, none⟩), .pointer (some ⟨p, 0, none⟩), .pointer (some ⟨q, 0, none⟩)] w2 (fun e w3 => e = .returned (.tuple #[]) ∧ Two w0 w3 p q ((a + b : Nat) : Int) (b : Int)) := by
 obtain ⟨bp, bq, h1, h2, _⟩ := h.ex
 exact (bint_add p p q bp bp bq (a : Int) (a : Int) (b : Int) w2 h1 h1 h2 (digs_bp ha) (digs_bp hb)).mono (fun e w3 k => ⟨k.1, by rw [Int.natCast_add]; exact h.step h1 k⟩)
theorem two_subAbs {w0 w2 : World} {p q : Nat} {a b c : Nat} (h : Two w0 w2 p q (a : Int) (b : Int)) (ha : digs a ≤ 80) (hb : digs b ≤ 80) (hc : (if a < b then b - a else a - b) = c) :
  Calls Tryz.prog 110 #[.pointer (some ⟨p, 0, none⟩), .pointer (some ⟨p, 0, none⟩), .pointer (some ⟨q, 0, none⟩)] w2 (fun e w3 => e = .returned (.tuple #[]) ∧ Two w0 w3 p q (c : Int) (b : Int)) := by
 obtain ⟨bp, bq, h1, h2, _⟩ := h.ex
 have e : (if (b : Int) ≤ (a : Int) then (a : Int) - b else (b : Int) - a) = (c : Int) := by
  subst hc; split <;> split <;> omega
 have H := bint_subAbs p p q bp bp bq (a : Int) (a : Int) (b : Int) w2 h1 h1 h2 h.ne (digs_bp ha) (digs_bp hb)
 rw [e] at H
 exact H.mono (fun e w3 k => ⟨k.1, h.step h1 k⟩)
theorem two_cmp {w0 w2 : World} {p q : Nat} {a b : Nat} {k : Int} (h : Two w0 w2 p q (a : Int) (b : Int)) (hk : cmpI (b : Int) (a : Int) = k) :
  Calls Tryz.prog 109 #[.pointer (some ⟨q, 0, none⟩), .pointer (some ⟨p, 0, none⟩)] w2 (fun e w3 => e = .returned (.int .i64 k) ∧ Two w0 w3 p q (a : Int) (b : Int)) := by
 obtain ⟨bp, bq, h1, h2, _⟩ := h.ex
 subst hk
 exact (bint_cmp q p bq bp (b : Int) (a : Int) w2 h2 h1 h.ne.symm).mono (fun e w3 k => ⟨k.1, h.same (k.2.chg _)⟩)
def PDecN (w : World) (neg : Bool) (o : Option (Nat × Nat)) (e : Ending) (w' : World) : Prop :=
 Chg (fun _ => False) w w' ∧ match o with
 | some (c, s) => e = .returned (.tuple #[decV (neg && (c : Int) != 0) c s, .nilIface])
 | none => ∃ t v, e = .returned (.tuple #[decV false 0 0, .iface t v])
theorem PDecN.op {w w' : World} {neg : Bool} {o : Option (Nat × Nat)} {e : Ending} (h : PDecN w neg o e w') :
  ∃ (a : Bool) (b c : Int) (v : Value), e = .returned (.tuple #[.agg #[.bool a, .int .i8 b, .int .u64 c], v]) ∧ Chg (fun _ => False) w w' ∧ PDecN w neg o (.returned (.tuple #[.agg #[.bool a, .int .i8 b, .int .u64 c], v])) w' := by
 have hh := h
 obtain ⟨h1, h2⟩ := h
 match o, h2, hh with
 | some (c, s), h2, hh => subst h2; exact ⟨_, _, _, _, rfl, h1, hh⟩
 | none, ⟨t, v, h2⟩, hh => subst h2; exact ⟨_, _, _, _, rfl, h1, hh⟩
theorem PDecN.move {w w1 w' w'' : World} {neg : Bool} {o : Option (Nat × Nat)} {e : Ending} (h : PDecN w1 neg o e w'') (c : Chg (fun _ => False) w w') : PDecN w neg o e w' := ⟨c, h.2⟩
theorem two_nfb {w0 w2 : World} {p q : Nat} {c s m : Nat} {y : Int} (neg : Bool) (h : Two w0 w2 p q (c : Int) y) (hc : digs c ≤ 80) (hs : s ≤ 57) (hm : m ≤ 19) :
  Calls Tryz.prog 111 #[.bool neg, .pointer (some ⟨p, 0, none⟩), .int .i64 s, .int .i64 m] w2 (PDecN w0 neg (from19 (10 ^ 19) 2 c s m)) := by
 obtain ⟨bp, bq, h1, h2, _, h4, _⟩ := h.ex
 refine (newFromBint_any neg p bp c s m w2 h1 h.env hc hs hm).mono (fun e w3 k => ⟨h.chg.trans k.1 (fun i hi hh => ?_), k.2⟩)
 have := h.p0
 rcases hh with hh | hh
 ·omega
 ·have := h4 i hh; omega
structure Bx (w w' : World) (dn : Bool) (ds : Nat) (dc : Int) (en : Bool) (es : Nat) (ec : Int) : Prop where
 h0 : w'.heap[w.heap.size]? = some (.cells #[.bool dn, .int .i8 ds, .int .u64 dc] 53 (0, 0))
 h1 : w'.heap[w.heap.size + 1]? = some (.cells #[.bool en, .int .i8 es, .int .u64 ec] 53 (0, 0))
 h2 : w'.heap[w.heap.size + 1 + 1]? = some (.cells #[.bool false, .int .i8 0, .int .u64 0] 53 (0, 0))
theorem Bx.start (w : World) (dn : Bool) (ds : Nat) (dc : Int) (en : Bool) (es : Nat) (ec : Int) : Bx w (((w.alloc (.cells #[.bool dn, .int .i8 ds, .int .u64 dc] 53)).alloc (.cells #[.bool en, .int .i8 es, .int .u64 ec] 53)).alloc (.cells #[.bool false, .int .i8 0, .int .u64 0] 53)) dn ds dc en es ec := by
 refine ⟨?_, ?_, ?_⟩
 ·rw [Below.heap_alloc _ _ _ (by simp; omega), Below.heap_alloc _ _ _ (by simp)]; exact heap_alloc_new _ _
 ·rw [Below.heap_alloc _ _ _ (by simp)]; exact heap_alloc2_new _ _ _
 ·have := heap_alloc_new (((w.alloc (.cells #[.bool dn, .int .i8 ds, .int .u64 dc] 53)).alloc (.cells #[.bool en, .int .i8 es, .int .u64 ec] 53))) (.cells #[.bool false, .int .i8 0, .int .u64 0] 53)
  simpa using this
theorem Bx.kept {w a b : World} {dn en : Bool} {ds es : Nat} {dc ec : Int} (h : Bx w a dn ds dc en es ec) (hc : Chg (fun _ => False) a b) : Bx w b dn ds dc en es ec :=
 have f : ∀ {k : Nat} {o : Obj}, a.heap[k]? = some o → b.heap[k]? = some o := fun {k o} e => (hc.keep k (Array.getElem?_eq_some_iff.1 e).1 (fun h => h)).trans e
 ⟨f h.h0, f h.h1, f h.h2⟩
theorem Bx.facts {w a : World} {dn en : Bool} {ds es : Nat} {dc ec : Int} (h : Bx w a dn ds dc en es ec) :
  a.cell? ⟨w.heap.size, 0, none⟩ = some (.bool dn) ∧ a.cell? ⟨w.heap.size, 1, none⟩ = some (.int .i8 ds) ∧ a.cell? ⟨w.heap.size, 2, none⟩ = some (.int .u64 dc) ∧
  a.cell? ⟨w.heap.size + 1, 0, none⟩ = some (.bool en) ∧ a.cell? ⟨w.heap.size + 1, 1, none⟩ = some (.int .i8 es) ∧ a.cell? ⟨w.heap.size + 1, 2, none⟩ = some (.int .u64 ec) ∧
  a.cell? ⟨w.heap.size + 1 + 1, 0, none⟩ = some (.bool false) ∧ a.cell? ⟨w.heap.size + 1 + 1, 1, none⟩ = some (.int .i8 0) ∧ a.cell? ⟨w.heap.size + 1 + 1, 2, none⟩ = some (.int .u64 0) ∧
  a.frozen? ⟨w.heap.size + 1 + 1, 0, none⟩ = false ∧ a.frozen? ⟨w.heap.size + 1 + 1, 1, none⟩ = false ∧ a.frozen? ⟨w.heap.size + 1 + 1, 2, none⟩ = false := by
 obtain ⟨a0, a1, a2, _, _, _⟩ := cell3 h.h0
 obtain ⟨b0, b1, b2, _, _, _⟩ := cell3 h.h1
 obtain ⟨c0, c1, c2, g0, g1, g2⟩ := cell3 h.h2
 exact ⟨a0, a1, a2, b0, b1, b2, c0, c1, c2, g0, g1, g2⟩
theorem PDec.op {w w' : World} {neg : Bool} {o : Option (Int × Nat)} {e : Ending} (h : PDec w neg o e w') :
  ∃ (a : Bool) (b c : Int) (v : Value), e = .returned (.tuple #[.agg #[.bool a, .int .i8 b, .int .u64 c], v]) ∧ Chg (fun _ => False) w w' ∧ PDec w neg o (.returned (.tuple #[.agg #[.bool a, .int .i8 b, .int .u64 c], v])) w' := by
 have hh := h
 obtain ⟨h1, h2⟩ := h
 match o, h2, hh with
 | some (c, s), h2, hh => subst h2; exact ⟨_, _, _, _, rfl, h1, hh⟩
 | none, ⟨t, v, h2⟩, hh => subst h2; exact ⟨_, _, _, _, rfl, h1, hh⟩
theorem PDec.move {w w1 w' w'' : World} {neg : Bool} {o : Option (Int × Nat)} {e : Ending} (h : PDec w1 neg o e w'') (c : Chg (fun _ => False) w w') : PDec w neg o e w' := ⟨c, h.2⟩
theorem start3 (w : World) (a b c : Obj) : Chg (fun _ => False) w (((w.alloc a).alloc b).alloc c) := (((Chg.refl _ _).alloc _).alloc _).alloc _
set_option maxHeartbeats 2000000 in
theorem addFint_gt_same (dn en : Bool) (dc ec : Int) (ds es m : Nat) (hdc : Fi dc) (hec : Fi ec) (hds : ds ≤ 19) (hes : es ≤ 19) (hm : m ≤ 19) (w : World) (he : EnvD w) (hlt : es < ds) (X : Int) (hX : ec * 10 ^ (ds - es) = X) (hXM : X ≤ 9999999999999999999) (hs : (dn == en) = true) (C : Int) (hC : dc + X = C) (hCM : C ≤ 9999999999999999999) :
  Calls Tryz.prog 100 #[.agg #[.bool dn, .int .i8 ds, .int .u64 dc], .agg #[.bool en, .int .i8 es, .int .u64 ec], .int .i64 m] w (PDec w dn (fromFint C ds m)) := by
 have c1 : (es : Int) < (ds : Int) := by omega
 have hw : IntKind.i64.wrap ((ds : Int) - (es : Int)) = ((ds - es : Nat) : Int) := by rw [show (ds : Int) - (es : Int) = ((ds - es : Nat) : Int) by omega]; exact IntWalk.i64_in _ (by omega)
 have hl := fun w ht => fint_lsh ec (ds - es) hec (by omega) w ht
 have hX0 := Int.mul_nonneg hec.1 (Int.le_of_lt (p10_pos (ds - es)))
 rw [hX] at hX0
 simp only [hX, if_pos hXM, decide_eq_true hXM] at hl
 have hXF : Fi X := ⟨hX0, hXM⟩
 clear hX
 have HL := hid hl
 clear hl
 have ha := fun w => fint_add dc X hdc hXF w
 simp only [hC, if_pos hCM, decide_eq_true hCM] at ha
 have hCF : Fi C := ⟨by rw [← hC]; exact Int.add_nonneg hdc.1 hXF.1, hCM⟩
 clear hC
 have HA := hid ha
 clear ha
 have hff := fun w he => newFromFint_any dn C ds m hCF hds hm w he
 have hS19 := hds
 generalize fromFint C ds m = o at *
 have HF := hid hff
 obtain ⟨hC0, hC1⟩ := hCF
 clear hff
 have HSD := hid (fun w => Scale_any dn dc ds hds w)
 have HSE := hid (fun w => Scale_any en ec es hes w)
 have HND := hid (fun w => IsNeg_any dn dc ds w)
 have HNE := hid (fun w => IsNeg_any en ec es w)
 have HBS := hid (Bx.start w dn ds dc en es ec)
 have HB := hid (fun w1 (h : Chg (fun _ => False) (((w.alloc (.cells #[.bool dn, .int .i8 ds, .int .u64 dc] 53)).alloc (.cells #[.bool en, .int .i8 es, .int .u64 ec] 53)).alloc (.cells #[.bool false, .int .i8 0, .int .u64 0] 53)) w1) => (HBS.out.kept h).facts)
 have HBX := hid (fun w1 (h : Chg (fun _ => False) (((w.alloc (.cells #[.bool dn, .int .i8 ds, .int .u64 dc] 53)).alloc (.cells #[.bool en, .int .i8 es, .int .u64 ec] 53)).alloc (.cells #[.bool false, .int .i8 0, .int .u64 0] 53)) w1) => (HBS.out.kept h).h2)
 have HC0 := hid (start3 w (.cells #[.bool dn, .int .i8 ds, .int .u64 dc] 53) (.cells #[.bool en, .int .i8 es, .int .u64 ec] 53) (.cells #[.bool false, .int .i8 0, .int .u64 0] 53))
 have hk := Chg.refl (fun _ => False) (((w.alloc (.cells #[.bool dn, .int .i8 ds, .int .u64 dc] 53)).alloc (.cells #[.bool en, .int .i8 es, .int .u64 ec] 53)).alloc (.cells #[.bool false, .int .i8 0, .int .u64 0] 53))
 have HT := hid (fun w1 (h : Chg (fun _ => False) (((w.alloc (.cells #[.bool dn, .int .i8 ds, .int .u64 dc] 53)).alloc (.cells #[.bool en, .int .i8 es, .int .u64 ec] 53)).alloc (.cells #[.bool false, .int .i8 0, .int .u64 0] 53)) w1) => ((he.kept HC0.out).kept h))
 obtain ⟨t, v, HOV⟩ : ∃ t v, Hid (∀ w1, Chg (fun _ => False) (((w.alloc (.cells #[.bool dn, .int .i8 ds, .int .u64 dc] 53)).alloc (.cells #[.bool en, .int .i8 es, .int .u64 ec] 53)).alloc (.cells #[.bool false, .int .i8 0, .int .u64 0] 53)) w1 → w1.cell? ⟨0, 0, none⟩ = some (.iface t v)) := by
  obtain ⟨t, v, h⟩ := (he.kept HC0.out).ovf
  exact ⟨t, v, hid (fun w1 hc => cell_kept h hc (fun h => h))⟩
 obtain ⟨d0, d1, d2, e0, e1, e2, r0, r1, r2, q0, q1, q2⟩ := HB.out _ hk
 have ov := HOV.out _ hk
 generalize hj : ds - es = j at *
 clear hj
 obtain ⟨hX0, hX1⟩ := hXF
 obtain ⟨hdc0, hdc1⟩ := hdc
 obtain ⟨hec0, hec1⟩ := hec
 clear he HBS
 go_enter Tryz.func100, Tryz.ntmps100
 go_wp2_with (first | (go_at_call 77; first | (refine (HSD.out _).mono ?_; intro e w1 h; obtain ⟨he1, hc1⟩ := h; subst he1; replace hk := hk.trans hc1 sb_; clear hc1 d0 d1 d2 e0 e1 e2 r0 r1 r2 q0 q1 q2 ov; obtain ⟨d0, d1, d2, e0, e1, e2, r0, r1, r2, q0, q1, q2⟩ := HB.out _ hk; have ov := HOV.out _ hk) | (refine (HSE.out _).mono ?_; intro e w1 h; obtain ⟨he1, hc1⟩ := h; subst he1; replace hk := hk.trans hc1 sb_; clear hc1 d0 d1 d2 e0 e1 e2 r0 r1 r2 q0 q1 q2 ov; obtain ⟨d0, d1, d2, e0, e1, e2, r0, r1, r2, q0, q1, q2⟩ := HB.out _ hk; have ov := HOV.out _ hk)) | (go_at_call 75; first | (refine (HND.out _).mono ?_; intro e w1 h; obtain ⟨he1, hc1⟩ := h; subst he1; replace hk := hk.trans hc1 sb_; clear hc1 d0 d1 d2 e0 e1 e2 r0 r1 r2 q0 q1 q2 ov; obtain ⟨d0, d1, d2, e0, e1, e2, r0, r1, r2, q0, q1, q2⟩ := HB.out _ hk; have ov := HOV.out _ hk) | (refine (HNE.out _).mono ?_; intro e w1 h; obtain ⟨he1, hc1⟩ := h; subst he1; replace hk := hk.trans hc1 sb_; clear hc1 d0 d1 d2 e0 e1 e2 r0 r1 r2 q0 q1 q2 ov; obtain ⟨d0, d1, d2, e0, e1, e2, r0, r1, r2, q0, q1, q2⟩ := HB.out _ hk; have ov := HOV.out _ hk)) | (go_at_call 113; refine (HL.out _ (HT.out _ hk).env.tab).mono ?_; intro e w2 h; obtain ⟨he1, he2⟩ := h; subst he1; subst he2) | (go_at_call 121; refine (HA.out _).mono ?_; intro e w2 h; obtain ⟨he1, he2⟩ := h; subst he1; subst he2) | (go_at_call 117; refine (HF.out _ (HT.out _ hk)).mono ?_; intro e w1 h; obtain ⟨na, nb, nc, nv, he1, hc1, hp⟩ := h.op; subst he1; replace hk := hk.trans hc1 sb_; clear h hc1 d0 d1 d2 e0 e1 e2 r0 r1 r2 q0 q1 q2 ov; obtain ⟨d0, d1, d2, e0, e1, e2, r0, r1, r2, q0, q1, q2⟩ := HB.out _ hk; have HP := hid hp; clear hp))
 refine bodyPost_ret (v := .tuple #[.agg #[.bool na, .int .i8 nb, .int .u64 nc], nv]) (dec_result rfl _ _ (w.heap.size + 1 + 1) _ _ _ _ 53 rfl rfl (store3 (HBX.out _ hk) _ _ _)) rfl (HP.out.move (chg3 (HC0.out.trans hk sb_) (by omega) _ _ _))
theorem fiN {a : Nat} (h : a < 10 ^ 19) : Fi (a : Int) := by
 have e : (10 : Nat) ^ 19 = 10000000000000000000 := by decide
 exact ⟨by omega, by omega⟩
theorem fiN_iff {a : Nat} : (a : Int) ≤ 9999999999999999999 ↔ a < 10 ^ 19 := by
 have : (10 : Nat) ^ 19 = 10000000000000000000 := by decide
 omega
def Var3 (w0 w1 : World) (g : Nat) (a b d : Value) : Prop := Chg (fun _ => False) w0 w1 ∧ w0.heap.size ≤ g ∧ w1.heap[g]? = some (.cells #[a, b, d] 53 (0, 0))
theorem Var3.mk' {w0 w1 : World} (h : Chg (fun _ => False) w0 w1) (a b d : Value) : Var3 w0 (w1.alloc (.cells #[a, b, d] 53)) w1.heap.size a b d :=
 ⟨h.alloc _, h.size, heap_alloc_new _ _⟩
set_option maxHeartbeats 2000000 in
theorem addExact_ok (dn en : Bool) (dc ec ds es m : Nat) (hm : m ≤ 19) (w : World) (k : Int) (t : Nat) (nb : Bool)
  (HA : Hid (Calls Tryz.prog 100 #[.agg #[.bool dn, .int .i8 ds, .int .u64 (dc : Int)], .agg #[.bool en, .int .i8 es, .int .u64 (ec : Int)], .int .i64 m] (((w.alloc (.cells #[.bool dn, .int .i8 ds, .int .u64 (dc : Int)] 53)).alloc (.cells #[.bool en, .int .i8 es, .int .u64 (ec : Int)] 53)).alloc (.cells #[.bool false, .int .i8 0, .int .u64 0] 53))
   (fun e w' => e = .returned (.tuple #[.agg #[.bool nb, .int .i8 t, .int .u64 k], .nilIface]) ∧ Chg (fun _ => False) (((w.alloc (.cells #[.bool dn, .int .i8 ds, .int .u64 (dc : Int)] 53)).alloc (.cells #[.bool en, .int .i8 es, .int .u64 (ec : Int)] 53)).alloc (.cells #[.bool false, .int .i8 0, .int .u64 0] 53)) w'))) :
  Calls Tryz.prog 73 #[.agg #[.bool dn, .int .i8 ds, .int .u64 (dc : Int)], .agg #[.bool en, .int .i8 es, .int .u64 (ec : Int)], .int .i64 m] w
   (fun e w' => e = .returned (.tuple #[.agg #[.bool nb, .int .i8 t, .int .u64 k], .nilIface]) ∧ Chg (fun _ => False) w w') := by
 have HBS := hid (Bx.start w dn ds (dc : Int) en es (ec : Int))
 have HC0 := hid (start3 w (.cells #[.bool dn, .int .i8 ds, .int .u64 (dc : Int)] 53) (.cells #[.bool en, .int .i8 es, .int .u64 (ec : Int)] 53) (.cells #[.bool false, .int .i8 0, .int .u64 0] 53))
 have hb1 : decide ((m : Int) < 0) = false := decide_eq_false (by omega)
 have hb2 : decide ((19 : Int) < (m : Int)) = false := decide_eq_false (by omega)
 obtain ⟨d0, d1, d2, e0, e1, e2, r0, r1, r2, q0, q1, q2⟩ := HBS.out.facts
 go_enter Tryz.func73, Tryz.ntmps73
 go_upto_region 3 with fail
 go_cut [8, 9] from 18 to 24 (fun a b wx => ∃ g : Nat, a = .pointer (some ⟨g, 0, none⟩) ∧ b = .nilIface ∧ Hid (Var3 (((w.alloc (.cells #[.bool dn, .int .i8 ds, .int .u64 (dc : Int)] 53)).alloc (.cells #[.bool en, .int .i8 es, .int .u64 (ec : Int)] 53)).alloc (.cells #[.bool false, .int .i8 0, .int .u64 0] 53)) wx g (.bool nb) (.int .i8 t) (.int .u64 k)))
 case first =>
  go_wp2_with fail
  go_at_call 100
  refine HA.out.mono ?_
  intro e w1 h
  obtain ⟨he1, hk⟩ := h
  subst he1
  clear d0 d1 d2 e0 e1 e2 r0 r1 r2 q0 q1 q2
  have HK := hid hk
  clear hk
  go_wp2_with fail
  go_meet
  exact ⟨w1.heap.size, rfl, rfl, Var3.mk' HK.out _ _ _⟩
 case rest =>
  obtain ⟨g, he1, he2, hv⟩ := hcut
  subst he1
  subst he2
  have HV := hid hv
  clear hv d0 d1 d2 e0 e1 e2 r0 r1 r2 q0 q1 q2
  obtain ⟨d0, d1, d2, e0, e1, e2, r0, r1, r2, q0, q1, q2⟩ := (HBS.out.kept HV.out.out.1).facts
  obtain ⟨k0, k1, k2, l0, l1, l2⟩ := cell3 HV.out.out.2.2
  go_wp2_with fail
  refine bodyPost_ret (v := .tuple #[.agg #[.bool nb, .int .i8 t, .int .u64 k], .nilIface]) (dec_result rfl _ _ (w.heap.size + 1 + 1) _ _ _ _ 53 rfl rfl (store3 (HBS.out.kept HV.out.out.1).h2 _ _ _)) rfl ⟨rfl, chg3 (HC0.out.trans HV.out.out.1 sb_) (by omega) _ _ _⟩
theorem Var3.set {w0 w1 w2 : World} {g : Nat} {x y z : Value} (h : Var3 w0 w1 g x y z) (hc : Chg (fun _ => False) w1 w2) (a b d : Value) :
  Var3 w0 (((w2.setCell ⟨g, 0, none⟩ a).setCell ⟨g, 1, none⟩ b).setCell ⟨g, 2, none⟩ d) g a b d := by
 obtain ⟨h1, h2, h3⟩ := h
 refine ⟨chg3 (h1.trans hc sb_) h2 _ _ _, h2, store3 ((hc.keep g (Array.getElem?_eq_some_iff.1 h3).1 (fun h => h)).trans h3) _ _ _⟩
theorem Var3.kept {w0 w1 w2 : World} {g : Nat} {x y z : Value} (h : Var3 w0 w1 g x y z) (hc : Chg (fun _ => False) w1 w2) : Var3 w0 w2 g x y z :=
 ⟨h.1.trans hc sb_, h.2.1, (hc.keep g (Array.getElem?_eq_some_iff.1 h.2.2).1 (fun h => h)).trans h.2.2⟩
theorem Coef_any (neg : Bool) (c : Int) (s : Nat) (w : World) :
  Calls Tryz.prog 76 #[.agg #[.bool neg, .int .i8 s, .int .u64 c]] w (fun e w' => e = .returned (.int .u64 c) ∧ Chg (fun _ => False) w w') := by
 go_enter Tryz.func76, Tryz.ntmps76
 go_wp2_with fail
 go_ret
 exact ⟨rfl, (Chg.refl _ _).alloc _⟩
theorem ZzMake_any (neg nb : Bool) (c : Int) (s : Nat) (hc : Fi c) (hs : s ≤ 19) (hnb : (neg && c != 0) = nb) (w : World) :
  Calls Tryz.prog 72 #[.bool neg, .int .u64 c, .int .i64 s] w (fun e w' => e = .returned (.tuple #[.agg #[.bool nb, .int .i8 s, .int .u64 c], .nilIface]) ∧ Chg (fun _ => False) w w') := by
 have HN := hid (fun w => newSafe_flat neg nb c s hc hs hnb w)
 have HZ := hid (heap_alloc_new w (.cells #[.bool false, .int .i8 0, .int .u64 0] 53))
 have HC0 := hid ((Chg.refl (fun _ => False) w).alloc (.cells #[.bool false, .int .i8 0, .int .u64 0] 53))
 clear hc hs hnb
 go_enter Tryz.func72, Tryz.ntmps72
 go_wp2_with (go_at_call 90; refine (HN.out _).mono ?_; intro e w1 h; obtain ⟨he, hc⟩ := h; subst he; have hk := hc; clear hc; obtain ⟨k0, k1, k2, f0, f1, f2⟩ := cell3 (kept_heap hk HZ.out))
 refine bodyPost_ret (v := .tuple #[.agg #[.bool nb, .int .i8 s, .int .u64 c], .nilIface]) (dec_result rfl _ _ w.heap.size _ _ _ _ 53 rfl rfl (store3 (kept_heap hk HZ.out) _ _ _)) rfl ⟨rfl, chg3 (HC0.out.trans hk sb_) (Nat.le_refl _) _ _ _⟩
theorem fix_size : (Tryz.prog.info? 24).map (·.size) = some 3 := by kernel_rfl
set_option maxHeartbeats 2000000 in
theorem fix_any (n1 : Bool) (c : Int) (s : Nat) (hs : s ≤ 19) (w : World) :
  Calls Tryz.prog 40 #[.agg #[.bool n1, .int .i8 s, .int .u64 c]] w (PV w (.agg #[.bool n1, .int .u64 c, .int .i64 s])) := by
 have H1 := hid (fun w => IsNeg_any n1 c s w)
 have H2 := hid (fun w => Coef_any n1 c s w)
 have H3 := hid (fun w => Scale_any n1 c s hs w)
 clear hs
 obtain ⟨HC0, HD, hB0, hB1⟩ := box2 w #[.bool n1, .int .i8 s, .int .u64 c] 53 #[.bool false, .int .u64 0, .int .i64 0] 24
 have HZ := hid hB1
 have HSS := hid (fun (w1 : World) h => And.intro ((cell3 (kept_heap (w' := w1) h hB0)).1) (And.intro ((cell3 (kept_heap (w' := w1) h hB0)).2.1) ((cell3 (kept_heap (w' := w1) h hB0)).2.2.1)))
 have HST := hid (fun w1 x0 x1 x2 h => And.intro (far3 (z := w.heap.size + 1) (x0 := x0) (x1 := x1) (x2 := x2) (HSS.out w1 h).1 (by omega)) (And.intro (far3 (z := w.heap.size + 1) (x0 := x0) (x1 := x1) (x2 := x2) (HSS.out w1 h).2.1 (by omega)) (far3 (z := w.heap.size + 1) (x0 := x0) (x1 := x1) (x2 := x2) (HSS.out w1 h).2.2 (by omega))))
 clear hB0 hB1
 have hk := HD.out
 go_enter Tryz.func40, Tryz.ntmps40
 go_wp2_with fail
 first | (go_region_held3 (fun w' => w'.cell? ⟨w.heap.size, 0, none⟩ = some (.bool n1) ∧ w'.cell? ⟨w.heap.size, 1, none⟩ = some (.int .i8 s) ∧ w'.cell? ⟨w.heap.size, 2, none⟩ = some (.int .u64 c)) (first | with_reducible exact HSS.out _ hk | with_reducible exact HST.out _ _ _ _ hk | go_keep) (first | (go_at_call 75; refine (H1.out _).mono ?_; intro e w1 h; obtain ⟨he, hc⟩ := h; subst he; replace hk := hk.trans hc sb_; skip; skip; clear hc; obtain ⟨k0, k1, k2, f0, f1, f2⟩ := cell3 (kept_heap hk HZ.out)) | (go_at_call 76; refine (H2.out _).mono ?_; intro e w1 h; obtain ⟨he, hc⟩ := h; subst he; replace hk := hk.trans hc sb_; skip; skip; clear hc; obtain ⟨k0, k1, k2, f0, f1, f2⟩ := cell3 (kept_heap hk HZ.out)) | (go_at_call 77; refine (H3.out _).mono ?_; intro e w1 h; obtain ⟨he, hc⟩ := h; subst he; replace hk := hk.trans hc sb_; skip; skip; clear hc; obtain ⟨k0, k1, k2, f0, f1, f2⟩ := cell3 (kept_heap hk HZ.out)))) | fail
 all_goals (go_wp2_with fail; refine bodyPost_ret (v := .agg #[.bool n1, .int .u64 c, .int .i64 s]) (by rw [results_cell_row rfl _ _ (w.heap.size + 1) _ _ _ _ rfl (store3 (kept_heap hk HZ.out) _ _ _) Tryz.underlying24 rfl fix_size]) rfl ⟨rfl, chg3 (HC0.out.trans hk sb_) (by omega) _ _ _⟩)
set_option maxHeartbeats 2000000 in
theorem fixed_any (n1 nb : Bool) (c : Int) (s : Nat) (hc : Fi c) (hs : s ≤ 19) (hnb : (n1 && c != 0) = nb) (w : World) :
  Calls Tryz.prog 38 #[.agg #[.bool n1, .int .u64 c, .int .i64 s]] w (PV w (.tuple #[.agg #[.bool nb, .int .i8 s, .int .u64 c], .bool true])) := by
 have HM := hid (fun w => ZzMake_any n1 nb c s hc hs hnb w)
 clear hc hs hnb
 obtain ⟨HC0, HD, hB0, hB1⟩ := box2 w #[.bool n1, .int .u64 c, .int .i64 s] 24 #[.bool false, .int .i8 0, .int .u64 0] 53
 have HZ := hid hB1
 have HSS := hid (fun (w1 : World) h => And.intro ((cell3 (kept_heap (w' := w1) h hB0)).1) (And.intro ((cell3 (kept_heap (w' := w1) h hB0)).2.1) ((cell3 (kept_heap (w' := w1) h hB0)).2.2.1)))
 have HST := hid (fun w1 x0 x1 x2 h => And.intro (far3 (z := w.heap.size + 1) (x0 := x0) (x1 := x1) (x2 := x2) (HSS.out w1 h).1 (by omega)) (And.intro (far3 (z := w.heap.size + 1) (x0 := x0) (x1 := x1) (x2 := x2) (HSS.out w1 h).2.1 (by omega)) (far3 (z := w.heap.size + 1) (x0 := x0) (x1 := x1) (x2 := x2) (HSS.out w1 h).2.2 (by omega))))
 clear hB0 hB1
 have hk := Chg.refl (fun _ => False) ((w.alloc (.cells #[.bool n1, .int .u64 c, .int .i64 s] 24)).alloc (.cells #[.bool false, .int .i8 0, .int .u64 0] 53))
 obtain ⟨d0, d1, d2⟩ := HSS.out _ hk
 go_enter Tryz.func38, Tryz.ntmps38
 go_wp2_with (go_at_call 72; refine (HM.out _).mono ?_; intro e w1 h; obtain ⟨he, hc⟩ := h; subst he; replace hk := hk.trans hc sb_; have HG := hid (heap_alloc_new w1 (.cells #[.bool nb, .int .i8 s, .int .u64 c] 53)); have hk2 := hk.alloc (.cells #[.bool nb, .int .i8 s, .int .u64 c] 53); clear hc d0 d1 d2; obtain ⟨k0, k1, k2, f0, f1, f2⟩ := cell3 (kept_heap hk2 HZ.out); obtain ⟨g0, g1, g2, _, _, _⟩ := cell3 HG.out)
 go_region
 all_goals (go_wp2_with fail; refine bodyPost_ret (v := .tuple #[.agg #[.bool nb, .int .i8 s, .int .u64 c], .bool true]) (dec_result rfl _ _ (w.heap.size + 1) _ _ _ _ 53 rfl rfl (store3 (kept_heap hk2.drew HZ.out) _ _ _)) rfl ⟨rfl, chg3 (HC0.out.trans hk2.drew sb_) (by omega) _ _ _⟩)
theorem addIdle (p q : Addr) (w : World) : CallsD Tryz.prog 60 #[.pointer (some p), .pointer (some q)] .returning w fun e u' w' => e = .returned (.tuple #[]) ∧ u' = .returning ∧ w' = w := by
 refine callsD_of_wpS Tryz.func60 rfl fun c₀ cs hu => ?_
 apply wpS_seq
 apply wpS_region
 simp [wpOpsS, go_sem, recoverD, hu, Tryz.ntmps60, Exit.thenS]
 refine wpS_cond (t := false) (by simp [Act.eval, Array.replicate]) ?_
 simp only [Bool.false_eq_true, if_false]
 refine wpS_of_wp (wp_skip ?_)
 cases c₀
 simp_all [bodyPostS, results, Tryz.results60]
theorem results_two {fn : Func} {p u : Tmp} {ty ty2 : TypeId} (h : fn.results = #[.cell p ty, .cell u ty2]) (tmps : Array Value) (P : Program) (w : World) :
  (results fn tmps).run P w =
   ((asAddr (tmps.getD p undef)).run P w).andThen fun a w₁ => ((loadVar ty a).run P w₁).andThen fun v w₂ => ((asAddr (tmps.getD u undef)).run P w₂).andThen fun a2 w₃ => ((loadVar ty2 a2).run P w₃).andThen fun v2 w₄ => .ok (.tuple #[v, v2]) w₄ := by
 simp only [results, h]
 simp [Sem.run_bind, Result.andThen]
theorem fix_result {fn : Func} {p u : Tmp} (h : fn.results = #[.cell p 24, .cell u 3]) (tmps : Array Value) (w : World) (g g2 : Nat) (a b d v : Value) (T T2 : TypeId)
  (hp : tmps.getD p undef = .pointer (some ⟨g, 0, none⟩)) (hu : tmps.getD u undef = .pointer (some ⟨g2, 0, none⟩)) (hg : w.heap[g]? = some (.cells #[a, b, d] T (0, 0))) (hg2 : w.heap[g2]? = some (.cells #[v] T2 (0, 0))) :
  (results fn tmps).run Tryz.prog w = .ok (.tuple #[.agg #[a, b, d], v]) w := by
 have hl := run_loadVar_row (P := Tryz.prog) w g T 24 #[a, b, d] (0, 0) _ hg Tryz.underlying24 rfl fix_size
 have hc : w.cell? ⟨g2, 0, none⟩ = some v := by simp [World.cell?, hg2]
 have hl2 : (loadVar 3 ⟨g2, 0, none⟩).run Tryz.prog w = .ok v w := by simp [go_sem, hc]
 rw [results_two h, hp, hu]
 simp [asAddr, hl, hl2, Result.andThen]
end Go.Proofs.YtldhfhloinlfaaaGreatDoor
