/- Part 22 of the proof. -/
import Derived.JoinedOf
import GoSem.ClaimSeven
import GoSem.ClaimGoes
import GoSem.ClaimLaidByText
import Derived.Test.YtbjhnckboimliaaGreatDoorQ19
namespace Go.Proofs.YtbjhnckboimliaaGreatDoor
open Go
set_option maxRecDepth 100000
theorem and2m {a b : Bool} (ha : a = true) (hb : b = true) : (a && b) = true := by rw [ha, hb]; rfl
set_option maxHeartbeats 4000000 in
theorem row_closedm : joinedFacts Tryz.prog 5 Tryz.f5 Rows.fnFixSumSpec Rows.fnFixSumRow = true := by
 unfold joinedFacts
 repeat' (with_reducible refine and2m ?_ ?_)
 all_goals (as_aux_lemma => kernel_rfl)
theorem row_funcm : Tryz.prog.funcNamed "given.example/pub-alexandrine/laws.FnFixSum" = some 5 := by kernel_rfl
theorem row_wfm : Rows.fnFixSumRow.wfByText (OpenSpec.ofChange Rows.fnFixSumSpec) = true := by kernel_rfl
theorem row_looksm : false = Tryz.prog.looks [] := by kernel_rfl
theorem row_standm : ([42].all fun u => !Tryz.prog.wantsStandIn u) = true := by kernel_rfl
theorem row_goesm : false = Rows.fnFixSumRow.goesBy Tryz.prog := by kernel_rfl
end Go.Proofs.YtbjhnckboimliaaGreatDoor
namespace Go.Proofs.YtbjhnckboimliaaGreatDoor
open Go.RowKit
set_option linter.unusedVariables false
set_option linter.unusedSimpArgs false
set_option maxRecDepth 20000
structure TwK (w0 w2 : World) (p q : Nat) (x y : Int) (wk : World) (K : Nat → Prop) : Prop where
 ex : ∃ bp bq, IntAt w2 p bp x ∧ IntAt w2 q bq y ∧ (∀ b, bp = some b → bq ≠ some b) ∧ (∀ b, bp = some b → w0.heap.size ≤ b ∧ ¬ K b) ∧ (∀ b, bq = some b → w0.heap.size ≤ b ∧ ¬ K b)
 p0 : w0.heap.size ≤ p ∧ ¬ K p
 q0 : w0.heap.size ≤ q ∧ ¬ K q
 ne : p ≠ q
 env : EnvD w2
 chg : Chg (fun _ => False) w0 w2
 keep : ∀ b, K b → b < w2.heap.size ∧ w2.heap[b]? = wk.heap[b]?
section
variable {w0 w2 w3 wk : World} {p q : Nat} {x y : Int} {K : Nat → Prop}
theorem TwK.swap (h : TwK w0 w2 p q x y wk K) : TwK w0 w2 q p y x wk K := by
 obtain ⟨⟨bp, bq, h1, h2, h3, h4, h5⟩, a, b, c, d, e, f⟩ := h
 exact ⟨⟨bq, bp, h2, h1, fun b hb h => h3 b h hb, h5, h4⟩, b, a, c.symm, d, e, f⟩
theorem TwK.same (h : TwK w0 w2 p q x y wk K) (hc : Chg (fun _ => False) w2 w3) : TwK w0 w3 p q x y wk K := by
 obtain ⟨⟨bp, bq, h1, h2, h3, h4, h5⟩, a, b, c, d, e, f⟩ := h
 refine ⟨⟨bp, bq, h1.new hc, h2.new hc, h3, h4, h5⟩, a, b, c, d.kept hc, e.trans hc sb_, fun i hi => ?_⟩
 obtain ⟨k1, k2⟩ := f i hi
 exact ⟨Nat.lt_of_lt_of_le k1 hc.size, (hc.keep i k1 (fun h => h)).trans k2⟩
theorem TwK.step {bp : Option Nat} {x' : Int} {r : Value} {e : Ending} (h : TwK w0 w2 p q x y wk K) (hp : IntAt w2 p bp x) (k : PInt w2 p bp x' r e w3) : TwK w0 w3 p q x' y wk K := by
 obtain ⟨⟨bp', bq, h1, h2, h3, h4, h5⟩, a, b, c, d, e, f⟩ := h
 obtain rfl := hp.uniq h1
 obtain ⟨_, bn, k1, k2, k3⟩ := k
 have hs := e.size
 refine ⟨⟨bn, bq, k1, h2.kept k3 ?_ ?_, ?_, ?_, h5⟩, a, b, c, d.int hp k3, e.trans k3 (fun i hi hh => ?_), fun i hi => ?_⟩
 ·rintro (hh | hh)
  ·exact c hh.symm
  ·exact h2.ne hp hh rfl
 ·rintro b' hb (hh | hh)
  ·exact hp.ne h2 hb hh
  ·exact h3 b' hh hb
 ·intro b' hb hq
  rcases k2 with k | ⟨c', k, hk⟩
  ·exact h3 b' (k ▸ hb) hq
  ·rw [hb] at k
   simp only [Option.some.injEq] at k
   have := h2.blk hq
   omega
 ·intro b' hb
  rcases k2 with k | ⟨c', k, hk⟩
  ·exact h4 b' (k ▸ hb)
  ·rw [hb] at k
   simp only [Option.some.injEq] at k
   subst k
   exact ⟨by omega, fun hK => by have := (f _ hK).1; omega⟩
 ·rcases hh with hh | hh
  ·have := a.1; omega
  ·have := (h4 i hh).1; omega
 ·obtain ⟨j1, j2⟩ := f i hi
  refine ⟨Nat.lt_of_lt_of_le j1 k3.size, (k3.keep i j1 ?_).trans j2⟩
  rintro (hh | hh)
  ·exact a.2 (hh ▸ hi)
  ·exact (h4 i hh).2 hi
theorem TwK.two (h : TwK w0 w2 p q x y wk K) : Two w0 w2 p q x y := by
 obtain ⟨⟨bp, bq, h1, h2, h3, h4, h5⟩, a, b, c, d, e, f⟩ := h
 exact ⟨⟨bp, bq, h1, h2, h3, fun b hb => (h4 b hb).1, fun b hb => (h5 b hb).1⟩, a.1, b.1, c, d, e⟩
theorem Two.twk (h : Two w0 w2 p q x y) (wk : World) : TwK w0 w2 p q x y wk (fun _ => False) := by
 obtain ⟨⟨bp, bq, h1, h2, h3, h4, h5⟩, a, b, c, d, e⟩ := h
 exact ⟨⟨bp, bq, h1, h2, h3, fun b hb => ⟨h4 b hb, fun h => h⟩, fun b hb => ⟨h5 b hb, fun h => h⟩⟩, ⟨a, fun h => h⟩, ⟨b, fun h => h⟩, c, d, e, fun _ h => h.elim⟩
theorem TwK.box (h : TwK w0 w2 p q x y wk K) (o : Obj) : TwK w0 (w2.alloc o) p q x y (w2.alloc o) (fun b => K b ∨ b = w2.heap.size) := by
 have hs : (w2.alloc o).heap.size = w2.heap.size + 1 := by simp
 have h' := h.same ((Chg.refl (fun _ => False) w2).alloc o)
 obtain ⟨⟨bp, bq, h1, h2, h3, h4, h5⟩, a, b, c, d, e, f⟩ := h
 have l1 := h1.lt
 have l2 := h2.lt
 refine ⟨⟨bp, bq, h1.new ((Chg.refl _ w2).alloc o), h2.new ((Chg.refl _ w2).alloc o), h3, fun b hb => ⟨(h4 b hb).1, ?_⟩, fun b hb => ⟨(h5 b hb).1, ?_⟩⟩, ⟨a.1, ?_⟩, ⟨b.1, ?_⟩, c, h'.env, h'.chg, fun i hi => ⟨?_, rfl⟩⟩
 ·rintro (hh | hh)
  ·exact (h4 b hb).2 hh
  ·have := h1.blk hb; omega
 ·rintro (hh | hh)
  ·exact (h5 b hb).2 hh
  ·have := h2.blk hb; omega
 ·rintro (hh | hh)
  ·exact a.2 hh
  ·omega
 ·rintro (hh | hh)
  ·exact b.2 hh
  ·omega
 ·rcases hi with hh | hh
  ·have := (f i hh).1; omega
  ·omega
theorem TwK.unbox {wr : World} {o : Obj} (h : TwK w0 w2 p q x y (wr.alloc o) (fun b => K b ∨ b = wr.heap.size)) (hk : ∀ b, K b → b < wr.heap.size ∧ wr.heap[b]? = wk.heap[b]?) : TwK w0 w2 p q x y wk K := by
 obtain ⟨⟨bp, bq, h1, h2, h3, h4, h5⟩, a, b, c, d, e, f⟩ := h
 refine ⟨⟨bp, bq, h1, h2, h3, fun b hb => ⟨(h4 b hb).1, fun h => (h4 b hb).2 (.inl h)⟩, fun b hb => ⟨(h5 b hb).1, fun h => (h5 b hb).2 (.inl h)⟩⟩, ⟨a.1, fun h => a.2 (.inl h)⟩, ⟨b.1, fun h => b.2 (.inl h)⟩, c, d, e, fun i hi => ?_⟩
 obtain ⟨j1, j2⟩ := f i (.inl hi)
 obtain ⟨i1, i2⟩ := hk i hi
 exact ⟨j1, j2.trans ((Below.heap_alloc wr o i i1).trans i2)⟩
theorem TwK.f3 {wr : World} {a b d : Value} {T : TypeId} (h : TwK w0 w2 p q x y (wr.alloc (.cells #[a, b, d] T)) (fun b => K b ∨ b = wr.heap.size)) :
  w2.cell? ⟨wr.heap.size, 0, none⟩ = some a ∧ w2.cell? ⟨wr.heap.size, 1, none⟩ = some b ∧ w2.cell? ⟨wr.heap.size, 2, none⟩ = some d := by
 obtain ⟨_, h2⟩ := h.keep wr.heap.size (.inr rfl)
 obtain ⟨k0, k1, k2, _⟩ := cell3 (h2.trans (heap_alloc_new wr _))
 exact ⟨k0, k1, k2⟩
theorem tk_setFint {c : Int} (h : TwK w0 w2 p q x y wk K) (hc : Wd c) :
  Calls Tryz.prog 100 #[.pointer (some ⟨p, 0, none⟩), .int .u64 c] w2 (fun e w3 => e = .returned (.tuple #[]) ∧ TwK w0 w3 p q c y wk K) := by
 obtain ⟨bp, bq, h1, h2, _⟩ := h.ex
 exact (bint_setFint p bp x c w2 h1 hc).mono (fun e w3 k => ⟨k.1, h.step h1 k⟩)
theorem tk_setFint' {c : Int} (h : TwK w0 w2 p q x y wk K) (hc : Wd c) :
  Calls Tryz.prog 100 #[.pointer (some ⟨q, 0, none⟩), .int .u64 c] w2 (fun e w3 => e = .returned (.tuple #[]) ∧ TwK w0 w3 p q x c wk K) :=
 (tk_setFint h.swap hc).mono (fun _ _ k => ⟨k.1, k.2.swap⟩)
theorem tk_lsh {c k : Nat} (h : TwK w0 w2 p q (c : Int) y wk K) (hc : digs c ≤ 80) (hk : k ≤ 99) :
  Calls Tryz.prog 101 #[.pointer (some ⟨p, 0, none⟩), .pointer (some ⟨p, 0, none⟩), .int .i64 k] w2 (fun e w3 => e = .returned (.tuple #[]) ∧ TwK w0 w3 p q ((c * 10 ^ k : Nat) : Int) y wk K) := by
 obtain ⟨bp, bq, h1, h2, _⟩ := h.ex
 have e : ((c * 10 ^ k : Nat) : Int) = (c : Int) * 10 ^ k := by rw [Int.natCast_mul, pow_cast]
 rw [e]
 exact (bint_lsh_same p bp (c : Int) k w2 h1 h.env.env (digs_bp hc) hk).mono (fun e w3 q => ⟨q.1, h.step h1 q⟩)
theorem tk_lsh' {c k : Nat} (h : TwK w0 w2 p q x (c : Int) wk K) (hc : digs c ≤ 80) (hk : k ≤ 99) :
  Calls Tryz.prog 101 #[.pointer (some ⟨q, 0, none⟩), .pointer (some ⟨q, 0, none⟩), .int .i64 k] w2 (fun e w3 => e = .returned (.tuple #[]) ∧ TwK w0 w3 p q x ((c * 10 ^ k : Nat) : Int) wk K) :=
 (tk_lsh h.swap hc hk).mono (fun _ _ k => ⟨k.1, k.2.swap⟩)
theorem tk_add {a b : Nat} (h : TwK w0 w2 p q (a : Int) (b : Int) wk K) (ha : digs a ≤ 80) (hb : digs b ≤ 80) :
  Calls Tryz.prog 102 #[.pointer (some ⟨p, 0, none⟩), .pointer (some ⟨p, 0, none⟩), .pointer (some ⟨q, 0, none⟩)] w2 (fun e w3 => e = .returned (.tuple #[]) ∧ TwK w0 w3 p q ((a + b : Nat) : Int) (b : Int) wk K) := by
 obtain ⟨bp, bq, h1, h2, _⟩ := h.ex
 exact (bint_add p p q bp bp bq (a : Int) (a : Int) (b : Int) w2 h1 h1 h2 (digs_bp ha) (digs_bp hb)).mono (fun e w3 k => ⟨k.1, by rw [Int.natCast_add]; exact h.step h1 k⟩)
theorem tk_subAbs {a b c : Nat} (h : TwK w0 w2 p q (a : Int) (b : Int) wk K) (ha : digs a ≤ 80) (hb : digs b ≤ 80) (hc : (if a < b then b - a else a - b) = c) :
  Calls Tryz.prog 104 #[.pointer (some ⟨p, 0, none⟩), .pointer (some ⟨p, 0, none⟩), .pointer (some ⟨q, 0, none⟩)] w2 (fun e w3 => e = .returned (.tuple #[]) ∧ TwK w0 w3 p q (c : Int) (b : Int) wk K) := by
 obtain ⟨bp, bq, h1, h2, _⟩ := h.ex
 have e : (if (b : Int) ≤ (a : Int) then (a : Int) - b else (b : Int) - a) = (c : Int) := by
  subst hc; split <;> split <;> omega
 have H := bint_subAbs p p q bp bp bq (a : Int) (a : Int) (b : Int) w2 h1 h1 h2 h.ne (digs_bp ha) (digs_bp hb)
 rw [e] at H
 exact H.mono (fun e w3 k => ⟨k.1, h.step h1 k⟩)
theorem tk_cmp {a b : Nat} {k : Int} (h : TwK w0 w2 p q (a : Int) (b : Int) wk K) (hk : cmpI (b : Int) (a : Int) = k) :
  Calls Tryz.prog 103 #[.pointer (some ⟨q, 0, none⟩), .pointer (some ⟨p, 0, none⟩)] w2 (fun e w3 => e = .returned (.int .i64 k) ∧ TwK w0 w3 p q (a : Int) (b : Int) wk K) := by
 obtain ⟨bp, bq, h1, h2, _⟩ := h.ex
 subst hk
 exact (bint_cmp q p bq bp (b : Int) (a : Int) w2 h2 h1 h.ne.symm).mono (fun e w3 k => ⟨k.1, h.same (k.2.chg _)⟩)
theorem two_nfb0 {c s : Nat} (neg : Bool) (h : Two w0 w2 p q (c : Int) y) (hc : digs c ≤ 80) (hs : s ≤ 57) :
  Calls Tryz.prog 105 #[.bool neg, .pointer (some ⟨p, 0, none⟩), .int .i64 s, .int .i64 0] w2 (PDecN w0 neg (from19 (10 ^ 19) 2 c s 0)) := two_nfb (m := 0) neg h hc hs (by omega)
end
theorem newSafe_0 (v : Int) (hv : Fi v) (w : World) :
  Calls Tryz.prog 85 #[.bool false, .int .u64 v, .int .i64 0] w (fun e w' => e = .returned (.tuple #[.agg #[.bool false, .int .i8 0, .int .u64 v], .nilIface]) ∧ Chg (fun _ => False) w w') :=
 newSafe_flat false false v 0 hv (by omega) rfl w
theorem New_nat (v : Int) (h0 : 0 ≤ v) (hv : v < 9223372036854775808) (w : World) :
  Calls Tryz.prog 140 #[.int .i64 v, .int .i64 0] w (fun e w' => e = .returned (.tuple #[.agg #[.bool false, .int .i8 0, .int .u64 v], .nilIface]) ∧ Chg (fun _ => False) w w') := by
 have HN := hid (fun w => newSafe_0 v ⟨h0, by omega⟩ w)
 have hw : IntKind.u64.wrap v = v := by rw [IntKind.wrap_u64]; omega
 have HZ := hid (heap_alloc_new w (.cells #[.bool false, .int .i8 0, .int .u64 0] 55))
 have HC0 := hid ((Chg.refl (fun _ => False) w).alloc (.cells #[.bool false, .int .i8 0, .int .u64 0] 55))
 clear hv
 go_enter Tryz.func140, Tryz.ntmps140
 go_wp2_with (go_at_call 85; refine (HN.out _).mono ?_; intro e w1 h; obtain ⟨he, hc⟩ := h; subst he; have hk := hc; clear hc; obtain ⟨k0, k1, k2, f0, f1, f2⟩ := cell3 (kept_heap hk HZ.out))
 refine bodyPost_ret (v := .tuple #[.agg #[.bool false, .int .i8 0, .int .u64 v], .nilIface]) (dec_result rfl _ _ w.heap.size _ _ _ _ 55 rfl rfl (store3 (kept_heap hk HZ.out) _ _ _)) rfl ⟨rfl, chg3 (HC0.out.trans hk sb_) (Nat.le_refl _) _ _ _⟩
theorem MustNew_nat (v : Int) (h0 : 0 ≤ v) (hv : v < 9223372036854775808) (w : World) :
  Calls Tryz.prog 119 #[.int .i64 v, .int .i64 0] w (fun e w' => e = .returned (.agg #[.bool false, .int .i8 0, .int .u64 v]) ∧ Chg (fun _ => False) w w') := by
 have HN := hid (fun w => New_nat v h0 hv w)
 have HZ := hid (heap_alloc_new w (.cells #[.bool false, .int .i8 0, .int .u64 0] 55))
 have HC0 := hid ((Chg.refl (fun _ => False) w).alloc (.cells #[.bool false, .int .i8 0, .int .u64 0] 55))
 clear hv h0
 go_enter Tryz.func119, Tryz.ntmps119
 go_wp2_with (go_at_call 140; refine (HN.out _).mono ?_; intro e w1 h; obtain ⟨he, hc⟩ := h; subst he; have HG := hid (heap_alloc_new w1 (.cells #[.bool false, .int .i8 0, .int .u64 v] 55)); have hk := hc.alloc (.cells #[.bool false, .int .i8 0, .int .u64 v] 55); clear hc; obtain ⟨k0, k1, k2, f0, f1, f2⟩ := cell3 (kept_heap hk HZ.out); obtain ⟨g0, g1, g2, _, _, _⟩ := cell3 HG.out)
 refine bodyPost_ret (v := .agg #[.bool false, .int .i8 0, .int .u64 v]) (by rw [results_cell_row rfl _ _ w.heap.size _ _ _ _ rfl (store3 (kept_heap hk HZ.out) _ _ _) Tryz.underlying55 rfl dec_size]) rfl ⟨rfl, chg3 (HC0.out.trans hk sb_) (Nat.le_refl _) _ _ _⟩
theorem Zero_any (w : World) : Calls Tryz.prog 93 #[] w (fun e w' => e = .returned (.agg #[.bool false, .int .i8 0, .int .u64 0]) ∧ Chg (fun _ => False) w w') := by
 have HN := hid (fun w => MustNew_nat 0 (by omega) (by omega) w)
 have HZ := hid (heap_alloc_new w (.cells #[.bool false, .int .i8 0, .int .u64 0] 55))
 have HC0 := hid ((Chg.refl (fun _ => False) w).alloc (.cells #[.bool false, .int .i8 0, .int .u64 0] 55))
 go_enter Tryz.func93, Tryz.ntmps93
 go_wp2_with (go_at_call 119; refine (HN.out _).mono ?_; intro e w1 h; obtain ⟨he, hc⟩ := h; subst he; have hk := hc; clear hc; obtain ⟨k0, k1, k2, f0, f1, f2⟩ := cell3 (kept_heap hk HZ.out))
 refine bodyPost_ret (v := .agg #[.bool false, .int .i8 0, .int .u64 0]) (by rw [results_cell_row rfl _ _ w.heap.size _ _ _ _ rfl (store3 (kept_heap hk HZ.out) _ _ _) Tryz.underlying55 rfl dec_size]) rfl ⟨rfl, chg3 (HC0.out.trans hk sb_) (Nat.le_refl _) _ _ _⟩
theorem field_coef (a b e : Value) (w : World) : (Instr.field 55 (.agg #[a, b, e]) 2).run Tryz.prog w = .ok e w := by
 simp [Instr.field, run_underlying Tryz.underlying55, asAgg, part, run_underlying Tryz.underlying53, sizeOf, typeInfo]
theorem rheI_zero {Y : Int} (h : 0 < Y) : rheI 0 Y = 0 := by
 unfold rheI
 rw [Int.zero_emod, Int.zero_ediv]
 exact if_neg (by omega)
theorem fint_rsh_any (x : Int) (n : Nat) (hx : Fi x) (hn1 : 1 ≤ n) (hn : n ≤ 19) (w : World) (ht : Tab w) :
  Calls Tryz.prog 120 #[.int .u64 x, .int .i64 n] w (fun e w' => e = .returned (.int .u64 (rheI x (10 ^ n))) ∧ w = w') := by
 by_cases h : x = 0
 ·subst h
  rw [rheI_zero (p10_pos n)]
  have hb0 : ((0 : Int) == 0) = true := rfl
  go_enter Tryz.func120, Tryz.ntmps120
  go_wp2_with fail
  go_ret
  exact ⟨rfl, rfl⟩
 ·exact fint_rsh_pos x n hx h hn1 hn w ht
def fromFint2 (c : Int) (s m : Nat) : Option (Int × Nat) := if 19 < s then some (rheI c (10 ^ (s - 19)), 19) else fromFint c s m
theorem rheI_fi {c : Int} {k : Nat} (hc : Fi c) (hk : 1 ≤ k) : Fi (rheI c (10 ^ k)) := by
 obtain ⟨h0, h1⟩ := hc
 obtain ⟨j, rfl⟩ : ∃ j, k = j + 1 := ⟨k - 1, by omega⟩
 have hp := p10_pos j
 have e : (10 : Int) ^ (j + 1) = 10 * 10 ^ j := by rw [Int.pow_succ, Int.mul_comm]
 generalize (10 : Int) ^ j = P at *
 rw [e]
 have hq0 : 0 ≤ c / (10 * P) := Int.ediv_nonneg h0 (by omega)
 have hq1 : c / (10 * P) ≤ c / 10 := by
  rw [← Int.ediv_ediv_of_nonneg (by omega : (0 : Int) ≤ 10)]
  exact Int.ediv_le_self _ (Int.ediv_nonneg h0 (by omega))
 unfold rheI
 split
 ·exact ⟨by omega, by omega⟩
 ·exact ⟨by omega, by omega⟩
set_option maxHeartbeats 1000000 in
theorem newFromFint_all (neg : Bool) (c : Int) (s m : Nat) (hc : Fi c) (hs : s ≤ 38) (hm : m ≤ 19) (w : World) (he : EnvD w) :
  Calls Tryz.prog 97 #[.bool neg, .int .u64 c, .int .i64 s, .int .i64 m] w (PDec w neg (fromFint2 c s m)) := by
 unfold fromFint2
 by_cases h : 19 < s
 ·rw [if_pos h]
  have hlt : ¬ (s : Int) < (m : Int) := by omega
  have h19 : (19 : Int) < (s : Int) := by omega
  have hw : IntKind.i64.wrap ((s : Int) - 19) = ((s - 19 : Nat) : Int) := by rw [show (s : Int) - 19 = ((s - 19 : Nat) : Int) by omega]; exact IntWalk.i64_in _ (by omega)
  have hfi := rheI_fi (k := s - 19) hc (by omega)
  obtain ⟨HC0, HD, hB0⟩ := box1 w #[.bool false, .int .i8 0, .int .u64 0] 55
  have HZ := hid hB0
  have HR := hid (fint_rsh_any c (s - 19) hc (by omega) (by omega) _ (he.kept HC0.out).env.tab)
  obtain ⟨nb, hnb⟩ : ∃ nb, (neg && rheI c (10 ^ (s - 19)) != 0) = nb := ⟨_, rfl⟩
  have HNS := hid (fun w => newSafe_flat neg nb (rheI c (10 ^ (s - 19))) 19 hfi (by omega) hnb w)
  have HNB := hid hnb
  generalize rheI c (10 ^ (s - 19)) = R at *
  obtain ⟨q0, q1⟩ := hfi
  generalize s - 19 = j at *
  have e19 : ((19 : Nat) : Int) = 19 := rfl
  rw [e19] at HNS
  clear hc hs hm he hnb hB0 HD h e19
  go_enter Tryz.func97, Tryz.ntmps97
  go_wp2_with (first | (go_at_call 120; refine HR.out.mono ?_; intro e w' h; obtain ⟨he1, he2⟩ := h; subst he1; subst he2) | (go_at_call 85; refine (HNS.out _).mono ?_; intro e w1 h; obtain ⟨he3, hc1⟩ := h; subst he3; have HK := hid hc1; clear hc1; obtain ⟨k0, k1, k2, f0, f1, f2⟩ := cell3 (kept_heap HK.out HZ.out)))
  refine bodyPost_ret (v := .tuple #[.agg #[.bool nb, .int .i8 19, .int .u64 R], .nilIface]) (dec_result rfl _ _ w.heap.size _ _ _ _ _ rfl rfl (store3 (kept_heap HK.out HZ.out) _ _ _)) rfl ⟨chg3 (HC0.out.trans HK.out sb_) (Nat.le_refl _) _ _ _, ?_⟩
  show _ = Ending.returned (.tuple #[decV (neg && R != 0) R 19, .nilIface])
  rw [HNB.out]
  rfl
 ·rw [if_neg h]
  exact newFromFint_any neg c s m hc (by omega) hm w he
theorem fromFint2_from19 {c s m : Nat} (hc : c < 10 ^ 19) (hm : m ≤ 19) {k : Int} {t : Nat} (h : fromFint2 (c : Int) s m = some (k, t)) : ∃ k' : Nat, k = k' ∧ from19 (10 ^ 19) 2 c s m = some (k', t) := by
 unfold fromFint2 at h
 by_cases h1 : 19 < s
 ·rw [if_pos h1] at h
  simp only [Option.some.injEq, Prod.mk.injEq] at h
  obtain ⟨rfl, rfl⟩ := h
  have hd : digs c ≤ 19 := digs_le.2 hc
  have e : rheI (c : Int) (10 ^ (s - 19)) = ((rhe c (10 ^ (s - 19)) : Nat) : Int) := by rw [← pow_cast, rheI_nat]
  have e1 : (10 : Nat) ^ 19 = 10000000000000000000 := by decide
  have hf := rheI_fi (c := (c : Int)) (k := s - 19) ⟨by omega, by omega⟩ (by omega)
  rw [e] at hf
  refine ⟨_, e, from19_one (by omega) (by unfold step19; rw [if_neg (by omega), if_pos ⟨by omega, h1⟩]) ?_⟩
  have h2 := hf.2
  omega
 ·rw [if_neg h1] at h
  exact fromFint_from19 hc (by omega) hm h
def PFE (w : World) (neg : Bool) (C S m : Nat) (e : Ending) (w' : World) : Prop :=
 Chg (fun _ => False) w w' ∧ ((∃ t v, e = .returned (.tuple #[decV false 0 0, .iface t v])) ∨ ∃ k t : Nat, from19 (10 ^ 19) 2 C S m = some (k, t) ∧ e = .returned (.tuple #[decV (neg && (k : Int) != 0) k t, .nilIface]))
theorem PFE.none {w w' : World} {neg n2 : Bool} {C S m : Nat} {e : Ending} (h : PDec w n2 none e w') : PFE w neg C S m e w' := ⟨h.1, .inl h.2⟩
theorem PFE.of {w w' : World} {neg : Bool} {C S m : Nat} {e : Ending} (hC : C < 10 ^ 19) (hm : m ≤ 19) (h : PDec w neg (fromFint2 (C : Int) S m) e w') : PFE w neg C S m e w' := by
 cases hf : fromFint2 (C : Int) S m with
 | none => rw [hf] at h; exact .none h
 | some kt =>
  obtain ⟨k, t⟩ := kt
  obtain ⟨k', rfl, h2⟩ := fromFint2_from19 hC hm hf
  rw [hf] at h
  exact ⟨h.1, .inr ⟨k', t, h2, h.2⟩⟩
end Go.Proofs.YtbjhnckboimliaaGreatDoor
