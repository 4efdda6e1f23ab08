/- Part 21 of the proof. -/
import Derived.Lib.SmallJoins
import Derived.OpenVars
import Derived.Deep.Slices
import Derived.Test.YtbjhnckboimliaaGreatDoorChecked
import Derived.Test.YtbjhnckboimliaaGreatDoorQ20
namespace Go.Proofs.YtbjhnckboimliaaGreatDoor
open Go.RowKit
set_option linter.unusedVariables false
set_option linter.unusedSimpArgs false
set_option maxRecDepth 20000
theorem fixOut_op (n : Bool) (o : Option (Nat × Nat)) : ∃ (b0 : Bool) (c0 s0 f0 : Int), fixOut n o = .tuple #[.agg #[.bool b0, .int .u64 c0, .int .i64 s0], .int .i64 f0] := by
 cases o with
 | none => exact ⟨_, _, _, _, rfl⟩
 | some kt => exact ⟨_, _, _, _, rfl⟩
end Go.Proofs.YtbjhnckboimliaaGreatDoor
namespace Go.Proofs.YtbjhnckboimliaaGreatDoor
open Go.ChangeShapes Go.WideShapes Go.ChangeAt Go.WideMaps Go.WideElems Go.RowKit
theorem gDiv : Tryz.prog.globalNamed "given.example/pub-alexandrine/pub/bigall.divRecursiveThreshold" = some 7 := by kernel_rfl
theorem gKar : Tryz.prog.globalNamed "given.example/pub-alexandrine/pub/bigall.karatsubaThreshold" = some 6 := by kernel_rfl
theorem gOvf : Tryz.prog.globalNamed "given.example/pub-alexandrine/pub/govalues.errDecimalOverflow" = some 0 := by kernel_rfl
theorem gPow : Tryz.prog.globalNamed "given.example/pub-alexandrine/pub/govalues.pow10" = some 3 := by kernel_rfl
theorem tDiv : (Tryz.prog.globals[7]?).map (·.type) = some 3 := by kernel_rfl
theorem tKar : (Tryz.prog.globals[6]?).map (·.type) = some 3 := by kernel_rfl
theorem tOvf : (Tryz.prog.globals[0]?).map (·.type) = some 59 := by kernel_rfl
theorem tPow : (Tryz.prog.globals[3]?).map (·.type) = some 121 := by kernel_rfl
theorem of_laid {W : World} (hsh : W.ShapedOpen Tryz.prog) (h : laidMetH Tryz.prog Rows.fnFixSubExactRow.laid W) : EnvD W := by
 rw [MakeChecks.laidMetH_plain _ _ _ kr_] at h
 obtain ⟨ps, ⟨_, _, _, _, _, _, _, _, _, _, ⟨_, _, _, _, _, _, _, _, _, _, ⟨_, _, _, _, _, _, _, _, _, _, ⟨g3, t3, cs3, f3, p3, q3, hg3, ht3, hv3, hd3, ⟨g4, t4, cs4, f4, p4, q4, hg4, ht4, hv4, hd4, ⟨_, _, _, _, _, _, _, _, _, _, ⟨_, _, _, _, _, _, _, _, _, _, ⟨g7, t7, cs7, f7, p7, q7, hg7, ht7, hv7, hd7, ⟨_, _, _, _, _, _, _, _, _, _, ⟨g9, t9, cs9, f9, p9, q9, hg9, ht9, hv9, hd9, hrest, _⟩, _⟩, _⟩, _⟩, _⟩, _⟩, _⟩, _⟩, _⟩, _⟩, hps, _⟩ := h
 obtain rfl := Option.some.inj (gDiv.symm.trans hg3)
 obtain rfl := Option.some.inj (gKar.symm.trans hg4)
 obtain rfl := Option.some.inj (gOvf.symm.trans hg7)
 obtain rfl := Option.some.inj (gPow.symm.trans hg9)
 obtain rfl := Option.some.inj (tDiv.symm.trans ht3)
 obtain rfl := Option.some.inj (tKar.symm.trans ht4)
 have hdiv : W.cell? ⟨7, 0, none⟩ = some (.int .i64 40) := by
  obtain ⟨k, e1, e2, _⟩ := DataW.trod_int Tryz.underlying3 hd3
  have hk : k = 40 := by
   have := congrArg Prod.fst e2
   simpa [Rows.laid_given_example_pub_alexandrine_pub_bigall_divRecursiveThreshold] using this.symm
  subst hk
  have := World.var?_cell hg3 hv3 0
  obtain ⟨l1⟩ := cs3
  simp at e1
  subst e1
  simpa using this
 have hkar : W.cell? ⟨6, 0, none⟩ = some (.int .i64 40) := by
  obtain ⟨k, e1, e2, _⟩ := DataW.trod_int Tryz.underlying3 hd4
  have hk : k = 40 := by
   have := congrArg Prod.fst e2
   simpa [Rows.laid_given_example_pub_alexandrine_pub_bigall_karatsubaThreshold] using this.symm
  subst hk
  have := World.var?_cell hg4 hv4 0
  obtain ⟨l1⟩ := cs4
  simp at e1
  subst e1
  simpa using this
 have htab : Tab W := by
  obtain rfl := Option.some.inj (tPow.symm.trans ht9)
  obtain ⟨xs, m, _, hx, hlen, hn, hel⟩ := DataW.trod_array Tryz.underlying121 hd9
  have c1 : Tryz.prog.cellsOf 53 = 1 := by kernel_rfl
  rw [c1] at hel
  have hxs := congrArg Prod.fst hx
  simp only [Rows.laid_given_example_pub_alexandrine_pub_govalues_pow10, DataW.agg.injEq] at hxs
  intro k hk
  have hk' := hel k hk
  have hxk : (xs.map (·.1))[k]? = some (.lit (.int .u64 (10 ^ k))) := by
   rw [← hxs]
   have : ∀ j : Fin 20, ([DataW.lit (.int .u64 1), .lit (.int .u64 10), .lit (.int .u64 100), .lit (.int .u64 1000), .lit (.int .u64 10000), .lit (.int .u64 100000), .lit (.int .u64 1000000), .lit (.int .u64 10000000), .lit (.int .u64 100000000), .lit (.int .u64 1000000000), .lit (.int .u64 10000000000), .lit (.int .u64 100000000000), .lit (.int .u64 1000000000000), .lit (.int .u64 10000000000000), .lit (.int .u64 100000000000000), .lit (.int .u64 1000000000000000), .lit (.int .u64 10000000000000000), .lit (.int .u64 100000000000000000), .lit (.int .u64 1000000000000000000), .lit (.int .u64 10000000000000000000)] : List (DataW Unit))[(j : Nat)]? = some (.lit (.int .u64 (10 ^ (j : Nat)))) := by
    rintro ⟨j, hj⟩
    rcases (show j = 0 ∨ j = 1 ∨ j = 2 ∨ j = 3 ∨ j = 4 ∨ j = 5 ∨ j = 6 ∨ j = 7 ∨ j = 8 ∨ j = 9 ∨ j = 10 ∨ j = 11 ∨ j = 12 ∨ j = 13 ∨ j = 14 ∨ j = 15 ∨ j = 16 ∨ j = 17 ∨ j = 18 ∨ j = 19 by omega) with rfl | rfl | rfl | rfl | rfl | rfl | rfl | rfl | rfl | rfl | rfl | rfl | rfl | rfl | rfl | rfl | rfl | rfl | rfl | rfl <;> rfl
   exact this ⟨k, hk⟩
  rw [List.getElem?_map] at hxk
  cases hy : xs[k]? with
  | none => rw [hy] at hxk; cases hxk
  | some y =>
   rw [hy] at hxk
   simp only [Option.map_some, Option.some.injEq] at hxk
   rw [hy] at hk'
   obtain ⟨z, e1, e2, _⟩ := DataW.trod_int Tryz.underlying53 hk'
   have hz : z = 10 ^ k := by
    have := congrArg Prod.fst e2
    rw [hxk] at this
    simpa using this.symm
   subst hz
   have := World.var?_cell hg9 hv9 k
   rw [this]
   rw [Nat.mul_one] at e1
   have h3 : (cs9.toList.drop k)[0]? = some (.int .u64 (10 ^ k)) := by
    have := congrArg (fun l => l[0]?) e1
    simpa using this
   simpa using h3
 have hovf : ∃ u y, W.cell? ⟨0, 0, none⟩ = some (.iface u y) := by
  obtain rfl := Option.some.inj (tOvf.symm.trans ht7)
  obtain ⟨_, u, y, e1, _, _⟩ := iface_of_trod Tryz.underlying59 hd7
  have := World.var?_cell hg7 hv7 0
  obtain ⟨l1⟩ := cs7
  simp at e1
  subst e1
  exact ⟨u, y, by simpa using this⟩
 refine ⟨⟨htab, hkar, hdiv, fun xs hr => ?_⟩, hovf⟩
 obtain ⟨cs, t, k1, k2⟩ := pow_typed hsh
 have := hr.1.symm.trans k1
 simp only [Option.some.injEq, Obj.cells.injEq] at this
 exact k2 this.2.1.symm
end Go.Proofs.YtbjhnckboimliaaGreatDoor
namespace Go.Proofs.YtbjhnckboimliaaGreatDoor
open Go Go.ChangeShapes Go.WideShapes Go.ChangeAt Go.WideMaps Go.WideElems Go.RowKit Go.Joins
theorem trod_iface {H : Type} {enc : TypeId × Value → H} {P : Program} {W W' : World} {ti : TypeId} {ms : Array (String × TypeId)} {fuel : Nat} {cs : List Value} {x : DataW H × List MemPlace} {sp sp' : Nat → Bool}
  (hi : P.underlying ti = some (.interface ms)) (h : DataW.trod enc P W 0 sp true fuel ti cs = some x) : DataW.trod enc P W' 0 sp' true fuel ti cs = some x := by
 cases fuel with
 | zero => simp [DataW.trod] at h
 | succ f =>
  match cs, h with
  | [], h => simp [DataW.trod, hi] at h
  | _ :: _ :: _, h => simp [DataW.trod, hi] at h
  | [c], h => cases c <;> simp_all [DataW.trod]
theorem vars_iface {H : Type} {enc : TypeId × Value → H} {P : Program} {W W' : World} (hb : Below W.heap.size W W') {n : String} {ns : List String} {g : Nat} {ti : TypeId} {ms : Array (String × TypeId)} {sp sp' : Nat → Bool}
  (hn : P.globalNamed n = some g) (ht : (P.globals[g]?).map (·.type) = some ti) (hi : P.underlying ti = some (.interface ms))
  (hr : ∀ (gs : List (DataW H)) (q : List MemPlace), DataW.TrodVars enc P W sp ns gs q → DataW.TrodVars enc P W' sp' ns gs q) {gs : List (DataW H)} {ps : List MemPlace} (h : DataW.TrodVars enc P W sp (n :: ns) gs ps) :
  DataW.TrodVars enc P W' sp' (n :: ns) gs ps := by
 cases gs with
 | nil => exact h.elim
 | cons d ds =>
  obtain ⟨g0, t, cs, fuel, p, q, h1, h2, h3, h4, hs, e⟩ := h
  obtain rfl := Option.some.inj (hn.symm.trans h1)
  obtain rfl := Option.some.inj (ht.symm.trans h2)
  refine ⟨g, ti, cs, fuel, p, q, h1, h2, ?_, trod_iface hi h4, hr _ _ hs, e⟩
  unfold World.var? at h3 ⊢
  rw [h1] at h3 ⊢
  simp only [Option.bind_some] at h3 ⊢
  have hg : g < W.heap.size := by
   cases hh : W.heap[g]? with
   | none => rw [hh] at h3; cases h3
   | some o => exact (Array.getElem?_eq_some_iff.1 hh).1
  rw [hb.block g hg]; exact h3
theorem trodVars_length {H : Type} {enc : TypeId × Value → H} {P : Program} {W : World} {sp : Nat → Bool} : ∀ {ns : List String} {gs : List (DataW H)} {ps : List MemPlace}, DataW.TrodVars enc P W sp ns gs ps → gs.length = ns.length
 | [], [], _, _ => rfl
 | [], _ :: _, _, h => h.elim
 | _ :: _, [], _, h => h.elim
 | _ :: ns, _ :: ds, _, h => by
  obtain ⟨_, _, _, _, _, _, _, _, _, _, hs, _⟩ := h
  simp [trodVars_length hs]
theorem gScl : Tryz.prog.globalNamed "given.example/pub-alexandrine/pub/govalues.errScaleRange" = some 2 := by kernel_rfl
theorem tScl : (Tryz.prog.globals[2]?).map (·.type) = some 59 := by kernel_rfl
theorem laidOk : laidOutB Tryz.prog = true := by kernel_rfl
theorem fixCells : Tryz.prog.cellsOf 24 = 3 := by kernel_rfl
end Go.Proofs.YtbjhnckboimliaaGreatDoor
namespace Go.Proofs.YtbjhnckboimliaaGreatDoor
set_option linter.unusedVariables false
theorem room_congr {E : Nat} {f g : Nat → Nat} : ∀ {k : Nat}, (∀ n, n ≤ k → f n = g n) → room E f k = room E g k
 | 0, h => by unfold room; rw [h 0 (Nat.le_refl _)]
 | k + 1, h => by unfold room; rw [h (k + 1) (Nat.le_refl _), room_congr (fun n hn => h n (by omega))]
end Go.Proofs.YtbjhnckboimliaaGreatDoor
namespace Go.Proofs.YtbjhnckboimliaaGreatDoor
open Go.RowKit
set_option linter.unusedVariables false
set_option linter.unusedSimpArgs false
set_option maxRecDepth 20000
theorem nat_bne (k : Nat) : ((k : Int) != 0) = (k != 0) := by
 by_cases h : k = 0
 ·subst h; rfl
 ·rw [bne_iff_ne.2 h, bne_iff_ne.2 (by omega : (k : Int) ≠ 0)]
def PX (P : Bool → Option (Nat × Nat) → Prop) (w : World) (e : Ending) (w' : World) : Prop := ∃ sg o, P sg o ∧ PDecN w sg o e w'
theorem PX.op {P : Bool → Option (Nat × Nat) → Prop} {w w' : World} {e : Ending} (h : PX P w e w') :
  ∃ (a : Bool) (b c : Int) (v : Value), e = .returned (.tuple #[.agg #[.bool a, .int .i8 b, .int .u64 c], v]) ∧ Chg (fun _ => False) w w' ∧ PX P w (.returned (.tuple #[.agg #[.bool a, .int .i8 b, .int .u64 c], v])) w' := by
 obtain ⟨sg, o, h1, h2⟩ := h
 obtain ⟨a, b, c, v, h3, h4, h5⟩ := h2.op
 exact ⟨a, b, c, v, h3, h4, sg, o, h1, h5⟩
theorem PX.move {P : Bool → Option (Nat × Nat) → Prop} {w w1 w' w'' : World} {e : Ending} (h : PX P w1 e w'') (c : Chg (fun _ => False) w w') : PX P w e w' := by
 obtain ⟨sg, o, h1, h2⟩ := h
 exact ⟨sg, o, h1, h2.move c⟩
def TrimOf (m : Nat) (o o' : Option (Nat × Nat)) : Prop := (o = none ∧ o' = none) ∨ ∃ k t k' t', o = some (k, t) ∧ o' = some (k', t') ∧ m ≤ t' ∧ t' ≤ t ∧ k = k' * 10 ^ (t - t')
def Good (n1 : Bool) (a x m : Nat) (sg : Bool) (o : Option (Nat × Nat)) : Prop :=
 ∃ C S, (∀ n, n ≤ 19 → atP a x n = rnd C S n) ∧ (n1 = sg ∨ C = 0) ∧ TrimOf m (from19 (10 ^ 19) 2 C S m) o
theorem TrimOf.same {m C S : Nat} (hm : m ≤ 19) : TrimOf m (from19 (10 ^ 19) 2 C S m) (from19 (10 ^ 19) 2 C S m) := by
 cases h : from19 (10 ^ 19) 2 C S m with
 | none => exact .inl ⟨rfl, rfl⟩
 | some kt =>
  obtain ⟨k, t⟩ := kt
  exact .inr ⟨k, t, k, t, rfl, rfl, (from19_bd hm h).2.2, Nat.le_refl _, by rw [Nat.sub_self, Nat.pow_zero, Nat.mul_one]⟩
theorem from19_keep {c S m : Nat} (hc : c < 10 ^ 19) (h1 : m ≤ S) (h2 : S ≤ 19) : from19 (10 ^ 19) 2 c S m = some (c, S) := by
 have hd : digs c ≤ 19 := digs_le.2 hc
 exact from19_one (by omega) (by unfold step19; rw [if_neg (by omega), if_neg (by omega), if_neg (by omega)]) hc
theorem rhe_z {b : Nat} (hb : 0 < b) : rhe 0 b = 0 := by have := rhe_exact (q := 0) hb; rwa [Nat.zero_mul] at this
theorem trim_ok {C S R k u k' u' : Nat} (g : k * 10 ^ R = rnd C S R * 10 ^ u) (h : k = k' * 10 ^ (u - u')) (hu : u' ≤ u) : k' * 10 ^ R = rnd C S R * 10 ^ u' := by
 apply Nat.eq_of_mul_eq_mul_right (pow10_pos (u - u'))
 rw [Nat.mul_assoc, Nat.mul_assoc, ← Nat.pow_add 10 u', show u' + (u - u') = u by omega, ← g, h]
 generalize 10 ^ (u - u') = p
 generalize 10 ^ R = q
 ac_rfl
theorem sign_ok {n1 sg : Bool} {C S R k u : Nat} (g : k * 10 ^ R = rnd C S R * 10 ^ u) (hsg : n1 = sg ∨ C = 0) : ((sg && k != 0) && k * 10 ^ R != 0) = ((n1 && rnd C S R != 0) && rnd C S R * 10 ^ u != 0) := by
 have p1 := pow10_pos R
 have p2 := pow10_pos u
 have hz : k = 0 ↔ rnd C S R = 0 := by
  constructor
  ·intro h; subst h; rw [Nat.zero_mul] at g; rcases Nat.mul_eq_zero.1 g.symm with h | h <;> omega
  ·intro h; rw [h, Nat.zero_mul] at g; rcases Nat.mul_eq_zero.1 g with h | h <;> omega
 by_cases hk0 : k = 0
 ·have h2 := hz.1 hk0
  rw [hk0, h2]; simp
 ·have h2 : rnd C S R ≠ 0 := fun h => hk0 (hz.2 h)
  have h3 : C ≠ 0 := by
   intro h
   apply h2
   subst h
   unfold rnd
   rw [Nat.zero_mul]
   exact rhe_z (pow10_pos S)
  obtain rfl : n1 = sg := hsg.resolve_right h3
  have h4 : k * 10 ^ R ≠ 0 := Nat.mul_ne_zero hk0 (by omega)
  have h5 : rnd C S R * 10 ^ u ≠ 0 := by rw [← g]; exact h4
  rw [bne_iff_ne.2 hk0, bne_iff_ne.2 h2, bne_iff_ne.2 h4, bne_iff_ne.2 h5]
theorem fixOut_none {out f : Value} {sg : Bool} {o : Option (Nat × Nat)} (h : o = none) (hv : fixOut sg o = .tuple #[out, f]) : out = .agg #[.bool false, .int .u64 0, .int .i64 0] ∧ f = .int .i64 1 := by
 subst h
 unfold fixOut at hv
 simp only [Value.tuple.injEq, Array.mk.injEq, List.cons.injEq, and_true] at hv
 exact ⟨hv.1.symm, hv.2.symm⟩
theorem fixOut_some {out f : Value} {sg : Bool} {k t : Nat} (hv : fixOut sg (some (k, t)) = .tuple #[out, f]) : out = .agg #[.bool (sg && k != 0), .int .u64 (k : Int), .int .i64 (t : Int)] ∧ f = .int .i64 0 := by
 unfold fixOut at hv
 simp only [Value.tuple.injEq, Array.mk.injEq, List.cons.injEq, and_true] at hv
 rw [nat_bne] at hv
 exact ⟨hv.1.symm, hv.2.symm⟩
theorem gvNear_good {w : World} {A D1 : Option Addr} {n c p1 q1 a x : Nat} (n1 sg : Bool) (o : Option (Nat × Nat)) (out f : Value)
  (ha : SN w A n c a) (hx : SN w D1 p1 q1 x) (ha1 : a < tn 850) (hx1 : x < tn 850) (hx0 : 0 < x)
  (ho : Good n1 a x 0 sg o) (hv : fixOut sg o = .tuple #[out, f]) :
  Calls Tryz.prog 22 #[out, f, .agg #[.bool n1, .slice A n c, .slice D1 p1 q1]] w (PV w (.bool true)) := by
 have hpl : Places a x := ⟨hx0⟩
 obtain ⟨C, S, hat, hsg, htr⟩ := ho
 obtain ⟨r1, r2⟩ := from19_right pow19 0 C S 0 (by omega)
 have hrm : room (10 ^ 19) (atP a x) 19 = room (10 ^ 19) (rnd C S) 19 := room_congr hat
 rcases htr with ⟨h0, ho⟩ | ⟨k, u, k', u', h0, ho, t1, t2, t3⟩
 ·obtain ⟨rfl, rfl⟩ := fixOut_none ho hv
  cases hroom : room (10 ^ 19) (rnd C S) 19 with
  | none => exact gvNear_none _ ha hx ha1 hx1 hpl _ _ _ (hrm.trans hroom)
  | some R =>
   obtain ⟨k, u, g1, _⟩ := (r2 R hroom).2 (by omega)
   rw [h0] at g1
   cases g1
 ·subst ho
  obtain ⟨rfl, rfl⟩ := fixOut_some hv
  cases hroom : room (10 ^ 19) (rnd C S) 19 with
  | none => rw [r1 hroom] at h0; cases h0
  | some R =>
   obtain ⟨k1, u1, g1, g2, g3, g4, g5⟩ := (r2 R hroom).2 (by omega)
   rw [h0] at g1
   cases g1
   obtain ⟨hR19, hRE⟩ := room_R hroom
   have g6 := trim_ok g5 t3 t2
   have hk' : k' ≤ k' * 10 ^ (u - u') := Nat.le_mul_of_pos_right _ (pow10_pos _)
   refine gvNear_some _ ha hx ha1 hx1 hpl (sg && k' != 0) k' u' R (by omega) (by omega) (by cases sg <;> simp) (hrm.trans hroom) hR19 (by rw [hat R hR19]; exact hRE) ?_
   rw [hat R hR19]
   exact ⟨sign_ok g6 hsg, g6⟩
end Go.Proofs.YtbjhnckboimliaaGreatDoor
namespace Go.Proofs.YtbjhnckboimliaaGreatDoor
open Go.RowKit
set_option linter.unusedVariables false
set_option linter.unusedSimpArgs false
abbrev DT := Bool × Nat × Nat
def DTok (f : DT) : Prop := f.2.1 < 10 ^ 19 ∧ f.2.2 ≤ 19 ∧ (f.1 && f.2.1 != 0) = f.1
def stepS (a f : DT) : DT := ((sumD a.1 a.2.1 a.2.2 f.1 f.2.1 f.2.2).1, (sumD a.1 a.2.1 a.2.2 f.1 f.2.1 f.2.2).2, mxp a.2.2 f.2.2)
def sumL (l : List DT) : DT := l.foldl stepS (false, 0, 0)
def stepQ (a f : DT) : DT :=
 let r := sumS (a.1 && a.2.1 * 10 ^ f.2.2 != 0) (a.2.1 * 10 ^ f.2.2) (f.1 && f.2.1 * a.2.2 != 0) (f.2.1 * a.2.2)
 (r.1 && r.2 != 0, r.2, a.2.2 * 10 ^ f.2.2)
def sumQ (l : List DT) : DT := l.foldl stepQ (false, 0, 1)
theorem sumL_snoc (l : List DT) (f : DT) : sumL (l ++ [f]) = stepS (sumL l) f := by unfold sumL; rw [List.foldl_append]; rfl
theorem sumQ_snoc (l : List DT) (f : DT) : sumQ (l ++ [f]) = stepQ (sumQ l) f := by unfold sumQ; rw [List.foldl_append]; rfl
theorem sumS_norm (p q : Bool) (A B : Nat) : (sumS (p && A != 0) A (q && B != 0) B).2 = (sumS p A q B).2 ∧
  ((sumS (p && A != 0) A (q && B != 0) B).1 && (sumS (p && A != 0) A (q && B != 0) B).2 != 0) = ((sumS p A q B).1 && (sumS p A q B).2 != 0) := by
 by_cases hA : A = 0
 ·subst hA
  by_cases hB : B = 0
  ·subst hB; cases p <;> cases q <;> decide
  ·have h0 : 0 < B := by omega
   cases p <;> cases q <;> simp [sumS, hB, h0]
 ·by_cases hB : B = 0
  ·subst hB
   have h0 : ¬ A < 0 := by omega
   cases p <;> cases q <;> simp [sumS, hA]
  ·have h1 : (A != 0) = true := bne_iff_ne.2 hA
   have h2 : (B != 0) = true := bne_iff_ne.2 hB
   rw [h1, h2, Bool.and_true, Bool.and_true]
   exact ⟨rfl, rfl⟩
def RQ (c q : DT) : Prop := ∃ t, q.2.2 = 10 ^ c.2.2 * 10 ^ t ∧ q.2.1 = c.2.1 * 10 ^ t ∧ q.1 = (c.1 && c.2.1 != 0)
theorem nz_mul (b : Bool) (C k : Nat) : (b && C * 10 ^ k != 0) = (b && C != 0) := by
 have := pow10_pos k
 by_cases h : C = 0
 ·subst h; rw [Nat.zero_mul]
 ·rw [bne_iff_ne.2 h, bne_iff_ne.2 (Nat.mul_ne_zero h (by omega))]
theorem rq_step {c q f : DT} (h : RQ c q) : RQ (stepS c f) (stepQ q f) := by
 obtain ⟨t, h1, h2, h3⟩ := h
 obtain ⟨n, C, S⟩ := c
 obtain ⟨nq, a, x⟩ := q
 obtain ⟨m, d, s⟩ := f
 simp only at h1 h2 h3
 subst h1 h2 h3
 have hm := mxmn S s
 have hl := mx_l S s
 have hr := mx_r S s
 have e1 : C * 10 ^ t * 10 ^ s = C * 10 ^ (mxp S s - S) * 10 ^ (mnp S s + t) := by
  rw [Nat.mul_assoc, Nat.mul_assoc, ← Nat.pow_add, ← Nat.pow_add, show t + s = mxp S s - S + (mnp S s + t) by omega]
 have e2 : d * (10 ^ S * 10 ^ t) = d * 10 ^ (mxp S s - s) * 10 ^ (mnp S s + t) := by
  rw [Nat.mul_assoc, ← Nat.pow_add, ← Nat.pow_add, show S + t = mxp S s - s + (mnp S s + t) by omega]
 refine ⟨mnp S s + t, ?_, ?_, ?_⟩
 ·simp only [stepQ, stepS]
  rw [← Nat.pow_add, ← Nat.pow_add, ← Nat.pow_add]
  congr 1
  omega
 ·simp only [stepQ, stepS, sumD]
  have k1 : ((n && C != 0) && C * 10 ^ t * 10 ^ s != 0) = (n && C * 10 ^ t * 10 ^ s != 0) := by
   rw [nz_mul, nz_mul, nz_mul, nz_mul]; cases n <;> simp
  rw [k1, (sumS_norm _ _ _ _).1, e1, e2, sumS_scale _ _ _ _ _ (pow10_pos _)]
 ·simp only [stepQ, stepS, sumD]
  have k1 : ((n && C != 0) && C * 10 ^ t * 10 ^ s != 0) = (n && C * 10 ^ t * 10 ^ s != 0) := by
   rw [nz_mul, nz_mul, nz_mul, nz_mul]; cases n <;> simp
  rw [k1, (sumS_norm _ _ _ _).2, e1, e2, sumS_scale _ _ _ _ _ (pow10_pos _)]
  exact nz_mul _ _ _
theorem rq_sum (l : List DT) : RQ (sumL l) (sumQ l) := by
 unfold sumL sumQ
 have : ∀ (l : List DT) (c q : DT), RQ c q → RQ (l.foldl stepS c) (l.foldl stepQ q) := by
  intro l
  induction l with
  | nil => exact fun c q h => h
  | cons f l ih => exact fun c q h => ih _ _ (rq_step h)
 exact this l _ _ ⟨0, by simp, by simp, by simp⟩
theorem sumL_bd : ∀ (l : List DT) (a : DT) (k : Nat), (∀ f ∈ l, DTok f) → a.2.2 ≤ 19 → a.2.1 * 10 ^ (19 - a.2.2) ≤ k * (10 ^ 19 * 10 ^ 19) →
  (l.foldl stepS a).2.2 ≤ 19 ∧ (l.foldl stepS a).2.1 * 10 ^ (19 - (l.foldl stepS a).2.2) ≤ (k + l.length) * (10 ^ 19 * 10 ^ 19) := by
 intro l
 induction l with
 | nil => exact fun a k h h1 h2 => ⟨h1, h2⟩
 | cons f l ih =>
  intro a k h h1 h2
  obtain ⟨f1, f2, _⟩ := h f (by simp)
  have hl := mx_l a.2.2 f.2.2
  have hr := mx_r a.2.2 f.2.2
  have hm := mx_le h1 f2
  have := ih (stepS a f) (k + 1) (fun g hg => h g (by simp [hg])) hm (by
   simp only [stepS]
   have b := sumS_le a.1 (a.2.1 * 10 ^ (mxp a.2.2 f.2.2 - a.2.2)) f.1 (f.2.1 * 10 ^ (mxp a.2.2 f.2.2 - f.2.2))
   have b2 := Nat.mul_le_mul_right (10 ^ (19 - mxp a.2.2 f.2.2)) b
   rw [Nat.add_mul, Nat.mul_assoc, Nat.mul_assoc, ← Nat.pow_add, ← Nat.pow_add, show mxp a.2.2 f.2.2 - a.2.2 + (19 - mxp a.2.2 f.2.2) = 19 - a.2.2 by omega, show mxp a.2.2 f.2.2 - f.2.2 + (19 - mxp a.2.2 f.2.2) = 19 - f.2.2 by omega] at b2
   have b3 : f.2.1 * 10 ^ (19 - f.2.2) ≤ 10 ^ 19 * 10 ^ 19 := Nat.mul_le_mul (Nat.le_of_lt f1) (Nat.pow_le_pow_right (by omega) (by omega))
   unfold sumD
   rw [Nat.add_mul, Nat.one_mul]
   omega)
  rw [List.length_cons, show k + (l.length + 1) = k + 1 + l.length by omega]
  exact this
theorem sumL_ok {l : List DT} (h : ∀ f ∈ l, DTok f) (hl : l.length ≤ 40) : (sumL l).2.2 ≤ 19 ∧ (sumL l).2.1 < 10 ^ 40 := by
 obtain ⟨h1, h2⟩ := sumL_bd l (false, 0, 0) 0 h (by simp) (by simp)
 refine ⟨h1, ?_⟩
 have h3 : (sumL l).2.1 ≤ (sumL l).2.1 * 10 ^ (19 - (sumL l).2.2) := Nat.le_mul_of_pos_right _ (pow10_pos _)
 have h4 : (0 + l.length) * (10 ^ 19 * 10 ^ 19) ≤ 40 * (10 ^ 19 * 10 ^ 19) := Nat.mul_le_mul_right _ (by omega)
 have h5 : (40 : Nat) * (10 ^ 19 * 10 ^ 19) < 10 ^ 40 := by decide
 unfold sumL at h3 ⊢
 omega
def FX (w : World) (A : Option Addr) (l : List (Bool × Int × Int)) : Prop :=
 ∀ (i : Nat) (n : Bool) (v s : Int), l[i]? = some (n, v, s) → ∃ a : Addr, A = some a ∧ w.cell? (a.add (i * 3)) = some (.bool n) ∧ w.cell? ⟨(a.add (i * 3)).block, (a.add (i * 3)).off + 1, none⟩ = some (.int .u64 v) ∧ w.cell? ⟨(a.add (i * 3)).block, (a.add (i * 3)).off + 2, none⟩ = some (.int .i64 s)
theorem FX.kept {w w' : World} {A : Option Addr} {l : List (Bool × Int × Int)} (h : FX w A l) (hc : Chg (fun _ => False) w w') : FX w' A l := by
 intro i n v s hi
 obtain ⟨a, e, h0, h1, h2⟩ := h i n v s hi
 exact ⟨a, e, cell_kept h0 hc (fun h => h), cell_kept h1 hc (fun h => h), cell_kept h2 hc (fun h => h)⟩
def DX (w : World) (A : Option Addr) (l : List DT) : Prop :=
 ∀ (i : Nat) (n : Bool) (v s : Nat), l[i]? = some (n, v, s) → ∃ a : Addr, A = some a ∧ w.cell? (a.add (i * 3)) = some (.bool n) ∧ w.cell? ⟨(a.add (i * 3)).block, (a.add (i * 3)).off + 1, none⟩ = some (.int .i8 s) ∧ w.cell? ⟨(a.add (i * 3)).block, (a.add (i * 3)).off + 2, none⟩ = some (.int .u64 v)
theorem DX.kept {w w' : World} {A : Option Addr} {l : List DT} (h : DX w A l) (hc : Chg (fun _ => False) w w') : DX w' A l := by
 intro i n v s hi
 obtain ⟨a, e, h0, h1, h2⟩ := h i n v s hi
 exact ⟨a, e, cell_kept h0 hc (fun h => h), cell_kept h1 hc (fun h => h), cell_kept h2 hc (fun h => h)⟩
end Go.Proofs.YtbjhnckboimliaaGreatDoor
namespace Go.Proofs.YtbjhnckboimliaaGreatDoor
open Go Go.ChangeShapes Go.WideShapes Go.ChangeAt Go.WideMaps Go.WideElems Go.RowKit Go.Joins Go.Deep
theorem cell_add (a : Addr) (i j : Nat) (hj : 0 < j) : a.add (i * 3 + j) = ⟨(a.add (i * 3)).block, (a.add (i * 3)).off + j, none⟩ := by
 unfold Addr.add
 rw [if_neg (by omega)]
 by_cases h : i * 3 = 0
 ·rw [if_pos h, h]; simp
 ·rw [if_neg h]; simp [Nat.add_assoc]
theorem boolCell : Tryz.prog.cellsOf 4 = 1 := by kernel_rfl
theorem u64Cell : Tryz.prog.cellsOf 22 = 1 := by kernel_rfl
theorem intCell : Tryz.prog.cellsOf 3 = 1 := by kernel_rfl
set_option maxRecDepth 100000 in
theorem open_fixes {H : Type} {enc : TypeId × Value → H} {W : World} {base b0 : Nat} {sp : Nat → Bool} {held : Bool} {v : Value} {d : DataW H} {p : List MemPlace} (hv : Value.okWide Tryz.prog W .any b0 42 v) (h : DataW.Trod enc Tryz.prog W base sp held 42 v d p) :
  ∃ (A : Option Addr) (l : List (Bool × Int × Int)) (c : Nat), v = .slice A l.length c ∧ FX W A l ∧ ∀ f ∈ l, 0 ≤ f.2.1 := by
 obtain ⟨A, len, cap, rfl⟩ := okWide_slice Tryz.underlying42 hv
 obtain ⟨fuel, hf⟩ := h
 have hcs : (Value.slice A len cap).cells.toList = [.slice A len cap] := rfl
 rw [hcs] at hf
 rcases open_slice Tryz.underlying42 hf with ⟨h1, h2⟩ | ⟨a, len', cap', m, n, D, Pl, h1, hb, hl, hm, hmm, hx, hi⟩
 ·simp only [List.cons.injEq, Value.slice.injEq, and_true] at h1
  obtain ⟨rfl, rfl, rfl⟩ := h1
  exact ⟨none, [], 0, rfl, fun i n v s h => by simp at h, by simp⟩
 ·simp only [List.cons.injEq, Value.slice.injEq, and_true] at h1
  obtain ⟨rfl, rfl, rfl⟩ := h1
  have hlm : len ≤ m := by rw [hmm]; split <;> omega
  have hel : ∀ i, i < len → ∃ f : Bool × Int × Int, (W.cell? (a.add (i * 3)) = some (.bool f.1) ∧ W.cell? ⟨(a.add (i * 3)).block, (a.add (i * 3)).off + 1, none⟩ = some (.int .u64 f.2.1) ∧ W.cell? ⟨(a.add (i * 3)).block, (a.add (i * 3)).off + 2, none⟩ = some (.int .i64 f.2.2)) ∧ 0 ≤ f.2.1 := by
   intro i hil
   obtain ⟨cs', hc, ht⟩ := hi i (by omega)
   rw [fixCells] at hc
   obtain ⟨_, hcl, hat⟩ := World.cells?_some hc
   match cs', hcl, hat, ht with
   | [c0, c1, c2], _, hat, ht =>
    obtain ⟨ys, n', _, _, _, hyl, hg⟩ := DataW.trod_struct Tryz.underlying24 ht
    have e0 := hg 0 _ rfl
    have e1 := hg 1 _ rfl
    have e2 := hg 2 _ rfl
    match ys, hyl with
    | [y0, y1, y2], _ =>
     obtain ⟨x, k0, rfl⟩ := DataW.trod_bool Tryz.underlying4 e0
     obtain ⟨y, k1, rfl, wy⟩ := DataW.trod_int Tryz.underlying22 e1
     obtain ⟨f, k2, rfl, wf⟩ := DataW.trod_int Tryz.underlying3 e2
     have k0' : [c0] = [Value.bool x] := by
      have h : ([c0, c1, c2].drop 0).take (Tryz.prog.cellsOf 4) = [Value.bool x] := k0
      rw [boolCell] at h; exact h
     have k1' : [c1] = [Value.int .u64 y] := by
      have h : ([c0, c1, c2].drop 1).take (Tryz.prog.cellsOf 22) = [Value.int .u64 y] := k1
      rw [u64Cell] at h; exact h
     have k2' : [c2] = [Value.int .i64 f] := by
      have h : ([c0, c1, c2].drop 2).take (Tryz.prog.cellsOf 3) = [Value.int .i64 f] := k2
      rw [intCell] at h; exact h
     simp at k0' k1' k2'
     subst k0' k1' k2'
     have a0 := hat 0 (by omega)
     have a1 := hat 1 (by omega)
     have a2 := hat 2 (by omega)
     refine ⟨(x, y, f), ⟨?_, ?_, ?_⟩, ?_⟩
     ·simpa [Go.Deep.add_add] using a0
     ·rw [← cell_add a i 1 (by omega), ← Go.Deep.add_add]; simpa using a1
     ·rw [← cell_add a i 2 (by omega), ← Go.Deep.add_add]; simpa using a2
     ·simp [Lit.wf] at wy; exact wy.1
  obtain ⟨F, hF⟩ : ∃ F : Nat → Bool × Int × Int, ∀ i, i < len → (W.cell? (a.add (i * 3)) = some (.bool (F i).1) ∧ W.cell? ⟨(a.add (i * 3)).block, (a.add (i * 3)).off + 1, none⟩ = some (.int .u64 (F i).2.1) ∧ W.cell? ⟨(a.add (i * 3)).block, (a.add (i * 3)).off + 2, none⟩ = some (.int .i64 (F i).2.2)) ∧ 0 ≤ (F i).2.1 := by
   refine ⟨fun i => if h : i < len then (hel i h).choose else (false, 0, 0), fun i h => ?_⟩
   simp only [dif_pos h]
   exact (hel i h).choose_spec
  refine ⟨some a, (List.range len).map F, cap, by rw [List.length_map, List.length_range], ?_, ?_⟩
  ·intro i n v s h
   rw [List.getElem?_map] at h
   have hil : i < len := by
    apply Classical.byContradiction
    intro hn
    rw [List.getElem?_eq_none (by rw [List.length_range]; omega)] at h
    cases h
   rw [List.getElem?_range hil] at h
   simp only [Option.map_some, Option.some.injEq] at h
   obtain ⟨⟨q0, q1, q2⟩, _⟩ := hF i hil
   rw [h] at q0 q1 q2
   exact ⟨a, rfl, q0, q1, q2⟩
  ·intro f hf
   obtain ⟨i, hi', rfl⟩ := List.mem_map.1 hf
   exact (hF i (List.mem_range.1 hi')).2
end Go.Proofs.YtbjhnckboimliaaGreatDoor
namespace Go.Proofs.YtbjhnckboimliaaGreatDoor
open Go Go.ChangeShapes Go.WideShapes Go.ChangeAt Go.WideMaps Go.WideElems Go.RowKit
set_option maxRecDepth 100000
theorem wit_shapedm (os : Os) : (((World.doorLaid Tryz.prog 400 os).forCall (fun _ _ => 0) ⟨#[], #[.slice none 0 0], []⟩)).Shaped Tryz.prog :=
 World.shaped_of_RefB (by as_aux_lemma => kernel_rfl) (by as_aux_lemma => kernel_rfl)
theorem wit_okm (os : Os) : Input.okWideB Tryz.prog ((World.doorLaid Tryz.prog 400 os).forCall (fun _ _ => 0) ⟨#[], #[.slice none 0 0], []⟩) 5 ⟨#[], #[.slice none 0 0], []⟩ = true := by kernel_rfl
theorem wit_prem (os : Os) (H : Type) (enc : TypeId × Value → H) : Rows.fnFixSumSpec.preB enc Tryz.prog Tryz.f5 [] false (((World.doorLaid Tryz.prog 400 os).forCall (fun _ _ => 0) ⟨#[], #[.slice none 0 0], []⟩)).memory #[.slice none 0 0] 8 = true := by kernel_rfl
theorem wit_sizem (os : Os) (H : Type) (enc : TypeId × Value → H) : Rows.fnFixSumSpec.sizedB enc Tryz.prog Tryz.f5 false (((World.doorLaid Tryz.prog 400 os).forCall (fun _ _ => 0) ⟨#[], #[.slice none 0 0], []⟩)).memory #[.slice none 0 0] 8 = true := by kernel_rfl
end Go.Proofs.YtbjhnckboimliaaGreatDoor
