/- Part 24 of the proof. -/
import Derived.ChangeVars
import Derived.Test.YtldhfhloinlfaaaGreatDoorC23
namespace Go.Proofs.YtldhfhloinlfaaaGreatDoor
open Go.ChangeShapes Go.WideShapes Go.ChangeAt Go.WideMaps Go.WideElems Go.RowKit
theorem door_metq (os : Os) (args : Array Value) : laidMetH Tryz.prog Rows.fnFixQuoSmallRow.laid ((World.doorLaid Tryz.prog 400 os).forCall (fun _ _ => 0) ⟨#[], args, []⟩).memory :=
 laidMetH_of_parts3 (fuel := 8) (laidMet_of_run' 8 kr_ kr_) kr_ kr_
end Go.Proofs.YtldhfhloinlfaaaGreatDoor
namespace Go.Proofs.YtldhfhloinlfaaaGreatDoor
open Go.RowKit
set_option linter.unusedVariables false
set_option linter.unusedSimpArgs false
set_option maxRecDepth 20000
theorem Scale_as (neg : Bool) (c : Int) (s : Nat) (S : Int) (hs : s ≤ 19) (hS : (s : Int) = S) (w : World) :
  Calls Tryz.prog 77 #[.agg #[.bool neg, .int .i8 s, .int .u64 c]] w (fun e w' => e = .returned (.int .i64 S) ∧ Chg (fun _ => False) w w') := by
 subst hS
 exact Scale_any neg c s hs w
theorem nat_bne (k : Nat) : ((k : Int) != 0) = (k != 0) := by
 by_cases h : k = 0
 ·subst h; rfl
 ·rw [bne_iff_ne.2 h, bne_iff_ne.2 (by omega : (k : Int) ≠ 0)]
def EnvI (w : World) : Prop := EnvD w ∧ ∃ t v, w.cell? ⟨1, 0, none⟩ = some (.iface t v)
theorem EnvI.kept {w w' : World} (h : EnvI w) (hc : Chg (fun _ => False) w w') : EnvI w' := ⟨h.1.kept hc, by obtain ⟨t, v, e⟩ := h.2; exact ⟨t, v, cell_kept e hc (fun h => h)⟩⟩
def PX (P : Bool → Option (Nat × Nat) → Prop) (w : World) (e : Ending) (w' : World) : Prop := ∃ sg o, P sg o ∧ PDecN w sg o e w'
theorem PX.op {P : Bool → Option (Nat × Nat) → Prop} {w w' : World} {e : Ending} (h : PX P w e w') :
  ∃ (a : Bool) (b c : Int) (v : Value), e = .returned (.tuple #[.agg #[.bool a, .int .i8 b, .int .u64 c], v]) ∧ Chg (fun _ => False) w w' ∧ PX P w (.returned (.tuple #[.agg #[.bool a, .int .i8 b, .int .u64 c], v])) w' := by
 obtain ⟨sg, o, h1, h2⟩ := h
 obtain ⟨a, b, c, v, h3, h4, h5⟩ := h2.op
 exact ⟨a, b, c, v, h3, h4, sg, o, h1, h5⟩
theorem PX.move {P : Bool → Option (Nat × Nat) → Prop} {w w1 w' w'' : World} {e : Ending} (h : PX P w1 e w'') (c : Chg (fun _ => False) w w') : PX P w e w' := by
 obtain ⟨sg, o, h1, h2⟩ := h
 exact ⟨sg, o, h1, h2.move c⟩
end Go.Proofs.YtldhfhloinlfaaaGreatDoor
namespace Go.Proofs.YtldhfhloinlfaaaGreatDoor
open Go.ChangeShapes Go.WideShapes Go.ChangeAt Go.WideMaps Go.WideElems Go.RowKit
theorem gInx : Tryz.prog.globalNamed "given.example/pub-alexandrine/pub/govalues.errInexactDivision" = some 1 := by kernel_rfl
theorem tInx : (Tryz.prog.globals[1]?).map (·.type) = some 57 := by kernel_rfl
theorem of_laidq {W : World} (hsh : W.ShapedOpen Tryz.prog) (h : laidMetH Tryz.prog Rows.fnFixQuoSmallRow.laid W) : EnvI W := by
 rw [MakeChecks.laidMetH_plain _ _ _ kr_] at h
 obtain ⟨ps, ⟨_, _, _, _, _, _, _, _, _, _, ⟨_, _, _, _, _, _, _, _, _, _, ⟨_, _, _, _, _, _, _, _, _, _, ⟨g3, t3, cs3, f3, p3, q3, hg3, ht3, hv3, hd3, ⟨g4, t4, cs4, f4, p4, q4, hg4, ht4, hv4, hd4, ⟨_, _, _, _, _, _, _, _, _, _, ⟨_, _, _, _, _, _, _, _, _, _, ⟨g7, t7, cs7, f7, p7, q7, hg7, ht7, hv7, hd7, ⟨_, _, _, _, _, _, _, _, _, _, ⟨g8, t8, cs8, f8, p8, q8, hg8, ht8, hv8, hd8, ⟨g9, t9, cs9, f9, p9, q9, hg9, ht9, hv9, hd9, hrest, _⟩, _⟩, _⟩, _⟩, _⟩, _⟩, _⟩, _⟩, _⟩, _⟩, _⟩, hps, _⟩ := h
 obtain rfl := Option.some.inj (gDiv.symm.trans hg3)
 obtain rfl := Option.some.inj (gKar.symm.trans hg4)
 obtain rfl := Option.some.inj (gOvf.symm.trans hg7)
 obtain rfl := Option.some.inj (gInx.symm.trans hg8)
 obtain rfl := Option.some.inj (gPow.symm.trans hg9)
 obtain rfl := Option.some.inj (tDiv.symm.trans ht3)
 obtain rfl := Option.some.inj (tKar.symm.trans ht4)
 have hdiv : W.cell? ⟨7, 0, none⟩ = some (.int .i64 40) := by
  obtain ⟨k, e1, e2, _⟩ := DataW.trod_int Tryz.underlying3 hd3
  have hk : k = 40 := by
   have := congrArg Prod.fst e2
   simpa [Rows.laid_given_example_pub_alexandrine_pub_bigall_divRecursiveThreshold] using this.symm
  subst hk
  have := World.var?_cell hg3 hv3 0
  obtain ⟨l1⟩ := cs3
  simp at e1
  subst e1
  simpa using this
 have hkar : W.cell? ⟨6, 0, none⟩ = some (.int .i64 40) := by
  obtain ⟨k, e1, e2, _⟩ := DataW.trod_int Tryz.underlying3 hd4
  have hk : k = 40 := by
   have := congrArg Prod.fst e2
   simpa [Rows.laid_given_example_pub_alexandrine_pub_bigall_karatsubaThreshold] using this.symm
  subst hk
  have := World.var?_cell hg4 hv4 0
  obtain ⟨l1⟩ := cs4
  simp at e1
  subst e1
  simpa using this
 have htab : Tab W := by
  obtain rfl := Option.some.inj (tPow.symm.trans ht9)
  obtain ⟨xs, m, _, hx, hlen, hn, hel⟩ := DataW.trod_array Tryz.underlying130 hd9
  have c1 : Tryz.prog.cellsOf 51 = 1 := by kernel_rfl
  rw [c1] at hel
  have hxs := congrArg Prod.fst hx
  simp only [Rows.laid_given_example_pub_alexandrine_pub_govalues_pow10, DataW.agg.injEq] at hxs
  intro k hk
  have hk' := hel k hk
  have hxk : (xs.map (·.1))[k]? = some (.lit (.int .u64 (10 ^ k))) := by
   rw [← hxs]
   have : ∀ j : Fin 20, ([DataW.lit (.int .u64 1), .lit (.int .u64 10), .lit (.int .u64 100), .lit (.int .u64 1000), .lit (.int .u64 10000), .lit (.int .u64 100000), .lit (.int .u64 1000000), .lit (.int .u64 10000000), .lit (.int .u64 100000000), .lit (.int .u64 1000000000), .lit (.int .u64 10000000000), .lit (.int .u64 100000000000), .lit (.int .u64 1000000000000), .lit (.int .u64 10000000000000), .lit (.int .u64 100000000000000), .lit (.int .u64 1000000000000000), .lit (.int .u64 10000000000000000), .lit (.int .u64 100000000000000000), .lit (.int .u64 1000000000000000000), .lit (.int .u64 10000000000000000000)] : List (DataW Unit))[(j : Nat)]? = some (.lit (.int .u64 (10 ^ (j : Nat)))) := by
    rintro ⟨j, hj⟩
    rcases (show j = 0 ∨ j = 1 ∨ j = 2 ∨ j = 3 ∨ j = 4 ∨ j = 5 ∨ j = 6 ∨ j = 7 ∨ j = 8 ∨ j = 9 ∨ j = 10 ∨ j = 11 ∨ j = 12 ∨ j = 13 ∨ j = 14 ∨ j = 15 ∨ j = 16 ∨ j = 17 ∨ j = 18 ∨ j = 19 by omega) with rfl | rfl | rfl | rfl | rfl | rfl | rfl | rfl | rfl | rfl | rfl | rfl | rfl | rfl | rfl | rfl | rfl | rfl | rfl | rfl <;> rfl
   exact this ⟨k, hk⟩
  rw [List.getElem?_map] at hxk
  cases hy : xs[k]? with
  | none => rw [hy] at hxk; cases hxk
  | some y =>
   rw [hy] at hxk
   simp only [Option.map_some, Option.some.injEq] at hxk
   rw [hy] at hk'
   obtain ⟨z, e1, e2, _⟩ := DataW.trod_int Tryz.underlying51 hk'
   have hz : z = 10 ^ k := by
    have := congrArg Prod.fst e2
    rw [hxk] at this
    simpa using this.symm
   subst hz
   have := World.var?_cell hg9 hv9 k
   rw [this]
   rw [Nat.mul_one] at e1
   have h3 : (cs9.toList.drop k)[0]? = some (.int .u64 (10 ^ k)) := by
    have := congrArg (fun l => l[0]?) e1
    simpa using this
   simpa using h3
 have hovf : ∃ u y, W.cell? ⟨0, 0, none⟩ = some (.iface u y) := by
  obtain rfl := Option.some.inj (tOvf.symm.trans ht7)
  obtain ⟨_, u, y, e1, _, _⟩ := iface_of_trod Tryz.underlying57 hd7
  have := World.var?_cell hg7 hv7 0
  obtain ⟨l1⟩ := cs7
  simp at e1
  subst e1
  exact ⟨u, y, by simpa using this⟩
 have hinx : ∃ u y, W.cell? ⟨1, 0, none⟩ = some (.iface u y) := by
  obtain rfl := Option.some.inj (tInx.symm.trans ht8)
  obtain ⟨_, u, y, e1, _, _⟩ := iface_of_trod Tryz.underlying57 hd8
  have := World.var?_cell hg8 hv8 0
  obtain ⟨l1⟩ := cs8
  simp at e1
  subst e1
  exact ⟨u, y, by simpa using this⟩
 refine ⟨⟨⟨htab, hkar, hdiv, fun xs hr => ?_⟩, hovf⟩, hinx⟩
 obtain ⟨cs, t, k1, k2⟩ := pow_typed hsh
 have := hr.1.symm.trans k1
 simp only [Option.some.injEq, Obj.cells.injEq] at this
 exact k2 this.2.1.symm
end Go.Proofs.YtldhfhloinlfaaaGreatDoor
namespace Go.Proofs.YtldhfhloinlfaaaGreatDoor
open Go Go.ChangeShapes Go.WideShapes Go.ChangeAt Go.WideMaps Go.WideElems Go.RowKit Go.Joins
theorem vars_data {H : Type} {enc : TypeId × Value → H} {P : Program} {W W' : World} {n : String} {ns : List String} {sp sp' : Nat → Bool}
  (h1 : ∀ (gs : List (DataW H)) (q : List MemPlace), DataW.TrodVars enc P W sp [n] gs q → DataW.TrodVars enc P W' sp' [n] gs q)
  (hr : ∀ (gs : List (DataW H)) (q : List MemPlace), DataW.TrodVars enc P W sp ns gs q → DataW.TrodVars enc P W' sp' ns gs q) {gs : List (DataW H)} {ps : List MemPlace} (h : DataW.TrodVars enc P W sp (n :: ns) gs ps) :
  DataW.TrodVars enc P W' sp' (n :: ns) gs ps := by
 cases gs with
 | nil => exact h.elim
 | cons d ds =>
  obtain ⟨g0, t, cs, fuel, p, q, k1, k2, k3, k4, hs, e⟩ := h
  obtain ⟨g1, t1, cs1, f1, d1, p1, e1, m1, m2, m3, m4, e2⟩ := trodVars_one (h1 _ _ (trodVars_mk1 k1 k2 k3 k4))
  cases e1
  exact ⟨g1, t1, cs1, f1, p1, q, m1, m2, m3, m4, hr _ _ hs, by rw [e, e2]⟩
end Go.Proofs.YtldhfhloinlfaaaGreatDoor
