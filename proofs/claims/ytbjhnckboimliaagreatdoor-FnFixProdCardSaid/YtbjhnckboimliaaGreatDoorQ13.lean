/- Part 13 of the proof. -/
import Derived.Lib.AppendZeros
import Derived.Laws.AppendOwn
import Derived.Test.YtbjhnckboimliaaGreatDoorQ12
namespace Go.Proofs.YtbjhnckboimliaaGreatDoor
open Go.RowKit
set_option linter.unusedVariables false
set_option linter.unusedSimpArgs false
set_option maxRecDepth 20000
def IntAt (w : World) (p : Nat) (bo : Option Nat) (x : Int) : Prop :=
 ∃ (T : TypeId) (v : Value) (ds : List Int), w.heap[p]? = some (.cells #[.bool false, v] T (0, 0)) ∧ T ≠ 146 ∧ NatAt w v bo ds ∧ Nrm ds ∧ val ds = x
theorem IntAt.lt {w : World} {p : Nat} {bo : Option Nat} {x : Int} (h : IntAt w p bo x) : p < w.heap.size := by
 obtain ⟨T, v, ds, h1, _⟩ := h; exact (Array.getElem?_eq_some_iff.1 h1).1
theorem IntAt.ne {w : World} {p : Nat} {bo : Option Nat} {x : Int} (h : IntAt w p bo x) {q b : Nat} {bo2 : Option Nat} {y : Int} (k : IntAt w q bo2 y) (hb : bo2 = some b) : b ≠ p := by
 subst hb
 obtain ⟨T, v, ds, h1, h2, _⟩ := h
 obtain ⟨T', v', ds', _, _, ⟨sp, _, hr, _⟩, _⟩ := k
 rintro rfl
 have := hr.1.symm.trans h1
 simp only [Option.some.injEq, Obj.cells.injEq] at this
 exact h2 this.2.1.symm
theorem IntAt.nonneg {w : World} {p : Nat} {bo : Option Nat} {x : Int} (h : IntAt w p bo x) : 0 ≤ x := by
 obtain ⟨T, v, ds, _, _, h3, _, rfl⟩ := h; exact val_nonneg h3.wds
theorem IntAt.drew {w : World} {p : Nat} {bo : Option Nat} {x : Int} (h : IntAt w p bo x) : IntAt w.drew p bo x := by
 obtain ⟨T, v, ds, h1, h2, h3, h4, h5⟩ := h; exact ⟨T, v, ds, h1, h2, h3.drew, h4, h5⟩
theorem IntAt.drewN {w : World} {p : Nat} {bo : Option Nat} {x : Int} (h : IntAt w p bo x) (n : Nat) : IntAt (w.drewN n) p bo x := by
 obtain ⟨T, v, ds, h1, h2, h3, h4, h5⟩ := h; exact ⟨T, v, ds, h1, h2, h3.drewN n, h4, h5⟩
theorem IntAt.kept {S : Nat → Prop} {w w' : World} {p : Nat} {bo : Option Nat} {x : Int} (h : IntAt w p bo x) (hc : Chg S w w') (hp : ¬ S p) (hb : ∀ b, bo = some b → ¬ S b) : IntAt w' p bo x := by
 have hl := h.lt
 obtain ⟨T, v, ds, h1, h2, h3, h4, h5⟩ := h
 exact ⟨T, v, ds, (hc.keep p hl hp).trans h1, h2, h3.kept hc hb, h4, h5⟩
def Fld (w : World) (p : Nat) (bo : Option Nat) (x : Int) (v : Value) : Prop :=
 ∃ ds, w.cell? ⟨p, 0, none⟩ = some (.bool false) ∧ w.cell? ⟨p, 1, none⟩ = some v ∧ (∀ i, w.frozen? ⟨p, i, none⟩ = false) ∧ NatAt w v bo ds ∧ Nrm ds ∧ val ds = x
theorem IntAt.fld {w : World} {p : Nat} {bo : Option Nat} {x : Int} (h : IntAt w p bo x) : ∃ v, Fld w p bo x v := by
 obtain ⟨T, v, ds, h1, h2, h3, h4, h5⟩ := h
 exact ⟨v, ds, by simp [World.cell?, h1], by simp [World.cell?, h1], fun i => by simp [World.frozen?, h1], h3, h4, h5⟩
theorem len_bd {ds : List Int} {x : Int} (h : Wds ds) (hn : Nrm ds) (hv : val ds = x) (hx : x < BP 30) : ds.length ≤ 30 := len_le_of_val h hn (by rw [hv]; exact hx)
theorem PNat.chg {w w' : World} {bo : Option Nat} {X : Int} {e : Ending} (h : PNat w bo X e w') : Chg (fun k => bo = some k) w w' := by
 obtain ⟨_, _, _, _, _, _, _, _, hc⟩ := h; exact hc
theorem PNat.sl {w w' : World} {bo : Option Nat} {X : Int} {e : Ending} (h : PNat w bo X e w') : ∃ a n c, e = .returned (.slice a n c) ∧ PNat w bo X (.returned (.slice a n c)) w' ∧ (n = 0 ↔ X = 0) := by
 obtain ⟨v, bo', ds, rfl, h1, h2, h3, h4⟩ := h
 obtain ⟨a, c, rfl⟩ := h1.len
 refine ⟨a, ds.length, c, rfl, ⟨_, bo', ds, rfl, h1, h2, h3, h4⟩, fun e => ?_, fun e => ?_⟩
 ·rw [List.length_eq_zero_iff.1 e] at h3; exact h3.symm
 ·have := val_zero_nrm h1.wds h2 (h3.trans e); rw [this]; rfl
def PInt (w : World) (p : Nat) (bo : Option Nat) (X : Int) (ret : Value) (e : Ending) (w' : World) : Prop :=
 e = .returned ret ∧ ∃ bo', IntAt w' p bo' X ∧ (bo' = bo ∨ ∃ b, bo' = some b ∧ w.heap.size ≤ b) ∧ Chg (fun k => k = p ∨ bo = some k) w w'
theorem int_fin {w w1 : World} {p : Nat} {bo : Option Nat} {x X : Int} {v' ret : Value} (hp : IntAt w p bo x) (hn : PNat w bo X (.returned v') w1) :
  PInt w p bo X ret (.returned ret) ((w1.setCell ⟨p, 1, none⟩ v').setCell ⟨p, 0, none⟩ (.bool false)) := by
 have hl := hp.lt
 have hpb : bo ≠ some p := fun h => hp.ne hp h rfl
 obtain ⟨T, v, ds, h1, h2, h3, h4, h5⟩ := hp
 obtain ⟨v2, bo', ds', he, k1, k2, k3, k4, k5⟩ := hn
 simp only [Ending.returned.injEq] at he
 subst he
 have h1' := (k5.keep p hl hpb).trans h1
 have hs : ((w1.setCell ⟨p, 1, none⟩ v').setCell ⟨p, 0, none⟩ (.bool false)).heap[p]? = some (.cells #[.bool false, v'] T (0, 0)) := by
  simp [World.setCell, Array.getElem?_modify, h1']
 have hc : Chg (fun k => k = p) w1 ((w1.setCell ⟨p, 1, none⟩ v').setCell ⟨p, 0, none⟩ (.bool false)) := Chg.setCell (p := ⟨p, 0, none⟩) (Chg.setCell (p := ⟨p, 1, none⟩) (Chg.refl (fun k => k = p) w1) (fun _ => rfl) v') (fun _ => rfl) _
 have hb' : ∀ b, bo' = some b → b ≠ p := by
  rintro b rfl
  obtain ⟨sp, _, hr, _⟩ := k1
  rintro rfl
  have := hr.1.symm.trans h1'
  simp only [Option.some.injEq, Obj.cells.injEq] at this
  exact h2 this.2.1.symm
 exact ⟨rfl, bo', ⟨T, v', ds', hs, h2, k1.kept hc hb', k2, k3⟩, k4, (k5.mono (fun _ h => .inr h)).trans hc (fun _ _ h => .inl h)⟩
structure After (w1 : World) (p q : Nat) : Prop where
 neg : w1.cell? ⟨q, 0, none⟩ = some (.bool false)
 neg' : ∀ v', (w1.setCell ⟨p, 1, none⟩ v').cell? ⟨q, 0, none⟩ = some (.bool false)
 free : ∀ i, w1.frozen? ⟨q, i, none⟩ = false
 free' : ∀ v' i, (w1.setCell ⟨p, 1, none⟩ v').frozen? ⟨q, i, none⟩ = false
 words : ∃ v, w1.cell? ⟨q, 1, none⟩ = some v
 words' : q = p → ∀ v', (w1.setCell ⟨p, 1, none⟩ v').cell? ⟨p, 1, none⟩ = some v'
theorem int_after {w w1 : World} {p q : Nat} {bo bq : Option Nat} {x y : Int} (hp : IntAt w p bo x) (hq : IntAt w q bq y) (hc : Chg (fun k => bo = some k) w w1) : After w1 p q := by
 have hl := hq.lt
 have hqb : bo ≠ some q := fun h => hq.ne hp h rfl
 obtain ⟨T, v, ds, h1, h2, h3, h4, h5⟩ := hq
 have h1' := (hc.keep q hl hqb).trans h1
 refine ⟨by simp [World.cell?, h1'], fun v' => ?_, fun i => by simp [World.frozen?, h1'], fun v' i => ?_, ⟨v, by simp [World.cell?, h1']⟩, fun e v' => ?_⟩
 ·by_cases e : p = q
  ·subst e; simp [World.cell?, World.setCell, Array.getElem?_modify, h1']
  ·unfold World.cell?; rw [Below.heap_setCell _ _ _ _ (by simpa using fun h => e h.symm)]
   simp [h1']
 ·by_cases e : p = q
  ·subst e; simp [World.frozen?, World.setCell, Array.getElem?_modify, h1']
  ·unfold World.frozen?; rw [Below.heap_setCell _ _ _ _ (by simpa using fun h => e h.symm)]
   simp [h1']
 ·subst e; simp [World.cell?, World.setCell, Array.getElem?_modify, h1']
theorem Int_SetUint64 (p : Nat) (bo : Option Nat) (x0 x : Int) (w : World) (hp : IntAt w p bo x0) (hx : Wd x) :
  Calls Tryz.prog 121 #[.pointer (some ⟨p, 0, none⟩), .int .u64 x] w (PInt w p bo x (.pointer (some ⟨p, 0, none⟩))) := by
 obtain ⟨v, ds, c0, c1, cf, hn, nn, hv⟩ := hp.fld
 have HF := hid (fun v' w1 (h : PNat w bo x (.returned v') w1) => int_fin (ret := .pointer (some ⟨p, 0, none⟩)) hp h)
 have HA := hid (fun w1 (h : Chg (fun k => bo = some k) w w1) => int_after hp hp h)
 have HN := hid hn
 clear cf hn nn hv
 go_enter Tryz.func121, Tryz.ntmps121
 go_wp2_with (go_at_call 142; refine (setUint64_any v bo ds x _ HN.out hx).mono ?_; rintro e w1 h; obtain ⟨a, n, c, rfl, h', hn0⟩ := h.sl; have ha := HA.out w1 h'.chg; have d0 := ha.neg; obtain ⟨v1, d1⟩ := ha.words; have d2 := ha.neg' (.slice a n c); have df0 := ha.free 0; have df1 := ha.free 1; have df2 := ha.free' (.slice a n c) 0; have HR := hid (HF.out _ w1 h'); clear ha h' hn0)
 go_ret
 exact HR.out
theorem int_row : (Tryz.prog.info? 127).map (fun i => i.size) = some 2 := by kernel_rfl
noncomputable def intInfo : TypeInfo := (Tryz.prog.info? 127).get (by have := int_row; cases h : Tryz.prog.info? 127 with | none => simp [h] at this | some i => rfl)
theorem info_int : Tryz.prog.info? 127 = some intInfo := by unfold intInfo; simp
theorem int_size : intInfo.size = 2 := by have := int_row; rw [info_int] at this; simpa using this
theorem IntAt.obj {w : World} {p : Nat} {bo : Option Nat} {x : Int} (h : IntAt w p bo x) : ∃ cs T, w.heap[p]? = some (.cells cs T (0, 0)) := by
 obtain ⟨T, v, ds, h1, _⟩ := h; exact ⟨_, _, h1⟩
theorem pint_eql_other {w : World} {p q : Nat} {bo bq : Option Nat} {x y : Int} (hp : IntAt w p bo x) (hq : IntAt w q bq y) (hne : p ≠ q) :
  (binOp .eql 123 (.pointer (some ⟨p, 0, none⟩)) (.pointer (some ⟨q, 0, none⟩))).run Tryz.prog w = .ok (.bool false) w := by
 obtain ⟨c1, T1, h1⟩ := hp.obj
 obtain ⟨c2, T2, h2⟩ := hq.obj
 have h : ∀ d : Nat, (Op.equalIn (d + 1) 123 (.pointer (some ⟨p, 0, none⟩)) (.pointer (some ⟨q, 0, none⟩))).run Tryz.prog w = .ok false w := fun d => by
  simp [Op.equalIn, run_underlying Tryz.underlying123, sizeOf, typeInfo, info_int, int_size, run_sameAddr_other w (a := ⟨p, 0, none⟩) (b := ⟨q, 0, none⟩) (fun e => hne (Addr.mk.inj e).1) h1 h2]
 simp only [binOp]
 simp [Op.equal, Op.maxDepth, h 9999]
theorem PInt.ofQ {w w1 w' : World} {p : Nat} {bo : Option Nat} {X : Int} {ret : Value} {e : Ending} (hq : Q w w1) (h : PInt w1 p bo X ret e w') : PInt w p bo X ret e w' := by
 obtain ⟨n, rfl⟩ := hq
 obtain ⟨h1, bo', h2, h3, h4⟩ := h
 exact ⟨h1, bo', h2, h3, ⟨h4.os, h4.tape, h4.output, h4.size, h4.keep⟩⟩
theorem PInt.drew {w w' : World} {p : Nat} {bo : Option Nat} {X : Int} {ret : Value} {e : Ending} (h : PInt w p bo X ret e w') : PInt w p bo X ret e w'.drew := by
 obtain ⟨h1, bo', h2, h3, h4⟩ := h
 exact ⟨h1, bo', h2.drew, h3, h4.drew⟩
theorem PNat.undrew {w w' : World} {bo : Option Nat} {X : Int} {e : Ending} (h : PNat w.drew bo X e w') : PNat w bo X e w' := PNat.ofQ ⟨1, rfl⟩ h
set_option maxHeartbeats 2000000 in
theorem Int_mul (p q r : Nat) (bo bq br : Option Nat) (x0 x y : Int) (w : World) (hp : IntAt w p bo x0) (hq : IntAt w q bq x) (hr : IntAt w r br y) (hne : q ≠ r) (hx : x < BP 30) (hy : y < BP 30)
  (hkt : w.cell? ⟨6, 0, none⟩ = some (.int .i64 40)) :
  Calls Tryz.prog 153 #[.pointer (some ⟨p, 0, none⟩), .pointer none, .pointer (some ⟨q, 0, none⟩), .pointer (some ⟨r, 0, none⟩)] w (PInt w p bo (x * y) (.tuple #[])) := by
 have hpe := pint_eql_other hq hr hne
 obtain ⟨v, ds, c0, c1, cf, hn, nn, hv⟩ := hp.fld
 obtain ⟨vx, xs, cx0, cx1, cxf, hnx, nx, rfl⟩ := hq.fld
 obtain ⟨vy, ys, cy0, cy1, cyf, hny, ny, rfl⟩ := hr.fld
 have HC := hid (fun (w1 : World) (h1 : NatAt w1 v bo ds) (h2 : NatAt w1 vx bq xs) (h3 : NatAt w1 vy br ys) (h4 : w1.cell? ⟨6, 0, none⟩ = some (.int .i64 40)) =>
  mul_any v (.pointer none) vx vy bo bq br ds xs ys w1 h1 h2 h3 nx ny (by have := len_bd h2.wds nx rfl hx; omega) (by have := len_bd h3.wds ny rfl hy; omega) h4)
 have HN := hid hn; have HX := hid hnx; have HY := hid hny; have HK := hid hkt
 have HF := hid (fun a n c w1 (h : PNat w bo (val xs * val ys) (.returned (.slice a n c)) w1) => int_fin (ret := .tuple #[]) hp h)
 have HAp := hid (fun w1 (h : Chg (fun k => bo = some k) w w1) => int_after hp hp h)
 have HAx := hid (fun w1 (h : Chg (fun k => bo = some k) w w1) => int_after hp hq h)
 have HAy := hid (fun w1 (h : Chg (fun k => bo = some k) w w1) => int_after hp hr h)
 clear cf hn nn hv cxf hnx cyf hny hkt
 go_enter Tryz.func153, Tryz.ntmps153
 go_upto_region 3 with fail
 go_cut [41] from 27 to 43 (fun x wx => ∃ (a : Option Addr) (n c : Nat) (w1 : World), x = .slice a n c ∧ wx = w1.setCell ⟨p, 1, none⟩ (.slice a n c) ∧ Hid (PNat w bo (val xs * val ys) (.returned (.slice a n c)) w1))
 case first =>
  go_region_with (go_at_call 170; refine (HC.out _ HN.out.drew HX.out.drew HY.out.drew HK.out).mono ?_; rintro e w1 h; replace h := h.undrew; obtain ⟨a, n, c, rfl, h', hn0⟩ := h.sl; have HH := hid h'; have ha := HAp.out w1 h'.chg; obtain ⟨v1, d1⟩ := ha.words; have df1 := ha.free 1; clear ha h' h hn0)
  all_goals (go_wp2_with fail; go_meet; exact ⟨_, _, _, _, rfl, rfl, HH⟩)
 case rest =>
  obtain ⟨a, n, c, w1, rfl, rfl, HH⟩ := hcut
  have hc1 := HH.out.chg
  have ha := HAp.out w1 hc1
  have hax := HAx.out w1 hc1
  have hay := HAy.out w1 hc1
  have d2 := ha.neg' (.slice a n c)
  have d3 := ha.words' rfl (.slice a n c)
  have df2 := ha.free' (.slice a n c) 0
  have ex := hax.neg' (.slice a n c)
  have ey := hay.neg' (.slice a n c)
  have HR := hid (HF.out _ _ _ w1 HH.out)
  clear ha hax hay hc1
  by_cases h0 : 0 < n
  ·have hd : decide ((0 : Int) < (n : Int)) = true := decide_eq_true (by omega)
   go_wp2_with fail
   go_region
   all_goals (go_wp2_with fail; go_end0; exact HR.out.drew)
  ·have hd : decide ((0 : Int) < (n : Int)) = false := decide_eq_false (by omega)
   go_wp2_with fail
   go_region
   all_goals (go_wp2_with fail; go_end0; exact HR.out.drew)
theorem Int_Mul (p q r : Nat) (bo bq br : Option Nat) (x0 x y : Int) (w : World) (hp : IntAt w p bo x0) (hq : IntAt w q bq x) (hr : IntAt w r br y) (hne : q ≠ r) (hx : x < BP 30) (hy : y < BP 30)
  (hkt : w.cell? ⟨6, 0, none⟩ = some (.int .i64 40)) :
  Calls Tryz.prog 132 #[.pointer (some ⟨p, 0, none⟩), .pointer (some ⟨q, 0, none⟩), .pointer (some ⟨r, 0, none⟩)] w (PInt w p bo (x * y) (.pointer (some ⟨p, 0, none⟩))) := by
 have HM := hid (Int_mul p q r bo bq br x0 x y w hp hq hr hne hx hy hkt)
 go_enter Tryz.func132, Tryz.ntmps132
 go_wp2_with (go_at_call 153; refine HM.out.mono ?_; rintro e w1 ⟨rfl, h⟩; have HH := hid h; clear h)
 go_ret
 exact ⟨rfl, HH.out⟩
set_option maxHeartbeats 2000000 in
theorem Int_Add (p q r : Nat) (bo bq br : Option Nat) (x0 x y : Int) (w : World) (hp : IntAt w p bo x0) (hq : IntAt w q bq x) (hr : IntAt w r br y) (hx : x < BP 30) (hy : y < BP 30) :
  Calls Tryz.prog 124 #[.pointer (some ⟨p, 0, none⟩), .pointer (some ⟨q, 0, none⟩), .pointer (some ⟨r, 0, none⟩)] w (PInt w p bo (x + y) (.pointer (some ⟨p, 0, none⟩))) := by
 obtain ⟨v, ds, c0, c1, cf, hn, nn, hv⟩ := hp.fld
 obtain ⟨vx, xs, cx0, cx1, cxf, hnx, nx, rfl⟩ := hq.fld
 obtain ⟨vy, ys, cy0, cy1, cyf, hny, ny, rfl⟩ := hr.fld
 have HC := hid (fun (w1 : World) (h1 : NatAt w1 v bo ds) (h2 : NatAt w1 vx bq xs) (h3 : NatAt w1 vy br ys) => add_any v vx vy bo bq br ds xs ys w1 h1 h2 h3 nx ny (by have := len_bd h2.wds nx rfl hx; omega) (by have := len_bd h3.wds ny rfl hy; omega))
 have HN := hid hn; have HX := hid hnx; have HY := hid hny
 have HF := hid (fun a n c w1 (h : PNat w bo (val xs + val ys) (.returned (.slice a n c)) w1) => int_fin (ret := .pointer (some ⟨p, 0, none⟩)) hp h)
 have HAp := hid (fun w1 (h : Chg (fun k => bo = some k) w w1) => int_after hp hp h)
 clear cf hn nn hv cxf hnx cyf hny
 go_enter Tryz.func124, Tryz.ntmps124
 go_upto_region 2 with fail
 go_region
 all_goals skip
 go_upto_region 3 with fail
 go_cut [34] from 21 to 36 (fun x wx => ∃ (a : Option Addr) (n c : Nat) (w1 : World), x = .slice a n c ∧ wx = w1.setCell ⟨p, 1, none⟩ (.slice a n c) ∧ Hid (PNat w bo (val xs + val ys) (.returned (.slice a n c)) w1))
 case first =>
  go_region_with (go_at_call 144; refine (HC.out _ HN.out.drew.drew HX.out.drew.drew HY.out.drew.drew).mono ?_; rintro e w1 h; replace h := h.undrew.undrew; obtain ⟨a, n, c, rfl, h', hn0⟩ := h.sl; have HH := hid h'; have ha := HAp.out w1 h'.chg; obtain ⟨v1, d1⟩ := ha.words; have df1 := ha.free 1; clear ha h' h hn0)
  all_goals (go_wp2_with fail; go_meet; exact ⟨_, _, _, _, rfl, rfl, HH⟩)
 case rest =>
  obtain ⟨a, n, c, w1, rfl, rfl, HH⟩ := hcut
  have hc1 := HH.out.chg
  have ha := HAp.out w1 hc1
  have d2 := ha.neg' (.slice a n c)
  have d3 := ha.words' rfl (.slice a n c)
  have df2 := ha.free' (.slice a n c) 0
  have HR := hid (HF.out _ _ _ w1 HH.out)
  clear ha hc1
  by_cases h0 : 0 < n
  ·have hd : decide ((0 : Int) < (n : Int)) = true := decide_eq_true (by omega)
   go_wp2_with fail
   go_ret
   exact HR.out
  ·have hd : decide ((0 : Int) < (n : Int)) = false := decide_eq_false (by omega)
   go_wp2_with fail
   go_ret
   exact HR.out
theorem NatAt.heap {w w' : World} {v : Value} {bo : Option Nat} {ds : List Int} (h : NatAt w v bo ds) (e : w'.heap = w.heap) : NatAt w' v bo ds := by
 cases bo with
 | none => exact h
 | some b => obtain ⟨sp, hv, hr, h1, h2⟩ := h; exact ⟨sp, hv, ⟨by rw [e]; exact hr.1, hr.2⟩, h1, h2⟩
structure Alike (w w1 : World) : Prop where
 heap : w1.heap = w.heap
 os : w1.os = w.os
 tape : w1.tape = w.tape
 output : w1.output = w.output
theorem Chg.alike {S : Nat → Prop} {w w1 w' : World} (h : Chg S w1 w') (e : Alike w w1) : Chg S w w' :=
 ⟨h.os.trans e.os, h.tape.trans e.tape, h.output.trans e.output, by rw [← e.heap]; exact h.size, fun k hk hn => by rw [← e.heap] at hk ⊢; exact h.keep k hk hn⟩
theorem PNat.alike {w w1 w' : World} {bo : Option Nat} {X : Int} {e : Ending} (h : PNat w1 bo X e w') (k : Alike w w1) : PNat w bo X e w' := by
 obtain ⟨v, b, ds, h1, h2, h3, h4, h5, h6⟩ := h
 exact ⟨v, b, ds, h1, h2, h3, h4, by rw [← k.heap]; exact h5, h6.alike k⟩
theorem IntAt.alike {w w1 : World} {p : Nat} {bo : Option Nat} {x : Int} (h : IntAt w p bo x) (k : Alike w w1) : IntAt w1 p bo x := by
 obtain ⟨T, v, ds, h1, h2, h3, h4⟩ := h
 exact ⟨T, v, ds, by rw [k.heap]; exact h1, h2, h3.heap k.heap, h4⟩
theorem quiet_qk {P : Program} {f : FuncId} {args : Array Value} {w : World} {k n : Nat} {v : Value}
  (h : Calls P f args (w.drewN (k + n)) fun e w' => e = .returned v ∧ Q (w.drewN (k + n)) w') : Calls P f args (w.drewN (k + n)) fun e w'' => e = .returned v ∧ ∃ m, w'' = w.drewN (k + m) :=
 h.mono fun _ _ ⟨he, m, hm⟩ => ⟨he, n + m, by rw [hm, World.drewN_drewN, Nat.add_assoc]⟩
theorem cmpI_ge {x y : Int} (h : y ≤ x) : 0 ≤ cmpI x y := by unfold cmpI; split <;> (try split) <;> omega
set_option maxHeartbeats 2000000 in
theorem Int_Sub (p q r : Nat) (bo bq br : Option Nat) (x0 x y : Int) (w : World) (hp : IntAt w p bo x0) (hq : IntAt w q bq x) (hr : IntAt w r br y) (hx : x < BP 30) (hy : y ≤ x) :
  Calls Tryz.prog 147 #[.pointer (some ⟨p, 0, none⟩), .pointer (some ⟨q, 0, none⟩), .pointer (some ⟨r, 0, none⟩)] w (PInt w p bo (x - y) (.pointer (some ⟨p, 0, none⟩))) := by
 obtain ⟨v, ds, c0, c1, cf, hn, nn, hv⟩ := hp.fld
 obtain ⟨vx, xs, cx0, cx1, cxf, hnx, nx, rfl⟩ := hq.fld
 obtain ⟨vy, ys, cy0, cy1, cyf, hny, ny, rfl⟩ := hr.fld
 have HC := hid (fun (w1 : World) (h1 : NatAt w1 v bo ds) (h2 : NatAt w1 vx bq xs) (h3 : NatAt w1 vy br ys) => sub_any v vx vy bo bq br ds xs ys w1 h1 h2 h3 nx ny hy (by have := len_bd h2.wds nx rfl hx; omega))
 have hcmp := fun (w1 : World) (h2 : NatAt w1 vx bq xs) (h3 : NatAt w1 vy br ys) => cmp_any vx vy bq br xs ys w1 h2 h3 nx ny
 have hge := cmpI_ge hy
 generalize cmpI (val xs) (val ys) = k at *
 have HM := hid hcmp
 have HN := hid hn; have HX := hid hnx; have HY := hid hny
 have HF := hid (fun a n c w1 (h : PNat w bo (val xs - val ys) (.returned (.slice a n c)) w1) => int_fin (ret := .pointer (some ⟨p, 0, none⟩)) hp h)
 have HAp := hid (fun w1 (h : Chg (fun k => bo = some k) w w1) => int_after hp hp h)
 clear cf hn nn hv cxf hnx cyf hny hcmp
 have hbb : (false != false) = false := rfl
 go_enter Tryz.func147, Tryz.ntmps147
 go_upto_region 2 with fail
 go_region
 go_upto_region 4 with fail
 go_quiet ((go_at_call 145; exact quiet_qk (HM.out _ (by exact HX.out.heap rfl) (by exact HY.out.heap rfl))))
 go_upto_region 5 with fail
 go_cut [60] from 47 to 62 (fun x wx => ∃ (a : Option Addr) (n c : Nat) (w1 : World), x = .slice a n c ∧ wx = w1.setCell ⟨p, 1, none⟩ (.slice a n c) ∧ Hid (PNat w bo (val xs - val ys) (.returned (.slice a n c)) w1))
 case first =>
  go_region_with (go_at_call 146; refine (HC.out _ (by exact HN.out.heap rfl) (by exact HX.out.heap rfl) (by exact HY.out.heap rfl)).mono ?_; rintro e w1 h; replace h : PNat w bo _ _ _ := h.alike ⟨rfl, rfl, rfl, rfl⟩; obtain ⟨a, n, c, rfl, h', hn0⟩ := h.sl; have HH := hid h'; have ha := HAp.out w1 h'.chg; obtain ⟨v1, d1⟩ := ha.words; have df1 := ha.free 1; clear ha h' h hn0)
  all_goals (go_wp2_with fail; go_meet; exact ⟨_, _, _, _, rfl, rfl, HH⟩)
 case rest =>
  obtain ⟨a, n, c, w1, rfl, rfl, HH⟩ := hcut
  have hc1 := HH.out.chg
  have ha := HAp.out w1 hc1
  have d2 := ha.neg' (.slice a n c)
  have d3 := ha.words' rfl (.slice a n c)
  have df2 := ha.free' (.slice a n c) 0
  have HR := hid (HF.out _ _ _ w1 HH.out)
  clear ha hc1
  by_cases h0 : 0 < n
  ·have hd : decide ((0 : Int) < (n : Int)) = true := decide_eq_true (by omega)
   go_wp2_with fail
   go_ret
   exact HR.out
  ·have hd : decide ((0 : Int) < (n : Int)) = false := decide_eq_false (by omega)
   go_wp2_with fail
   go_ret
   exact HR.out
def StkAt (w : World) (s : Nat) : Prop := w.cell? ⟨s, 0, none⟩ = some (.pointer none) ∧ s < w.heap.size
theorem StkAt.kept {S : Nat → Prop} {w w' : World} {s : Nat} (h : StkAt w s) (hc : Chg S w w') (hs : ¬ S s) : StkAt w' s := by
 refine ⟨?_, by have := hc.size; have := h.2; omega⟩
 have := hc.keep s h.2 hs
 have h1 := h.1
 unfold World.cell? at h1 ⊢
 rw [this]; exact h1
theorem StkAt.drewN {w : World} {s : Nat} (h : StkAt w s) (n : Nat) : StkAt (w.drewN n) s := h
def PStk (w : World) (e : Ending) (w' : World) : Prop := ∃ s, e = .returned (.pointer (some ⟨s, 0, none⟩)) ∧ StkAt w' s ∧ w.heap.size ≤ s ∧ Chg (fun _ => False) w w'
theorem getStack_any (w : World) : Calls Tryz.prog 184 #[] w (PStk w) := by
 go_enter Tryz.func184, Tryz.ntmps184
 go_wp2
 go_ret
 refine ⟨w.heap.size, rfl, ⟨?_, by simp⟩, Nat.le_refl _, (Chg.refl _ _).alloc _⟩
 simp [World.cell?_alloc_new]
theorem save_any (s : Nat) (w : World) (h : StkAt w s) : Calls Tryz.prog 191 #[.pointer (some ⟨s, 0, none⟩)] w (fun e w' => e = .returned (.int .i64 0) ∧ w = w') := by
 have hc := h.1
 go_enter Tryz.func191, Tryz.ntmps191
 go_wp2
 go_ret
 exact ⟨rfl, rfl⟩
def PRow (w : World) (n : Nat) (k : Nat) (e : Ending) (w' : World) : Prop :=
 ∃ (b : Nat) (xs : List Int), e = .returned (.slice (some ⟨b, 0, none⟩) k xs.length) ∧ Row w' b xs ∧ n ≤ xs.length ∧ 1 ≤ xs.length ∧ xs.length ≤ 9223372036854775807 ∧ w.heap.size ≤ b ∧ Chg (fun _ => False) w w'
theorem zeroCells_words (n : Nat) : Builtin.zeroCells (Value.int .u64 0).cells n = (List.replicate n (Value.int .u64 0)).toArray := by
 apply Array.toList_inj.1
 simp only [Builtin.zeroCells, Value.cells]
 apply List.ext_getElem
 ·simp
 ·intro i h1 h2
  simp [Nat.mod_one]
theorem grow_any (n : Nat) (w : World) (hn1 : 1 ≤ n) (hn : n ≤ 1000000) :
  Calls Tryz.prog 211 #[.slice none 0 0, .int .i64 n] w (PRow w n 0) := by
 have happ := fun w => Lib.run_append_nil_zeros (P := Tryz.prog) w 125 3 125 146 wordInfo (.int .u64 0) .i64 .i64 Tryz.underlying125 Tryz.underlying3 info_word word_zero n (by omega) (by rw [word_size]; omega) (by omega) (by rw [word_bytes]; omega)
 have hge : ∀ w, n ≤ grownCap w n 0 146 := fun w => grownCap_ge w _ 0 _
 have hle : ∀ w, grownCap w n 0 146 ≤ maxLen := fun w => grownCap_le_maxLen w _ 0 _ (by unfold maxLen; omega)
 have hz : ∀ w, Builtin.zeroCells (Value.int .u64 0).cells n ++ Builtin.zeroCells (Value.int .u64 0).cells (grownCap w n 0 146 - n) = (List.replicate (grownCap w n 0 146) (Value.int .u64 0)).toArray := by
  intro w
  rw [zeroCells_words, zeroCells_words]
  apply Array.toList_inj.1
  rw [Array.toList_append]
  show List.replicate _ _ ++ List.replicate _ _ = List.replicate _ _
  rw [List.replicate_append_replicate, show n + (grownCap w n 0 146 - n) = grownCap w n 0 146 by have := hge w; omega]
 simp only [hz] at happ
 have hfin : ∀ w, PRow w n 0 (.returned (.slice (some ⟨w.heap.size, 0, none⟩) 0 (grownCap w n 0 146))) (w.drew.alloc (.cells (List.replicate (grownCap w n 0 146) (Value.int .u64 0)).toArray 146)) := by
  intro w
  have h1 := hge w
  have h2 := hle w
  unfold maxLen at h2
  exact ⟨w.heap.size, List.replicate (grownCap w n 0 146) 0, by simp, row_new w.drew _, by simpa using h1, by simp; omega, by simp; omega, Nat.le_refl _, ((Chg.refl _ _).drew).alloc _⟩
 have hfin := hfin w
 have HFIN := hid hfin
 have happ := happ w
 clear hfin hz hge hle
 have hpos : (0 : Int) < (n : Int) := by omega
 generalize grownCap w n 0 146 = cap at *
 have HA := hid happ
 clear happ
 go_enter Tryz.func211, Tryz.ntmps211
 go_wp2_with (at_builtin; refine Lib.wpList_append_run _ rfl _ _ _ _ rfl _ _ rfl rfl _ _ HA.out ?_)
 go_ret
 exact HFIN.out
theorem stkNat_any (s n : Nat) (w : World) (h : StkAt w s) (hn1 : 1 ≤ n) (hn : n ≤ 4) :
  Calls Tryz.prog 192 #[.pointer (some ⟨s, 0, none⟩), .int .i64 n] w (PRow w n n) := by
 have hc := h.1
 have hg := fun w => grow_any n w hn1 (by omega)
 have HG := hid hg
 have hle : (n : Int) ≤ 4 := by omega
 have hpos : (0 : Int) < (n : Int) := by omega
 have hposn : 0 < n := hn1
 clear hg h
 go_enter Tryz.func192, Tryz.ntmps192
 go_wp2_with (go_at_call 211; refine (HG.out _).mono ?_; rintro e w1 ⟨b, xs, rfl, hr, h1, h2, h3, h4, h5⟩; have hcell := hr.cell (i := 0) (by omega); have hfree := hr.free 0; have hln : ((n : Int) ≤ (xs.length : Int)) := by omega)
 go_ret
 have hs := hr.set 0 (v := 11259375) ⟨by omega, by omega⟩
 exact ⟨b, xs.set 0 11259375, by simp, hs, by simp; omega, by simp; omega, by simp; omega, h4, h5.setCell (fun hb => absurd hb (by have := h4; simp; omega)) _⟩
theorem Int_Cmp (q r : Nat) (bq br : Option Nat) (x y : Int) (w : World) (hq : IntAt w q bq x) (hr : IntAt w r br y) (hne : q ≠ r) :
  Calls Tryz.prog 125 #[.pointer (some ⟨q, 0, none⟩), .pointer (some ⟨r, 0, none⟩)] w (fun e w' => e = .returned (.int .i64 (cmpI x y)) ∧ Q w w') := by
 have hpe := pint_eql_other hq hr hne
 obtain ⟨vx, xs, cx0, cx1, cxf, hnx, nx, rfl⟩ := hq.fld
 obtain ⟨vy, ys, cy0, cy1, cyf, hny, ny, rfl⟩ := hr.fld
 have hcmp := fun (w1 : World) (h2 : NatAt w1 vx bq xs) (h3 : NatAt w1 vy br ys) => cmp_any vx vy bq br xs ys w1 h2 h3 nx ny
 generalize cmpI (val xs) (val ys) = k at *
 have HM := hid hcmp; have HX := hid hnx; have HY := hid hny
 clear cxf hnx cyf hny hcmp
 go_enter Tryz.func125, Tryz.ntmps125
 go_upto_region 3 with fail
 go_region
 go_upto_region 4 with fail
 go_quiet ((go_at_call 145; exact quiet_qk (HM.out _ (by exact HX.out.heap rfl) (by exact HY.out.heap rfl))))
 go_wp2_with fail
 go_ret
 exact ⟨rfl, by first | exact ⟨_, rfl⟩ | exact (⟨_, by simp [World.drewN_drewN]; rfl⟩)⟩
theorem Int_Uint64 (q : Nat) (bq : Option Nat) (x : Int) (w : World) (hq : IntAt w q bq x) (hx : Wd x) :
  Calls Tryz.prog 151 #[.pointer (some ⟨q, 0, none⟩)] w (fun e w' => e = .returned (.int .u64 x) ∧ w = w') := by
 obtain ⟨vx, xs, cx0, cx1, cxf, hnx, nx, rfl⟩ := hq.fld
 have hl : ∀ w, NatAt w vx bq xs → Calls Tryz.prog 168 #[vx] w (fun e w' => e = .returned (.int .u64 (val xs)) ∧ w = w') := by
  intro w hn
  cases xs with
  | nil =>
   obtain ⟨a, c, rfl⟩ := hn.len
   simp only [List.length_nil, val]
   clear hnx hx hn
   go_enter Tryz.func168, Tryz.ntmps168
   go_wp2_with fail
   go_ret
   exact ⟨rfl, rfl⟩
  | cons y t =>
   obtain ⟨b, rfl⟩ := hn.ne_nil (by simp)
   obtain ⟨sp, rfl, hr, h1, h2⟩ := hn
   have ht : val t = 0 := by
    have h0 := val_nonneg hr.2.left.tail
    have := hx.2; have := hr.2.left.head.1
    rw [val_cons] at *
    omega
   have hv : val (y :: t) = y := by rw [val_cons, ht]; omega
   have hcell := hr.cell (i := 0) (by simp)
   simp only [List.cons_append, List.getD_cons_zero] at hcell
   rw [hv]
   have hb : ((t.length + 1 : Nat) : Int) = (t.length : Int) + 1 := by omega
   have hne : (((t.length : Int) + 1) == 0) = false := beq_eq_false_iff_ne.2 (by omega)
   have hlt : (0 : Int) < (t.length : Int) + 1 := by omega
   obtain ⟨hw0, hw1⟩ := hr.2.left.head
   clear hnx hx hr hv ht nx hq
   simp only [List.length_cons]
   generalize t.length = k at *
   go_enter Tryz.func168, Tryz.ntmps168
   go_wp2_with fail
   go_ret
   exact ⟨rfl, rfl⟩
 have HL := hid hl; have HX := hid hnx
 clear hl hnx cxf
 go_enter Tryz.func151, Tryz.ntmps151
 go_wp2_with (go_at_call 168; refine (HL.out _ HX.out).mono ?_; rintro e w1 ⟨rfl, rfl⟩)
 go_ret
 exact ⟨rfl, rfl⟩
theorem Int_Sign (q : Nat) (bq : Option Nat) (x : Int) (w : World) (hq : IntAt w q bq x) :
  Calls Tryz.prog 154 #[.pointer (some ⟨q, 0, none⟩)] w (fun e w' => e = .returned (.int .i64 (if x = 0 then 0 else 1)) ∧ w = w') := by
 obtain ⟨vx, xs, cx0, cx1, cxf, hnx, nx, rfl⟩ := hq.fld
 obtain ⟨a, c, rfl⟩ := hnx.len
 have hz : xs.length = 0 ↔ val xs = 0 := ⟨fun h => by rw [List.length_eq_zero_iff.1 h]; rfl, fun h => by rw [val_zero_nrm hnx.wds nx h]; rfl⟩
 clear hnx
 generalize val xs = X at *
 generalize xs.length = n at *
 by_cases h0 : n = 0
 ·subst h0
  rw [if_pos (hz.1 rfl)]
  have hb : (((0 : Nat) : Int) == 0) = true := rfl
  clear hz
  go_enter Tryz.func154, Tryz.ntmps154
  go_wp2_with fail
  go_ret
  exact ⟨rfl, rfl⟩
 ·rw [if_neg (fun h => h0 (hz.2 h))]
  have hb : ((n : Int) == 0) = false := beq_eq_false_iff_ne.2 (by omega)
  clear hz
  go_enter Tryz.func154, Tryz.ntmps154
  go_wp2_with fail
  go_ret
  exact ⟨rfl, rfl⟩
set_option maxHeartbeats 2000000 in
theorem Int_Lsh (p q s : Nat) (bo bq : Option Nat) (x0 x : Int) (w : World) (hp : IntAt w p bo x0) (hq : IntAt w q bq x) (hx : x < BP 30) (hs1 : 1 ≤ s) (hs2 : s ≤ 63) :
  Calls Tryz.prog 166 #[.pointer (some ⟨p, 0, none⟩), .pointer (some ⟨q, 0, none⟩), .int .u64 s] w (PInt w p bo (x * 2 ^ s) (.pointer (some ⟨p, 0, none⟩))) := by
 obtain ⟨v, ds, c0, c1, cf, hn, nn, hv⟩ := hp.fld
 obtain ⟨vx, xs, cx0, cx1, cxf, hnx, nx, rfl⟩ := hq.fld
 have HC := hid (fun (w1 : World) (h1 : NatAt w1 v bo ds) (h2 : NatAt w1 vx bq xs) => lsh_any v vx bo bq ds xs s w1 h1 h2 hs1 hs2 (by have := len_bd h2.wds nx rfl hx; omega))
 have HN := hid hn; have HX := hid hnx
 have HF := hid (fun a n c w1 (h : PNat w bo (val xs * 2 ^ s) (.returned (.slice a n c)) w1) => int_fin (ret := .pointer (some ⟨p, 0, none⟩)) hp h)
 have HAp := hid (fun w1 (h : Chg (fun k => bo = some k) w w1) => int_after hp hp h)
 have HAx := hid (fun w1 (h : Chg (fun k => bo = some k) w w1) => int_after hp hq h)
 clear cf hn nn hv cxf hnx
 go_enter Tryz.func166, Tryz.ntmps166
 go_upto_region 1 with fail
 go_cut [17] from 7 to 19 (fun x wx => ∃ (a : Option Addr) (n c : Nat) (w1 : World), x = .slice a n c ∧ wx = w1.setCell ⟨p, 1, none⟩ (.slice a n c) ∧ Hid (PNat w bo (val xs * 2 ^ s) (.returned (.slice a n c)) w1))
 case first =>
  go_region_with (go_at_call 178; refine (HC.out _ (by exact HN.out.heap rfl) (by exact HX.out.heap rfl)).mono ?_; rintro e w1 h; replace h : PNat w bo _ _ _ := h.alike ⟨rfl, rfl, rfl, rfl⟩; obtain ⟨a, n, c, rfl, h', hn0⟩ := h.sl; have HH := hid h'; have ha := HAp.out w1 h'.chg; obtain ⟨v1, d1⟩ := ha.words; have df1 := ha.free 1; clear ha h' h hn0)
  all_goals (go_wp2_with fail; go_meet; exact ⟨_, _, _, _, rfl, rfl, HH⟩)
 case rest =>
  obtain ⟨a, n, c, w1, rfl, rfl, HH⟩ := hcut
  have hc1 := HH.out.chg
  have ha := HAp.out w1 hc1
  have hax := HAx.out w1 hc1
  have d2 := ha.neg' (.slice a n c)
  have df2 := ha.free' (.slice a n c) 0
  have ex := hax.neg' (.slice a n c)
  have HR := hid (HF.out _ _ _ w1 HH.out)
  clear ha hax hc1
  go_wp2_with fail
  go_ret
  exact HR.out
theorem and1 (x : Int) (hx : Wd x) : bits .and .u64 x 1 = x % 2 :=
 bits_mask .u64 64 (by decide) (fun n h0 h1 => IntWalk.u64_in n ⟨h0, by omega⟩) 1 (by decide) x hx.1 hx.2
theorem Int_Bit0 (q : Nat) (bq : Option Nat) (x : Int) (w : World) (hq : IntAt w q bq x) :
  Calls Tryz.prog 167 #[.pointer (some ⟨q, 0, none⟩), .int .i64 0] w (fun e w' => e = .returned (.int .u64 (x % 2)) ∧ w = w') := by
 obtain ⟨vx, xs, cx0, cx1, cxf, hnx, nx, rfl⟩ := hq.fld
 have hb0 : ((0 : Int) == 0) = true := rfl
 cases xs with
 | nil =>
  obtain ⟨a, c, rfl⟩ := hnx.len
  simp only [List.length_nil, val] at *
  clear hnx
  have hd : decide ((0 : Int) < ((0 : Nat) : Int)) = false := rfl
  go_enter Tryz.func167, Tryz.ntmps167
  go_wp2_with fail
  go_ret
  exact ⟨rfl, rfl⟩
 | cons y t =>
  obtain ⟨b, rfl⟩ := hnx.ne_nil (by simp)
  obtain ⟨sp, rfl, hr, h1, h2⟩ := hnx
  have hv : val (y :: t) % 2 = y % 2 := by rw [val_cons]; omega
  have hcell := hr.cell (i := 0) (by simp)
  simp only [List.cons_append, List.getD_cons_zero] at hcell
  rw [hv]
  have hlt : (0 : Int) < ((t.length + 1 : Nat) : Int) := by omega
  have hand := and1 y hr.2.left.head
  obtain ⟨hw0, hw1⟩ := hr.2.left.head
  clear hr hv nx hq
  simp only [List.length_cons] at *
  generalize t.length = k at *
  go_enter Tryz.func167, Tryz.ntmps167
  go_wp2_with fail
  go_ret
  exact ⟨by rw [← hand]; rfl, rfl⟩
theorem pint_neq_other {w : World} {p q : Nat} {bo bq : Option Nat} {x y : Int} (hp : IntAt w p bo x) (hq : IntAt w q bq y) (hne : p ≠ q) :
  (binOp .neq 123 (.pointer (some ⟨p, 0, none⟩)) (.pointer (some ⟨q, 0, none⟩))).run Tryz.prog w = .ok (.bool true) w := by
 obtain ⟨c1, T1, h1⟩ := hp.obj
 obtain ⟨c2, T2, h2⟩ := hq.obj
 have h : ∀ d : Nat, (Op.equalIn (d + 1) 123 (.pointer (some ⟨p, 0, none⟩)) (.pointer (some ⟨q, 0, none⟩))).run Tryz.prog w = .ok false w := fun d => by
  simp [Op.equalIn, run_underlying Tryz.underlying123, sizeOf, typeInfo, info_int, int_size, run_sameAddr_other w (a := ⟨p, 0, none⟩) (b := ⟨q, 0, none⟩) (fun e => hne (Addr.mk.inj e).1) h1 h2]
 simp only [binOp]
 simp [Op.equal, Op.maxDepth, h 9999]
set_option maxHeartbeats 2000000 in
theorem Int_Set (p q : Nat) (bo bq : Option Nat) (x0 x : Int) (w : World) (hp : IntAt w p bo x0) (hq : IntAt w q bq x) (hne : p ≠ q) (hx : x < BP 30) :
  Calls Tryz.prog 152 #[.pointer (some ⟨p, 0, none⟩), .pointer (some ⟨q, 0, none⟩)] w (PInt w p bo x (.pointer (some ⟨p, 0, none⟩))) := by
 have hpe := pint_neq_other hp hq hne
 obtain ⟨v, ds, c0, c1, cf, hn, nn, hv⟩ := hp.fld
 obtain ⟨vx, xs, cx0, cx1, cxf, hnx, nx, rfl⟩ := hq.fld
 have HC := hid (fun (w1 : World) (h1 : NatAt w1 v bo ds) (h2 : NatAt w1 vx bq xs) => set_any v vx bo bq ds xs w1 h1 h2 nx (by have := len_bd h2.wds nx rfl hx; omega))
 have HN := hid hn; have HX := hid hnx
 have HF := hid (fun a n c w1 (h : PNat w bo (val xs) (.returned (.slice a n c)) w1) => int_fin (ret := .pointer (some ⟨p, 0, none⟩)) hp h)
 have HAp := hid (fun w1 (h : Chg (fun k => bo = some k) w w1) => int_after hp hp h)
 have HAx := hid (fun w1 (h : Chg (fun k => bo = some k) w w1) => int_after hp hq h)
 clear cf hn nn hv cxf hnx
 go_enter Tryz.func152, Tryz.ntmps152
 go_upto_region 2 with fail
 go_cut [17] from 8 to 19 (fun x wx => ∃ (a : Option Addr) (n c : Nat) (w1 : World), x = .slice a n c ∧ wx = w1.setCell ⟨p, 1, none⟩ (.slice a n c) ∧ Hid (PNat w bo (val xs) (.returned (.slice a n c)) w1))
 case first =>
  go_region_with (go_at_call 160; refine (HC.out _ (by exact HN.out.heap rfl) (by exact HX.out.heap rfl)).mono ?_; rintro e w1 h; replace h : PNat w bo _ _ _ := h.alike ⟨rfl, rfl, rfl, rfl⟩; obtain ⟨a, n, c, rfl, h', hn0⟩ := h.sl; have HH := hid h'; have ha := HAp.out w1 h'.chg; obtain ⟨v1, d1⟩ := ha.words; have df1 := ha.free 1; clear ha h' h hn0)
  all_goals (go_wp2_with fail; go_meet; exact ⟨_, _, _, _, rfl, rfl, HH⟩)
 case rest =>
  obtain ⟨a, n, c, w1, rfl, rfl, HH⟩ := hcut
  have hc1 := HH.out.chg
  have ha := HAp.out w1 hc1
  have hax := HAx.out w1 hc1
  have d2 := ha.neg' (.slice a n c)
  have df2 := ha.free' (.slice a n c) 0
  have ex := hax.neg' (.slice a n c)
  have HR := hid (HF.out _ _ _ w1 HH.out)
  clear ha hax hc1
  go_wp2_with fail
  go_ret
  exact HR.out
structure Dig (a b c v1 v2 P Vl Dl V D : Int) : Prop where
 hP : 0 < P
 eV : V = (v1 * 18446744073709551616 + v2) * P + Vl
 eD : D = (a * 18446744073709551616 * 18446744073709551616 + b * 18446744073709551616 + c) * P + Dl
 hVl : 0 ≤ Vl
 hVl' : Vl < P
 hDl : 0 ≤ Dl
 hDl' : Dl < P
 wa : Wd a
 wb : Wd b
 wc : Wd c
 wv1 : Wd v1
 wv2 : Wd v2
 norm : 9223372036854775808 ≤ v1
 lt : D < V * 18446744073709551616
theorem Dig.vpos {a b c v1 v2 P Vl Dl V D : Int} (h : Dig a b c v1 v2 P Vl Dl V D) : 18446744073709551616 * P ≤ V ∧ 0 < V := by
 obtain ⟨hP, eV, eD, hVl, hVl', hDl, hDl', wa, wb, wc, wv1, wv2, norm, lt⟩ := h
 have : 18446744073709551616 * P ≤ (v1 * 18446744073709551616 + v2) * P := Int.mul_le_mul_of_nonneg_right (by have := wv2.1; omega) (by omega)
 exact ⟨by omega, by omega⟩
theorem Dig.dpos {a b c v1 v2 P Vl Dl V D : Int} (h : Dig a b c v1 v2 P Vl Dl V D) : 0 ≤ D := by
 obtain ⟨hP, eV, eD, hVl, hVl', hDl, hDl', wa, wb, wc, wv1, wv2, norm, lt⟩ := h
 have : 0 ≤ (a * 18446744073709551616 * 18446744073709551616 + b * 18446744073709551616 + c) * P := Int.mul_nonneg (by have := wa.1; have := wb.1; have := wc.1; omega) (by omega)
 omega
theorem Dig.q_bd {a b c v1 v2 P Vl Dl V D : Int} (h : Dig a b c v1 v2 P Vl Dl V D) : 0 ≤ D / V ∧ D / V < 18446744073709551616 := by
 have hv := h.vpos
 exact ⟨Int.ediv_nonneg h.dpos (by omega), Int.ediv_lt_of_lt_mul (by omega) (by rw [Int.mul_comm]; exact h.lt)⟩
theorem Dig.a_le {a b c v1 v2 P Vl Dl V D : Int} (h : Dig a b c v1 v2 P Vl Dl V D) : a ≤ v1 := by
 obtain ⟨hP, eV, eD, hVl, hVl', hDl, hDl', wa, wb, wc, wv1, wv2, norm, lt⟩ := h
 by_cases k : a ≤ v1
 ·exact k
 ·exfalso
  have h1 : (v1 + 1) * 18446744073709551616 * 18446744073709551616 * P ≤ (a * 18446744073709551616 * 18446744073709551616 + b * 18446744073709551616 + c) * P :=
   Int.mul_le_mul_of_nonneg_right (by have := wb.1; have := wc.1; omega) (by omega)
  have h2 : (v1 * 18446744073709551616 + v2) * P ≤ (v1 * 18446744073709551616 + 18446744073709551615) * P := Int.mul_le_mul_of_nonneg_right (by have := wv2.2; omega) (by omega)
  have e1 : (v1 + 1) * 18446744073709551616 * 18446744073709551616 * P = (v1 * P) * (18446744073709551616 * 18446744073709551616) + P * (18446744073709551616 * 18446744073709551616) := by
   rw [Int.add_mul, Int.add_mul, Int.add_mul, Int.mul_right_comm (v1 * 18446744073709551616), Int.mul_right_comm v1]; omega
  have e2 : (v1 * 18446744073709551616 + 18446744073709551615) * P = (v1 * P) * 18446744073709551616 + 18446744073709551615 * P := by
   rw [Int.add_mul, Int.mul_right_comm]
  generalize v1 * P = vp at *
  generalize (v1 * 18446744073709551616 + v2) * P = x at *
  generalize (a * 18446744073709551616 * 18446744073709551616 + b * 18446744073709551616 + c) * P = y at *
  omega
theorem Dig.start {a b c v1 v2 P Vl Dl V D : Int} (h : Dig a b c v1 v2 P Vl Dl V D) : D / V ≤ (a * 18446744073709551616 + b) / v1 := by
 have hv := h.vpos
 obtain ⟨hP, eV, eD, hVl, hVl', hDl, hDl', wa, wb, wc, wv1, wv2, norm, lt⟩ := h
 have hlt : D / V < (a * 18446744073709551616 + b) / v1 + 1 := by
  apply Int.ediv_lt_of_lt_mul (by omega)
  have e := Int.mul_ediv_add_emod (a * 18446744073709551616 + b) v1
  have m1 := Int.emod_lt_of_pos (a * 18446744073709551616 + b) (show 0 < v1 by omega)
  have q0 : 0 ≤ (a * 18446744073709551616 + b) / v1 := Int.ediv_nonneg (by have := wa.1; have := wb.1; omega) (by omega)
  generalize (a * 18446744073709551616 + b) / v1 = q at *
  generalize (a * 18446744073709551616 + b) % v1 = r at *
  rw [eV, eD]
  have h1 : (a * 18446744073709551616 + b + 1) * 18446744073709551616 * P ≤ ((q + 1) * v1 * 18446744073709551616) * P := by
   apply Int.mul_le_mul_of_nonneg_right _ (by omega)
   have ex : (q + 1) * v1 = q * v1 + v1 := by rw [Int.add_mul, Int.one_mul]
   rw [Int.mul_comm v1 q] at e
   rw [ex]
   omega
  have h2 : (a * 18446744073709551616 * 18446744073709551616 + b * 18446744073709551616 + c) * P ≤ (a * 18446744073709551616 * 18446744073709551616 + b * 18446744073709551616 + 18446744073709551615) * P :=
   Int.mul_le_mul_of_nonneg_right (by have := wc.2; omega) (by omega)
  have e1 : (a * 18446744073709551616 + b + 1) * 18446744073709551616 * P = (a * 18446744073709551616 * 18446744073709551616 + b * 18446744073709551616 + 18446744073709551615) * P + P := by
   rw [show (a * 18446744073709551616 + b + 1) * 18446744073709551616 = (a * 18446744073709551616 * 18446744073709551616 + b * 18446744073709551616 + 18446744073709551615) + 1 by omega, Int.add_mul, Int.one_mul]
  have e2 : (q + 1) * ((v1 * 18446744073709551616 + v2) * P + Vl) = ((q + 1) * v1 * 18446744073709551616) * P + ((q + 1) * (v2 * P) + (q + 1) * Vl) := by
   rw [Int.add_mul (v1 * 18446744073709551616), Int.mul_add (q + 1), Int.mul_add (q + 1), Int.mul_assoc, Int.mul_assoc (q + 1) v1, Int.mul_assoc (q + 1) (v1 * 18446744073709551616), Int.add_assoc]
   rw [Int.mul_assoc v1]
  have h3 : 0 ≤ (q + 1) * (v2 * P) := Int.mul_nonneg (by omega) (Int.mul_nonneg wv2.1 (by omega))
  have h4 : 0 ≤ (q + 1) * Vl := Int.mul_nonneg (by omega) hVl
  rw [e2]
  omega
 omega
theorem Dig.le {a b c v1 v2 P Vl Dl V D q : Int} (h : Dig a b c v1 v2 P Vl Dl V D) (h0 : 0 ≤ q) (h1 : q < 18446744073709551616)
  (hq : q * (v1 * 18446744073709551616 + v2) ≤ a * 18446744073709551616 * 18446744073709551616 + b * 18446744073709551616 + c) : q ≤ D / V + 1 := by
 have hv := h.vpos
 obtain ⟨hP, eV, eD, hVl, hVl', hDl, hDl', wa, wb, wc, wv1, wv2, norm, lt⟩ := h
 have : q - 1 ≤ D / V := by
  rw [Int.le_ediv_iff_mul_le (by omega), Int.sub_mul, Int.one_mul]
  have k1 := Int.mul_le_mul_of_nonneg_right hq (show 0 ≤ P by omega)
  have k2 : q * Vl ≤ 18446744073709551616 * P := by
   have := Int.mul_le_mul_of_nonneg_left (show Vl ≤ P by omega) h0
   have := Int.mul_le_mul_of_nonneg_right (show q ≤ 18446744073709551616 by omega) (show 0 ≤ P by omega)
   omega
  have e : q * V = q * (v1 * 18446744073709551616 + v2) * P + q * Vl := by rw [eV, Int.mul_add, Int.mul_assoc]
  omega
 omega
theorem Dig.gt {a b c v1 v2 P Vl Dl V D q : Int} (h : Dig a b c v1 v2 P Vl Dl V D) (h0 : 0 ≤ q)
  (hq : a * 18446744073709551616 * 18446744073709551616 + b * 18446744073709551616 + c < q * (v1 * 18446744073709551616 + v2)) : D / V < q := by
 have hv := h.vpos
 obtain ⟨hP, eV, eD, hVl, hVl', hDl, hDl', wa, wb, wc, wv1, wv2, norm, lt⟩ := h
 apply Int.ediv_lt_of_lt_mul (by omega)
 have k1 := Int.mul_le_mul_of_nonneg_right (show a * 18446744073709551616 * 18446744073709551616 + b * 18446744073709551616 + c + 1 ≤ q * (v1 * 18446744073709551616 + v2) by omega) (show 0 ≤ P by omega)
 rw [Int.add_mul, Int.one_mul] at k1
 have k2 : 0 ≤ q * Vl := Int.mul_nonneg h0 hVl
 have e : q * V = q * (v1 * 18446744073709551616 + v2) * P + q * Vl := by rw [eV, Int.mul_add, Int.mul_assoc]
 omega
theorem Dig.test {a b c v1 v2 P Vl Dl V D q r : Int} (h : Dig a b c v1 v2 P Vl Dl V D) (e : q * v1 + r = a * 18446744073709551616 + b) :
  (q * v2 ≤ r * 18446744073709551616 + c ↔ q * (v1 * 18446744073709551616 + v2) ≤ a * 18446744073709551616 * 18446744073709551616 + b * 18446744073709551616 + c) := by
 have e2 : q * (v1 * 18446744073709551616 + v2) = q * v1 * 18446744073709551616 + q * v2 := by rw [Int.mul_add, ← Int.mul_assoc]
 rw [e2]
 generalize q * v1 = x at *
 generalize q * v2 = y at *
 omega
theorem Dig.good {a b c v1 v2 P Vl Dl V D q r : Int} (h : Dig a b c v1 v2 P Vl Dl V D) (e : q * v1 + r = a * 18446744073709551616 + b) (hq : Wd q) (ht : q * v2 ≤ r * 18446744073709551616 + c) : q ≤ D / V + 1 :=
 h.le hq.1 hq.2 ((h.test e).1 ht)
theorem Dig.bad {a b c v1 v2 P Vl Dl V D q r : Int} (h : Dig a b c v1 v2 P Vl Dl V D) (e : q * v1 + r = a * 18446744073709551616 + b) (hq : Wd q) (ht : r * 18446744073709551616 + c < q * v2) : D / V < q := by
 apply h.gt hq.1
 have := h.test e
 omega
theorem Dig.brk {a b c v1 v2 P Vl Dl V D q r : Int} (h : Dig a b c v1 v2 P Vl Dl V D) (e : q * v1 + r = a * 18446744073709551616 + b) (hq : Wd q) (hr : 18446744073709551616 ≤ r) : q ≤ D / V + 1 := by
 apply h.good e hq
 have h1 := Int.mul_le_mul (show q ≤ 18446744073709551615 by have := hq.2; omega) (show v2 ≤ 18446744073709551615 by have := h.wv2.2; omega) h.wv2.1 (by omega)
 have := h.wc.1
 omega
theorem Dig.max {a b c v1 v2 P Vl Dl V D : Int} (h : Dig a b c v1 v2 P Vl Dl V D) (e : a = v1) : 18446744073709551615 ≤ D / V + 1 := by
 have hv := h.vpos
 obtain ⟨hP, eV, eD, hVl, hVl', hDl, hDl', wa, wb, wc, wv1, wv2, norm, lt⟩ := h
 subst e
 have : 18446744073709551614 ≤ D / V := by
  rw [Int.le_ediv_iff_mul_le (by omega)]
  have k1 : (a * 18446744073709551616 + v2) * P ≤ (a * 18446744073709551616 + 18446744073709551615) * P := Int.mul_le_mul_of_nonneg_right (by have := wv2.2; omega) (by omega)
  have k2 : (a * 18446744073709551616 * 18446744073709551616) * P ≤ (a * 18446744073709551616 * 18446744073709551616 + b * 18446744073709551616 + c) * P := Int.mul_le_mul_of_nonneg_right (by have := wb.1; have := wc.1; omega) (by omega)
  have k3 : 9223372036854775808 * P ≤ a * P := Int.mul_le_mul_of_nonneg_right norm (by omega)
  have e1 : (a * 18446744073709551616 + v2) * P = a * P * 18446744073709551616 + v2 * P := by rw [Int.add_mul, Int.mul_right_comm]
  have e2 : (a * 18446744073709551616 + 18446744073709551615) * P = a * P * 18446744073709551616 + 18446744073709551615 * P := by rw [Int.add_mul, Int.mul_right_comm]
  have e3 : (a * 18446744073709551616 * 18446744073709551616) * P = a * P * 18446744073709551616 * 18446744073709551616 := by
   rw [Int.mul_right_comm _ _ P, Int.mul_right_comm a _ P]
  rw [e1, e2] at k1
  rw [e3] at k2
  rw [eV, eD, e1]
  generalize a * P = ap at *
  generalize v2 * P = vp at *
  generalize (a * 18446744073709551616 * 18446744073709551616 + b * 18446744073709551616 + c) * P = y at *
  omega
 omega
theorem val_put {us ds : List Int} {j : Nat} (h : j + ds.length ≤ us.length) : val (put us j ds) = val us + BP j * (val ds - val (seg us j ds.length)) := by
 have e1 : us = us.take j ++ (seg us j ds.length ++ us.drop (j + ds.length)) := by
  unfold seg
  rw [← List.drop_drop, List.take_append_drop, List.take_append_drop]
 have hl : (us.take j).length = j := by simp; omega
 have hs : (seg us j ds.length).length = ds.length := seg_length h
 have e2 : val us = val (us.take j) + BP j * (val (seg us j ds.length) + BP ds.length * val (us.drop (j + ds.length))) := by
  conv => lhs; rw [e1]
  rw [val_append, val_append, hl, hs]
 unfold put
 rw [List.append_assoc, val_append, val_append, hl, e2, Int.mul_sub, Int.mul_add, Int.mul_add]
 omega
theorem val_seg_drop {us : List Int} {j n : Nat} (h : j + n ≤ us.length) : val us = val (us.take j) + BP j * (val (seg us j n) + BP n * val (us.drop (j + n))) := by
 have e1 : us = us.take j ++ (seg us j n ++ us.drop (j + n)) := by
  unfold seg
  rw [← List.drop_drop, List.take_append_drop, List.take_append_drop]
 have hl : (us.take j).length = j := by simp; omega
 have hs : (seg us j n).length = n := seg_length h
 conv => lhs; rw [e1]
 rw [val_append, val_append, hl, hs]
theorem dig_of {us vs : List Int} {j n : Nat} (hu : Wds us) (hv : Wds vs) (hl : j + n + 1 ≤ us.length) (hvl : vs.length = n) (hn : 2 ≤ n) (htop : 9223372036854775808 ≤ vs.getD (n - 1) 0)
  (hlt : val us < BP (j + 1) * val vs) :
  ∃ Vl Dl, Dig (us.getD (j + n) 0) (us.getD (j + n - 1) 0) (us.getD (j + n - 2) 0) (vs.getD (n - 1) 0) (vs.getD (n - 2) 0) (BP (n - 2)) Vl Dl (val vs) (val (seg us j (n + 1))) := by
 obtain ⟨k, rfl⟩ : ∃ k, n = k + 2 := ⟨n - 2, by omega⟩
 simp only [Nat.add_sub_cancel, show k + 2 - 1 = k + 1 by omega, show j + (k + 2) - 1 = j + k + 1 by omega, show j + (k + 2) - 2 = j + k by omega, show j + (k + 2) = j + k + 2 by omega, show j + k + 2 - 1 = j + k + 1 by omega, show j + k + 2 - 2 = j + k by omega] at htop ⊢
 have e1 : seg us j (k + 2 + 1) = seg us j k ++ [us.getD (j + k) 0] ++ [us.getD (j + k + 1) 0] ++ [us.getD (j + k + 2) 0] := by
  rw [seg_succ (by omega), seg_succ (by omega), seg_succ (by omega)]; rfl
 have e2 : vs = seg vs 0 k ++ [vs.getD k 0] ++ [vs.getD (k + 1) 0] := by
  have h := seg_all vs
  rw [hvl, seg_succ (by omega), seg_succ (by omega), Nat.zero_add, Nat.zero_add] at h
  exact h.symm
 have hk : (seg us j k).length = k := seg_length (by omega)
 have hk2 : (seg vs 0 k).length = k := seg_length (by omega)
 have d1 := seg_wds hu j k
 have d2 := seg_wds hv 0 k
 have b1 := val_lt d1; rw [hk] at b1
 have b2 := val_lt d2; rw [hk2] at b2
 refine ⟨val (seg vs 0 k), val (seg us j k), BP_pos k, ?_, ?_, val_nonneg d2, b2, val_nonneg d1, b1, hu.getD _, hu.getD _, hu.getD _, hv.getD _, hv.getD _, htop, ?_⟩
 ·conv => lhs; rw [e2]
  rw [val_snoc, val_snoc, List.length_append, hk2, List.length_singleton, BP_succ]
  generalize vs.getD k 0 = x
  generalize vs.getD (k + 1) 0 = y
  generalize BP k = p
  have f1 : (y * 18446744073709551616 + x) * p = 18446744073709551616 * (y * p) + x * p := by rw [Int.add_mul, Int.mul_comm y, Int.mul_assoc]
  have f2 : 18446744073709551616 * p * y = 18446744073709551616 * (y * p) := by rw [Int.mul_assoc, Int.mul_comm p]
  rw [f1, f2, Int.mul_comm p]
  omega
 ·rw [e1, val_snoc, val_snoc, val_snoc]
  simp only [List.length_append, hk, List.length_singleton, BP_succ]
  generalize us.getD (j + k) 0 = x
  generalize us.getD (j + k + 1) 0 = y
  generalize us.getD (j + k + 2) 0 = z
  generalize BP k = p
  have f3 : (z * 18446744073709551616 * 18446744073709551616 + y * 18446744073709551616 + x) * p = 18446744073709551616 * (18446744073709551616 * (z * p)) + 18446744073709551616 * (y * p) + x * p := by
   rw [Int.add_mul, Int.add_mul, Int.mul_comm (z * 18446744073709551616), Int.mul_comm z, Int.mul_comm y, Int.mul_assoc, Int.mul_assoc, Int.mul_assoc]
  have f2 : 18446744073709551616 * p * y = 18446744073709551616 * (y * p) := by rw [Int.mul_assoc, Int.mul_comm p]
  have f1 : 18446744073709551616 * (18446744073709551616 * p) * z = 18446744073709551616 * (18446744073709551616 * (z * p)) := by rw [Int.mul_assoc, Int.mul_assoc, Int.mul_comm p]
  rw [f3, f2, f1, Int.mul_comm p]
  omega
 ·have h1 := val_seg_drop (us := us) (j := j) (n := k + 2 + 1) (by omega)
  have h2 := val_nonneg (hu.take j)
  have h3 := val_nonneg (hu.drop (j + (k + 2 + 1)))
  have h4 := Int.mul_nonneg (Int.le_of_lt (BP_pos (k + 2 + 1))) h3
  rw [BP_succ, Int.mul_comm 18446744073709551616, Int.mul_assoc] at hlt
  have h5 : BP j * (val (seg us j (k + 2 + 1)) + BP (k + 2 + 1) * val (us.drop (j + (k + 2 + 1)))) < BP j * (18446744073709551616 * val vs) := by omega
  have h6 := Int.lt_of_mul_lt_mul_left h5 (Int.le_of_lt (BP_pos j))
  omega
theorem getD_last {us : List Int} {k : Nat} (h : us.length = k + 1) : val us = val (us.take k) + BP k * us.getD k 0 := by
 have h1 := seg_all us
 rw [h, seg_succ (by omega), Nat.zero_add, seg_take] at h1
 conv => lhs; rw [← h1]
 rw [val_snoc]
 have : (us.take k).length = k := by simp; omega
 rw [this]
theorem top_lt {us vs : List Int} {m n : Nat} (hu : Wds us) (hv : Wds vs) (hul : us.length = m + n) (hvl : vs.length = n) (hn : 1 ≤ n) (h : us.getD (m + n - 1) 0 < vs.getD (n - 1) 0) : val us < BP m * val vs := by
 obtain ⟨k, rfl⟩ : ∃ k, n = k + 1 := ⟨n - 1, by omega⟩
 have e1 := getD_last (us := us) (k := m + k) (by omega)
 have e2 := getD_last (us := vs) (k := k) hvl
 rw [show m + (k + 1) - 1 = m + k by omega, show k + 1 - 1 = k by omega] at h
 have b1 := val_lt (hu.take (m + k))
 have : (us.take (m + k)).length = m + k := by simp; omega
 rw [this] at b1
 have b2 := val_nonneg (hv.take k)
 have p1 := BP_pos (m + k)
 have p2 := BP_pos m
 have k1 := Int.mul_le_mul_of_nonneg_left (show us.getD (m + k) 0 + 1 ≤ vs.getD k 0 by omega) (Int.le_of_lt p1)
 have k2 := Int.mul_nonneg (Int.le_of_lt p2) b2
 rw [e2, Int.mul_add, ← Int.mul_assoc, ← BP_add]
 rw [Int.mul_add, Int.mul_one] at k1
 omega
theorem sub_ok {X vs : List Int} {q : Int} {n : Nat} (hX : Wds X) (hv : Wds vs) (hXl : X.length = n + 1) (hvl : vs.length = n) (hq : Wd q) (h : q * val vs ≤ val X) :
  subC X (mulD vs q 0 ++ [mulC vs q 0]) 0 = 0 ∧ val (subD X (mulD vs q 0 ++ [mulC vs q 0]) 0) = val X - q * val vs := by
 have hYl : (mulD vs q 0 ++ [mulC vs q 0]).length = n + 1 := by simp [mulD_length, hvl]
 have hY : Wds (mulD vs q 0 ++ [mulC vs q 0]) := (mulD_wds _ _ _).append (Wds.cons (mulC_wd _ _ _ hv hq wd0) Wds.nil)
 have hYv : val (mulD vs q 0 ++ [mulC vs q 0]) = q * val vs := by
  have := mulD_val vs q 0
  rw [val_snoc, mulD_length, Int.mul_comm q]; omega
 have hs := subD_val X _ 0 hX hY (by omega) (by omega) (hXl.trans hYl.symm)
 have hb := subC_bd X (mulD vs q 0 ++ [mulC vs q 0]) 0 (by omega) (by omega)
 have hw := val_lt (subD_wds X (mulD vs q 0 ++ [mulC vs q 0]) 0)
 rw [subD_length, hXl, hYl, Nat.min_self] at hw
 have hx := val_lt hX
 rw [hXl] at hs hx
 rw [hYv] at hs
 have hp := BP_pos (n + 1)
 have h0 : 0 ≤ q * val vs := Int.mul_nonneg hq.1 (val_nonneg hv)
 have hc : subC X (mulD vs q 0 ++ [mulC vs q 0]) 0 = 0 := by
  by_cases k : subC X (mulD vs q 0 ++ [mulC vs q 0]) 0 = 0
  ·exact k
  ·have k1 : subC X (mulD vs q 0 ++ [mulC vs q 0]) 0 = 1 := by omega
   rw [k1, Int.mul_one] at hs
   omega
 rw [hc] at hs
 exact ⟨hc, by omega⟩
theorem sub_back {X vs : List Int} {q : Int} {n : Nat} (hX : Wds X) (hv : Wds vs) (hXl : X.length = n + 1) (hvl : vs.length = n) (hq : Wd q) (h : val X < q * val vs) (h1 : (q - 1) * val vs ≤ val X) :
    subC X (mulD vs q 0 ++ [mulC vs q 0]) 0 = 1 ∧
    val (addD ((subD X (mulD vs q 0 ++ [mulC vs q 0]) 0).take n) vs 0) = val X - (q - 1) * val vs ∧
    ((subD X (mulD vs q 0 ++ [mulC vs q 0]) 0).getD n 0 + addC ((subD X (mulD vs q 0 ++ [mulC vs q 0]) 0).take n) vs 0) % 18446744073709551616 = 0 := by
  have hYl : (mulD vs q 0 ++ [mulC vs q 0]).length = n + 1 := by simp [mulD_length, hvl]
  have hY : Wds (mulD vs q 0 ++ [mulC vs q 0]) := (mulD_wds _ _ _).append (Wds.cons (mulC_wd _ _ _ hv hq wd0) Wds.nil)
  have hYv : val (mulD vs q 0 ++ [mulC vs q 0]) = q * val vs := by
    have := mulD_val vs q 0
    rw [val_snoc, mulD_length, Int.mul_comm q]; omega
  have hs := subD_val X _ 0 hX hY (by omega) (by omega) (hXl.trans hYl.symm)
  have hb := subC_bd X (mulD vs q 0 ++ [mulC vs q 0]) 0 (by omega) (by omega)
  have hwd := subD_wds X (mulD vs q 0 ++ [mulC vs q 0]) 0
  have hw := val_nonneg hwd
  have hdl : (subD X (mulD vs q 0 ++ [mulC vs q 0]) 0).length = n + 1 := by rw [subD_length, hXl, hYl, Nat.min_self]
  rw [hXl, hYv] at hs
  have hp := BP_pos (n + 1)
  have hc : subC X (mulD vs q 0 ++ [mulC vs q 0]) 0 = 1 := by
    by_cases k : subC X (mulD vs q 0 ++ [mulC vs q 0]) 0 = 1
    · exact k
    · have k1 : subC X (mulD vs q 0 ++ [mulC vs q 0]) 0 = 0 := by omega
      rw [k1, Int.mul_zero] at hs
      omega
  rw [hc, Int.mul_one] at hs
  generalize subD X (mulD vs q 0 ++ [mulC vs q 0]) 0 = ds at *
  refine ⟨hc, ?_⟩
  have hsp : ds = ds.take n ++ [ds.getD n 0] := by
    have := seg_all ds
    rw [hdl, seg_succ (by omega), Nat.zero_add, seg_take] at this
    exact this.symm
  have htl : (ds.take n).length = n := by simp; omega
  have hv1 : val ds = val (ds.take n) + BP n * ds.getD n 0 := by conv => lhs; rw [hsp]
                                                                 rw [val_snoc, htl]
  have ha := addD_val (ds.take n) vs 0 (by omega)
  have hab := addC_bd (ds.take n) vs 0 (hwd.take n) hv (by omega) (by omega)
  have hal := val_lt (addD_wds (ds.take n) vs 0)
  have hal0 := val_nonneg (addD_wds (ds.take n) vs 0)
  rw [addD_length, htl, hvl, Nat.min_self] at hal
  rw [htl] at ha
  have hvv := val_lt hv
  rw [hvl] at hvv
  have hpn := BP_pos n
  rw [BP_succ] at hs hp
  rw [Int.sub_mul, Int.one_mul] at h1 ⊢
  generalize ds.getD n 0 = t at *
  generalize addC (ds.take n) vs 0 = c' at *
  generalize val (addD (ds.take n) vs 0) = lo at *
  generalize q * val vs = qv at *
  have key : lo + BP n * (t + c' - 18446744073709551616) = val X - qv + val vs := by
    rw [Int.mul_sub, Int.mul_add]; omega
  have hz : t + c' - 18446744073709551616 = 0 := by
    generalize t + c' - 18446744073709551616 = z at *
    by_cases k : z ≤ -1
    · have := Int.mul_le_mul_of_nonneg_left k (Int.le_of_lt hpn); omega
    · by_cases k2 : 1 ≤ z
      · have := Int.mul_le_mul_of_nonneg_left k2 (Int.le_of_lt hpn); omega
      · omega
  rw [hz, Int.mul_zero] at key
  exact ⟨by omega, by omega⟩
theorem step_val {us vs ds : List Int} {j n : Nat} {Q : Int} (hu : Wds us) (hl : j + n + 1 ≤ us.length) (hd : ds.length = n + 1) (hds : Wds ds)
  (hval : val ds = val (seg us j (n + 1)) - Q * val vs) (hlt : val ds < val vs) (hlt0 : val us < BP (j + 1) * val vs) (hQ : Q = val (seg us j (n + 1)) / val vs) (hV : 0 < val vs) (hvb : val vs < BP n) :
  val (put us j ds) + BP j * val vs * Q = val us ∧ val (put us j ds) < BP j * val vs := by
 have h1 := val_put (us := us) (ds := ds) (j := j) (by omega)
 rw [hd, hval] at h1
 have e : BP j * (val (seg us j (n + 1)) - Q * val vs - val (seg us j (n + 1))) = - (BP j * val vs * Q) := by
  rw [show val (seg us j (n + 1)) - Q * val vs - val (seg us j (n + 1)) = - (Q * val vs) by omega, Int.mul_neg, Int.mul_comm Q, Int.mul_assoc]
 rw [e] at h1
 refine ⟨by omega, ?_⟩
 have hw : Wds (put us j ds) := put_wds hu hds j
 have h2 := val_seg_drop (us := put us j ds) (j := j) (n := n + 1) (by rw [put_length (by omega)]; omega)
 have h3 : seg (put us j ds) j (n + 1) = ds := by rw [← hd]; exact seg_put_same (by omega)
 have hl2 : ((put us j ds).take j).length = j := by rw [List.length_take, put_length (by omega)]; omega
 have h4 := val_lt (hw.take j)
 rw [hl2] at h4
 have h6 := val_seg_drop (us := us) (j := j) (n := n + 1) (by omega)
 have h7 := val_nonneg (hu.take j)
 have h8 := val_nonneg (hu.drop (j + (n + 1)))
 have h8b := val_nonneg (seg_wds hu j (n + 1))
 have h9 : val (us.drop (j + (n + 1))) = 0 := by
  rw [BP_succ, Int.mul_comm 18446744073709551616, Int.mul_assoc] at hlt0
  have h5 : BP j * (val (seg us j (n + 1)) + BP (n + 1) * val (us.drop (j + (n + 1)))) < BP j * (18446744073709551616 * val vs) := by omega
  have h6 := Int.lt_of_mul_lt_mul_left h5 (Int.le_of_lt (BP_pos j))
  rw [BP_succ] at h6
  have hpn := BP_pos n
  by_cases k : val (us.drop (j + (n + 1))) = 0
  ·exact k
  ·have := Int.mul_le_mul_of_nonneg_left (show 1 ≤ val (us.drop (j + (n + 1))) by omega) (show 0 ≤ 18446744073709551616 * BP n by omega)
   omega
 have h10 : (put us j ds).drop (j + (n + 1)) = us.drop (j + (n + 1)) := by
  unfold put
  rw [hd]
  have : (us.take j ++ ds).length = j + (n + 1) := by simp [hd]; omega
  rw [← this, List.drop_left]
 rw [h10, h9, h3, Int.mul_zero, Int.add_zero] at h2
 have h11 : BP j * (val ds + 1) ≤ BP j * val vs := Int.mul_le_mul_of_nonneg_left (by omega) (Int.le_of_lt (BP_pos j))
 rw [Int.mul_add, Int.mul_one] at h11
 omega
theorem greaterThan_any (x1 x2 y1 y2 : Int) (hx1 : Wd x1) (hx2 : Wd x2) (hy1 : Wd y1) (hy2 : Wd y2) (w : World) :
  Calls Tryz.prog 249 #[.int .u64 x1, .int .u64 x2, .int .u64 y1, .int .u64 y2] w fun e w' =>
   e = .returned (.bool (decide (y1 * 18446744073709551616 + y2 < x1 * 18446744073709551616 + x2))) ∧ w = w' := by
 obtain ⟨a0, a1⟩ := hx1
 obtain ⟨b0, b1⟩ := hx2
 obtain ⟨c0, c1⟩ := hy1
 obtain ⟨d0, d1⟩ := hy2
 by_cases h1 : y1 < x1
 ·have h : decide (y1 < x1) = true := decide_eq_true h1
  have e : decide (y1 * 18446744073709551616 + y2 < x1 * 18446744073709551616 + x2) = true := decide_eq_true (by omega)
  rw [e]
  go_enter Tryz.func249, Tryz.ntmps249
  go_wp2_with fail
  go_ret
  exact ⟨rfl, rfl⟩
 ·have h : decide (y1 < x1) = false := decide_eq_false h1
  by_cases h2 : x1 = y1
  ·have hb : (x1 == y1) = true := beq_iff_eq.2 h2
   have e : decide (y1 * 18446744073709551616 + y2 < x1 * 18446744073709551616 + x2) = decide (y2 < x2) := by
    apply decide_eq_decide.2; omega
   rw [e]
   have H2 := hid h2
   clear h2 e
   go_enter Tryz.func249, Tryz.ntmps249
   go_wp2_with fail
   go_ret
   exact ⟨rfl, rfl⟩
  ·have hb : (x1 == y1) = false := beq_eq_false_iff_ne.2 h2
   have e : decide (y1 * 18446744073709551616 + y2 < x1 * 18446744073709551616 + x2) = false := decide_eq_false (by omega)
   rw [e]
   go_enter Tryz.func249, Tryz.ntmps249
   go_wp2_with fail
   go_ret
   exact ⟨rfl, rfl⟩
end Go.Proofs.YtbjhnckboimliaaGreatDoor
