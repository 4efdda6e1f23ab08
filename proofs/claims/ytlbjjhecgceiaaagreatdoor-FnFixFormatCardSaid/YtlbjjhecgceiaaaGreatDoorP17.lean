/- Part 17 of the proof. -/
import Derived.Test.YtlbjjhecgceiaaaGreatDoorP16
namespace Go.Proofs.YtlbjjhecgceiaaaGreatDoor
open Go.RowKit Go.Proofs.YtlbjjhecgceiaaaGreatDoorW.PrintWords Go.Proofs.YtlbjjhecgceiaaaGreatDoorW.PrintLast Go.Proofs.YtlbjjhecgceiaaaGreatDoorW.PrintMore PFnFixSubExact
set_option linter.unusedVariables false
set_option linter.unusedSimpArgs false
set_option maxRecDepth 20000
theorem Chg.below {w w' : World} (h : Chg (fun _ => False) w w') : Below w.heap.size w w' := ⟨h.os, h.tape, h.output, h.size, fun k hk => h.keep k hk (fun h => h)⟩
theorem chg_of_below {w w' : World} (h : Below w.heap.size w w') : Chg (fun _ => False) w w' := ⟨h.os, h.tape, h.output, h.size, fun k hk _ => h.block k hk⟩
def SN (w : World) (A : Option Addr) (n c : Nat) (a : Nat) : Prop := ∃ xs : List Int, n = xs.length ∧ n ≤ c ∧ Kd.C (Kd.int .u32) w A n xs ∧ IsN xs a
theorem SN.kept {w w' : World} {A : Option Addr} {n c a : Nat} (h : SN w A n c a) (hc : Chg (fun _ => False) w w') : SN w' A n c a := by
 obtain ⟨xs, h1, h2, h3, h4⟩ := h
 exact ⟨xs, h1, h2, Kd.C_below h3 hc.below, h4⟩
theorem SN.zero {w : World} {A : Option Addr} {n c a : Nat} (h : SN w A n c a) : n = 0 ↔ a = 0 := by
 obtain ⟨xs, rfl, _, _, h4⟩ := h
 rw [← h4.nil_iff, List.length_eq_zero_iff]
def PSN (w : World) (a : Nat) (e : Ending) (w' : World) : Prop := ∃ (A : Option Addr) (n c : Nat), e = .returned (.slice A n c) ∧ SN w' A n c a ∧ Chg (fun _ => False) w w'
theorem psn_R {w w' : World} {e : Ending} {a : Nat} {ok : Nat → Prop} {r : List Int} (hr : IsN r a) (h : ∃ v0_ : Value, e = .returned v0_ ∧ Kd.R (Kd.int .u32) 80 w' w.heap.size ok v0_ r ∧ Below w.heap.size w w') : PSN w a e w' := by
 obtain ⟨v, rfl, h1, h2⟩ := h
 obtain ⟨A, c, rfl, k1, k2⟩ := Kd.R_reads h1
 exact ⟨A, r.length, c, rfl, ⟨r, rfl, k1, k2, hr⟩, chg_of_below h2⟩
theorem psn_V {w w' : World} {e : Ending} {a : Nat} {ok : Nat → Prop} {r : List Int} (hr : IsN r a) (h : ∃ v0_ : Value, e = .returned v0_ ∧ Kd.V (Kd.int .u32) 80 w' w.heap.size ok v0_ r ∧ Below w.heap.size w w') : PSN w a e w' := by
 obtain ⟨v, rfl, h1, h2⟩ := h
 obtain ⟨A, c, rfl⟩ := Kd.V_slice h1
 obtain ⟨_, k1, k2⟩ := Kd.V_reads' h1
 exact ⟨A, r.length, c, rfl, ⟨r, rfl, k1, k2, hr⟩, chg_of_below h2⟩
theorem NatMul_any {w : World} {A B : Option Addr} {n c m d a b : Nat} (ha : SN w A n c a) (hb : SN w B m d b) (ha' : a < tn 1800) (hb' : b < tn 1800) :
  Calls Tryz.prog 40 #[.slice A n c, .slice B m d] w (PSN w (a * b)) := by
 obtain ⟨xs, rfl, h2, h3, h4⟩ := ha
 obtain ⟨ys, rfl, k2, k3, k4⟩ := hb
 obtain ⟨K, r, r1, r2⟩ := natMul_law h4 k4 ha' hb'
 exact (spec_NatMul.calls K A c xs B d ys r w h3 h2 k3 k2 (r2 K (Nat.le_refl _))).mono (fun e w' h => psn_V r1 h)
theorem NatAdd_any {w : World} {A B : Option Addr} {n c m d a b : Nat} (ha : SN w A n c a) (hb : SN w B m d b) (ha' : a < tn 1800) (hb' : b < tn 1800) :
  Calls Tryz.prog 46 #[.slice A n c, .slice B m d] w (PSN w (a + b)) := by
 obtain ⟨xs, rfl, h2, h3, h4⟩ := ha
 obtain ⟨ys, rfl, k2, k3, k4⟩ := hb
 obtain ⟨K, r, r1, r2⟩ := natAdd_law h4 k4 ha' hb'
 exact (spec_NatAdd.calls K A c xs B d ys r w h3 h2 k3 k2 (r2 K (Nat.le_refl _))).mono (fun e w' h => psn_R r1 h)
theorem NatCmp_any {w : World} {A B : Option Addr} {n c m d a b : Nat} (ha : SN w A n c a) (hb : SN w B m d b) (ha' : a < tn 1800) (hb' : b < tn 1800) :
  Calls Tryz.prog 45 #[.slice A n c, .slice B m d] w (fun e w' => e = .returned (.int .i64 (cmpN a b)) ∧ Chg (fun _ => False) w w') := by
 obtain ⟨xs, rfl, h2, h3, h4⟩ := ha
 obtain ⟨ys, rfl, k2, k3, k4⟩ := hb
 exact (spec_NatCmp.calls 1000 A c xs B d ys _ w h3 h2 k3 k2 (natCmp_law h4 k4 ha' hb' 1000 (Nat.le_refl _))).mono (fun e w' h => ⟨h.1, by obtain ⟨_, nd, rfl⟩ := h; exact (Chg.refl _ _).drewN nd⟩)
theorem NatDiv_any {w : World} {A B : Option Addr} {n c m d a b : Nat} (ha : SN w A n c a) (hb : SN w B m d b) (ha' : a < tn 1764) (hb' : b < tn 1764) (hb0 : 0 < b) :
  Calls Tryz.prog 43 #[.slice A n c, .slice B m d] w (fun e w' => ∃ (A1 : Option Addr) (n1 c1 : Nat) (A2 : Option Addr) (n2 c2 : Nat), e = .returned (.tuple #[.slice A1 n1 c1, .slice A2 n2 c2]) ∧ SN w' A1 n1 c1 (a / b) ∧ SN w' A2 n2 c2 (a % b) ∧ Chg (fun _ => False) w w') := by
 obtain ⟨xs, rfl, h2, h3, h4⟩ := ha
 obtain ⟨ys, rfl, k2, k3, k4⟩ := hb
 obtain ⟨K, q, r, q1, r1, r2⟩ := natDiv_law h4 k4 ha' hb' hb0
 refine (spec_NatDiv.calls K A c xs B d ys q r w h3 h2 k3 k2 (r2 K (Nat.le_refl _))).mono (fun e w' h => ?_)
 obtain ⟨v0, v1, rfl, g1, g2, g3⟩ := h
 obtain ⟨A1, c1, rfl⟩ := Kd.V_slice g1
 obtain ⟨A2, c2, rfl⟩ := Kd.V_slice g2
 obtain ⟨_, p1, p2⟩ := Kd.V_reads' g1
 obtain ⟨_, p3, p4⟩ := Kd.V_reads' g2
 exact ⟨A1, q.length, c1, A2, r.length, c2, rfl, ⟨q, rfl, p1, p2, q1⟩, ⟨r, rfl, p3, p4, r1⟩, chg_of_below g3⟩
theorem Pow10_any {w : World} (n : Nat) (hn : n ≤ 240) : Calls Tryz.prog 41 #[.int .i64 n] w (PSN w (10 ^ n)) := by
 obtain ⟨K, r, r1, r2⟩ := pow10_law n hn
 exact (spec_Pow10.calls K (n : Int) r w (r2 K (Nat.le_refl _))).mono (fun e w' h => psn_R r1 h)
theorem one_any {w : World} : Calls Tryz.prog 42 #[] w (PSN w 1) :=
 (spec_one.calls [1] w rfl).mono (fun e w' h => psn_R one_is h)
theorem NatFrom_any {w : World} (a : Nat) (ha : (a : Int) < 18446744073709551616) : Calls Tryz.prog 52 #[.int .u64 (a : Int)] w (PSN w a) := by
 obtain ⟨K, r, r1, r2⟩ := natFrom_law ha
 exact (spec_NatFrom.calls K (a : Int) r w (r2 K (Nat.le_refl _))).mono (fun e w' h => psn_R r1 h)
theorem Digits_any {w : World} {A : Option Addr} {n c a : Nat} (ha : SN w A n c a) (ha' : a < tn 1800) : Calls Tryz.prog 37 #[.slice A n c] w (fun e w' => e = .returned (.int .i64 (digs a)) ∧ Chg (fun _ => False) w w') := by
 obtain ⟨xs, rfl, h2, h3, h4⟩ := ha
 obtain ⟨K, hK⟩ := digits_law h4 ha'
 exact (spec_Nat_Digits.calls K A c xs _ w h3 h2 (hK K (Nat.le_refl _))).mono (fun e w' h => ⟨h.1, chg_of_below h.2⟩)
theorem whole_size : (Tryz.prog.info? 32).map (·.size) = some 2 := by kernel_rfl
theorem frac_size : (Tryz.prog.info? 34).map (·.size) = some 3 := by kernel_rfl
theorem sdec_size : (Tryz.prog.info? 43).map (·.size) = some 3 := by kernel_rfl
theorem store2 {w1 : World} {z : Nat} {x0 x1 : Value} {T : TypeId} (hh : w1.heap[z]? = some (.cells #[x0, x1] T (0, 0))) (a b : Value) :
  ((w1.setCell ⟨z, 0, none⟩ a).setCell ⟨z, 1, none⟩ b).heap[z]? = some (.cells #[a, b] T (0, 0)) := by
 simp [World.setCell, Array.getElem?_modify, hh]
theorem chg2 {w w1 : World} {z : Nat} (hc : Chg (fun _ => False) w w1) (hz : w.heap.size ≤ z) (a b : Value) : Chg (fun _ => False) w ((w1.setCell ⟨z, 0, none⟩ a).setCell ⟨z, 1, none⟩ b) :=
 Chg.setCell (p := ⟨z, 1, none⟩) (Chg.setCell (p := ⟨z, 0, none⟩) hc (fun h => by simp only at h; omega) a) (fun h => by simp only at h; omega) b
theorem cell2 {w1 : World} {z : Nat} {x0 x1 : Value} {T : TypeId} (hh : w1.heap[z]? = some (.cells #[x0, x1] T (0, 0))) :
  w1.cell? ⟨z, 0, none⟩ = some x0 ∧ w1.cell? ⟨z, 1, none⟩ = some x1 ∧ w1.frozen? ⟨z, 0, none⟩ = false ∧ w1.frozen? ⟨z, 1, none⟩ = false := by
 refine ⟨?_, ?_, ?_, ?_⟩ <;> simp [World.cell?, World.frozen?, hh]
theorem kept_heap {w w' : World} {k : Nat} {o : Obj} (h : Chg (fun _ => False) w w') (e : w.heap[k]? = some o) : w'.heap[k]? = some o :=
 (h.keep k (Array.getElem?_eq_some_iff.1 e).1 (fun h => h)).trans e
def PV (w : World) (v : Value) (e : Ending) (w' : World) : Prop := e = .returned v ∧ Chg (fun _ => False) w w'
theorem wholeOf_any (neg : Bool) (A : Option Addr) (n c : Nat) (b : Bool) (hb : (neg && n != 0) = b) (w : World) :
  Calls Tryz.prog 39 #[.bool neg, .slice A n c] w (PV w (.agg #[.bool b, .slice A n c])) := by
 subst hb
 cases neg with
 | false =>
  rw [Bool.false_and]
  go_enter Tryz.func39, Tryz.ntmps39
  go_wp2_with fail
  refine bodyPost_ret (v := .agg #[.bool false, .slice A n c]) (by rw [results_cell_row rfl _ _ w.heap.size _ _ _ _ rfl (show (w.alloc (.cells #[.bool false, .slice A n c] 32)).heap[w.heap.size]? = some (.cells #[.bool false, .slice A n c] 32 (0, 0)) from heap_alloc_new _ _) Tryz.underlying32 rfl whole_size]) rfl ⟨rfl, (Chg.refl _ _).alloc _⟩
 | true =>
  rw [Bool.true_and]
  obtain ⟨b, hb⟩ : ∃ b, (n != 0) = b := ⟨_, rfl⟩
  have hd : decide (0 < n) = b := by rw [← hb]; cases n <;> simp
  rw [hb]
  clear hb
  go_enter Tryz.func39, Tryz.ntmps39
  go_wp2_with fail
  refine bodyPost_ret (v := .agg #[.bool b, .slice A n c]) (by rw [results_cell_row rfl _ _ w.heap.size _ _ _ _ rfl (show (w.alloc (.cells #[.bool b, .slice A n c] 32)).heap[w.heap.size]? = some (.cells #[.bool b, .slice A n c] 32 (0, 0)) from heap_alloc_new _ _) Tryz.underlying32 rfl whole_size]) rfl ⟨rfl, (Chg.refl _ _).alloc _⟩
theorem WholeMinus_any (neg : Bool) (A : Option Addr) (n c : Nat) (b : Bool) (hb : (!neg && n != 0) = b) (w : World) :
  Calls Tryz.prog 65 #[.agg #[.bool neg, .slice A n c]] w (PV w (.agg #[.bool b, .slice A n c])) := by
 have HW := hid (fun w => wholeOf_any (!neg) A n c b hb w)
 clear hb
 have hz : ((w.alloc (.cells #[.bool neg, .slice A n c] 32)).alloc (.cells #[.bool false, .slice none 0 0] 32)).heap[w.heap.size + 1]? = some (.cells #[.bool false, .slice none 0 0] 32 (0, 0)) := heap_alloc2_new _ _ _
 have HZ := hid hz
 have HC := hid (((Chg.refl (fun _ => False) w).alloc (.cells #[.bool neg, .slice A n c] 32)).alloc (.cells #[.bool false, .slice none 0 0] 32))
 clear hz
 go_enter Tryz.func65, Tryz.ntmps65
 go_wp2_with (go_at_call 39; refine (HW.out _).mono ?_; intro e w1 h; obtain ⟨he1, hk⟩ := h; subst he1; have HK := hid hk; clear hk; obtain ⟨k0, k1, f0, f1⟩ := cell2 (kept_heap HK.out HZ.out))
 refine bodyPost_ret (v := .agg #[.bool b, .slice A n c]) (by rw [results_cell_row rfl _ _ (w.heap.size + 1) _ _ _ _ rfl (store2 (kept_heap HK.out HZ.out) _ _) Tryz.underlying32 rfl whole_size]) rfl ⟨rfl, chg2 (HC.out.trans HK.out sb_) (by omega) _ _⟩
theorem far_cell {w1 : World} {z y i j : Nat} {a : Value} (h : y ≠ z) : (w1.setCell ⟨z, j, none⟩ a).cell? ⟨y, i, none⟩ = w1.cell? ⟨y, i, none⟩ := by
 unfold World.cell?
 rw [Below.heap_setCell _ _ _ _ (by simpa using h)]
theorem SN.far {w w' : World} {A : Option Addr} {n c a z : Nat} {cs : Array Value} {T : TypeId} (h : SN w A n c a) (hz : w.heap[z]? = some (.cells cs T (0, 0))) (hcs : ∀ x, Value.int .u32 x ∉ cs) (hc : Chg (fun k => k = z) w w') : SN w' A n c a := by
 obtain ⟨xs, h1, h2, h3, h4⟩ := h
 refine ⟨xs, h1, h2, Kd.C_keep (0 : Int) h3 ⟨hc.size, fun i hi hne _ => hc.keep i hi hne⟩ ?_, h4⟩
 rintro ad rfl hn rfl
 obtain ⟨hl, _, hr⟩ := Kd.reads_of_C (d := (0 : Int)) h3
 obtain ⟨ad', e, hc'⟩ := hr hn
 cases e
 have := hc' 0 hn
 obtain ⟨bl, off, part⟩ := ad
 simp only [World.cell?, Addr.add, if_true] at this
 simp only [hz] at this
 split at this
 ·exact absurd this (by simp)
 ·exact hcs _ (Array.mem_of_getElem? this)
theorem sn_end2 {w : World} {A : Option Addr} {n c a z : Nat} {b0 : Bool} {x0 : Option Addr} {y0 z0 : Nat} {T : TypeId} (h : SN w A n c a) (hz : w.heap[z]? = some (.cells #[.bool b0, .slice x0 y0 z0] T (0, 0))) (u v : Value) :
  SN ((w.setCell ⟨z, 0, none⟩ u).setCell ⟨z, 1, none⟩ v) A n c a :=
 h.far hz (by simp) (Chg.setCell (p := ⟨z, 1, none⟩) (Chg.setCell (p := ⟨z, 0, none⟩) (Chg.refl (fun k => k = z) w) (fun _ => rfl) u) (fun _ => rfl) v)
theorem sn_end3 {w : World} {A : Option Addr} {n c a z : Nat} {b0 : Bool} {x0 : Option Addr} {y0 z0 : Nat} {r : Value} {T : TypeId} (h : SN w A n c a) (hz : w.heap[z]? = some (.cells #[.bool b0, .slice x0 y0 z0, r] T (0, 0))) (hr : ∀ x, Value.int .u32 x ≠ r) (u v t : Value) :
  SN (((w.setCell ⟨z, 0, none⟩ u).setCell ⟨z, 1, none⟩ v).setCell ⟨z, 2, none⟩ t) A n c a :=
 h.far hz (by simpa using hr) (Chg.setCell (p := ⟨z, 2, none⟩) (Chg.setCell (p := ⟨z, 1, none⟩) (Chg.setCell (p := ⟨z, 0, none⟩) (Chg.refl (fun k => k = z) w) (fun _ => rfl) u) (fun _ => rfl) v) (fun _ => rfl) t)
end Go.Proofs.YtlbjjhecgceiaaaGreatDoor
namespace Go.Proofs.YtlbjjhecgceiaaaGreatDoor
open Go.RowKit
set_option linter.unusedVariables false
set_option linter.unusedSimpArgs false
theorem alloc_old {W : World} {k : Nat} {o x : Obj} (h : W.heap[k]? = some o) : (W.alloc x).heap[k]? = some o := by
 rw [Below.heap_alloc _ _ _ (Array.getElem?_eq_some_iff.1 h).1]; exact h
theorem alloc_last {W : World} {k : Nat} {x : Obj} (h : W.heap.size = k) : (W.alloc x).heap[k]? = some x := by
 rw [← h]; exact heap_alloc_new _ _
theorem far3 {w1 : World} {b i z : Nat} {v x0 x1 x2 : Value} (h : w1.cell? ⟨b, i, none⟩ = some v) (hne : b ≠ z) : (((w1.setCell ⟨z, 0, none⟩ x0).setCell ⟨z, 1, none⟩ x1).setCell ⟨z, 2, none⟩ x2).cell? ⟨b, i, none⟩ = some v := by
 rw [far_cell hne, far_cell hne, far_cell hne]; exact h
theorem fr_ {w1 : World} {b i : Nat} {v : Value} (z : Nat) (x0 x1 x2 : Value) (h : w1.cell? ⟨b, i, none⟩ = some v) (hne : b ≠ z := by omega) : (((w1.setCell ⟨z, 0, none⟩ x0).setCell ⟨z, 1, none⟩ x1).setCell ⟨z, 2, none⟩ x2).cell? ⟨b, i, none⟩ = some v := far3 h hne
theorem box1 (w : World) (c0 : Array Value) (t0 : TypeId) : Hid (Chg (fun _ => False) w (w.alloc (.cells c0 t0))) ∧ Hid (Chg (fun _ => False) (w.alloc (.cells c0 t0)) (World.drew (w.alloc (.cells c0 t0)))) ∧ (w.alloc (.cells c0 t0)).heap[w.heap.size]? = some (.cells c0 t0 (0, 0)) := by
 refine ⟨((Chg.refl (fun _ => False) w).alloc _), (Chg.refl (fun _ => False) _).drew, ?_⟩
 ·exact alloc_last (by first | rfl | simp)
theorem box2 (w : World) (c0 : Array Value) (t0 : TypeId) (c1 : Array Value) (t1 : TypeId) : Hid (Chg (fun _ => False) w ((w.alloc (.cells c0 t0)).alloc (.cells c1 t1))) ∧ Hid (Chg (fun _ => False) ((w.alloc (.cells c0 t0)).alloc (.cells c1 t1)) (World.drew ((w.alloc (.cells c0 t0)).alloc (.cells c1 t1)))) ∧ ((w.alloc (.cells c0 t0)).alloc (.cells c1 t1)).heap[w.heap.size]? = some (.cells c0 t0 (0, 0)) ∧ ((w.alloc (.cells c0 t0)).alloc (.cells c1 t1)).heap[w.heap.size + 1]? = some (.cells c1 t1 (0, 0)) := by
 refine ⟨(((Chg.refl (fun _ => False) w).alloc _).alloc _), (Chg.refl (fun _ => False) _).drew, ?_, ?_⟩
 ·exact alloc_old (alloc_last (by first | rfl | simp))
 ·exact alloc_last (by first | rfl | simp)
theorem box3 (w : World) (c0 : Array Value) (t0 : TypeId) (c1 : Array Value) (t1 : TypeId) (c2 : Array Value) (t2 : TypeId) : Hid (Chg (fun _ => False) w (((w.alloc (.cells c0 t0)).alloc (.cells c1 t1)).alloc (.cells c2 t2))) ∧ Hid (Chg (fun _ => False) (((w.alloc (.cells c0 t0)).alloc (.cells c1 t1)).alloc (.cells c2 t2)) (World.drew (((w.alloc (.cells c0 t0)).alloc (.cells c1 t1)).alloc (.cells c2 t2)))) ∧ (((w.alloc (.cells c0 t0)).alloc (.cells c1 t1)).alloc (.cells c2 t2)).heap[w.heap.size]? = some (.cells c0 t0 (0, 0)) ∧ (((w.alloc (.cells c0 t0)).alloc (.cells c1 t1)).alloc (.cells c2 t2)).heap[w.heap.size + 1]? = some (.cells c1 t1 (0, 0)) ∧ (((w.alloc (.cells c0 t0)).alloc (.cells c1 t1)).alloc (.cells c2 t2)).heap[w.heap.size + 1 + 1]? = some (.cells c2 t2 (0, 0)) := by
 refine ⟨((((Chg.refl (fun _ => False) w).alloc _).alloc _).alloc _), (Chg.refl (fun _ => False) _).drew, ?_, ?_, ?_⟩
 ·exact alloc_old (alloc_old (alloc_last (by first | rfl | simp)))
 ·exact alloc_old (alloc_last (by first | rfl | simp))
 ·exact alloc_last (by first | rfl | simp)
end Go.Proofs.YtlbjjhecgceiaaaGreatDoor
namespace Go.Proofs.YtlbjjhecgceiaaaGreatDoor
open Go.RowKit
set_option linter.unusedVariables false
set_option linter.unusedSimpArgs false
set_option maxRecDepth 20000
theorem sgn_len {w : World} {E : Option Addr} {k l a : Nat} (h : SN w E k l a) : (k != 0) = (a != 0) := by
 have := h.zero
 by_cases hk : k = 0
 ·have h2 := this.1 hk
  rw [hk, h2]
 ·have h2 : a ≠ 0 := fun h => hk (this.2 h)
  rw [bne_iff_ne.2 hk, bne_iff_ne.2 h2]
theorem wholeOf_sn {w : World} {E : Option Addr} {k l a : Nat} (s sb : Bool) (h : SN w E k l a) (hs : (s && a != 0) = sb) : Calls Tryz.prog 39 #[.bool s, .slice E k l] w (PV w (.agg #[.bool sb, .slice E k l])) :=
 wholeOf_any s E k l sb (by rw [sgn_len h]; exact hs) w
theorem cmpN_zero (a b : Nat) : cmpN a b = 0 ↔ a = b := by
 unfold cmpN
 by_cases h1 : a < b
 ·rw [if_pos h1]; omega
 ·rw [if_neg h1]
  by_cases h2 : a = b
  ·rw [if_pos h2]; simp [h2]
  ·rw [if_neg h2]; simp [h2]
def PFN (w : World) (sb : Bool) (a d : Nat) (e : Ending) (w' : World) : Prop := ∃ (E : Option Addr) (k l : Nat) (G : Option Addr) (i j : Nat), e = .returned (.agg #[.bool sb, .slice E k l, .slice G i j]) ∧ SN w' E k l a ∧ SN w' G i j d ∧ Chg (fun _ => False) w w'
theorem up243 {x k : Nat} (h : x < tn k) (hk : k ≤ 1800) : x < tn 1800 := up_tn h hk
set_option maxHeartbeats 2000000 in
theorem DecFrac_neg {w : World} {A : Option Addr} {n c a : Nat} (n1 : Bool) (e0 : Int) (k : Nat) (ha : SN w A n c a) (hk1 : k ≤ 200) (hneg : e0 < 0) (hw : IntKind.i64.wrap (-e0) = (k : Int)) :
  Calls Tryz.prog 16 #[.agg #[.bool n1, .slice A n c, .int .i64 e0]] w (PFN w n1 a (10 ^ k)) := by
 have HP := hid (fun w1 => Pow10_any (w := w1) k (by omega))
 generalize 10 ^ k = T at *
 have hge : ¬ 0 ≤ e0 := by omega
 have HN1 := hid (fun w1 (h : Chg (fun _ => False) w w1) => ha.kept h)
 clear ha hneg
 obtain ⟨HC0, HD, hB0, hB1⟩ := box2 w #[.bool n1, .slice A n c, .int .i64 e0] 43 #[.bool false, .slice none 0 0, .slice none 0 0] 34
 have HZ := hid hB1
 have HSS := hid (fun (w1 : World) h => c3_ (cell3 (kept_heap (w' := w1) h hB0)))
 have HST := hid (fun w1 x0 x1 x2 h => And.intro (fr_ (w.heap.size + 1) x0 x1 x2 (HSS.out w1 h).1) (And.intro (fr_ (w.heap.size + 1) x0 x1 x2 (HSS.out w1 h).2.1) (fr_ (w.heap.size + 1) x0 x1 x2 (HSS.out w1 h).2.2)))
 clear hB0 hB1
 have hk := HD.out
 obtain ⟨d0, d1, d2⟩ := HSS.out _ (Chg.refl _ _)
 go_enter Tryz.func16, Tryz.ntmps16
 go_wp2_with fail
 first | (go_region_held3 (fun w' => w'.cell? ⟨w.heap.size, 0, none⟩ = some (.bool n1) ∧ w'.cell? ⟨w.heap.size, 1, none⟩ = some (.slice A n c) ∧ w'.cell? ⟨w.heap.size, 2, none⟩ = some (.int .i64 e0)) (first | with_reducible exact HSS.out _ hk | with_reducible exact HST.out _ _ _ _ hk | go_keep) (first | (go_at_call 41; refine (HP.out _).mono ?_; intro e w1 h; obtain ⟨E3, k3_, l3_, he, hsn, hc⟩ := h; subst he; replace hk := hk.trans hc sb_; skip; have HN3 := hid hsn; clear hsn; clear hc; obtain ⟨k0, k1, k2, f0, f1, f2⟩ := cell3 (kept_heap hk HZ.out)))) | fail
 all_goals (go_wp2_with fail; refine bodyPost_ret (v := .agg #[.bool n1, .slice A n c, .slice E3 k3_ l3_]) (by rw [results_cell_row rfl _ _ (w.heap.size + 1) _ _ _ _ rfl (store3 (kept_heap hk HZ.out) _ _ _) Tryz.underlying34 rfl frac_size]) rfl ⟨A, n, c, E3, k3_, l3_, rfl, sn_end3 (HN1.out _ (HC0.out.trans hk sb_)) (kept_heap hk HZ.out) (by simp) _ _ _, sn_end3 HN3.out (kept_heap hk HZ.out) (by simp) _ _ _, chg3 (HC0.out.trans hk sb_) (by omega) _ _ _⟩)
set_option maxHeartbeats 2000000 in
theorem DecFrac_zero {w : World} {A : Option Addr} {n c a : Nat} (n1 : Bool) (ha : SN w A n c a) (ha1 : a < tn 1797) (hn : (n1 && a != 0) = n1) :
  Calls Tryz.prog 16 #[.agg #[.bool n1, .slice A n c, .int .i64 0]] w (PFN w n1 a 1) := by
 have HP := hid (fun w1 => (Pow10_any (w := w1) 0 (by omega)))
 have HO := hid (fun w1 => (one_any (w := w1)))
 have HM := hid (fun w1 (E : Option Addr) (k l : Nat) (h : Chg (fun _ => False) w w1) (h1 : SN w1 E k l (10 ^ 0)) => NatMul_any (ha.kept h) h1 (up243 ha1 (by omega)) (pow_tn (by omega)))
 rw [Nat.pow_zero, Nat.mul_one] at HM
 rw [Nat.pow_zero] at HP
 have HH := hid hn
 clear ha hn ha1
 obtain ⟨HC0, HD, hB0, hB1⟩ := box2 w #[.bool n1, .slice A n c, .int .i64 0] 43 #[.bool false, .slice none 0 0, .slice none 0 0] 34
 have HZ := hid hB1
 have HSS := hid (fun (w1 : World) h => c3_ (cell3 (kept_heap (w' := w1) h hB0)))
 have HST := hid (fun w1 x0 x1 x2 h => And.intro (fr_ (w.heap.size + 1) x0 x1 x2 (HSS.out w1 h).1) (And.intro (fr_ (w.heap.size + 1) x0 x1 x2 (HSS.out w1 h).2.1) (fr_ (w.heap.size + 1) x0 x1 x2 (HSS.out w1 h).2.2)))
 clear hB0 hB1
 have hk := HD.out
 obtain ⟨d0, d1, d2⟩ := HSS.out _ (Chg.refl _ _)
 go_enter Tryz.func16, Tryz.ntmps16
 go_wp2_with fail
 first | (go_region_held3 (fun w' => w'.cell? ⟨w.heap.size, 0, none⟩ = some (.bool n1) ∧ w'.cell? ⟨w.heap.size, 1, none⟩ = some (.slice A n c) ∧ w'.cell? ⟨w.heap.size, 2, none⟩ = some (.int .i64 0)) (first | with_reducible exact HSS.out _ hk | with_reducible exact HST.out _ _ _ _ hk | go_keep) (first | (go_at_call 41; refine (HP.out _).mono ?_; intro e w1 h; obtain ⟨E1, k1_, l1_, he, hsn, hc⟩ := h; subst he; replace hk := hk.trans hc sb_; (try replace HN1 := hid (HN1.out.kept hc)); (try replace HN2 := hid (HN2.out.kept hc)); (try replace HN3 := hid (HN3.out.kept hc)); have HN1 := hid hsn; clear hsn; clear hc; obtain ⟨k0, k1, k2, f0, f1, f2⟩ := cell3 (kept_heap hk HZ.out)) | (go_at_call 40; refine (HM.out _ _ _ _ (HC0.out.trans hk sb_) HN1.out).mono ?_; intro e w1 h; obtain ⟨E2, k2_, l2_, he, hsn, hc⟩ := h; subst he; replace hk := hk.trans hc sb_; (try replace HN1 := hid (HN1.out.kept hc)); (try replace HN2 := hid (HN2.out.kept hc)); (try replace HN3 := hid (HN3.out.kept hc)); have HN2 := hid hsn; clear hsn; clear hc; obtain ⟨k0, k1, k2, f0, f1, f2⟩ := cell3 (kept_heap hk HZ.out)) | (go_at_call 39; refine (wholeOf_sn n1 n1 HN2.out HH.out).mono ?_; intro e w1 h; obtain ⟨he, hc⟩ := h; subst he; replace hk := hk.trans hc sb_; (try replace HN1 := hid (HN1.out.kept hc)); (try replace HN2 := hid (HN2.out.kept hc)); (try replace HN3 := hid (HN3.out.kept hc)); skip; clear hc; obtain ⟨k0, k1, k2, f0, f1, f2⟩ := cell3 (kept_heap hk HZ.out)) | (go_at_call 42; refine (HO.out _).mono ?_; intro e w1 h; obtain ⟨E3, k3_, l3_, he, hsn, hc⟩ := h; subst he; replace hk := hk.trans hc sb_; (try replace HN1 := hid (HN1.out.kept hc)); (try replace HN2 := hid (HN2.out.kept hc)); (try replace HN3 := hid (HN3.out.kept hc)); have HN3 := hid hsn; clear hsn; clear hc; obtain ⟨k0, k1, k2, f0, f1, f2⟩ := cell3 (kept_heap hk HZ.out)))) | fail
 all_goals (go_wp2_with fail; refine bodyPost_ret (v := .agg #[.bool n1, .slice E2 k2_ l2_, .slice E3 k3_ l3_]) (by rw [results_cell_row rfl _ _ (w.heap.size + 1) _ _ _ _ rfl (store3 (kept_heap hk HZ.out) _ _ _) Tryz.underlying34 rfl frac_size]) rfl ⟨E2, k2_, l2_, E3, k3_, l3_, rfl, sn_end3 HN2.out (kept_heap hk HZ.out) (by simp) _ _ _, sn_end3 HN3.out (kept_heap hk HZ.out) (by simp) _ _ _, chg3 (HC0.out.trans hk sb_) (by omega) _ _ _⟩)
def PDN (w : World) (sb : Bool) (a : Nat) (e0 : Int) (e : Ending) (w' : World) : Prop := ∃ (E : Option Addr) (k l : Nat), e = .returned (.agg #[.bool sb, .slice E k l, .int .i64 e0]) ∧ SN w' E k l a ∧ Chg (fun _ => False) w w'
theorem DecFrac_any {w : World} {A : Option Addr} {n c a : Nat} (n1 : Bool) (e0 : Int) (s : Nat) (ha : SN w A n c a) (ha1 : a < tn 1797) (hs : s ≤ 200) (hn : (n1 && a != 0) = n1) (he : e0 = -(s : Int)) :
  Calls Tryz.prog 16 #[.agg #[.bool n1, .slice A n c, .int .i64 e0]] w (PFN w n1 a (10 ^ s)) := by
 by_cases h0 : s = 0
 ·subst h0
  have : e0 = 0 := by omega
  subst this
  exact DecFrac_zero n1 ha ha1 hn
 ·exact DecFrac_neg n1 e0 s ha hs (by omega) (by rw [show -e0 = (s : Int) by omega]; exact IntWalk.i64_in _ (by omega))
theorem rounds_any (neg odd : Bool) (h : Int) (w : World) :
  Calls Tryz.prog 44 #[.int .i64 5, .bool neg, .int .i64 h, .bool odd] w (PV w (.bool (decide (0 < h) || (h == 0 && odd)))) := by
 by_cases h1 : 0 < h
 ·have h1' := decide_eq_true h1
  rw [h1', Bool.true_or]
  go_enter Tryz.func44, Tryz.ntmps44
  go_wp2_with fail
  go_ret
  exact ⟨rfl, Chg.refl _ _⟩
 ·have h1' := decide_eq_false h1
  rw [h1', Bool.false_or]
  by_cases h2 : h = 0
  ·have h2' : (h == 0) = true := beq_iff_eq.2 h2
   rw [h2', Bool.true_and]
   go_enter Tryz.func44, Tryz.ntmps44
   go_wp2_with fail
   go_ret
   exact ⟨rfl, Chg.refl _ _⟩
  ·have h2' : (h == 0) = false := beq_eq_false_iff_ne.2 h2
   rw [h2', Bool.false_and]
   go_enter Tryz.func44, Tryz.ntmps44
   go_wp2_with fail
   go_ret
   exact ⟨rfl, Chg.refl _ _⟩
end Go.Proofs.YtlbjjhecgceiaaaGreatDoor
