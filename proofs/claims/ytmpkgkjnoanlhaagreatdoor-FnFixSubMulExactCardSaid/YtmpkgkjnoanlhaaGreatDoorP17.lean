/- Part 17 of the proof. -/
import Derived.Test.YtmpkgkjnoanlhaaGreatDoorP16
namespace Go.Proofs.YtmpkgkjnoanlhaaGreatDoor
open Go.RowKit
set_option linter.unusedVariables false
set_option linter.unusedSimpArgs false
set_option maxRecDepth 20000
structure EnvD (w : World) : Prop where
 env : Env w
 ovf : ∃ t v, w.cell? ⟨0, 0, none⟩ = some (.iface t v)
theorem EnvD.kept {w w' : World} (h : EnvD w) (hc : Chg (fun _ => False) w w') : EnvD w' := ⟨h.env.kept hc, by obtain ⟨t, v, e⟩ := h.ovf; exact ⟨t, v, cell_kept e hc (fun h => h)⟩⟩
def PDec (w : World) (neg : Bool) (o : Option (Int × Nat)) (e : Ending) (w' : World) : Prop :=
 Chg (fun _ => False) w w' ∧ match o with
 | some (c, s) => e = .returned (.tuple #[decV (neg && c != 0) c s, .nilIface])
 | none => ∃ t v, e = .returned (.tuple #[decV false 0 0, .iface t v])
theorem cell3 {w1 : World} {z : Nat} {x0 x1 x2 : Value} {T : TypeId} (hh : w1.heap[z]? = some (.cells #[x0, x1, x2] T (0, 0))) :
  w1.cell? ⟨z, 0, none⟩ = some x0 ∧ w1.cell? ⟨z, 1, none⟩ = some x1 ∧ w1.cell? ⟨z, 2, none⟩ = some x2 ∧ w1.frozen? ⟨z, 0, none⟩ = false ∧ w1.frozen? ⟨z, 1, none⟩ = false ∧ w1.frozen? ⟨z, 2, none⟩ = false := by
 refine ⟨?_, ?_, ?_, ?_, ?_, ?_⟩ <;> simp [World.cell?, World.frozen?, hh]
theorem store3 {w1 : World} {z : Nat} {x0 x1 x2 : Value} {T : TypeId} (hh : w1.heap[z]? = some (.cells #[x0, x1, x2] T (0, 0))) (a b d : Value) :
  (((w1.setCell ⟨z, 0, none⟩ a).setCell ⟨z, 1, none⟩ b).setCell ⟨z, 2, none⟩ d).heap[z]? = some (.cells #[a, b, d] T (0, 0)) := by
 simp [World.setCell, Array.getElem?_modify, hh]
theorem chg3 {w w1 : World} {z : Nat} (hc : Chg (fun _ => False) w w1) (hz : w.heap.size ≤ z) (a b d : Value) : Chg (fun _ => False) w (((w1.setCell ⟨z, 0, none⟩ a).setCell ⟨z, 1, none⟩ b).setCell ⟨z, 2, none⟩ d) :=
 Chg.setCell (p := ⟨z, 2, none⟩) (Chg.setCell (p := ⟨z, 1, none⟩) (Chg.setCell (p := ⟨z, 0, none⟩) hc (fun h => by simp only at h; omega) a) (fun h => by simp only at h; omega) b) (fun h => by simp only at h; omega) d
theorem dec_size : (Tryz.prog.info? 46).map (·.size) = some 3 := by kernel_rfl
theorem dec_result {fn : Func} {p u : Tmp} (h : fn.results = #[.cell p 46, .tmp u]) (tmps : Array Value) (w : World) (g : Nat) (a b d v : Value) (T : TypeId)
  (hp : tmps.getD p undef = .pointer (some ⟨g, 0, none⟩)) (hu : tmps.getD u undef = v) (hg : w.heap[g]? = some (.cells #[a, b, d] T (0, 0))) :
  (results fn tmps).run Tryz.prog w = .ok (.tuple #[.agg #[a, b, d], v]) w := by
 rw [results_cell_tmp h, hp, hu]
 have hl := run_loadVar_row (P := Tryz.prog) w g T 46 #[a, b, d] (0, 0) _ hg Tryz.underlying46 rfl dec_size
 simp [asAddr, hl, Result.andThen]
theorem newSafe_any (neg : Bool) (c : Int) (s : Nat) (hc : Fi c) (hs : s ≤ 19) (w : World) :
  Calls Tryz.prog 63 #[.bool neg, .int .u64 c, .int .i64 s] w (PDec w neg (some (c, s))) := by
 have H := hid (fun w => newUnsafe_any neg c s hc hs w)
 have hb1 : decide ((s : Int) < 0) = false := decide_eq_false (by omega)
 have hb2 : decide ((19 : Int) < (s : Int)) = false := decide_eq_false (by omega)
 obtain ⟨hc0, hc1⟩ := hc
 have hgt : ¬ 9999999999999999999 < c := by omega
 unfold decV at H
 generalize hnb : (neg && c != 0) = nb at *
 have HNB := hid hnb
 clear hnb
 generalize hz : w.heap.size = z at *
 have hnew := heap_alloc_new w (.cells #[.bool false, .int .i8 0, .int .u64 0] 46)
 rw [hz] at hnew
 have hzl : z < (w.alloc (.cells #[.bool false, .int .i8 0, .int .u64 0] 46)).heap.size := by simp [hz]
 have HW := hid (fun w1 (h : Chg (fun _ => False) (w.alloc (.cells #[.bool false, .int .i8 0, .int .u64 0] 46)) w1) => (h.keep z hzl (fun h => h)).trans hnew)
 have HZ := hid hz
 clear hnew hzl
 go_enter Tryz.func63, Tryz.ntmps63
 go_wp2_with (go_at_call 66; refine (H.out _).mono ?_; intro e w1 h; obtain ⟨he, hc⟩ := h; subst he; obtain ⟨k0, k1, k2, f0, f1, f2⟩ := cell3 (HW.out w1 hc))
 have hh := HW.out w1 hc
 have hw3 := store3 hh (.bool nb) (.int .i8 s) (.int .u64 c)
 have hchg := chg3 (((Chg.refl (fun _ => False) w).alloc (.cells #[.bool false, .int .i8 0, .int .u64 0] 46)).trans hc sb_) (Nat.le_of_eq HZ.out) (.bool nb) (.int .i8 s) (.int .u64 c)
 refine bodyPost_ret (v := .tuple #[.agg #[.bool nb, .int .i8 s, .int .u64 c], .nilIface]) (dec_result rfl _ _ z _ _ _ _ _ rfl rfl hw3) rfl ⟨hchg, ?_⟩
 show _ = Ending.returned (.tuple #[decV (neg && c != 0) c s, .nilIface])
 rw [HNB.out]
 rfl
theorem newSafe_flat (neg nb : Bool) (c : Int) (s : Nat) (hc : Fi c) (hs : s ≤ 19) (hnb : (neg && c != 0) = nb) (w : World) :
  Calls Tryz.prog 63 #[.bool neg, .int .u64 c, .int .i64 s] w (fun e w' => e = .returned (.tuple #[.agg #[.bool nb, .int .i8 s, .int .u64 c], .nilIface]) ∧ Chg (fun _ => False) w w') :=
 (newSafe_any neg c s hc hs w).mono (fun e w' h => ⟨by have := h.2; rw [← hnb]; exact this, h.1⟩)
def fromFint (c : Int) (s m : Nat) : Option (Int × Nat) :=
 if s < m then (if c * 10 ^ (m - s) ≤ 9999999999999999999 then some (c * 10 ^ (m - s), m) else none) else some (c, s)
set_option maxHeartbeats 1000000 in
theorem newFromFint_any (neg : Bool) (c : Int) (s m : Nat) (hc : Fi c) (hs : s ≤ 19) (hm : m ≤ 19) (w : World) (he : EnvD w) :
  Calls Tryz.prog 84 #[.bool neg, .int .u64 c, .int .i64 s, .int .i64 m] w (PDec w neg (fromFint c s m)) := by
 have hA := heap_alloc_new w (.cells #[.bool false, .int .i8 0, .int .u64 0] 46)
 have hzl : w.heap.size < (w.alloc (.cells #[.bool false, .int .i8 0, .int .u64 0] 46)).heap.size := by simp
 have HW := hid (fun w1 (h : Chg (fun _ => False) (w.alloc (.cells #[.bool false, .int .i8 0, .int .u64 0] 46)) w1) => (h.keep w.heap.size hzl (fun h => h)).trans hA)
 have hch : Chg (fun _ => False) w (w.alloc (.cells #[.bool false, .int .i8 0, .int .u64 0] 46)) := (Chg.refl _ w).alloc _
 have HCH := hid hch
 have HA := hid hA
 have heA := he.kept hch
 have hend : ∀ (c' : Int) (s' : Nat) (nb : Bool) (w1 : World), (neg && c' != 0) = nb → fromFint c s m = some (c', s') → Chg (fun _ => False) (w.alloc (.cells #[.bool false, .int .i8 0, .int .u64 0] 46)) w1 →
   PDec w neg (fromFint c s m) (.returned (.tuple #[.agg #[.bool nb, .int .i8 s', .int .u64 c'], .nilIface])) (((w1.setCell ⟨w.heap.size, 0, none⟩ (.bool nb)).setCell ⟨w.heap.size, 1, none⟩ (.int .i8 s')).setCell ⟨w.heap.size, 2, none⟩ (.int .u64 c')) := by
  intro c' s' nb w1 h1 h2 h3
  rw [h2]
  refine ⟨chg3 (hch.trans h3 sb_) (Nat.le_refl _) _ _ _, ?_⟩
  show _ = Ending.returned (.tuple #[decV (neg && c' != 0) c' s', .nilIface])
  rw [h1]; rfl
 have HEND := hid hend
 clear hend hA hzl hch
 by_cases h1 : s < m
 ·have hlt : (s : Int) < (m : Int) := by omega
  have hsub : IntKind.i64.wrap ((m : Int) - (s : Int)) = ((m - s : Nat) : Int) := by rw [show (m : Int) - (s : Int) = ((m - s : Nat) : Int) by omega]; exact IntWalk.i64_in _ (by omega)
  have hl := fint_lsh c (m - s) hc (by omega) (w.alloc (.cells #[.bool false, .int .i8 0, .int .u64 0] 46)) heA.env.tab
  have hp := Int.mul_nonneg hc.1 (Int.le_of_lt (p10_pos (m - s)))
  by_cases h2 : c * 10 ^ (m - s) ≤ 9999999999999999999
  ·rw [if_pos h2, decide_eq_true h2] at hl
   have hf : fromFint c s m = some (c * 10 ^ (m - s), m) := by unfold fromFint; rw [if_pos h1, if_pos h2]
   have hFi : Fi (c * 10 ^ (m - s)) := ⟨hp, h2⟩
   generalize c * 10 ^ (m - s) = C at *
   obtain ⟨nb, hnb⟩ : ∃ nb, (neg && C != 0) = nb := ⟨_, rfl⟩
   have hns := fun w => newSafe_flat neg nb C m hFi hm hnb w
   have HL := hid hl; have HNS := hid hns
   have HE2 := hid (fun w1 h => HEND.out C m nb w1 hnb hf h)
   clear hl hns hf h2
   obtain ⟨hC0, hC1⟩ := hFi
   generalize m - s = d at *
   go_enter Tryz.func84, Tryz.ntmps84
   go_wp2_with (first | (go_at_call 81; refine HL.out.mono ?_; intro e w' h; obtain ⟨he1, he2⟩ := h; subst he1; subst he2) | (go_at_call 63; refine (HNS.out _).mono ?_; intro e w1 h; obtain ⟨he3, hc1⟩ := h; subst he3; obtain ⟨k0, k1, k2, f0, f1, f2⟩ := cell3 (HW.out w1 hc1)))
   refine bodyPost_ret (v := .tuple #[.agg #[.bool nb, .int .i8 m, .int .u64 C], .nilIface]) (dec_result rfl _ _ w.heap.size _ _ _ _ _ rfl rfl (store3 (HW.out w1 hc1) _ _ _)) rfl (HE2.out _ hc1)
  ·rw [if_neg h2, decide_eq_false h2] at hl
   have hf : fromFint c s m = none := by unfold fromFint; rw [if_pos h1, if_neg h2]
   rw [hf]
   obtain ⟨t, v, hov⟩ := heA.ovf
   have HL := hid hl
   clear hl h2 hp
   generalize m - s = d at *
   go_enter Tryz.func84, Tryz.ntmps84
   go_wp2_with (go_at_call 81; refine HL.out.mono ?_; intro e w' h; obtain ⟨he1, he2⟩ := h; subst he1; subst he2)
   go_region
   all_goals (go_wp2_with fail; refine bodyPost_ret (v := .tuple #[.agg #[.bool false, .int .i8 0, .int .u64 0], .iface t v]) (dec_result rfl _ _ w.heap.size _ _ _ _ 46 rfl rfl (by exact HA.out)) rfl ⟨HCH.out.drew, t, v, rfl⟩)
 ·have hlt : ¬ (s : Int) < (m : Int) := by omega
  have h19 : ¬ (19 : Int) < (s : Int) := by omega
  have hf : fromFint c s m = some (c, s) := by unfold fromFint; rw [if_neg h1]
  obtain ⟨nb, hnb⟩ : ∃ nb, (neg && c != 0) = nb := ⟨_, rfl⟩
  have hns := fun w => newSafe_flat neg nb c s hc hs hnb w
  have HNS := hid hns
  have HE2 := hid (fun w1 h => HEND.out c s nb w1 hnb hf h)
  clear hns hf
  obtain ⟨hC0, hC1⟩ := hc
  go_enter Tryz.func84, Tryz.ntmps84
  go_wp2_with (go_at_call 63; refine (HNS.out _).mono ?_; intro e w1 h; obtain ⟨he3, hc1⟩ := h; subst he3; obtain ⟨k0, k1, k2, f0, f1, f2⟩ := cell3 (HW.out w1 hc1))
  refine bodyPost_ret (v := .tuple #[.agg #[.bool nb, .int .i8 s, .int .u64 c], .nilIface]) (dec_result rfl _ _ w.heap.size _ _ _ _ _ rfl rfl (store3 (HW.out w1 hc1) _ _ _)) rfl (HE2.out _ hc1)
def PErr (w : World) (e : Ending) (w' : World) : Prop := (∃ t v, e = .returned (.iface t v)) ∧ Chg (fun _ => False) w w'
theorem errorsNew_any (s : ByteArray) (w : World) : Calls Tryz.prog 61 #[.string s] w (PErr w) := by
 go_enter Tryz.func61, Tryz.ntmps61
 go_wp2_with fail
 go_ret
 exact ⟨⟨_, _, rfl⟩, (Chg.refl _ _).alloc _⟩
theorem overflowError_any (a b c : Int) (w : World) : Calls Tryz.prog 97 #[.int .i64 a, .int .i64 b, .int .i64 c] w (PErr w) := by
 go_enter Tryz.func97, Tryz.ntmps97
 go_wp2_with (go_at_call 61; refine (errorsNew_any _ _).mono ?_; intro e w1 h; obtain ⟨⟨t, v, he⟩, hc⟩ := h; subst he)
 go_ret
 exact ⟨⟨_, _, rfl⟩, hc⟩
def PDecB (w : World) (p : Nat) (bo : Option Nat) (neg : Bool) (o : Option (Nat × Nat)) (e : Ending) (w' : World) : Prop :=
 Chg (fun k => k = p ∨ bo = some k) w w' ∧ match o with
 | some (c, s) => e = .returned (.tuple #[decV (neg && (c : Int) != 0) c s, .nilIface])
 | none => ∃ t v, e = .returned (.tuple #[decV false 0 0, .iface t v])
theorem cell_z {w : World} {p : Nat} {bo : Option Nat} {x : Int} (hp : IntAt w p bo x) {w1 : World} (h : Chg (fun k => k = p ∨ bo = some k) (w.alloc (.cells #[.bool false, .int .i8 0, .int .u64 0] 46)) w1) :
  w1.heap[w.heap.size]? = some (.cells #[.bool false, .int .i8 0, .int .u64 0] 46 (0, 0)) := by
 rw [h.keep w.heap.size (by simp) (by rintro (k | k); (have := hp.lt; omega); (have := hp.blk k; omega))]
 exact heap_alloc_new w _
set_option maxHeartbeats 1000000 in
theorem nfb_none (neg : Bool) (p : Nat) (bo : Option Nat) (c s m : Nat) (w : World) (hp : IntAt w p bo (c : Int)) (he : EnvD w) (hc : digs c ≤ 57) (hs : s ≤ 57) (hm : m ≤ 19) (h1 : 19 + s < digs c + m) :
  Calls Tryz.prog 79 #[.bool neg, .pointer (some ⟨p, 0, none⟩), .int .i64 s, .int .i64 m] w (PDecB w p bo neg none) := by
 have hch : Chg (fun _ => False) w (w.alloc (.cells #[.bool false, .int .i8 0, .int .u64 0] 46)) := (Chg.refl _ w).alloc _
 have hc99 : (c : Int) < 10 ^ 99 := by
  have h1 := digs_le.1 hc
  have h2 : (10 : Nat) ^ 57 ≤ 10 ^ 99 := Nat.pow_le_pow_right (by omega) (by omega)
  have := pow_cast 99
  omega
 have hpr := bint_prec p bo (c : Int) _ (hp.new hch) (he.env.kept hch) hc99
 rw [Int.toNat_natCast] at hpr
 have HW := hid (fun w1 (h : Chg (fun k => k = p ∨ bo = some k) (w.alloc (.cells #[.bool false, .int .i8 0, .int .u64 0] 46)) w1) => cell_z hp h)
 generalize digs c = D at *
 have HP := hid hpr
 have HCH := hid hch
 have hw1 : IntKind.i64.wrap ((D : Int) - (s : Int)) = (D : Int) - (s : Int) := IntWalk.i64_in _ (by omega)
 have hw2 : IntKind.i64.wrap (19 - (m : Int)) = 19 - (m : Int) := IntWalk.i64_in _ (by omega)
 have hgt : 19 - (m : Int) < (D : Int) - (s : Int) := by omega
 clear hpr hch hc99 hp he
 go_enter Tryz.func79, Tryz.ntmps79
 go_wp2_with (first | (go_at_call 96; refine HP.out.mono ?_; intro e w1 h; obtain ⟨he1, hc1⟩ := h; subst he1) | (go_at_call 97; refine (overflowError_any _ _ _ _).mono ?_; intro e w2 h; obtain ⟨⟨t, v, he2⟩, hc2⟩ := h; subst he2; have hcc := hc1.trans hc2 sb_; obtain ⟨k0, k1, k2, f0, f1, f2⟩ := cell3 (HW.out w2 (hcc.mono (fun _ h => h.elim)))))
 refine bodyPost_ret (v := .tuple #[.agg #[.bool false, .int .i8 0, .int .u64 0], .iface t v]) (dec_result rfl _ _ w.heap.size _ _ _ _ 46 rfl rfl (store3 (HW.out w2 (hcc.mono (fun _ h => h.elim))) _ _ _)) rfl ⟨(chg3 (HCH.out.trans hcc sb_) (Nat.le_refl _) _ _ _).mono (fun _ h => h.elim), t, v, rfl⟩
theorem EnvD.int {w w' : World} {p : Nat} {bo : Option Nat} {x : Int} (h : EnvD w) (hp : IntAt w p bo x) (hc : Chg (fun k => k = p ∨ bo = some k) w w') : EnvD w' := by
 refine ⟨h.env.int hp hc, ?_⟩
 obtain ⟨t, v, e⟩ := h.ovf
 refine ⟨t, v, cell_kept e hc ?_⟩
 rintro (k | k)
 ·have k' : 0 = p := k
  subst k'
  obtain ⟨_, _, c0, _⟩ := hp.fld
  rw [c0] at e; cases e
 ·subst k
  obtain ⟨_, _, ds, _, _, ⟨sp, _, hr, h1, _⟩, _⟩ := hp
  have := hr.cell (i := 0) (by simp; omega)
  rw [e] at this; cases this
structure Mid (w0 w2 : World) (p : Nat) (bo : Option Nat) (x : Int) : Prop where
 int : ∃ b2, IntAt w2 p b2 x ∧ (b2 = bo ∨ ∃ b, b2 = some b ∧ w0.heap.size ≤ b)
 env : EnvD w2
 chg : Chg (fun k => k = p ∨ bo = some k) w0 w2
theorem Mid.same {w0 w2 w3 : World} {p : Nat} {bo : Option Nat} {x : Int} (h : Mid w0 w2 p bo x) (hc : Chg (fun _ => False) w2 w3) : Mid w0 w3 p bo x := by
 obtain ⟨b2, h1, h2⟩ := h.int
 exact ⟨⟨b2, h1.new hc, h2⟩, h.env.kept hc, h.chg.trans hc (fun _ _ h => h.elim)⟩
theorem Mid.step {w0 w2 w3 : World} {p : Nat} {bo b2 : Option Nat} {x y : Int} {r : Value} {e : Ending} (h : Mid w0 w2 p bo x) (h1 : IntAt w2 p b2 x) (k : PInt w2 p b2 y r e w3) : Mid w0 w3 p bo y := by
 obtain ⟨b2', h1', h2⟩ := h.int
 obtain rfl := h1.uniq h1'
 obtain ⟨_, bn, k1, k2, k3⟩ := k
 have hs := h.chg.size
 refine ⟨⟨bn, k1, ?_⟩, h.env.int h1 k3, h.chg.trans k3 (fun i hi hh => ?_)⟩
 ·rcases k2 with e | ⟨c, e, hc⟩
  ·rw [e]; exact h2
  ·exact .inr ⟨c, e, by omega⟩
 ·rcases hh with hh | hh
  ·exact .inl hh
  ·rcases h2 with e | ⟨c, e, hc⟩
   ·exact .inr (e ▸ hh)
   ·rw [hh] at e; simp only [Option.some.injEq] at e; omega
theorem mid_prec {w0 w2 : World} {p : Nat} {bo : Option Nat} {c : Nat} (h : Mid w0 w2 p bo (c : Int)) (hc : digs c ≤ 57) :
  Calls Tryz.prog 96 #[.pointer (some ⟨p, 0, none⟩)] w2 (fun e w3 => e = .returned (.int .i64 (digs c)) ∧ Mid w0 w3 p bo (c : Int)) := by
 obtain ⟨b2, h1, _⟩ := h.int
 have hc99 : (c : Int) < 10 ^ 99 := by
  have h1 := digs_le.1 hc
  have h2 : (10 : Nat) ^ 57 ≤ 10 ^ 99 := Nat.pow_le_pow_right (by omega) (by omega)
  have := pow_cast 99
  omega
 have hpr := bint_prec p b2 (c : Int) _ h1 h.env.env hc99
 rw [Int.toNat_natCast] at hpr
 exact hpr.mono (fun e w3 k => ⟨k.1, h.same k.2⟩)
theorem mid_hasPrec {w0 w2 : World} {p : Nat} {bo : Option Nat} {x : Int} {b : Bool} (h : Mid w0 w2 p bo x) (hb : decide ((10 : Int) ^ 19 ≤ x) = b) :
  Calls Tryz.prog 99 #[.pointer (some ⟨p, 0, none⟩), .int .i64 20] w2 (fun e w3 => e = .returned (.bool b) ∧ Mid w0 w3 p bo x) := by
 obtain ⟨b2, h1, _⟩ := h.int
 subst hb
 exact (bint_hasPrec p b2 x w2 h1 h.env.env).mono (fun e w3 k => ⟨k.1, h.same k.2⟩)
theorem mid_fint {w0 w2 : World} {p : Nat} {bo : Option Nat} {x : Int} (h : Mid w0 w2 p bo x) (hx : Wd x) :
  Calls Tryz.prog 100 #[.pointer (some ⟨p, 0, none⟩)] w2 (fun e w3 => e = .returned (.int .u64 x) ∧ w2 = w3) := by
 obtain ⟨b2, h1, _⟩ := h.int
 exact bint_fint p b2 x w2 h1 hx
theorem digs_bp {c : Nat} (hc : digs c ≤ 57) : (c : Int) < BP 30 := by
 have h1 := digs_le.1 hc
 have h2 := pow_cast 57
 have := p10_bd (k := 57) (by omega)
 omega
theorem mid_lsh {w0 w2 : World} {p : Nat} {bo : Option Nat} {c k : Nat} (h : Mid w0 w2 p bo (c : Int)) (hc : digs c ≤ 57) (hk : k ≤ 99) :
  Calls Tryz.prog 75 #[.pointer (some ⟨p, 0, none⟩), .pointer (some ⟨p, 0, none⟩), .int .i64 k] w2 (fun e w3 => e = .returned (.tuple #[]) ∧ Mid w0 w3 p bo ((c * 10 ^ k : Nat) : Int)) := by
 obtain ⟨b2, h1, _⟩ := h.int
 have e : ((c * 10 ^ k : Nat) : Int) = (c : Int) * 10 ^ k := by rw [Int.natCast_mul, pow_cast]
 rw [e]
 exact (bint_lsh_same p b2 (c : Int) k w2 h1 h.env.env (digs_bp hc) hk).mono (fun e w3 q => ⟨q.1, h.step h1 q⟩)
theorem mid_rsh {w0 w2 : World} {p : Nat} {bo : Option Nat} {c k : Nat} (h : Mid w0 w2 p bo (c : Int)) (hc : digs c ≤ 57) (hk1 : 1 ≤ k) (hk : k ≤ 57) :
  Calls Tryz.prog 98 #[.pointer (some ⟨p, 0, none⟩), .pointer (some ⟨p, 0, none⟩), .int .i64 k] w2 (fun e w3 => e = .returned (.tuple #[]) ∧ Mid w0 w3 p bo ((rhe c (10 ^ k) : Nat) : Int)) := by
 obtain ⟨b2, h1, _⟩ := h.int
 rw [← rheI_nat, pow_cast]
 exact (bint_rshHalfEven p k b2 (c : Int) w2 h1 h.env.env (digs_bp hc) hk1 hk).mono (fun e w3 q => ⟨q.1, h.step h1 q⟩)
theorem mid_start {w : World} {p : Nat} {bo : Option Nat} {x : Int} (hp : IntAt w p bo x) (he : EnvD w) :
  Mid (w.alloc (.cells #[.bool false, .int .i8 0, .int .u64 0] 46)) (w.alloc (.cells #[.bool false, .int .i8 0, .int .u64 0] 46)) p bo x := by
 have hch : Chg (fun _ => False) w (w.alloc (.cells #[.bool false, .int .i8 0, .int .u64 0] 46)) := (Chg.refl _ w).alloc _
 exact ⟨⟨bo, hp.new hch, .inl rfl⟩, he.kept hch, Chg.refl _ _⟩
theorem mid_end {w w2 : World} {p : Nat} {bo : Option Nat} {x : Int} {neg nb : Bool} {c1 t : Nat} (hp : IntAt w p bo x) (hnb : (neg && (c1 : Int) != 0) = nb)
  (h : Chg (fun k => k = p ∨ bo = some k) (w.alloc (.cells #[.bool false, .int .i8 0, .int .u64 0] 46)) w2) :
  PDecB w p bo neg (some (c1, t)) (.returned (.tuple #[.agg #[.bool nb, .int .i8 t, .int .u64 c1], .nilIface])) (((w2.setCell ⟨w.heap.size, 0, none⟩ (.bool nb)).setCell ⟨w.heap.size, 1, none⟩ (.int .i8 t)).setCell ⟨w.heap.size, 2, none⟩ (.int .u64 c1)) := by
 have hch : Chg (fun k => k = p ∨ bo = some k) w (w.alloc (.cells #[.bool false, .int .i8 0, .int .u64 0] 46)) := (Chg.refl _ w).alloc _
 have h2 := hch.trans h sb_
 refine ⟨Chg.setCell (p := ⟨w.heap.size, 2, none⟩) (Chg.setCell (p := ⟨w.heap.size, 1, none⟩) (Chg.setCell (p := ⟨w.heap.size, 0, none⟩) h2 (fun h => by simp only at h; omega) _) (fun h => by simp only at h; omega) _) (fun h => by simp only at h; omega) _, ?_⟩
 show _ = Ending.returned (.tuple #[decV (neg && (c1 : Int) != 0) c1 t, .nilIface])
 rw [hnb]; rfl
set_option maxHeartbeats 1000000 in
theorem nfb_exact1 (neg : Bool) (p : Nat) (bo : Option Nat) (c s m : Nat) (w : World) (hp : IntAt w p bo (c : Int)) (he : EnvD w) (hc : digs c ≤ 57) (hs : s ≤ 57) (hm : m ≤ 19) (h1 : ¬ 19 + s < digs c + m)(ha : ¬ s < m) (hb : s ≤ 19) (hd : digs c ≤ 19) (hds : digs c ≤ s) (hlt : c < 10 ^ 19) :
    Calls Tryz.prog 79 #[.bool neg, .pointer (some ⟨p, 0, none⟩), .int .i64 s, .int .i64 m] w (PDecB w p bo neg (some (c, s))) := by
  have hpr := mid_prec (mid_start hp he) hc
  have HPR := hid hpr
  have HW := hid (fun w1 (h : Chg (fun k => k = p ∨ bo = some k) (w.alloc (.cells #[.bool false, .int .i8 0, .int .u64 0] 46)) w1) => cell_z hp h)
  obtain ⟨c1, hc1e⟩ : ∃ c1, c = c1 := ⟨_, rfl⟩
  rw [hc1e] at hlt
  rw [hc1e]
  have hfi : Fi (c1 : Int) := ⟨by omega, by have : (10 : Nat) ^ 19 = 10000000000000000000 := by decide
                                            omega⟩
  have hwd := hfi.wd
  have hb19 : decide ((10 : Int) ^ 19 ≤ (c1 : Int)) = false := decide_eq_false (by have := pow_cast 19; omega)
  obtain ⟨nb, hnb⟩ : ∃ nb, (neg && (c1 : Int) != 0) = nb := ⟨_, rfl⟩
  have hns := fun w => newSafe_flat neg nb (c1 : Int) s hfi (by omega) hnb w
  have HNS := hid hns
  have HEND := hid (fun w2 h => mid_end (w := w) (w2 := w2) (t := s) hp hnb h)
  have hlt1 : ¬ (s : Int) < (m : Int) := by omega
  have hle1 : ¬ (19 : Int) < (s : Int) := by omega
  have hd2 : ¬ (19 : Int) < (digs c : Int) := by omega
  have hd3 : (digs c : Int) ≤ (s : Int) := by omega
  have hd4 : ¬ (s : Int) < (digs c : Int) := by omega
  have hw1 : IntKind.i64.wrap ((digs c : Int) - (s : Int)) = (digs c : Int) - (s : Int) := IntWalk.i64_in _ (by omega)
  have hw2 : IntKind.i64.wrap (19 - (m : Int)) = 19 - (m : Int) := IntWalk.i64_in _ (by omega)
  obtain ⟨A, hA⟩ : ∃ A, (digs c : Int) - (s : Int) = A := ⟨_, rfl⟩
  obtain ⟨B, hB⟩ : ∃ B, 19 - (m : Int) = B := ⟨_, rfl⟩
  have hgt : ¬ B < A := by omega
  replace hw1 : IntKind.i64.wrap ((digs c : Int) - (s : Int)) = A := by rw [hw1, hA]
  replace hw2 : IntKind.i64.wrap (19 - (m : Int)) = B := by rw [hw2, hB]
  clear hA hB
  have HWD := hid hwd
  clear hwd
  have HC1 := hid hc1e
  have HMID := True.intro
  clear hpr hns hp he hlt hfi hc1e h1 ha hb hd hds
  clear hc
  generalize digs c = D at *
  go_enter Tryz.func79, Tryz.ntmps79
  go_wp2_with (first | (go_at_call 96; refine HPR.out.mono ?_; intro e w1 h; obtain ⟨he1, hm1⟩ := h; subst he1; rw [HC1.out] at hm1; have HM1 := hid hm1; clear hm1) | (go_at_call 99; refine (mid_hasPrec HM1.out hb19).mono ?_; intro e w3 h; obtain ⟨he3, hm3⟩ := h; subst he3; have HM3 := hid hm3; clear hm3) | (go_at_call 100; refine (mid_fint HM3.out HWD.out).mono ?_; intro e w4 h; obtain ⟨he4, hw4⟩ := h; subst he4; subst hw4) | (go_at_call 63; refine (HNS.out _).mono ?_; intro e w5 h; obtain ⟨he5, hc5⟩ := h; subst he5; have hcc := HM3.out.chg.trans hc5 (fun _ _ h => h.elim); obtain ⟨k0, k1, k2, f0, f1, f2⟩ := cell3 (HW.out w5 hcc); have HCC := hid hcc; clear hcc))
  refine bodyPost_ret (v := .tuple #[.agg #[.bool nb, .int .i8 s, .int .u64 c1], .nilIface]) (dec_result rfl _ _ w.heap.size _ _ _ _ 46 rfl rfl (store3 (HW.out w5 HCC.out) _ _ _)) rfl (HEND.out _ HCC.out)
set_option maxHeartbeats 1000000 in
theorem nfb_exact2 (neg : Bool) (p : Nat) (bo : Option Nat) (c s m : Nat) (w : World) (hp : IntAt w p bo (c : Int)) (he : EnvD w) (hc : digs c ≤ 57) (hs : s ≤ 57) (hm : m ≤ 19) (h1 : ¬ 19 + s < digs c + m)(ha : ¬ s < m) (hb : s ≤ 19) (hd : digs c ≤ 19) (hds : s < digs c) (hlt : c < 10 ^ 19) :
    Calls Tryz.prog 79 #[.bool neg, .pointer (some ⟨p, 0, none⟩), .int .i64 s, .int .i64 m] w (PDecB w p bo neg (some (c, s))) := by
  have hpr := mid_prec (mid_start hp he) hc
  have HPR := hid hpr
  have HW := hid (fun w1 (h : Chg (fun k => k = p ∨ bo = some k) (w.alloc (.cells #[.bool false, .int .i8 0, .int .u64 0] 46)) w1) => cell_z hp h)
  obtain ⟨c1, hc1e⟩ : ∃ c1, c = c1 := ⟨_, rfl⟩
  rw [hc1e] at hlt
  rw [hc1e]
  have hfi : Fi (c1 : Int) := ⟨by omega, by have : (10 : Nat) ^ 19 = 10000000000000000000 := by decide
                                            omega⟩
  have hwd := hfi.wd
  have hb19 : decide ((10 : Int) ^ 19 ≤ (c1 : Int)) = false := decide_eq_false (by have := pow_cast 19; omega)
  obtain ⟨nb, hnb⟩ : ∃ nb, (neg && (c1 : Int) != 0) = nb := ⟨_, rfl⟩
  have hns := fun w => newSafe_flat neg nb (c1 : Int) s hfi (by omega) hnb w
  have HNS := hid hns
  have HEND := hid (fun w2 h => mid_end (w := w) (w2 := w2) (t := s) hp hnb h)
  have hlt1 : ¬ (s : Int) < (m : Int) := by omega
  have hle1 : ¬ (19 : Int) < (s : Int) := by omega
  have hd2 : ¬ (19 : Int) < (digs c : Int) := by omega
  have hd3 : ¬ (digs c : Int) ≤ (s : Int) := by omega
  have hd4 : (s : Int) < (digs c : Int) := by omega
  have hw1 : IntKind.i64.wrap ((digs c : Int) - (s : Int)) = (digs c : Int) - (s : Int) := IntWalk.i64_in _ (by omega)
  have hw2 : IntKind.i64.wrap (19 - (m : Int)) = 19 - (m : Int) := IntWalk.i64_in _ (by omega)
  obtain ⟨A, hA⟩ : ∃ A, (digs c : Int) - (s : Int) = A := ⟨_, rfl⟩
  obtain ⟨B, hB⟩ : ∃ B, 19 - (m : Int) = B := ⟨_, rfl⟩
  have hgt : ¬ B < A := by omega
  replace hw1 : IntKind.i64.wrap ((digs c : Int) - (s : Int)) = A := by rw [hw1, hA]
  replace hw2 : IntKind.i64.wrap (19 - (m : Int)) = B := by rw [hw2, hB]
  clear hA hB
  have HWD := hid hwd
  clear hwd
  have HC1 := hid hc1e
  have HMID := True.intro
  clear hpr hns hp he hlt hfi hc1e h1 ha hb hd hds
  clear hc
  generalize digs c = D at *
  go_enter Tryz.func79, Tryz.ntmps79
  go_wp2_with (first | (go_at_call 96; refine HPR.out.mono ?_; intro e w1 h; obtain ⟨he1, hm1⟩ := h; subst he1; rw [HC1.out] at hm1; have HM1 := hid hm1; clear hm1) | (go_at_call 99; refine (mid_hasPrec HM1.out hb19).mono ?_; intro e w3 h; obtain ⟨he3, hm3⟩ := h; subst he3; have HM3 := hid hm3; clear hm3) | (go_at_call 100; refine (mid_fint HM3.out HWD.out).mono ?_; intro e w4 h; obtain ⟨he4, hw4⟩ := h; subst he4; subst hw4) | (go_at_call 63; refine (HNS.out _).mono ?_; intro e w5 h; obtain ⟨he5, hc5⟩ := h; subst he5; have hcc := HM3.out.chg.trans hc5 (fun _ _ h => h.elim); obtain ⟨k0, k1, k2, f0, f1, f2⟩ := cell3 (HW.out w5 hcc); have HCC := hid hcc; clear hcc))
  refine bodyPost_ret (v := .tuple #[.agg #[.bool nb, .int .i8 s, .int .u64 c1], .nilIface]) (dec_result rfl _ _ w.heap.size _ _ _ _ 46 rfl rfl (store3 (HW.out w5 HCC.out) _ _ _)) rfl (HEND.out _ HCC.out)
set_option maxHeartbeats 1000000 in
theorem nfb_lsh (neg : Bool) (p : Nat) (bo : Option Nat) (c s m : Nat) (w : World) (hp : IntAt w p bo (c : Int)) (he : EnvD w) (hc : digs c ≤ 57) (hs : s ≤ 57) (hm : m ≤ 19) (h1 : ¬ 19 + s < digs c + m)(ha : s < m) (hlt : (c * 10 ^ (m - s)) < 10 ^ 19) :
    Calls Tryz.prog 79 #[.bool neg, .pointer (some ⟨p, 0, none⟩), .int .i64 s, .int .i64 m] w (PDecB w p bo neg (some ((c * 10 ^ (m - s)), m))) := by
  have hpr := mid_prec (mid_start hp he) hc
  have HPR := hid hpr
  have HW := hid (fun w1 (h : Chg (fun k => k = p ∨ bo = some k) (w.alloc (.cells #[.bool false, .int .i8 0, .int .u64 0] 46)) w1) => cell_z hp h)
  obtain ⟨c1, hc1e⟩ : ∃ c1, (c * 10 ^ (m - s)) = c1 := ⟨_, rfl⟩
  rw [hc1e] at hlt
  rw [hc1e]
  have hfi : Fi (c1 : Int) := ⟨by omega, by have : (10 : Nat) ^ 19 = 10000000000000000000 := by decide
                                            omega⟩
  have hwd := hfi.wd
  have hb19 : decide ((10 : Int) ^ 19 ≤ (c1 : Int)) = false := decide_eq_false (by have := pow_cast 19; omega)
  obtain ⟨nb, hnb⟩ : ∃ nb, (neg && (c1 : Int) != 0) = nb := ⟨_, rfl⟩
  have hns := fun w => newSafe_flat neg nb (c1 : Int) m hfi (by omega) hnb w
  have HNS := hid hns
  have HEND := hid (fun w2 h => mid_end (w := w) (w2 := w2) (t := m) hp hnb h)
  have hlt1 : (s : Int) < (m : Int) := by omega
  have hsub : IntKind.i64.wrap ((m : Int) - (s : Int)) = ((m - s : Nat) : Int) := by rw [show (m : Int) - (s : Int) = ((m - s : Nat) : Int) by omega]; exact IntWalk.i64_in _ (by omega)
  have hw1 : IntKind.i64.wrap ((digs c : Int) - (s : Int)) = (digs c : Int) - (s : Int) := IntWalk.i64_in _ (by omega)
  have hw2 : IntKind.i64.wrap (19 - (m : Int)) = 19 - (m : Int) := IntWalk.i64_in _ (by omega)
  obtain ⟨A, hA⟩ : ∃ A, (digs c : Int) - (s : Int) = A := ⟨_, rfl⟩
  obtain ⟨B, hB⟩ : ∃ B, 19 - (m : Int) = B := ⟨_, rfl⟩
  have hgt : ¬ B < A := by omega
  replace hw1 : IntKind.i64.wrap ((digs c : Int) - (s : Int)) = A := by rw [hw1, hA]
  replace hw2 : IntKind.i64.wrap (19 - (m : Int)) = B := by rw [hw2, hB]
  clear hA hB
  have HWD := hid hwd
  clear hwd
  have HC1 := hid hc1e
  have HMID := hid (fun w2 (h : Mid (w.alloc (.cells #[.bool false, .int .i8 0, .int .u64 0] 46)) w2 p bo (c : Int)) => mid_lsh (k := m - s) h hc (by omega))
  clear hpr hns hp he hlt hfi hc1e h1 ha
  clear hc
  generalize m - s = d at *
  generalize digs c = D at *
  go_enter Tryz.func79, Tryz.ntmps79
  go_wp2_with (first | (go_at_call 96; refine HPR.out.mono ?_; intro e w1 h; obtain ⟨he1, hm1⟩ := h; subst he1; have HM1 := hid hm1; clear hm1) | (go_at_call 75; refine (HMID.out _ HM1.out).mono ?_; intro e w2 h; obtain ⟨he2, hm2⟩ := h; subst he2; rw [HC1.out] at hm2; have HM2 := hid hm2; clear hm2) | (go_at_call 99; refine (mid_hasPrec HM2.out hb19).mono ?_; intro e w3 h; obtain ⟨he3, hm3⟩ := h; subst he3; have HM3 := hid hm3; clear hm3) | (go_at_call 100; refine (mid_fint HM3.out HWD.out).mono ?_; intro e w4 h; obtain ⟨he4, hw4⟩ := h; subst he4; subst hw4) | (go_at_call 63; refine (HNS.out _).mono ?_; intro e w5 h; obtain ⟨he5, hc5⟩ := h; subst he5; have hcc := HM3.out.chg.trans hc5 (fun _ _ h => h.elim); obtain ⟨k0, k1, k2, f0, f1, f2⟩ := cell3 (HW.out w5 hcc); have HCC := hid hcc; clear hcc))
  refine bodyPost_ret (v := .tuple #[.agg #[.bool nb, .int .i8 (m : Nat), .int .u64 c1], .nilIface]) (dec_result rfl _ _ w.heap.size _ _ _ _ 46 rfl rfl (store3 (HW.out w5 HCC.out) _ _ _)) rfl (HEND.out _ HCC.out)
set_option maxHeartbeats 1000000 in
theorem nfb_rsh (neg : Bool) (p : Nat) (bo : Option Nat) (c s m : Nat) (w : World) (hp : IntAt w p bo (c : Int)) (he : EnvD w) (hc : digs c ≤ 57) (hs : s ≤ 57) (hm : m ≤ 19) (h1 : ¬ 19 + s < digs c + m)(ha : ¬ s < m) (hb : digs c ≤ s ∧ 19 < s) (hlt : (rhe c (10 ^ (s - 19))) < 10 ^ 19) :
    Calls Tryz.prog 79 #[.bool neg, .pointer (some ⟨p, 0, none⟩), .int .i64 s, .int .i64 m] w (PDecB w p bo neg (some ((rhe c (10 ^ (s - 19))), 19))) := by
  have hpr := mid_prec (mid_start hp he) hc
  have HPR := hid hpr
  have HW := hid (fun w1 (h : Chg (fun k => k = p ∨ bo = some k) (w.alloc (.cells #[.bool false, .int .i8 0, .int .u64 0] 46)) w1) => cell_z hp h)
  obtain ⟨c1, hc1e⟩ : ∃ c1, (rhe c (10 ^ (s - 19))) = c1 := ⟨_, rfl⟩
  rw [hc1e] at hlt
  rw [hc1e]
  have hfi : Fi (c1 : Int) := ⟨by omega, by have : (10 : Nat) ^ 19 = 10000000000000000000 := by decide
                                            omega⟩
  have hwd := hfi.wd
  have hb19 : decide ((10 : Int) ^ 19 ≤ (c1 : Int)) = false := decide_eq_false (by have := pow_cast 19; omega)
  obtain ⟨nb, hnb⟩ : ∃ nb, (neg && (c1 : Int) != 0) = nb := ⟨_, rfl⟩
  have hns := fun w => newSafe_flat neg nb (c1 : Int) 19 hfi (by omega) hnb w
  have HNS := hid hns
  have HEND := hid (fun w2 h => mid_end (w := w) (w2 := w2) (t := 19) hp hnb h)
  have hlt1 : ¬ (s : Int) < (m : Int) := by omega
  have hd3 : (digs c : Int) ≤ (s : Int) := by omega
  have hd5 : (19 : Int) < (s : Int) := by omega
  have hsub : IntKind.i64.wrap ((s : Int) - 19) = ((s - 19 : Nat) : Int) := by rw [show (s : Int) - 19 = ((s - 19 : Nat) : Int) by omega]; exact IntWalk.i64_in _ (by omega)
  have hw1 : IntKind.i64.wrap ((digs c : Int) - (s : Int)) = (digs c : Int) - (s : Int) := IntWalk.i64_in _ (by omega)
  have hw2 : IntKind.i64.wrap (19 - (m : Int)) = 19 - (m : Int) := IntWalk.i64_in _ (by omega)
  obtain ⟨A, hA⟩ : ∃ A, (digs c : Int) - (s : Int) = A := ⟨_, rfl⟩
  obtain ⟨B, hB⟩ : ∃ B, 19 - (m : Int) = B := ⟨_, rfl⟩
  have hgt : ¬ B < A := by omega
  replace hw1 : IntKind.i64.wrap ((digs c : Int) - (s : Int)) = A := by rw [hw1, hA]
  replace hw2 : IntKind.i64.wrap (19 - (m : Int)) = B := by rw [hw2, hB]
  clear hA hB
  have HWD := hid hwd
  clear hwd
  have HC1 := hid hc1e
  have HMID := hid (fun w2 (h : Mid (w.alloc (.cells #[.bool false, .int .i8 0, .int .u64 0] 46)) w2 p bo (c : Int)) => mid_rsh (k := s - 19) h hc (by omega) (by omega))
  clear hpr hns hp he hlt hfi hc1e h1 ha hb
  clear hc
  generalize s - 19 = d at *
  generalize digs c = D at *
  go_enter Tryz.func79, Tryz.ntmps79
  go_wp2_with (first | (go_at_call 96; refine HPR.out.mono ?_; intro e w1 h; obtain ⟨he1, hm1⟩ := h; subst he1; have HM1 := hid hm1; clear hm1) | (go_at_call 98; refine (HMID.out _ HM1.out).mono ?_; intro e w2 h; obtain ⟨he2, hm2⟩ := h; subst he2; rw [HC1.out] at hm2; have HM2 := hid hm2; clear hm2) | (go_at_call 99; refine (mid_hasPrec HM2.out hb19).mono ?_; intro e w3 h; obtain ⟨he3, hm3⟩ := h; subst he3; have HM3 := hid hm3; clear hm3) | (go_at_call 100; refine (mid_fint HM3.out HWD.out).mono ?_; intro e w4 h; obtain ⟨he4, hw4⟩ := h; subst he4; subst hw4) | (go_at_call 63; refine (HNS.out _).mono ?_; intro e w5 h; obtain ⟨he5, hc5⟩ := h; subst he5; have hcc := HM3.out.chg.trans hc5 (fun _ _ h => h.elim); obtain ⟨k0, k1, k2, f0, f1, f2⟩ := cell3 (HW.out w5 hcc); have HCC := hid hcc; clear hcc))
  refine bodyPost_ret (v := .tuple #[.agg #[.bool nb, .int .i8 (19 : Nat), .int .u64 c1], .nilIface]) (dec_result rfl _ _ w.heap.size _ _ _ _ 46 rfl rfl (store3 (HW.out w5 HCC.out) _ _ _)) rfl (HEND.out _ HCC.out)
set_option maxHeartbeats 1000000 in
theorem nfb_cut (neg : Bool) (p : Nat) (bo : Option Nat) (c s m : Nat) (w : World) (hp : IntAt w p bo (c : Int)) (he : EnvD w) (hc : digs c ≤ 57) (hs : s ≤ 57) (hm : m ≤ 19) (h1 : ¬ 19 + s < digs c + m)(ha : ¬ s < m) (hb : s < digs c ∧ 19 < digs c) (hlt : (rhe c (10 ^ (digs c - 19))) < 10 ^ 19) :
    Calls Tryz.prog 79 #[.bool neg, .pointer (some ⟨p, 0, none⟩), .int .i64 s, .int .i64 m] w (PDecB w p bo neg (some ((rhe c (10 ^ (digs c - 19))), (19 + s - digs c)))) := by
  have hpr := mid_prec (mid_start hp he) hc
  have HPR := hid hpr
  have HW := hid (fun w1 (h : Chg (fun k => k = p ∨ bo = some k) (w.alloc (.cells #[.bool false, .int .i8 0, .int .u64 0] 46)) w1) => cell_z hp h)
  obtain ⟨c1, hc1e⟩ : ∃ c1, (rhe c (10 ^ (digs c - 19))) = c1 := ⟨_, rfl⟩
  obtain ⟨tt, hte⟩ : ∃ tt, (19 + s - digs c) = tt := ⟨_, rfl⟩
  rw [hc1e] at hlt
  rw [hc1e, hte]
  have hfi : Fi (c1 : Int) := ⟨by omega, by have : (10 : Nat) ^ 19 = 10000000000000000000 := by decide
                                            omega⟩
  have hwd := hfi.wd
  have hb19 : decide ((10 : Int) ^ 19 ≤ (c1 : Int)) = false := decide_eq_false (by have := pow_cast 19; omega)
  obtain ⟨nb, hnb⟩ : ∃ nb, (neg && (c1 : Int) != 0) = nb := ⟨_, rfl⟩
  have hns := fun w => newSafe_flat neg nb (c1 : Int) tt hfi (by omega) hnb w
  have HNS := hid hns
  have HEND := hid (fun w2 h => mid_end (w := w) (w2 := w2) (t := tt) hp hnb h)
  have hlt1 : ¬ (s : Int) < (m : Int) := by omega
  have hd3 : ¬ (digs c : Int) ≤ (s : Int) := by omega
  have hd4 : (s : Int) < (digs c : Int) := by omega
  have hd5 : (19 : Int) < (digs c : Int) := by omega
  have hsub : IntKind.i64.wrap ((digs c : Int) - 19) = ((digs c - 19 : Nat) : Int) := by rw [show (digs c : Int) - 19 = ((digs c - 19 : Nat) : Int) by omega]; exact IntWalk.i64_in _ (by omega)
  have hw5 : IntKind.i64.wrap (19 - (digs c : Int)) = 19 - (digs c : Int) := IntWalk.i64_in _ (by omega)
  have hw6 : IntKind.i64.wrap (19 - (digs c : Int) + (s : Int)) = (tt : Int) := by rw [show 19 - (digs c : Int) + (s : Int) = (tt : Int) by omega]; exact IntWalk.i64_in _ (by omega)
  have hw1 : IntKind.i64.wrap ((digs c : Int) - (s : Int)) = (digs c : Int) - (s : Int) := IntWalk.i64_in _ (by omega)
  have hw2 : IntKind.i64.wrap (19 - (m : Int)) = 19 - (m : Int) := IntWalk.i64_in _ (by omega)
  obtain ⟨A, hA⟩ : ∃ A, (digs c : Int) - (s : Int) = A := ⟨_, rfl⟩
  obtain ⟨B, hB⟩ : ∃ B, 19 - (m : Int) = B := ⟨_, rfl⟩
  have hgt : ¬ B < A := by omega
  replace hw1 : IntKind.i64.wrap ((digs c : Int) - (s : Int)) = A := by rw [hw1, hA]
  replace hw2 : IntKind.i64.wrap (19 - (m : Int)) = B := by rw [hw2, hB]
  clear hA hB
  have HWD := hid hwd
  clear hwd
  have HC1 := hid hc1e
  have HMID := hid (fun w2 (h : Mid (w.alloc (.cells #[.bool false, .int .i8 0, .int .u64 0] 46)) w2 p bo (c : Int)) => mid_rsh (k := digs c - 19) h hc (by omega) (by omega))
  clear hpr hns hp he hlt hfi hc1e h1 ha hb hte
  clear hc
  generalize digs c - 19 = d at *
  generalize digs c = D at *
  go_enter Tryz.func79, Tryz.ntmps79
  go_wp2_with (first | (go_at_call 96; refine HPR.out.mono ?_; intro e w1 h; obtain ⟨he1, hm1⟩ := h; subst he1; have HM1 := hid hm1; clear hm1) | (go_at_call 98; refine (HMID.out _ HM1.out).mono ?_; intro e w2 h; obtain ⟨he2, hm2⟩ := h; subst he2; rw [HC1.out] at hm2; have HM2 := hid hm2; clear hm2) | (go_at_call 99; refine (mid_hasPrec HM2.out hb19).mono ?_; intro e w3 h; obtain ⟨he3, hm3⟩ := h; subst he3; have HM3 := hid hm3; clear hm3) | (go_at_call 100; refine (mid_fint HM3.out HWD.out).mono ?_; intro e w4 h; obtain ⟨he4, hw4⟩ := h; subst he4; subst hw4) | (go_at_call 63; refine (HNS.out _).mono ?_; intro e w5 h; obtain ⟨he5, hc5⟩ := h; subst he5; have hcc := HM3.out.chg.trans hc5 (fun _ _ h => h.elim); obtain ⟨k0, k1, k2, f0, f1, f2⟩ := cell3 (HW.out w5 hcc); have HCC := hid hcc; clear hcc))
  refine bodyPost_ret (v := .tuple #[.agg #[.bool nb, .int .i8 tt, .int .u64 c1], .nilIface]) (dec_result rfl _ _ w.heap.size _ _ _ _ 46 rfl rfl (store3 (HW.out w5 HCC.out) _ _ _)) rfl (HEND.out _ HCC.out)
theorem PDecB.flat {w w' : World} {p : Nat} {bo : Option Nat} {neg : Bool} {o : Option (Nat × Nat)} {e : Ending} (h : PDecB w p bo neg o e w') :
  ∃ (nb : Bool) (s8 c64 : Int) (ev : Value), e = .returned (.tuple #[.agg #[.bool nb, .int .i8 s8, .int .u64 c64], ev]) ∧ Chg (fun k => k = p ∨ bo = some k) w w' ∧
   ∀ (w0 w2 : World) (p0 : Nat) (bo0 : Option Nat), Chg (fun k => k = p0 ∨ bo0 = some k) w0 w2 → PDecB w0 p0 bo0 neg o (.returned (.tuple #[.agg #[.bool nb, .int .i8 s8, .int .u64 c64], ev])) w2 := by
 obtain ⟨hc, ho⟩ := h
 cases o with
 | none =>
  obtain ⟨t, v, he⟩ := ho
  exact ⟨false, _, _, _, he, hc, fun w0 w2 p0 bo0 h => ⟨h, t, v, rfl⟩⟩
 | some cs =>
  obtain ⟨c, s⟩ := cs
  exact ⟨_, _, _, _, ho, hc, fun w0 w2 p0 bo0 h => ⟨h, rfl⟩⟩
theorem nfb_top (neg : Bool) (p : Nat) (bo : Option Nat) (t m : Nat) (w : World) (hp : IntAt w p bo (((10 ^ 19 : Nat)) : Int)) (he : EnvD w) (ht : t ≤ 19) (hm : m ≤ t) :
  Calls Tryz.prog 79 #[.bool neg, .pointer (some ⟨p, 0, none⟩), .int .i64 t, .int .i64 m] w (PDecB w p bo neg (if t = m then none else some (10 ^ 18, t - 1))) := by
 have hd : digs (10 ^ 19) = 20 := digs19 pow19
 by_cases e : t = m
 ·rw [if_pos e]
  exact nfb_none neg p bo (10 ^ 19) t m w hp he (by rw [hd]; omega) (by omega) (by omega) (by rw [hd]; omega)
 ·rw [if_neg e]
  have hr : rhe (10 ^ 19) (10 ^ (digs (10 ^ 19) - 19)) = 10 ^ 18 := by rw [hd]; exact rhe19 pow19
  have h := nfb_cut neg p bo (10 ^ 19) t m w hp he (by rw [hd]; omega) (by omega) (by omega) (by rw [hd]; omega) (by omega) (by rw [hd]; omega) (by rw [hr]; exact pow19.lt)
  rw [hr, hd] at h
  rw [show t - 1 = 19 + t - 20 by omega]
  exact h
theorem mid_top {w0 w3 : World} {p : Nat} {bo : Option Nat} {neg : Bool} {c1 t m : Nat} (h : Mid w0 w3 p bo (c1 : Int)) (hc : c1 = 10 ^ 19) (ht : t ≤ 19) (hm : m ≤ t) :
  Calls Tryz.prog 79 #[.bool neg, .pointer (some ⟨p, 0, none⟩), .int .i64 t, .int .i64 m] w3 (fun e w4 => ∃ (nb : Bool) (s8 c64 : Int) (ev : Value), e = .returned (.tuple #[.agg #[.bool nb, .int .i8 s8, .int .u64 c64], ev]) ∧ Chg (fun k => k = p ∨ bo = some k) w0 w4 ∧
   ∀ (wa w2 : World) (p0 : Nat) (bo0 : Option Nat), Chg (fun k => k = p0 ∨ bo0 = some k) wa w2 → PDecB wa p0 bo0 neg (if t = m then none else some (10 ^ 18, t - 1)) (.returned (.tuple #[.agg #[.bool nb, .int .i8 s8, .int .u64 c64], ev])) w2) := by
 obtain ⟨b2, h1, h2⟩ := h.int
 subst hc
 refine (nfb_top neg p b2 t m w3 h1 h.env ht hm).mono (fun e w4 k => ?_)
 obtain ⟨nb, s8, c64, ev, k1, k2, k3⟩ := k.flat
 refine ⟨nb, s8, c64, ev, k1, h.chg.trans k2 (fun i hi hh => ?_), k3⟩
 rcases hh with hh | hh
 ·exact .inl hh
 ·rcases h2 with e | ⟨c, e, hc⟩
  ·exact .inr (e ▸ hh)
  ·rw [hh] at e; simp only [Option.some.injEq] at e; omega
set_option maxHeartbeats 1000000 in
theorem nfb_rsh2 (neg : Bool) (p : Nat) (bo : Option Nat) (c s m : Nat) (w : World) (hp : IntAt w p bo (c : Int)) (he : EnvD w) (hc : digs c ≤ 57) (hs : s ≤ 57) (hm : m ≤ 19) (h1 : ¬ 19 + s < digs c + m) (ha : ¬ s < m) (hb : digs c ≤ s ∧ 19 < s) (hlt : (rhe c (10 ^ (s - 19))) = 10 ^ 19) :
  Calls Tryz.prog 79 #[.bool neg, .pointer (some ⟨p, 0, none⟩), .int .i64 s, .int .i64 m] w (PDecB w p bo neg (if 19 = m then none else some (10 ^ 18, 19 - 1))) := by
 have hpr := mid_prec (mid_start hp he) hc
 have HPR := hid hpr
 have HW := hid (fun w1 (h : Chg (fun k => k = p ∨ bo = some k) (w.alloc (.cells #[.bool false, .int .i8 0, .int .u64 0] 46)) w1) => cell_z hp h)
 obtain ⟨c1, hc1e⟩ : ∃ c1, (rhe c (10 ^ (s - 19))) = c1 := ⟨_, rfl⟩
 rw [hc1e] at hlt
 have hb19 : decide ((10 : Int) ^ 19 ≤ (c1 : Int)) = true := decide_eq_true (by have := pow_cast 19; rw [hlt]; omega)
 have HREC := hid (fun w3 (h : Mid (w.alloc (.cells #[.bool false, .int .i8 0, .int .u64 0] 46)) w3 p bo (c1 : Int)) => mid_top (neg := neg) (t := 19) (m := m) h hlt (by omega) (by omega))
 have HCHG : Hid (∀ w2, Chg (fun k => k = p ∨ bo = some k) (w.alloc (.cells #[.bool false, .int .i8 0, .int .u64 0] 46)) w2 → ∀ (a b d : Value), Chg (fun k => k = p ∨ bo = some k) w (((w2.setCell ⟨w.heap.size, 0, none⟩ a).setCell ⟨w.heap.size, 1, none⟩ b).setCell ⟨w.heap.size, 2, none⟩ d)) := fun w2 h a b d => by
  have hch : Chg (fun k => k = p ∨ bo = some k) w (w.alloc (.cells #[.bool false, .int .i8 0, .int .u64 0] 46)) := (Chg.refl _ w).alloc _
  have h2 := hch.trans h sb_
  exact Chg.setCell (p := ⟨w.heap.size, 2, none⟩) (Chg.setCell (p := ⟨w.heap.size, 1, none⟩) (Chg.setCell (p := ⟨w.heap.size, 0, none⟩) h2 (fun h => by simp only at h; omega) _) (fun h => by simp only at h; omega) _) (fun h => by simp only at h; omega) _
 generalize (if 19 = m then (none : Option (Nat × Nat)) else some (10 ^ 18, 19 - 1)) = oo at *
 have hlt1 : ¬ (s : Int) < (m : Int) := by omega
 have hd3 : (digs c : Int) ≤ (s : Int) := by omega
 have hd5 : (19 : Int) < (s : Int) := by omega
 have hsub : IntKind.i64.wrap ((s : Int) - 19) = ((s - 19 : Nat) : Int) := by rw [show (s : Int) - 19 = ((s - 19 : Nat) : Int) by omega]; exact IntWalk.i64_in _ (by omega)
 have hw1 : IntKind.i64.wrap ((digs c : Int) - (s : Int)) = (digs c : Int) - (s : Int) := IntWalk.i64_in _ (by omega)
 have hw2 : IntKind.i64.wrap (19 - (m : Int)) = 19 - (m : Int) := IntWalk.i64_in _ (by omega)
 obtain ⟨A, hA⟩ : ∃ A, (digs c : Int) - (s : Int) = A := ⟨_, rfl⟩
 obtain ⟨B, hB⟩ : ∃ B, 19 - (m : Int) = B := ⟨_, rfl⟩
 have hgt : ¬ B < A := by omega
 replace hw1 : IntKind.i64.wrap ((digs c : Int) - (s : Int)) = A := by rw [hw1, hA]
 replace hw2 : IntKind.i64.wrap (19 - (m : Int)) = B := by rw [hw2, hB]
 clear hA hB
 have HC1 := hid hc1e
 have HMID := hid (fun w2 (h : Mid (w.alloc (.cells #[.bool false, .int .i8 0, .int .u64 0] 46)) w2 p bo (c : Int)) => mid_rsh (k := s - 19) h hc (by omega) (by omega))
 clear hpr hp he hlt hc1e h1 ha hb
 clear hc
 generalize s - 19 = d at *
 generalize digs c = D at *
 go_enter Tryz.func79, Tryz.ntmps79
 go_wp2_with (first | (go_at_call 96; refine HPR.out.mono ?_; intro e w1 h; obtain ⟨he1, hm1⟩ := h; subst he1; have HM1 := hid hm1; clear hm1) | (go_at_call 98; refine (HMID.out _ HM1.out).mono ?_; intro e w2 h; obtain ⟨he2, hm2⟩ := h; subst he2; rw [HC1.out] at hm2; have HM2 := hid hm2; clear hm2) | (go_at_call 99; refine (mid_hasPrec HM2.out hb19).mono ?_; intro e w3 h; obtain ⟨he3, hm3⟩ := h; subst he3; have hrc := HREC.out w3 hm3; have HRC := hid hrc; clear hm3 hrc) | (go_at_call 79; refine HRC.out.mono ?_; intro e w5 h; obtain ⟨nb, s8, c64, ev, he5, hcc, hfin⟩ := h; subst he5; obtain ⟨k0, k1, k2, f0, f1, f2⟩ := cell3 (HW.out w5 hcc); have HCC := hid hcc; have HFIN := hid hfin; clear hcc hfin))
 refine bodyPost_ret (v := .tuple #[.agg #[.bool nb, .int .i8 s8, .int .u64 c64], ev]) (dec_result rfl _ _ w.heap.size _ _ _ _ 46 rfl rfl (store3 (HW.out w5 HCC.out) _ _ _)) rfl (HFIN.out _ _ _ _ (HCHG.out _ HCC.out _ _ _))
set_option maxHeartbeats 1000000 in
theorem nfb_cut2 (neg : Bool) (p : Nat) (bo : Option Nat) (c s m : Nat) (w : World) (hp : IntAt w p bo (c : Int)) (he : EnvD w) (hc : digs c ≤ 57) (hs : s ≤ 57) (hm : m ≤ 19) (h1 : ¬ 19 + s < digs c + m) (ha : ¬ s < m) (hb : s < digs c ∧ 19 < digs c) (hlt : (rhe c (10 ^ (digs c - 19))) = 10 ^ 19) :
  Calls Tryz.prog 79 #[.bool neg, .pointer (some ⟨p, 0, none⟩), .int .i64 s, .int .i64 m] w (PDecB w p bo neg (if (19 + s - digs c) = m then none else some (10 ^ 18, (19 + s - digs c) - 1))) := by
 have hpr := mid_prec (mid_start hp he) hc
 have HPR := hid hpr
 have HW := hid (fun w1 (h : Chg (fun k => k = p ∨ bo = some k) (w.alloc (.cells #[.bool false, .int .i8 0, .int .u64 0] 46)) w1) => cell_z hp h)
 obtain ⟨c1, hc1e⟩ : ∃ c1, (rhe c (10 ^ (digs c - 19))) = c1 := ⟨_, rfl⟩
 obtain ⟨tt, hte⟩ : ∃ tt, (19 + s - digs c) = tt := ⟨_, rfl⟩
 rw [hc1e] at hlt
 rw [hte]
 have hb19 : decide ((10 : Int) ^ 19 ≤ (c1 : Int)) = true := decide_eq_true (by have := pow_cast 19; rw [hlt]; omega)
 have HREC := hid (fun w3 (h : Mid (w.alloc (.cells #[.bool false, .int .i8 0, .int .u64 0] 46)) w3 p bo (c1 : Int)) => mid_top (neg := neg) (t := tt) (m := m) h hlt (by omega) (by omega))
 have HCHG : Hid (∀ w2, Chg (fun k => k = p ∨ bo = some k) (w.alloc (.cells #[.bool false, .int .i8 0, .int .u64 0] 46)) w2 → ∀ (a b d : Value), Chg (fun k => k = p ∨ bo = some k) w (((w2.setCell ⟨w.heap.size, 0, none⟩ a).setCell ⟨w.heap.size, 1, none⟩ b).setCell ⟨w.heap.size, 2, none⟩ d)) := fun w2 h a b d => by
  have hch : Chg (fun k => k = p ∨ bo = some k) w (w.alloc (.cells #[.bool false, .int .i8 0, .int .u64 0] 46)) := (Chg.refl _ w).alloc _
  have h2 := hch.trans h sb_
  exact Chg.setCell (p := ⟨w.heap.size, 2, none⟩) (Chg.setCell (p := ⟨w.heap.size, 1, none⟩) (Chg.setCell (p := ⟨w.heap.size, 0, none⟩) h2 (fun h => by simp only at h; omega) _) (fun h => by simp only at h; omega) _) (fun h => by simp only at h; omega) _
 generalize (if tt = m then (none : Option (Nat × Nat)) else some (10 ^ 18, tt - 1)) = oo at *
 have hlt1 : ¬ (s : Int) < (m : Int) := by omega
 have hd3 : ¬ (digs c : Int) ≤ (s : Int) := by omega
 have hd4 : (s : Int) < (digs c : Int) := by omega
 have hd5 : (19 : Int) < (digs c : Int) := by omega
 have hsub : IntKind.i64.wrap ((digs c : Int) - 19) = ((digs c - 19 : Nat) : Int) := by rw [show (digs c : Int) - 19 = ((digs c - 19 : Nat) : Int) by omega]; exact IntWalk.i64_in _ (by omega)
 have hw5 : IntKind.i64.wrap (19 - (digs c : Int)) = 19 - (digs c : Int) := IntWalk.i64_in _ (by omega)
 have hw6 : IntKind.i64.wrap (19 - (digs c : Int) + (s : Int)) = (tt : Int) := by rw [show 19 - (digs c : Int) + (s : Int) = (tt : Int) by omega]; exact IntWalk.i64_in _ (by omega)
 have hw1 : IntKind.i64.wrap ((digs c : Int) - (s : Int)) = (digs c : Int) - (s : Int) := IntWalk.i64_in _ (by omega)
 have hw2 : IntKind.i64.wrap (19 - (m : Int)) = 19 - (m : Int) := IntWalk.i64_in _ (by omega)
 obtain ⟨A, hA⟩ : ∃ A, (digs c : Int) - (s : Int) = A := ⟨_, rfl⟩
 obtain ⟨B, hB⟩ : ∃ B, 19 - (m : Int) = B := ⟨_, rfl⟩
 have hgt : ¬ B < A := by omega
 replace hw1 : IntKind.i64.wrap ((digs c : Int) - (s : Int)) = A := by rw [hw1, hA]
 replace hw2 : IntKind.i64.wrap (19 - (m : Int)) = B := by rw [hw2, hB]
 clear hA hB
 have HC1 := hid hc1e
 have HMID := hid (fun w2 (h : Mid (w.alloc (.cells #[.bool false, .int .i8 0, .int .u64 0] 46)) w2 p bo (c : Int)) => mid_rsh (k := digs c - 19) h hc (by omega) (by omega))
 clear hpr hp he hlt hc1e h1 ha hb hte
 clear hc
 generalize digs c - 19 = d at *
 generalize digs c = D at *
 go_enter Tryz.func79, Tryz.ntmps79
 go_wp2_with (first | (go_at_call 96; refine HPR.out.mono ?_; intro e w1 h; obtain ⟨he1, hm1⟩ := h; subst he1; have HM1 := hid hm1; clear hm1) | (go_at_call 98; refine (HMID.out _ HM1.out).mono ?_; intro e w2 h; obtain ⟨he2, hm2⟩ := h; subst he2; rw [HC1.out] at hm2; have HM2 := hid hm2; clear hm2) | (go_at_call 99; refine (mid_hasPrec HM2.out hb19).mono ?_; intro e w3 h; obtain ⟨he3, hm3⟩ := h; subst he3; have hrc := HREC.out w3 hm3; have HRC := hid hrc; clear hm3 hrc) | (go_at_call 79; refine HRC.out.mono ?_; intro e w5 h; obtain ⟨nb, s8, c64, ev, he5, hcc, hfin⟩ := h; subst he5; obtain ⟨k0, k1, k2, f0, f1, f2⟩ := cell3 (HW.out w5 hcc); have HCC := hid hcc; have HFIN := hid hfin; clear hcc hfin))
 refine bodyPost_ret (v := .tuple #[.agg #[.bool nb, .int .i8 s8, .int .u64 c64], ev]) (dec_result rfl _ _ w.heap.size _ _ _ _ 46 rfl rfl (store3 (HW.out w5 HCC.out) _ _ _)) rfl (HFIN.out _ _ _ _ (HCHG.out _ HCC.out _ _ _))
theorem from19_two (E c s m : Nat) : from19 E 2 c s m = if 19 + s < digs c + m then none else if E ≤ (step19 c s m).1 then from19 E 1 (step19 c s m).1 (step19 c s m).2 m else some (step19 c s m) := by
 conv => lhs; unfold from19
theorem from19_one {E c s m k t : Nat} (h1 : ¬ 19 + s < digs c + m) (hst : step19 c s m = (k, t)) (hk : k < E) : from19 E 2 c s m = some (k, t) := by
 rw [from19_two, if_neg h1, hst, if_neg (by show ¬ E ≤ k; omega)]
theorem from19_again {E F c s m k t : Nat} (hE : Pow19 E F) (h1 : ¬ 19 + s < digs c + m) (hst : step19 c s m = (k, t)) (hk : k = E) (ht : t ≤ 19) (hm : m ≤ t) : from19 E 2 c s m = if t = m then none else some (F, t - 1) := by
 rw [from19_two, if_neg h1, hst, if_pos (by show E ≤ k; omega)]
 show from19 E 1 k t m = _
 rw [hk]
 exact from19_top hE (f := 0) ht hm
theorem newFromBint_any (neg : Bool) (p : Nat) (bo : Option Nat) (c s m : Nat) (w : World) (hp : IntAt w p bo (c : Int)) (he : EnvD w) (hc : digs c ≤ 57) (hs : s ≤ 57) (hm : m ≤ 19) :
  Calls Tryz.prog 79 #[.bool neg, .pointer (some ⟨p, 0, none⟩), .int .i64 s, .int .i64 m] w (PDecB w p bo neg (from19 (10 ^ 19) 2 c s m)) := by
 by_cases h1 : 19 + s < digs c + m
 ·rw [from19_two, if_pos h1]
  exact nfb_none neg p bo c s m w hp he hc hs hm h1
 ·by_cases ha : s < m
  ·have hlt := exact_lt pow19 (c := c) (s := s) (n := m) (by omega) (by omega)
   rw [from19_one (k := c * 10 ^ (m - s)) (t := m) h1 (by unfold step19; rw [if_pos ha]) hlt]
   exact nfb_lsh neg p bo c s m w hp he hc hs hm h1 ha hlt
  ·by_cases hb : digs c ≤ s ∧ 19 < s
   ·have hst : step19 c s m = (rhe c (10 ^ (s - 19)), 19) := by unfold step19; rw [if_neg ha, if_pos hb]
    have hle : rhe c (10 ^ (s - 19)) ≤ 10 ^ 19 := by
     have := rnd_le pow19 (c := c) (s := s) (n := 19) (by omega)
     rwa [rnd_cut (by omega)] at this
    by_cases hlt : rhe c (10 ^ (s - 19)) < 10 ^ 19
    ·rw [from19_one h1 hst hlt]
     exact nfb_rsh neg p bo c s m w hp he hc hs hm h1 ha hb hlt
    ·have heq : rhe c (10 ^ (s - 19)) = 10 ^ 19 := by omega
     rw [from19_again pow19 h1 hst heq (by omega) (by omega)]
     exact nfb_rsh2 neg p bo c s m w hp he hc hs hm h1 ha hb heq
   ·by_cases hd : s < digs c ∧ 19 < digs c
    ·have hst : step19 c s m = (rhe c (10 ^ (digs c - 19)), 19 + s - digs c) := by unfold step19; rw [if_neg ha, if_neg hb, if_pos hd]
     have hle : rhe c (10 ^ (digs c - 19)) ≤ 10 ^ 19 := by
      have := rnd_le pow19 (c := c) (s := s) (n := 19 + s - digs c) (by omega)
      rw [rnd_cut (by omega)] at this
      rwa [show s - (19 + s - digs c) = digs c - 19 by omega] at this
     by_cases hlt : rhe c (10 ^ (digs c - 19)) < 10 ^ 19
     ·rw [from19_one h1 hst hlt]
      exact nfb_cut neg p bo c s m w hp he hc hs hm h1 ha hd hlt
     ·have heq : rhe c (10 ^ (digs c - 19)) = 10 ^ 19 := by omega
      rw [from19_again pow19 h1 hst heq (by omega) (by omega)]
      exact nfb_cut2 neg p bo c s m w hp he hc hs hm h1 ha hd heq
    ·have hlt : c < 10 ^ 19 := digs_le.1 (by omega)
     rw [from19_one (k := c) (t := s) h1 (by unfold step19; rw [if_neg ha, if_neg hb, if_neg hd]) hlt]
     by_cases hds : digs c ≤ s
     ·exact nfb_exact1 neg p bo c s m w hp he hc hs hm h1 ha (by omega) (by omega) hds hlt
     ·exact nfb_exact2 neg p bo c s m w hp he hc hs hm h1 ha (by omega) (by omega) (by omega) hlt
theorem fromFint_from19 {c s m : Nat} (hc : c < 10 ^ 19) (hs : s ≤ 19) (hm : m ≤ 19) {k : Int} {t : Nat} (h : fromFint (c : Int) s m = some (k, t)) : ∃ k' : Nat, k = k' ∧ from19 (10 ^ 19) 2 c s m = some (k', t) := by
 have hd : digs c ≤ 19 := digs_le.2 hc
 unfold fromFint at h
 by_cases ha : s < m
 ·rw [if_pos ha] at h
  have e : (c : Int) * 10 ^ (m - s) = ((c * 10 ^ (m - s) : Nat) : Int) := by rw [Int.natCast_mul, pow_cast]
  rw [e] at h
  by_cases h2 : ((c * 10 ^ (m - s) : Nat) : Int) ≤ 9999999999999999999
  ·rw [if_pos h2] at h
   simp only [Option.some.injEq, Prod.mk.injEq] at h
   obtain ⟨rfl, rfl⟩ := h
   have hlt : c * 10 ^ (m - s) < 10 ^ 19 := by
    have : (10 : Nat) ^ 19 = 10000000000000000000 := by decide
    omega
   refine ⟨_, rfl, from19_one ?_ (by unfold step19; rw [if_pos ha]) hlt⟩
   intro h1
   have h3 := digs_lt.1 (show digs c - 1 < digs c by omega)
   have h4 : 10 ^ (digs c - 1) * 10 ^ (m - s) ≤ c * 10 ^ (m - s) := Nat.mul_le_mul_right _ h3
   rw [← Nat.pow_add] at h4
   have h5 : 10 ^ 19 ≤ 10 ^ (digs c - 1 + (m - s)) := pow_le' (by omega)
   omega
  ·rw [if_neg h2] at h; cases h
 ·rw [if_neg ha] at h
  simp only [Option.some.injEq, Prod.mk.injEq] at h
  obtain ⟨rfl, rfl⟩ := h
  exact ⟨c, rfl, from19_one (by omega) (by unfold step19; rw [if_neg ha, if_neg (by omega), if_neg (by omega)]) hc⟩
theorem wrap_i64_nat {s : Nat} (hs : s ≤ 19) : IntKind.i64.wrap (s : Int) = (s : Int) := IntWalk.i64_in _ (by omega)
theorem Scale_any (neg : Bool) (c : Int) (s : Nat) (hs : s ≤ 19) (w : World) :
  Calls Tryz.prog 44 #[.agg #[.bool neg, .int .i8 s, .int .u64 c]] w (fun e w' => e = .returned (.int .i64 s) ∧ Chg (fun _ => False) w w') := by
 have hw := wrap_i64_nat hs
 go_enter Tryz.func44, Tryz.ntmps44
 go_wp2_with fail
 go_ret
 exact ⟨rfl, (Chg.refl _ _).alloc _⟩
theorem IsNeg_any (neg : Bool) (c : Int) (s : Nat) (w : World) :
  Calls Tryz.prog 42 #[.agg #[.bool neg, .int .i8 s, .int .u64 c]] w (fun e w' => e = .returned (.bool neg) ∧ Chg (fun _ => False) w w') := by
 go_enter Tryz.func42, Tryz.ntmps42
 go_wp2_with fail
 go_ret
 exact ⟨rfl, (Chg.refl _ _).alloc _⟩
theorem newUnsafe_flat (neg nb : Bool) (c : Int) (s : Nat) (hc : Fi c) (hs : s ≤ 19) (hnb : (neg && c != 0) = nb) (w : World) :
  Calls Tryz.prog 66 #[.bool neg, .int .u64 c, .int .i64 s] w (fun e w' => e = .returned (.agg #[.bool nb, .int .i8 s, .int .u64 c]) ∧ Chg (fun _ => False) w w') :=
 (newUnsafe_any neg c s hc hs w).mono (fun e w' h => ⟨by have := h.1; rw [← hnb]; exact this, h.2⟩)
end Go.Proofs.YtmpkgkjnoanlhaaGreatDoor
namespace Go.Proofs.YtmpkgkjnoanlhaaGreatDoor
open Go.RowKit Go.Proofs.YtmpkgkjnoanlhaaGreatDoorW.PrintWords Go.Proofs.YtmpkgkjnoanlhaaGreatDoorW.PrintLast Go.Proofs.YtmpkgkjnoanlhaaGreatDoorW.PrintMore PFnFixSubExact
set_option linter.unusedVariables false
set_option linter.unusedSimpArgs false
set_option maxRecDepth 20000
theorem whole_size : (Tryz.prog.info? 32).map (·.size) = some 2 := by kernel_rfl
theorem frac_size : (Tryz.prog.info? 34).map (·.size) = some 3 := by kernel_rfl
theorem sdec_size : (Tryz.prog.info? 57).map (·.size) = some 3 := by kernel_rfl
theorem store2 {w1 : World} {z : Nat} {x0 x1 : Value} {T : TypeId} (hh : w1.heap[z]? = some (.cells #[x0, x1] T (0, 0))) (a b : Value) :
  ((w1.setCell ⟨z, 0, none⟩ a).setCell ⟨z, 1, none⟩ b).heap[z]? = some (.cells #[a, b] T (0, 0)) := by
 simp [World.setCell, Array.getElem?_modify, hh]
theorem chg2 {w w1 : World} {z : Nat} (hc : Chg (fun _ => False) w w1) (hz : w.heap.size ≤ z) (a b : Value) : Chg (fun _ => False) w ((w1.setCell ⟨z, 0, none⟩ a).setCell ⟨z, 1, none⟩ b) :=
 Chg.setCell (p := ⟨z, 1, none⟩) (Chg.setCell (p := ⟨z, 0, none⟩) hc (fun h => by simp only at h; omega) a) (fun h => by simp only at h; omega) b
theorem cell2 {w1 : World} {z : Nat} {x0 x1 : Value} {T : TypeId} (hh : w1.heap[z]? = some (.cells #[x0, x1] T (0, 0))) :
  w1.cell? ⟨z, 0, none⟩ = some x0 ∧ w1.cell? ⟨z, 1, none⟩ = some x1 ∧ w1.frozen? ⟨z, 0, none⟩ = false ∧ w1.frozen? ⟨z, 1, none⟩ = false := by
 refine ⟨?_, ?_, ?_, ?_⟩ <;> simp [World.cell?, World.frozen?, hh]
theorem kept_heap {w w' : World} {k : Nat} {o : Obj} (h : Chg (fun _ => False) w w') (e : w.heap[k]? = some o) : w'.heap[k]? = some o :=
 (h.keep k (Array.getElem?_eq_some_iff.1 e).1 (fun h => h)).trans e
def PV (w : World) (v : Value) (e : Ending) (w' : World) : Prop := e = .returned v ∧ Chg (fun _ => False) w w'
theorem wholeOf_any (neg : Bool) (A : Option Addr) (n c : Nat) (b : Bool) (hb : (neg && n != 0) = b) (w : World) :
  Calls Tryz.prog 49 #[.bool neg, .slice A n c] w (PV w (.agg #[.bool b, .slice A n c])) := by
 subst hb
 cases neg with
 | false =>
  rw [Bool.false_and]
  go_enter Tryz.func49, Tryz.ntmps49
  go_wp2_with fail
  refine bodyPost_ret (v := .agg #[.bool false, .slice A n c]) (by rw [results_cell_row rfl _ _ w.heap.size _ _ _ _ rfl (show (w.alloc (.cells #[.bool false, .slice A n c] 32)).heap[w.heap.size]? = some (.cells #[.bool false, .slice A n c] 32 (0, 0)) from heap_alloc_new _ _) Tryz.underlying32 rfl whole_size]) rfl ⟨rfl, (Chg.refl _ _).alloc _⟩
 | true =>
  rw [Bool.true_and]
  obtain ⟨b, hb⟩ : ∃ b, (n != 0) = b := ⟨_, rfl⟩
  have hd : decide (0 < n) = b := by rw [← hb]; cases n <;> simp
  rw [hb]
  clear hb
  go_enter Tryz.func49, Tryz.ntmps49
  go_wp2_with fail
  refine bodyPost_ret (v := .agg #[.bool b, .slice A n c]) (by rw [results_cell_row rfl _ _ w.heap.size _ _ _ _ rfl (show (w.alloc (.cells #[.bool b, .slice A n c] 32)).heap[w.heap.size]? = some (.cells #[.bool b, .slice A n c] 32 (0, 0)) from heap_alloc_new _ _) Tryz.underlying32 rfl whole_size]) rfl ⟨rfl, (Chg.refl _ _).alloc _⟩
theorem WholeMinus_any (neg : Bool) (A : Option Addr) (n c : Nat) (b : Bool) (hb : (!neg && n != 0) = b) (w : World) :
  Calls Tryz.prog 53 #[.agg #[.bool neg, .slice A n c]] w (PV w (.agg #[.bool b, .slice A n c])) := by
 have HW := hid (fun w => wholeOf_any (!neg) A n c b hb w)
 clear hb
 have hz : ((w.alloc (.cells #[.bool neg, .slice A n c] 32)).alloc (.cells #[.bool false, .slice none 0 0] 32)).heap[w.heap.size + 1]? = some (.cells #[.bool false, .slice none 0 0] 32 (0, 0)) := heap_alloc2_new _ _ _
 have HZ := hid hz
 have HC := hid (((Chg.refl (fun _ => False) w).alloc (.cells #[.bool neg, .slice A n c] 32)).alloc (.cells #[.bool false, .slice none 0 0] 32))
 clear hz
 go_enter Tryz.func53, Tryz.ntmps53
 go_wp2_with (go_at_call 49; refine (HW.out _).mono ?_; intro e w1 h; obtain ⟨he1, hk⟩ := h; subst he1; have HK := hid hk; clear hk; obtain ⟨k0, k1, f0, f1⟩ := cell2 (kept_heap HK.out HZ.out))
 refine bodyPost_ret (v := .agg #[.bool b, .slice A n c]) (by rw [results_cell_row rfl _ _ (w.heap.size + 1) _ _ _ _ rfl (store2 (kept_heap HK.out HZ.out) _ _) Tryz.underlying32 rfl whole_size]) rfl ⟨rfl, chg2 (HC.out.trans HK.out sb_) (by omega) _ _⟩
theorem far_cell {w1 : World} {z y i j : Nat} {a : Value} (h : y ≠ z) : (w1.setCell ⟨z, j, none⟩ a).cell? ⟨y, i, none⟩ = w1.cell? ⟨y, i, none⟩ := by
 unfold World.cell?
 rw [Below.heap_setCell _ _ _ _ (by simpa using h)]
theorem SN.far {w w' : World} {A : Option Addr} {n c a z : Nat} {cs : Array Value} {T : TypeId} (h : SN w A n c a) (hz : w.heap[z]? = some (.cells cs T (0, 0))) (hcs : ∀ x, Value.int .u32 x ∉ cs) (hc : Chg (fun k => k = z) w w') : SN w' A n c a := by
 obtain ⟨xs, h1, h2, h3, h4⟩ := h
 refine ⟨xs, h1, h2, Kd.C_keep (0 : Int) h3 ⟨hc.size, fun i hi hne _ => hc.keep i hi hne⟩ ?_, h4⟩
 rintro ad rfl hn rfl
 obtain ⟨hl, _, hr⟩ := Kd.reads_of_C (d := (0 : Int)) h3
 obtain ⟨ad', e, hc'⟩ := hr hn
 cases e
 have := hc' 0 hn
 obtain ⟨bl, off, part⟩ := ad
 simp only [World.cell?, Addr.add, if_true] at this
 simp only [hz] at this
 split at this
 ·exact absurd this (by simp)
 ·exact hcs _ (Array.mem_of_getElem? this)
theorem sn_end2 {w : World} {A : Option Addr} {n c a z : Nat} {b0 : Bool} {x0 : Option Addr} {y0 z0 : Nat} {T : TypeId} (h : SN w A n c a) (hz : w.heap[z]? = some (.cells #[.bool b0, .slice x0 y0 z0] T (0, 0))) (u v : Value) :
  SN ((w.setCell ⟨z, 0, none⟩ u).setCell ⟨z, 1, none⟩ v) A n c a :=
 h.far hz (by simp) (Chg.setCell (p := ⟨z, 1, none⟩) (Chg.setCell (p := ⟨z, 0, none⟩) (Chg.refl (fun k => k = z) w) (fun _ => rfl) u) (fun _ => rfl) v)
theorem sn_end3 {w : World} {A : Option Addr} {n c a z : Nat} {b0 : Bool} {x0 : Option Addr} {y0 z0 : Nat} {r : Value} {T : TypeId} (h : SN w A n c a) (hz : w.heap[z]? = some (.cells #[.bool b0, .slice x0 y0 z0, r] T (0, 0))) (hr : ∀ x, Value.int .u32 x ≠ r) (u v t : Value) :
  SN (((w.setCell ⟨z, 0, none⟩ u).setCell ⟨z, 1, none⟩ v).setCell ⟨z, 2, none⟩ t) A n c a :=
 h.far hz (by simpa using hr) (Chg.setCell (p := ⟨z, 2, none⟩) (Chg.setCell (p := ⟨z, 1, none⟩) (Chg.setCell (p := ⟨z, 0, none⟩) (Chg.refl (fun k => k = z) w) (fun _ => rfl) u) (fun _ => rfl) v) (fun _ => rfl) t)
end Go.Proofs.YtmpkgkjnoanlhaaGreatDoor
namespace Go.Proofs.YtmpkgkjnoanlhaaGreatDoor
open Go.RowKit
set_option linter.unusedVariables false
set_option linter.unusedSimpArgs false
theorem alloc_old {W : World} {k : Nat} {o x : Obj} (h : W.heap[k]? = some o) : (W.alloc x).heap[k]? = some o := by
 rw [Below.heap_alloc _ _ _ (Array.getElem?_eq_some_iff.1 h).1]; exact h
theorem alloc_last {W : World} {k : Nat} {x : Obj} (h : W.heap.size = k) : (W.alloc x).heap[k]? = some x := by
 rw [← h]; exact heap_alloc_new _ _
theorem far3 {w1 : World} {b i z : Nat} {v x0 x1 x2 : Value} (h : w1.cell? ⟨b, i, none⟩ = some v) (hne : b ≠ z) : (((w1.setCell ⟨z, 0, none⟩ x0).setCell ⟨z, 1, none⟩ x1).setCell ⟨z, 2, none⟩ x2).cell? ⟨b, i, none⟩ = some v := by
 rw [far_cell hne, far_cell hne, far_cell hne]; exact h
theorem far2 {w1 : World} {b i z : Nat} {v x0 x1 : Value} (h : w1.cell? ⟨b, i, none⟩ = some v) (hne : b ≠ z) : ((w1.setCell ⟨z, 0, none⟩ x0).setCell ⟨z, 1, none⟩ x1).cell? ⟨b, i, none⟩ = some v := by
 rw [far_cell hne, far_cell hne]; exact h
theorem box1 (w : World) (c0 : Array Value) (t0 : TypeId) : Hid (Chg (fun _ => False) w (w.alloc (.cells c0 t0))) ∧ Hid (Chg (fun _ => False) (w.alloc (.cells c0 t0)) (World.drew (w.alloc (.cells c0 t0)))) ∧ (w.alloc (.cells c0 t0)).heap[w.heap.size]? = some (.cells c0 t0 (0, 0)) := by
 refine ⟨((Chg.refl (fun _ => False) w).alloc _), (Chg.refl (fun _ => False) _).drew, ?_⟩
 ·exact alloc_last (by first | rfl | simp)
theorem box2 (w : World) (c0 : Array Value) (t0 : TypeId) (c1 : Array Value) (t1 : TypeId) : Hid (Chg (fun _ => False) w ((w.alloc (.cells c0 t0)).alloc (.cells c1 t1))) ∧ Hid (Chg (fun _ => False) ((w.alloc (.cells c0 t0)).alloc (.cells c1 t1)) (World.drew ((w.alloc (.cells c0 t0)).alloc (.cells c1 t1)))) ∧ ((w.alloc (.cells c0 t0)).alloc (.cells c1 t1)).heap[w.heap.size]? = some (.cells c0 t0 (0, 0)) ∧ ((w.alloc (.cells c0 t0)).alloc (.cells c1 t1)).heap[w.heap.size + 1]? = some (.cells c1 t1 (0, 0)) := by
 refine ⟨(((Chg.refl (fun _ => False) w).alloc _).alloc _), (Chg.refl (fun _ => False) _).drew, ?_, ?_⟩
 ·exact alloc_old (alloc_last (by first | rfl | simp))
 ·exact alloc_last (by first | rfl | simp)
theorem box3 (w : World) (c0 : Array Value) (t0 : TypeId) (c1 : Array Value) (t1 : TypeId) (c2 : Array Value) (t2 : TypeId) : Hid (Chg (fun _ => False) w (((w.alloc (.cells c0 t0)).alloc (.cells c1 t1)).alloc (.cells c2 t2))) ∧ Hid (Chg (fun _ => False) (((w.alloc (.cells c0 t0)).alloc (.cells c1 t1)).alloc (.cells c2 t2)) (World.drew (((w.alloc (.cells c0 t0)).alloc (.cells c1 t1)).alloc (.cells c2 t2)))) ∧ (((w.alloc (.cells c0 t0)).alloc (.cells c1 t1)).alloc (.cells c2 t2)).heap[w.heap.size]? = some (.cells c0 t0 (0, 0)) ∧ (((w.alloc (.cells c0 t0)).alloc (.cells c1 t1)).alloc (.cells c2 t2)).heap[w.heap.size + 1]? = some (.cells c1 t1 (0, 0)) ∧ (((w.alloc (.cells c0 t0)).alloc (.cells c1 t1)).alloc (.cells c2 t2)).heap[w.heap.size + 1 + 1]? = some (.cells c2 t2 (0, 0)) := by
 refine ⟨((((Chg.refl (fun _ => False) w).alloc _).alloc _).alloc _), (Chg.refl (fun _ => False) _).drew, ?_, ?_, ?_⟩
 ·exact alloc_old (alloc_old (alloc_last (by first | rfl | simp)))
 ·exact alloc_old (alloc_last (by first | rfl | simp))
 ·exact alloc_last (by first | rfl | simp)
theorem box4 (w : World) (c0 : Array Value) (t0 : TypeId) (c1 : Array Value) (t1 : TypeId) (c2 : Array Value) (t2 : TypeId) (c3 : Array Value) (t3 : TypeId) : Hid (Chg (fun _ => False) w ((((w.alloc (.cells c0 t0)).alloc (.cells c1 t1)).alloc (.cells c2 t2)).alloc (.cells c3 t3))) ∧ Hid (Chg (fun _ => False) ((((w.alloc (.cells c0 t0)).alloc (.cells c1 t1)).alloc (.cells c2 t2)).alloc (.cells c3 t3)) (World.drew ((((w.alloc (.cells c0 t0)).alloc (.cells c1 t1)).alloc (.cells c2 t2)).alloc (.cells c3 t3)))) ∧ ((((w.alloc (.cells c0 t0)).alloc (.cells c1 t1)).alloc (.cells c2 t2)).alloc (.cells c3 t3)).heap[w.heap.size]? = some (.cells c0 t0 (0, 0)) ∧ ((((w.alloc (.cells c0 t0)).alloc (.cells c1 t1)).alloc (.cells c2 t2)).alloc (.cells c3 t3)).heap[w.heap.size + 1]? = some (.cells c1 t1 (0, 0)) ∧ ((((w.alloc (.cells c0 t0)).alloc (.cells c1 t1)).alloc (.cells c2 t2)).alloc (.cells c3 t3)).heap[w.heap.size + 1 + 1]? = some (.cells c2 t2 (0, 0)) ∧ ((((w.alloc (.cells c0 t0)).alloc (.cells c1 t1)).alloc (.cells c2 t2)).alloc (.cells c3 t3)).heap[w.heap.size + 1 + 1 + 1]? = some (.cells c3 t3 (0, 0)) := by
 refine ⟨(((((Chg.refl (fun _ => False) w).alloc _).alloc _).alloc _).alloc _), (Chg.refl (fun _ => False) _).drew, ?_, ?_, ?_, ?_⟩
 ·exact alloc_old (alloc_old (alloc_old (alloc_last (by first | rfl | simp))))
 ·exact alloc_old (alloc_old (alloc_last (by first | rfl | simp)))
 ·exact alloc_old (alloc_last (by first | rfl | simp))
 ·exact alloc_last (by first | rfl | simp)
theorem box5 (w : World) (c0 : Array Value) (t0 : TypeId) (c1 : Array Value) (t1 : TypeId) (c2 : Array Value) (t2 : TypeId) (c3 : Array Value) (t3 : TypeId) (c4 : Array Value) (t4 : TypeId) : Hid (Chg (fun _ => False) w (((((w.alloc (.cells c0 t0)).alloc (.cells c1 t1)).alloc (.cells c2 t2)).alloc (.cells c3 t3)).alloc (.cells c4 t4))) ∧ Hid (Chg (fun _ => False) (((((w.alloc (.cells c0 t0)).alloc (.cells c1 t1)).alloc (.cells c2 t2)).alloc (.cells c3 t3)).alloc (.cells c4 t4)) (World.drew (((((w.alloc (.cells c0 t0)).alloc (.cells c1 t1)).alloc (.cells c2 t2)).alloc (.cells c3 t3)).alloc (.cells c4 t4)))) ∧ (((((w.alloc (.cells c0 t0)).alloc (.cells c1 t1)).alloc (.cells c2 t2)).alloc (.cells c3 t3)).alloc (.cells c4 t4)).heap[w.heap.size]? = some (.cells c0 t0 (0, 0)) ∧ (((((w.alloc (.cells c0 t0)).alloc (.cells c1 t1)).alloc (.cells c2 t2)).alloc (.cells c3 t3)).alloc (.cells c4 t4)).heap[w.heap.size + 1]? = some (.cells c1 t1 (0, 0)) ∧ (((((w.alloc (.cells c0 t0)).alloc (.cells c1 t1)).alloc (.cells c2 t2)).alloc (.cells c3 t3)).alloc (.cells c4 t4)).heap[w.heap.size + 1 + 1]? = some (.cells c2 t2 (0, 0)) ∧ (((((w.alloc (.cells c0 t0)).alloc (.cells c1 t1)).alloc (.cells c2 t2)).alloc (.cells c3 t3)).alloc (.cells c4 t4)).heap[w.heap.size + 1 + 1 + 1]? = some (.cells c3 t3 (0, 0)) ∧ (((((w.alloc (.cells c0 t0)).alloc (.cells c1 t1)).alloc (.cells c2 t2)).alloc (.cells c3 t3)).alloc (.cells c4 t4)).heap[w.heap.size + 1 + 1 + 1 + 1]? = some (.cells c4 t4 (0, 0)) := by
 refine ⟨((((((Chg.refl (fun _ => False) w).alloc _).alloc _).alloc _).alloc _).alloc _), (Chg.refl (fun _ => False) _).drew, ?_, ?_, ?_, ?_, ?_⟩
 ·exact alloc_old (alloc_old (alloc_old (alloc_old (alloc_last (by first | rfl | simp)))))
 ·exact alloc_old (alloc_old (alloc_old (alloc_last (by first | rfl | simp))))
 ·exact alloc_old (alloc_old (alloc_last (by first | rfl | simp)))
 ·exact alloc_old (alloc_last (by first | rfl | simp))
 ·exact alloc_last (by first | rfl | simp)
end Go.Proofs.YtmpkgkjnoanlhaaGreatDoor
