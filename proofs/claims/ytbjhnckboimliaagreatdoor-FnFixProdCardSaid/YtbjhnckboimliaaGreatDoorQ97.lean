/- Part 4 of the rest of the proof. -/
import Derived.Test.YtbjhnckboimliaaGreatDoorProg
import Derived.Below
import Derived.Deep.Draws
import Derived.Deep.AppendLies
import Derived.Maps.AppendAt
import Derived.OwnWalk
import Derived.Laws.BytesArg
import Derived.Laws.MakeOwn
import Derived.Laws.OwnMore
import Derived.Deep.OwnRows
import Derived.Tactics
import Derived.Lib.ConvBytes
import Derived.Laws.Slices
import Derived.WalkKit
import Derived.KernelRfl
import Derived.RowKit3
import Derived.Deep.LoopGhost
import Derived.Deep.QuietTactic
import Derived.BigQuiet
import Derived.WideLaws
import Derived.Deep.DeepCutAuto
import Derived.Deep.CutBlock
import Derived.Deep.RegionHeld3
import Derived.Laws.Rows
import Derived.Lib.AppendStr
import Derived.ArgAppend
import Derived.Laws.IdiomCopy
import Derived.OrdersHeld
import Derived.Laws.BitsLemmas
import Derived.RowKit
import Derived.Laws.StructEq
import Derived.Lib.Mul64
import Derived.LaidEqlPtr
import Derived.RegionTactic
import Derived.BigRegion
import Derived.StillTailTactics
import Derived.Deep.RegionWith
import Derived.Shelf.Small.Bits
import Derived.Shelf.Strconv.Itoa0
import Derived.Shelf.Bits.Mul64
import Derived.Lib.AppendZeros
import Derived.Laws.AppendOwn
import Derived.Deep.CutRange
import Derived.Recover
import Derived.Test.YtbjhnckboimliaaGreatDoorQ00
import Derived.Test.YtbjhnckboimliaaGreatDoorQ01
import Derived.Test.YtbjhnckboimliaaGreatDoorQ02
import Derived.Test.YtbjhnckboimliaaGreatDoorQ03
import Derived.Test.YtbjhnckboimliaaGreatDoorQ04
import Derived.Test.YtbjhnckboimliaaGreatDoorQ05
import Derived.Test.YtbjhnckboimliaaGreatDoorQ06
import Derived.Test.YtbjhnckboimliaaGreatDoorQ07
import Derived.Test.YtbjhnckboimliaaGreatDoorQ08
import Derived.Test.YtbjhnckboimliaaGreatDoorQ09
import Derived.Test.YtbjhnckboimliaaGreatDoorQ10
import Derived.Test.YtbjhnckboimliaaGreatDoorQ11
import Derived.Test.YtbjhnckboimliaaGreatDoorQ12
import Derived.Test.YtbjhnckboimliaaGreatDoorQ13
import Derived.Test.YtbjhnckboimliaaGreatDoorQ14
import Derived.Test.YtbjhnckboimliaaGreatDoorQ15
import Derived.Test.YtbjhnckboimliaaGreatDoorQ16
import Derived.Test.YtbjhnckboimliaaGreatDoorQ17
import Derived.Test.YtbjhnckboimliaaGreatDoorQ18
import Derived.Test.YtbjhnckboimliaaGreatDoorQ19
import Derived.Test.YtbjhnckboimliaaGreatDoorQ20
import Derived.Test.YtbjhnckboimliaaGreatDoorQ21
import Derived.Test.YtbjhnckboimliaaGreatDoorQ23
import Derived.Test.YtbjhnckboimliaaGreatDoorQ96
namespace Go.Proofs.YtbjhnckboimliaaGreatDoor
open Go.RowKit
set_option linter.unusedVariables false
set_option linter.unusedSimpArgs false
set_option maxRecDepth 20000
def PProd (l : List DT) (sg : Bool) (o : Option (Nat × Nat)) : Prop := if l = [] then o = none else PBig l sg o
set_option maxHeartbeats 8000000 in
theorem Prod_any {A : Option Addr} {l : List DT} {c : Nat} (w : World) (he : EnvD w) (hx : DX w A l) (hok : ∀ f ∈ l, DTok f) (hl : l.length ≤ 40) :
  Calls Tryz.prog 57 #[.slice A l.length c] w (PX (PProd l) w) := by
 have HFF := hid (fun w1 (h : Chg (fun _ => False) w w1) => prodFint_any (c := c) w1 (he.kept h) (hx.kept h) hok hl)
 have HFB := hid (fun w1 (h : Chg (fun _ => False) w w1) => prodBint_any (c := c) w1 (he.kept h) (hx.kept h) hok hl)
 have hz0 := heap_alloc_new w (.cells #[.bool false, .int .i8 0, .int .u64 0] 55)
 have HC0 := hid ((Chg.refl (fun _ => False) w).alloc (.cells #[.bool false, .int .i8 0, .int .u64 0] 55))
 have HBX := hid (fun w1 (h : Chg (fun _ => False) (w.alloc (.cells #[.bool false, .int .i8 0, .int .u64 0] 55)) w1) => kept_heap h hz0)
 have hk := Chg.refl (fun _ => False) (w.alloc (.cells #[.bool false, .int .i8 0, .int .u64 0] 55))
 obtain ⟨r0, r1, r2, q0, q1, q2⟩ := cell3 (HBX.out _ hk)
 by_cases h0 : l = []
 ·have HP0 := hid (show PProd l false none by unfold PProd; rw [if_pos h0])
  subst h0
  have hz : (([] : List DT).length : Int) = 0 := rfl
  clear hx hok hl HFF HFB
  go_enter Tryz.func57, Tryz.ntmps57
  go_wp2_with (go_at_call 76; refine (errorsNew_any _ _).mono ?_; intro e w1 h; obtain ⟨⟨tv, vv, he1⟩, hc⟩ := h; subst he1; replace hk := hk.trans hc sb_; clear hc; clear r0 r1 r2 q0 q1 q2; obtain ⟨r0, r1, r2, q0, q1, q2⟩ := cell3 (HBX.out _ hk))
  exact bodyPost_ret (v := .tuple #[.agg #[.bool false, .int .i8 0, .int .u64 0], .iface tv vv]) (dec_result rfl _ _ w.heap.size _ _ _ _ 55 rfl rfl (store3 (HBX.out _ hk) _ _ _)) rfl ⟨false, none, HP0.out, chg3 (HC0.out.trans hk sb_) (Nat.le_refl _) _ _ _, tv, vv, rfl⟩
 by_cases h1 : l.length = 1
 ·obtain ⟨f, rfl⟩ : ∃ f, l = [f] := List.length_eq_one_iff.1 h1
  have hf := hok f (by simp)
  obtain ⟨n, v, s⟩ := f
  obtain ⟨a, hA, g0, g1, g2⟩ := (hx.kept HC0.out) 0 n v s rfl
  subst hA
  have HP0 := hid (show PProd [(n, v, s)] n (some (v, s)) by unfold PProd; rw [if_neg (by simp)]; exact ⟨fun _ => by rw [prodL_one hf]; exact ⟨rfl, (from19_keep hf.1 (Nat.zero_le _) hf.2.1).symm⟩, fun k t h => by cases h; exact hf.2.1⟩)
  have hn : (n && (v : Int) != 0) = n := by rw [nat_bne]; exact hf.2.2
  have e0 : a.add (0 * 3) = a := by simp [Addr.add]
  rw [e0] at g0 g1 g2
  obtain ⟨L, hL⟩ : ∃ L : Nat, ([(n, v, s)] : List DT).length = L := ⟨_, rfl⟩
  have hL1 : (L : Int) = 1 := by rw [← hL]; rfl
  rw [hL]
  have hz : ¬ (L : Int) = 0 := by omega
  have hz2 : (0 : Int) < (L : Int) := by omega
  clear hx hok hl HFF HFB hf h1 h0 hL
  go_enter Tryz.func57, Tryz.ntmps57
  go_wp2_with fail
  exact bodyPost_ret (v := .tuple #[.agg #[.bool n, .int .i8 s, .int .u64 (v : Int)], .nilIface]) (dec_result rfl _ _ w.heap.size _ _ _ _ 55 rfl rfl (heap_alloc_new w _)) rfl ⟨n, some (v, s), HP0.out, (Chg.refl _ _).alloc _, by show _ = Ending.returned (.tuple #[decV (n && (v : Int) != 0) v s, .nilIface]); rw [hn]; rfl⟩
 ·have HP0 := hid (fun sg o (h : sg = (prodL l).1 ∧ o = from19 (10 ^ 19) 2 (prodL l).2.1 (prodL l).2.2 0) => (show PProd l sg o by unfold PProd; rw [if_neg h0]; exact ⟨fun _ => h, fun k t hk => by rw [h.2] at hk; exact (from19_bd (by omega) hk).1⟩))
  have HPG := hid (fun sg o (h : PBig l sg o) => (show PProd l sg o by unfold PProd; rw [if_neg h0]; exact h))
  have hz : ¬ (l.length : Int) = 0 := fun h => h0 (List.length_eq_zero_iff.1 (by omega))
  have hz1 : ¬ (l.length : Int) = 1 := by omega
  generalize l.length = L at *
  clear hx hok hl h0 h1
  go_enter Tryz.func57, Tryz.ntmps57
  go_wp2_with fail
  go_at_call 80
  refine (HFF.out _ HC0.out).mono ?_
  intro e w1 h
  obtain ⟨sg, o, hp, hc, ho⟩ := h
  cases o with
  | some kt =>
   obtain ⟨k, t⟩ := kt
   have HPP := hid (HP0.out _ _ (hp.resolve_left (by simp)))
   have he2 : e = .returned (.tuple #[.agg #[.bool (sg && (k : Int) != 0), .int .i8 t, .int .u64 (k : Int)], .nilIface]) := ho
   clear ho hp
   obtain ⟨nb, hnb⟩ : ∃ b, (sg && (k : Int) != 0) = b := ⟨_, rfl⟩
   have HNB := hid hnb
   rw [hnb] at he2
   subst he2
   clear hnb
   replace hk := (hk.trans hc sb_).alloc (.cells #[.bool nb, .int .i8 t, .int .u64 (k : Int)] 55)
   have HG := hid (heap_alloc_new w1 (.cells #[.bool nb, .int .i8 t, .int .u64 (k : Int)] 55))
   clear hc r0 r1 r2 q0 q1 q2
   obtain ⟨r0, r1, r2, q0, q1, q2⟩ := cell3 (HBX.out _ hk)
   obtain ⟨j0, j1, j2, _, _, _⟩ := cell3 HG.out
   go_wp2_with fail
   exact bodyPost_ret (v := .tuple #[.agg #[.bool nb, .int .i8 t, .int .u64 (k : Int)], .nilIface]) (dec_result rfl _ _ w.heap.size _ _ _ _ 55 rfl rfl (store3 (HBX.out _ hk) _ _ _)) rfl ⟨sg, some (k, t), HPP.out, chg3 (HC0.out.trans hk sb_) (Nat.le_refl _) _ _ _, by rw [← HNB.out]; rfl⟩
  | none =>
   obtain ⟨t3, v3, he3⟩ := ho
   have he2 : e = .returned (.tuple #[.agg #[.bool false, .int .i8 0, .int .u64 0], .iface t3 v3]) := he3
   clear he3 hp
   subst he2
   have HG := hid (heap_alloc_new w1 (.cells #[.bool false, .int .i8 0, .int .u64 0] 55))
   have HC2 := hid ((HC0.out.trans (hk.trans hc sb_) (fun _ _ h => h)).alloc (.cells #[.bool false, .int .i8 0, .int .u64 0] 55))
   have hs1 : w.heap.size + 1 ≤ w1.heap.size := by have := (hk.trans hc sb_).size; simpa using this
   replace hk := (hk.trans hc sb_).alloc (.cells #[.bool false, .int .i8 0, .int .u64 0] 55)
   clear hc r0 r1 r2 q0 q1 q2
   obtain ⟨r0, r1, r2, q0, q1, q2⟩ := cell3 (HBX.out _ hk)
   obtain ⟨j0, j1, j2, i0, i1, i2⟩ := cell3 HG.out
   obtain ⟨g, hg⟩ : ∃ g, w1.heap.size = g := ⟨_, rfl⟩
   have HGN := hid (show w.heap.size + 1 ≤ g by rw [← hg]; exact hs1)
   clear hs1
   rw [hg] at j0 j1 j2 i0 i1 i2 HG
   go_wp2_with fail
   go_at_call 81
   refine (HFB.out _ HC2.out).mono ?_
   intro e w5 h
   obtain ⟨sg, o, hp, hc, ho⟩ := h
   cases o with
   | some kt =>
    obtain ⟨k, t⟩ := kt
    have HPP := hid (HPG.out _ _ hp)
    have he2 : e = .returned (.tuple #[.agg #[.bool (sg && (k : Int) != 0), .int .i8 t, .int .u64 (k : Int)], .nilIface]) := ho
    clear ho hp
    obtain ⟨nb, hnb⟩ : ∃ b, (sg && (k : Int) != 0) = b := ⟨_, rfl⟩
    have HNB := hid hnb
    rw [hnb] at he2
    subst he2
    clear hnb r0 r1 r2 q0 q1 q2 j0 j1 j2 i0 i1 i2
    have hgv := kept_heap hc HG.out
    have hk4 := hk.trans hc sb_
    have hk5 := chg3 hk4 (z := g) (by have := HGN.out; simp only [World.alloc, Array.size_push]; omega) (.bool nb) (.int .i8 t) (.int .u64 (k : Int))
    obtain ⟨r0, r1, r2, q0, q1, q2⟩ := cell3 (HBX.out _ hk5)
    obtain ⟨j0, j1, j2, i0, i1, i2⟩ := cell3 hgv
    obtain ⟨x0, x1, x2, _, _, _⟩ := cell3 (store3 hgv (.bool nb) (.int .i8 t) (.int .u64 (k : Int)))
    go_wp2_with fail
    exact bodyPost_ret (v := .tuple #[.agg #[.bool nb, .int .i8 t, .int .u64 (k : Int)], .nilIface]) (dec_result rfl _ _ w.heap.size _ _ _ _ 55 rfl rfl (store3 (HBX.out _ hk5) _ _ _)) rfl ⟨sg, some (k, t), HPP.out, chg3 (HC0.out.trans hk5 sb_) (Nat.le_refl _) _ _ _, by rw [← HNB.out]; rfl⟩
   | none =>
    obtain ⟨t4, v4, he4⟩ := ho
    have HPP := hid (HPG.out _ _ hp)
    have he2 : e = .returned (.tuple #[.agg #[.bool false, .int .i8 0, .int .u64 0], .iface t4 v4]) := he4
    clear he4 hp
    subst he2
    clear r0 r1 r2 q0 q1 q2 j0 j1 j2 i0 i1 i2
    have hgv := kept_heap hc HG.out
    have hk4 := hk.trans hc sb_
    replace hk := chg3 hk4 (z := g) (by have := HGN.out; simp only [World.alloc, Array.size_push]; omega) (.bool false) (.int .i8 0) (.int .u64 0)
    obtain ⟨r0, r1, r2, q0, q1, q2⟩ := cell3 (HBX.out _ hk)
    obtain ⟨j0, j1, j2, i0, i1, i2⟩ := cell3 hgv
    go_wp2_with (go_at_call 76; refine (errorsNew_any _ _).mono ?_; intro e w1 h; obtain ⟨⟨tv, vv, he1⟩, hc2⟩ := h; subst he1; replace hk := hk.trans hc2 sb_; clear hc2; clear r0 r1 r2 q0 q1 q2; obtain ⟨r0, r1, r2, q0, q1, q2⟩ := cell3 (HBX.out _ hk))
    exact bodyPost_ret (v := .tuple #[.agg #[.bool false, .int .i8 0, .int .u64 0], .iface tv vv]) (dec_result rfl _ _ w.heap.size _ _ _ _ 55 rfl rfl (store3 (HBX.out _ hk) _ _ _)) rfl ⟨sg, none, HPP.out, chg3 (HC0.out.trans hk sb_) (Nat.le_refl _) _ _ _, tv, vv, rfl⟩
def dgL (l : List DT) : Nat := l.foldl (fun a f => a + digs f.2.1) 0
theorem dgL_snoc (l : List DT) (f : DT) : dgL (l ++ [f]) = dgL l + digs f.2.1 := by unfold dgL; rw [List.foldl_append]; rfl
theorem dg_mono : ∀ (l : List DT) (a : Nat), a ≤ l.foldl (fun a f => a + digs f.2.1) a := by
 intro l
 induction l with
 | nil => exact fun a => Nat.le_refl a
 | cons f l ih => exact fun a => Nat.le_trans (Nat.le_add_right _ _) (ih _)
theorem pl_mono : ∀ (l : List DT) (a : DT), a.2.2 ≤ (l.foldl stepP a).2.2 := by
 intro l
 induction l with
 | nil => exact fun a => Nat.le_refl _
 | cons f l ih => exact fun a => Nat.le_trans (show a.2.2 ≤ (stepP a f).2.2 from Nat.le_add_right _ _) (ih (stepP a f))
theorem dg_bd : ∀ (l : List DT) (c : DT) (a : Nat), c.2.1 ≤ 10 ^ a → (l.foldl stepP c).2.1 ≤ 10 ^ (l.foldl (fun a f => a + digs f.2.1) a) := by
 intro l
 induction l with
 | nil => exact fun c a h => h
 | cons f l ih =>
  intro c a h
  refine ih _ _ ?_
  simp only [stepP]
  rw [Nat.pow_add]
  exact Nat.mul_le_mul h (Nat.le_of_lt (digs_le.1 (Nat.le_refl _)))
theorem small_dg {l : List DT} (h1 : dgL l ≤ 38) (h2 : (prodL l).2.2 ≤ 38) : SmallP l := by
 intro k
 have e : l = l.take k ++ l.drop k := (List.take_append_drop k l).symm
 have h3 : dgL (l.take k) ≤ dgL l := by
  conv => rhs; rw [e]
  unfold dgL
  rw [List.foldl_append]
  exact dg_mono _ _
 have h4 : (prodL (l.take k)).2.2 ≤ (prodL l).2.2 := by
  conv => rhs; rw [e]
  unfold prodL
  rw [List.foldl_append]
  exact pl_mono _ _
 refine ⟨Nat.le_trans (dg_bd _ _ 0 (by simp)) (Nat.pow_le_pow_right (by omega) (Nat.le_trans h3 h1)), Nat.le_trans h4 h2⟩
theorem small_two {l : List DT} (h : ∀ f ∈ l, DTok f) (h1 : l.length ≤ 2) : SmallP l := by
 intro k
 obtain ⟨b1, b2⟩ := prodL_bd (l.take k) (false, 1, 0) 0 (fun f hf => h f (List.mem_of_mem_take hf)) (by simp) (by simp)
 have hk : (l.take k).length ≤ 2 := by rw [List.length_take]; omega
 refine ⟨Nat.le_trans b2 (Nat.pow_le_pow_right (by omega) (by omega)), Nat.le_trans b1 (by omega)⟩
theorem prodQ_snoc (l : List DT) (f : DT) : prodQ (l ++ [f]) = stepPQ (prodQ l) f := by unfold prodQ; rw [List.foldl_append]; rfl
theorem prodQ_bd {l : List DT} (h : ∀ f ∈ l, DTok f) (hl : l.length ≤ 40) : (prodQ l).2.1 < tn 820 ∧ (prodQ l).2.2 < tn 820 ∧ 0 < (prodQ l).2.2 := by
 obtain ⟨h1, h2, h3⟩ := prodL_ok h hl
 obtain ⟨k1, k2, k3⟩ := rp_prod l
 exact ⟨by rw [k2]; exact h2, h3, by rw [k1]; exact pow10_pos _⟩
theorem dgL_le {l : List DT} (h : ∀ f ∈ l, DTok f) : dgL l ≤ 19 * l.length := by
 have : ∀ (l : List DT) (a k : Nat), (∀ f ∈ l, DTok f) → a ≤ 19 * k → l.foldl (fun a f => a + digs f.2.1) a ≤ 19 * (k + l.length) := by
  intro l
  induction l with
  | nil => exact fun a k _ h => h
  | cons f l ih =>
   intro a k h h1
   have hd := digs_le.2 (h f (by simp)).1
   have := ih (a + digs f.2.1) (k + 1) (fun g hg => h g (by simp [hg])) (by omega)
   rw [List.length_cons, show k + (l.length + 1) = k + 1 + l.length by omega]
   exact this
 have := this l 0 0 h (by omega)
 unfold dgL
 omega
theorem PProd_places {l : List DT} {sg : Bool} {k t : Nat} (h : PProd l sg (some (k, t))) : t ≤ 19 := by
 unfold PProd at h
 split at h
 ·cases h
 ·exact h.2 _ _ rfl
theorem heap_drew {w : World} {i : Nat} {o : Obj} (h : w.heap[i]? = some o) : w.drew.heap[i]? = some o := h
theorem fxProd_idle (p q : Addr) (w : World) : CallsD Tryz.prog 56 #[.pointer (some p), .pointer (some q)] .returning w fun e u' w' => e = .returned (.tuple #[]) ∧ u' = .returning ∧ w' = w := by
 refine callsD_of_wpS Tryz.func56 rfl fun c₀ cs hu => ?_
 apply wpS_seq
 apply wpS_region
 simp [wpOpsS, go_sem, recoverD, hu, Tryz.ntmps56, Exit.thenS]
 refine wpS_cond (t := false) (by simp [Act.eval, Array.replicate]) ?_
 simp only [Bool.false_eq_true, if_false]
 refine wpS_of_wp (wp_skip ?_)
 cases c₀
 simp_all [bodyPostS, results, Tryz.results56]
set_option maxHeartbeats 8000000 in
theorem fxProd_gen {A : Option Addr} {l : List DT} {c : Nat} (P : Bool → Option (Nat × Nat) → Prop) (hP : ∀ sg k t, P sg (some (k, t)) → t ≤ 19) (w : World) (he : EnvD w) (hx : FX w A (l.map rawI)) (hr : ∀ f ∈ l, f.2.1 < 10 ^ 19 ∧ f.2.2 ≤ 19) (hl : l.length ≤ 40)
  (HS : ∀ w1 B cp, EnvD w1 → DX w1 B (l.map nrm) → Calls Tryz.prog 57 #[.slice B l.length cp] w1 (PX P w1)) :
  Calls Tryz.prog 27 #[.slice A l.length c] w (PO P w) := by
 have HFX0 := hid (fun w1 (h : Chg (fun _ => False) w w1) => fixeds_any (c := c) (hx.kept h) hr hl)
 have HE := hid he
 have HSX := hid HS
 have HPB := hid hP
 generalize l.length = L at *
 clear HS hP hr hl hx he
 obtain ⟨HC0, HD, hB0, hB1⟩ := box2 w #[.bool false, .int .u64 0, .int .i64 0] 24 #[.int .i64 0] 3
 have HB2 := hid hB0
 have HB3 := hid hB1
 have hk := Chg.refl (fun _ => False) ((w.alloc (.cells #[.bool false, .int .u64 0, .int .i64 0] 24)).alloc (.cells #[.int .i64 0] 3))
 clear hB0 hB1 HD
 have hmf : ∀ (fn : Fn) (first cap : Array Value) (w : World), (Instr.makeFunc fn first cap).run Tryz.prog w = .ok (.func fn first cap) w := fun _ _ _ _ => rfl
 go_enter_defers Tryz.func27, Tryz.ntmps27
 go_wp2_with (go_at_call 49; refine (HFX0.out _ HC0.out).mono ?_; intro e w1 h; obtain ⟨B, cp, he, hdx, hc⟩ := h; subst he; replace hk := hk.trans hc sb_; have HDX := hid hdx; clear hc hdx)
 go_at_call 57
 refine (HSX.out _ _ _ (HE.out.kept (HC0.out.trans hk sb_)) HDX.out).mono ?_
 intro e w4 h
 obtain ⟨sg, o, hp, hc, ho⟩ := h
 have HPP := hid hp
 clear hp
 cases o with
 | none =>
  obtain ⟨t3, v3, he⟩ := ho
  have he2 : e = .returned (.tuple #[.agg #[.bool false, .int .i8 0, .int .u64 0], .iface t3 v3]) := he
  clear he
  subst he2
  replace hk := (hk.trans hc sb_).alloc (.cells #[.bool false, .int .i8 0, .int .u64 0] 55)
  clear hc
  obtain ⟨r0, r1, r2, q0, q1, q2⟩ := cell3 (kept_heap hk HB2.out)
  obtain ⟨i0, i1⟩ := cell1 (kept_heap hk HB3.out)
  go_wp2_with fail
  refine leaves_cons (f := 56) (args := #[.pointer (some ⟨w.heap.size, 0, none⟩), .pointer (some ⟨w.heap.size + 1, 0, none⟩)]) (by simp) (by simp [go_sem]) ?_
  refine (fxProd_idle _ _ _).mono ?_
  rintro e u' w'' ⟨rfl, rfl, rfl⟩
  exact ⟨.tuple #[.agg #[.bool false, .int .u64 0, .int .i64 0], .int .i64 1], fix_result rfl _ _ w.heap.size (w.heap.size + 1) _ _ _ _ _ _ rfl rfl (fix_far (store3 (kept_heap hk HB2.out) _ _ _) (by omega)) (int_set (fix_near (kept_heap hk HB3.out) (by omega))), ⟨sg, none, HPP.out, rfl, fix_chg (HC0.out.trans hk sb_) (by omega) (by omega)⟩⟩
 | some kt =>
  obtain ⟨k, t⟩ := kt
  have ht := HPB.out _ _ _ HPP.out
  have HFX := hid (fun w => fix_any (sg && (k : Int) != 0) (k : Int) t ht w)
  have he2 : e = .returned (.tuple #[.agg #[.bool (sg && (k : Int) != 0), .int .i8 t, .int .u64 (k : Int)], .nilIface]) := ho
  clear ho ht
  obtain ⟨nb, hnb⟩ : ∃ b, (sg && (k : Int) != 0) = b := ⟨_, rfl⟩
  have HNB := hid hnb
  obtain ⟨K, hK⟩ : ∃ v : Int, (k : Int) = v := ⟨_, rfl⟩
  have HK := hid hK
  rw [hnb, hK] at he2 HFX
  subst he2
  clear hnb hK
  replace hk := (hk.trans hc sb_).alloc (.cells #[.bool nb, .int .i8 t, .int .u64 K] 55)
  clear hc
  go_wp2_with (go_at_call 34; refine (HFX.out _).mono ?_; intro e w5 h; obtain ⟨he, hc⟩ := h; subst he; replace hk := hk.trans hc sb_; clear hc; obtain ⟨r0, r1, r2, q0, q1, q2⟩ := cell3 (kept_heap hk HB2.out); obtain ⟨i0, i1⟩ := cell1 (kept_heap hk HB3.out))
  refine leaves_cons (f := 56) (args := #[.pointer (some ⟨w.heap.size, 0, none⟩), .pointer (some ⟨w.heap.size + 1, 0, none⟩)]) (by simp) (by simp [go_sem]) ?_
  refine (fxProd_idle _ _ _).mono ?_
  rintro e u' w'' ⟨rfl, rfl, rfl⟩
  exact ⟨.tuple #[.agg #[.bool nb, .int .u64 K, .int .i64 t], .int .i64 0], fix_result rfl _ _ w.heap.size (w.heap.size + 1) _ _ _ _ _ _ rfl rfl (fix_far (store3 (kept_heap hk HB2.out) _ _ _) (by omega)) (int_set (fix_near (kept_heap hk HB3.out) (by omega))), ⟨sg, some (k, t), HPP.out, by rw [← HNB.out, ← HK.out]; rfl, fix_chg (HC0.out.trans hk sb_) (by omega) (by omega)⟩⟩
end Go.Proofs.YtbjhnckboimliaaGreatDoor
