/- Part 24 of the proof. -/
import Derived.JoinedOf
import GoSem.ClaimSeven
import GoSem.ClaimGoes
import GoSem.ClaimLaidByText
import Derived.Lib.MinMax
import Derived.Test.YthdkandofddohaaGreatDoorP23
namespace Go.Proofs.YthdkandofddohaaGreatDoor
open Go
set_option maxRecDepth 100000
theorem and2p {a b : Bool} (ha : a = true) (hb : b = true) : (a && b) = true := by rw [ha, hb]; rfl
set_option maxHeartbeats 4000000 in
theorem row_closedp : joinedFacts Tryz.prog 4 Tryz.f4 Rows.fnFixFromIntsSpec Rows.fnFixFromIntsRow = true := by
 unfold joinedFacts
 repeat' (with_reducible refine and2p ?_ ?_)
 all_goals (as_aux_lemma => kernel_rfl)
theorem row_funcp : Tryz.prog.funcNamed "given.example/pub-alexandrine/laws.FnFixFromInts" = some 4 := by kernel_rfl
theorem row_wfp : Rows.fnFixFromIntsRow.wfByText (OpenSpec.ofChange Rows.fnFixFromIntsSpec) = true := by kernel_rfl
theorem row_looksp : false = Tryz.prog.looks [] := by kernel_rfl
theorem row_standp : ([2, 2, 3].all fun u => !Tryz.prog.wantsStandIn u) = true := by kernel_rfl
theorem row_goesp : false = Rows.fnFixFromIntsRow.goesBy Tryz.prog := by kernel_rfl
end Go.Proofs.YthdkandofddohaaGreatDoor
namespace Go.Proofs.YthdkandofddohaaGreatDoor
open Go.RowKit
set_option linter.unusedVariables false
set_option linter.unusedSimpArgs false
set_option maxRecDepth 20000
theorem New_pos (v : Int) (s : Nat) (hs : s ≤ 19) (h0 : 0 ≤ v) (h1 : v < 9223372036854775808) (w : World) :
  Calls Tryz.prog 53 #[.int .i64 v, .int .i64 s] w (fun e w' => e = .returned (.tuple #[.agg #[.bool false, .int .i8 s, .int .u64 v], .nilIface]) ∧ Chg (fun _ => False) w w') := by
 have HN := hid (fun w => newSafe_flat false false v s ⟨h0, by omega⟩ hs rfl w)
 have hw : IntKind.u64.wrap v = v := by rw [IntKind.wrap_u64]; omega
 have HZ := hid (heap_alloc_new w (.cells #[.bool false, .int .i8 0, .int .u64 0] 54))
 have HC0 := hid ((Chg.refl (fun _ => False) w).alloc (.cells #[.bool false, .int .i8 0, .int .u64 0] 54))
 clear h1 hs
 go_enter Tryz.func53, Tryz.ntmps53
 go_wp2_with (go_at_call 66; refine (HN.out _).mono ?_; intro e w1 h; obtain ⟨he, hc⟩ := h; subst he; have hk := hc; clear hc; obtain ⟨k0, k1, k2, f0, f1, f2⟩ := cell3 (kept_heap hk HZ.out))
 refine bodyPost_ret (v := .tuple #[.agg #[.bool false, .int .i8 s, .int .u64 v], .nilIface]) (dec_result rfl _ _ w.heap.size _ _ _ _ 54 rfl rfl (store3 (kept_heap hk HZ.out) _ _ _)) rfl ⟨rfl, chg3 (HC0.out.trans hk sb_) (Nat.le_refl _) _ _ _⟩
theorem New_min (s : Nat) (hs : s ≤ 19) (w : World) :
  Calls Tryz.prog 53 #[.int .i64 (-9223372036854775808), .int .i64 s] w (fun e w' => e = .returned (.tuple #[.agg #[.bool true, .int .i8 s, .int .u64 9223372036854775808], .nilIface]) ∧ Chg (fun _ => False) w w') := by
 have HN := hid (fun w => newSafe_flat true true 9223372036854775808 s ⟨by omega, by omega⟩ hs rfl w)
 have HZ := hid (heap_alloc_new w (.cells #[.bool false, .int .i8 0, .int .u64 0] 54))
 have HC0 := hid ((Chg.refl (fun _ => False) w).alloc (.cells #[.bool false, .int .i8 0, .int .u64 0] 54))
 clear hs
 go_enter Tryz.func53, Tryz.ntmps53
 go_wp2_with (go_at_call 66; refine (HN.out _).mono ?_; intro e w1 h; obtain ⟨he, hc⟩ := h; subst he; have hk := hc; clear hc; obtain ⟨k0, k1, k2, f0, f1, f2⟩ := cell3 (kept_heap hk HZ.out))
 refine bodyPost_ret (v := .tuple #[.agg #[.bool true, .int .i8 s, .int .u64 9223372036854775808], .nilIface]) (dec_result rfl _ _ w.heap.size _ _ _ _ 54 rfl rfl (store3 (kept_heap hk HZ.out) _ _ _)) rfl ⟨rfl, chg3 (HC0.out.trans hk sb_) (Nat.le_refl _) _ _ _⟩
theorem New_neg (v : Int) (s : Nat) (hs : s ≤ 19) (h0 : -9223372036854775808 < v) (h1 : v < 0) (w : World) :
  Calls Tryz.prog 53 #[.int .i64 v, .int .i64 s] w (fun e w' => e = .returned (.tuple #[.agg #[.bool true, .int .i8 s, .int .u64 (-v)], .nilIface]) ∧ Chg (fun _ => False) w w') := by
 have hb : (true && -v != 0) = true := by rw [bne_iff_ne.2 (by omega)]; rfl
 have HN := hid (fun w => newSafe_flat true true (-v) s ⟨by omega, by omega⟩ hs hb w)
 have hw0 : IntKind.i64.wrap (-v) = -v := IntWalk.i64_in _ (by omega)
 have hw : IntKind.u64.wrap (-v) = -v := by rw [IntKind.wrap_u64]; omega
 have hge : ¬ 0 ≤ v := by omega
 have hne : (v == -9223372036854775808) = false := beq_eq_false_iff_ne.2 (by omega)
 have hne2 : ¬ v = -9223372036854775808 := by omega
 have HZ := hid (heap_alloc_new w (.cells #[.bool false, .int .i8 0, .int .u64 0] 54))
 have HC0 := hid ((Chg.refl (fun _ => False) w).alloc (.cells #[.bool false, .int .i8 0, .int .u64 0] 54))
 clear hs hb h0 h1
 go_enter Tryz.func53, Tryz.ntmps53
 go_wp2_with (go_at_call 66; refine (HN.out _).mono ?_; intro e w1 h; obtain ⟨he, hc⟩ := h; subst he; have hk := hc; clear hc; obtain ⟨k0, k1, k2, f0, f1, f2⟩ := cell3 (kept_heap hk HZ.out))
 refine bodyPost_ret (v := .tuple #[.agg #[.bool true, .int .i8 s, .int .u64 (-v)], .nilIface]) (dec_result rfl _ _ w.heap.size _ _ _ _ 54 rfl rfl (store3 (kept_heap hk HZ.out) _ _ _)) rfl ⟨rfl, chg3 (HC0.out.trans hk sb_) (Nat.le_refl _) _ _ _⟩
theorem New_any (v : Int) (s : Nat) (hs : s ≤ 19) (h0 : -9223372036854775808 ≤ v) (h1 : v < 9223372036854775808) (w : World) :
  Calls Tryz.prog 53 #[.int .i64 v, .int .i64 s] w (fun e w' => e = .returned (.tuple #[.agg #[.bool (decide (v < 0)), .int .i8 s, .int .u64 (v.natAbs : Int)], .nilIface]) ∧ Chg (fun _ => False) w w') := by
 by_cases hp : 0 ≤ v
 ·rw [decide_eq_false (by omega), show (v.natAbs : Int) = v by omega]
  exact New_pos v s hs hp h1 w
 ·rw [decide_eq_true (by omega), show (v.natAbs : Int) = -v by omega]
  by_cases hm : v = -9223372036854775808
  ·subst hm
   exact New_min s hs w
  ·exact New_neg v s hs (by omega) (by omega) w
def EnvS (w : World) : Prop := ∃ t v, w.cell? ⟨1, 0, none⟩ = some (.iface t v)
theorem EnvS.kept {w w' : World} (h : EnvS w) (hc : Chg (fun _ => False) w w') : EnvS w' := by obtain ⟨t, v, e⟩ := h; exact ⟨t, v, cell_kept e hc (fun h => h)⟩
def PNo (w : World) (e : Ending) (w' : World) : Prop := (∃ t v, e = .returned (.tuple #[.agg #[.bool false, .int .i8 0, .int .u64 0], .iface t v])) ∧ Chg (fun _ => False) w w'
set_option maxHeartbeats 1000000 in
theorem newSafe_bad (neg : Bool) (c s : Int) (hs : s < 0 ∨ 19 < s) (w : World) (he : EnvS w) : Calls Tryz.prog 66 #[.bool neg, .int .u64 c, .int .i64 s] w (PNo w) := by
 rcases hs with hs | hs
 ·have hb1 : decide (s < 0) = true := decide_eq_true hs
  obtain ⟨tv, vv, hov⟩ := he.kept ((Chg.refl (fun _ => False) w).alloc (.cells #[.bool false, .int .i8 0, .int .u64 0] 54))
  have hgl : 1 < w.heap.size := by
   obtain ⟨t, v, h⟩ := he
   exact World.block_lt_of_cell? w _ h
  have hne1 : ¬ w.heap.size = 1 := by omega
  have hne2 : ¬ 1 = w.heap.size := by omega
  have HZ := hid (heap_alloc_new w (.cells #[.bool false, .int .i8 0, .int .u64 0] 54))
  have HC0 := hid ((Chg.refl (fun _ => False) w).alloc (.cells #[.bool false, .int .i8 0, .int .u64 0] 54))
  obtain ⟨z0, z1, z2, y0, y1, y2⟩ := cell3 HZ.out
  clear hgl he
  go_enter Tryz.func66, Tryz.ntmps66
  go_wp2_with fail
  go_region
  all_goals (go_wp2_with fail; refine bodyPost_ret (v := .tuple #[.agg #[.bool false, .int .i8 0, .int .u64 0], .iface tv vv]) (dec_result rfl _ _ w.heap.size _ _ _ _ 54 rfl rfl (by exact HZ.out)) rfl ⟨⟨tv, vv, rfl⟩, HC0.out.drew⟩)
 ·have h0 : ¬ s < 0 := by omega
  have hb1 : decide (s < 0) = false := decide_eq_false h0
  have hb2 : decide (19 < s) = true := decide_eq_true hs
  obtain ⟨tv, vv, hov⟩ := he.kept ((Chg.refl (fun _ => False) w).alloc (.cells #[.bool false, .int .i8 0, .int .u64 0] 54))
  have hgl : 1 < w.heap.size := by
   obtain ⟨t, v, h⟩ := he
   exact World.block_lt_of_cell? w _ h
  have hne1 : ¬ w.heap.size = 1 := by omega
  have hne2 : ¬ 1 = w.heap.size := by omega
  have HZ := hid (heap_alloc_new w (.cells #[.bool false, .int .i8 0, .int .u64 0] 54))
  have HC0 := hid ((Chg.refl (fun _ => False) w).alloc (.cells #[.bool false, .int .i8 0, .int .u64 0] 54))
  obtain ⟨z0, z1, z2, y0, y1, y2⟩ := cell3 HZ.out
  clear hgl he
  go_enter Tryz.func66, Tryz.ntmps66
  go_wp2_with fail
  go_region
  all_goals (go_wp2_with fail; refine bodyPost_ret (v := .tuple #[.agg #[.bool false, .int .i8 0, .int .u64 0], .iface tv vv]) (dec_result rfl _ _ w.heap.size _ _ _ _ 54 rfl rfl (by exact HZ.out)) rfl ⟨⟨tv, vv, rfl⟩, HC0.out.drew⟩)
theorem New_bad (v s : Int) (hs : s < 0 ∨ 19 < s) (h0 : -9223372036854775808 ≤ v) (h1 : v < 9223372036854775808) (w : World) (he : EnvS w) : Calls Tryz.prog 53 #[.int .i64 v, .int .i64 s] w (PNo w) := by
 by_cases hp : 0 ≤ v
 ·have HN := hid (fun w he => newSafe_bad false v s hs w he)
  have hw : IntKind.u64.wrap v = v := by rw [IntKind.wrap_u64]; omega
  clear h0 h1 hs
  have HZ := hid (heap_alloc_new w (.cells #[.bool false, .int .i8 0, .int .u64 0] 54))
  have HC0 := hid ((Chg.refl (fun _ => False) w).alloc (.cells #[.bool false, .int .i8 0, .int .u64 0] 54))
  have HE := hid (he.kept HC0.out)
  clear he
  go_enter Tryz.func53, Tryz.ntmps53
  go_wp2_with (go_at_call 66; refine (HN.out _ HE.out).mono ?_; intro e w1 h; obtain ⟨⟨t, u, he⟩, hc⟩ := h; subst he; have hk := hc; clear hc; obtain ⟨k0, k1, k2, f0, f1, f2⟩ := cell3 (kept_heap hk HZ.out))
  refine bodyPost_ret (v := .tuple #[.agg #[.bool false, .int .i8 0, .int .u64 0], .iface t u]) (dec_result rfl _ _ w.heap.size _ _ _ _ 54 rfl rfl (store3 (kept_heap hk HZ.out) _ _ _)) rfl ⟨⟨t, u, rfl⟩, chg3 (HC0.out.trans hk sb_) (Nat.le_refl _) _ _ _⟩
 ·by_cases hm : v = -9223372036854775808
  ·subst hm
   have HN := hid (fun w he => newSafe_bad true 9223372036854775808 s hs w he)
   clear h0 h1 hs hp
   have HZ := hid (heap_alloc_new w (.cells #[.bool false, .int .i8 0, .int .u64 0] 54))
   have HC0 := hid ((Chg.refl (fun _ => False) w).alloc (.cells #[.bool false, .int .i8 0, .int .u64 0] 54))
   have HE := hid (he.kept HC0.out)
   clear he
   go_enter Tryz.func53, Tryz.ntmps53
   go_wp2_with (go_at_call 66; refine (HN.out _ HE.out).mono ?_; intro e w1 h; obtain ⟨⟨t, u, he⟩, hc⟩ := h; subst he; have hk := hc; clear hc; obtain ⟨k0, k1, k2, f0, f1, f2⟩ := cell3 (kept_heap hk HZ.out))
   refine bodyPost_ret (v := .tuple #[.agg #[.bool false, .int .i8 0, .int .u64 0], .iface t u]) (dec_result rfl _ _ w.heap.size _ _ _ _ 54 rfl rfl (store3 (kept_heap hk HZ.out) _ _ _)) rfl ⟨⟨t, u, rfl⟩, chg3 (HC0.out.trans hk sb_) (Nat.le_refl _) _ _ _⟩
  ·have HN := hid (fun w he => newSafe_bad true (-v) s hs w he)
   have hw0 : IntKind.i64.wrap (-v) = -v := IntWalk.i64_in _ (by omega)
   have hw : IntKind.u64.wrap (-v) = -v := by rw [IntKind.wrap_u64]; omega
   have hne : (v == -9223372036854775808) = false := beq_eq_false_iff_ne.2 (by omega)
   clear h0 h1 hs
   have HZ := hid (heap_alloc_new w (.cells #[.bool false, .int .i8 0, .int .u64 0] 54))
   have HC0 := hid ((Chg.refl (fun _ => False) w).alloc (.cells #[.bool false, .int .i8 0, .int .u64 0] 54))
   have HE := hid (he.kept HC0.out)
   clear he
   go_enter Tryz.func53, Tryz.ntmps53
   go_wp2_with (go_at_call 66; refine (HN.out _ HE.out).mono ?_; intro e w1 h; obtain ⟨⟨t, u, he⟩, hc⟩ := h; subst he; have hk := hc; clear hc; obtain ⟨k0, k1, k2, f0, f1, f2⟩ := cell3 (kept_heap hk HZ.out))
   refine bodyPost_ret (v := .tuple #[.agg #[.bool false, .int .i8 0, .int .u64 0], .iface t u]) (dec_result rfl _ _ w.heap.size _ _ _ _ 54 rfl rfl (store3 (kept_heap hk HZ.out) _ _ _)) rfl ⟨⟨t, u, rfl⟩, chg3 (HC0.out.trans hk sb_) (Nat.le_refl _) _ _ _⟩
end Go.Proofs.YthdkandofddohaaGreatDoor
namespace Go.Proofs.YthdkandofddohaaGreatDoor
open Go.ChangeShapes Go.WideShapes Go.ChangeAt Go.WideMaps Go.WideElems Go.RowKit
theorem of_laids {W : World} (h : laidMetH Tryz.prog Rows.fnFixSubExactRow.laid W) : EnvS W := by
 rw [MakeChecks.laidMetH_plain _ _ _ kr_] at h
 obtain ⟨ps, ⟨_, _, _, _, _, _, _, _, _, _, ⟨_, _, _, _, _, _, _, _, _, _, ⟨_, _, _, _, _, _, _, _, _, _, ⟨_, _, _, _, _, _, _, _, _, _, ⟨_, _, _, _, _, _, _, _, _, _, ⟨_, _, _, _, _, _, _, _, _, _, ⟨_, _, _, _, _, _, _, _, _, _, ⟨_, _, _, _, _, _, _, _, _, _, ⟨g8, t8, cs8, f8, p8, q8, hg8, ht8, hv8, hd8, hrest, _⟩, _⟩, _⟩, _⟩, _⟩, _⟩, _⟩, _⟩, _⟩, hps, _⟩ := h
 obtain rfl := Option.some.inj (gScl.symm.trans hg8)
 obtain rfl := Option.some.inj (tScl.symm.trans ht8)
 obtain ⟨_, u, y, e1, _, _⟩ := iface_of_trod Tryz.underlying58 hd8
 have := World.var?_cell hg8 hv8 0
 obtain ⟨l1⟩ := cs8
 simp at e1
 subst e1
 exact ⟨u, y, by simpa using this⟩
end Go.Proofs.YthdkandofddohaaGreatDoor
namespace Go.Proofs.YthdkandofddohaaGreatDoor
open Go.RowKit
set_option linter.unusedVariables false
set_option linter.unusedSimpArgs false
set_option maxRecDepth 20000
set_option maxHeartbeats 4000000 in
theorem Fixed_to {w : World} {A D1 : Option Addr} {n c p1 q1 a x : Nat} (n1 : Bool) (ha : SN w A n c a) (hx : SN w D1 p1 q1 x) (ha1 : a < tn 850) (hx1 : x < tn 850) (hpl : Places a x) (o : Option Nat) (N : Nat) (hN : N ≤ 19) (ho : room (10 ^ 19) (atP a x) N = o) :
  Calls Tryz.prog 17 #[.agg #[.bool n1, .slice A n c, .slice D1 p1 q1], .int .i64 (N : Int)] w (PFixed w n1 (atP a x) o) := by
 have hc0 := ((Chg.refl (fun _ => False) w).alloc (.cells #[.bool n1, .slice A n c, .slice D1 p1 q1] 34)).alloc (.cells #[.bool false, .slice none 0 0, .int .i64 0] 42)
 have hB0 : ((w.alloc (.cells #[.bool n1, .slice A n c, .slice D1 p1 q1] 34)).alloc (.cells #[.bool false, .slice none 0 0, .int .i64 0] 42)).heap[w.heap.size]? = some (.cells #[.bool n1, .slice A n c, .slice D1 p1 q1] 34 (0, 0)) := by
  rw [Below.heap_alloc _ _ _ (by simp)]; exact heap_alloc_new _ _
 have hB1 : ((w.alloc (.cells #[.bool n1, .slice A n c, .slice D1 p1 q1] 34)).alloc (.cells #[.bool false, .slice none 0 0, .int .i64 0] 42)).heap[w.heap.size + 1]? = some (.cells #[.bool false, .slice none 0 0, .int .i64 0] 42 (0, 0)) := heap_alloc2_new _ _ _
 have HRD := hid (fun (p : Nat) (hp : p ≤ 19) (sb : Bool) (hsb : (n1 && rhe (a * 10 ^ p) x != 0) = sb) w1 (h : Chg (fun _ => False) w w1) => Round_any n1 sb p (ha.kept h) (hx.kept h) ha1 hx1 hpl.pos hp hsb)
 have HB := hid (fun w1 (h : Chg (fun _ => False) ((w.alloc (.cells #[.bool n1, .slice A n c, .slice D1 p1 q1] 34)).alloc (.cells #[.bool false, .slice none 0 0, .int .i64 0] 42)) w1) => cell3 (kept_heap h hB0))
 have HZ := hid hB1
 have HC0 := hid hc0
 have HO := hid ho
 have hbd : ∀ p, p ≤ 19 → rhe (a * 10 ^ p) x < tn 1800 := by
  intro p hp
  have h1 := rhe_le1 (N := a * 10 ^ p) (x := x)
  have h2 := Nat.div_le_self (a * 10 ^ p) x
  have h3 : a * 10 ^ p < tn (850 + 20) := mul_tn ha1 (Nat.pow_lt_pow_right (by omega) (show p < 20 by omega))
  have h4 := two_tn h3 (lt_tn (j := 1) (show 1 < 10 ^ 1 by decide) (show 1 ≤ 850 + 20 by omega)) (show 850 + 20 < 1800 by omega)
  omega
 have HBD := hid hbd
 obtain ⟨d0, d1, d2, _, _, _⟩ := HB.out _ (Chg.refl _ _)
 clear ha hx ha1 hx1 hpl hc0 hB0 hB1 hbd ho
 have hmn : min (N : Int) 19 = (N : Int) := by omega
 go_enter Tryz.func17, Tryz.ntmps17
 go_wp2
 go_loopw [6] (fun i wr => ∃ k : Nat, k ≤ N + 1 ∧ i = .int .i64 ((k : Int) - 1) ∧ Hid (∀ m, k ≤ m → m ≤ N → 10 ^ 19 ≤ atP a x m) ∧ Hid (Chg (fun _ => False) ((w.alloc (.cells #[.bool n1, .slice A n c, .slice D1 p1 q1] 34)).alloc (.cells #[.bool false, .slice none 0 0, .int .i64 0] 42)) wr))
  (fun i _ => (intOf i + 1).toNat)
 case atStart => exact ⟨N + 1, Nat.le_refl _, by rw [show ((N + 1 : Nat) : Int) - 1 = (N : Int) by omega], hid (fun m h1 h2 => by omega), hid (Chg.refl _ _)⟩
 case round =>
  obtain ⟨k, hk20, he, HF, HK⟩ := hrel
  subst he
  clear d0 d1 d2
  by_cases h0 : k = 0
  ·subst h0
   have hlt : ¬ (0 : Int) ≤ ((0 : Nat) : Int) - 1 := by omega
   obtain ⟨k0, k1, k2, f0, f1, f2⟩ := cell3 (kept_heap HK.out HZ.out)
   have hroom : room (10 ^ 19) (atP a x) N = none := room_none (fun n hn => HF.out n (by omega) hn)
   have hon : o = none := HO.out.symm.trans hroom
   clear hroom
   subst hon
   go_wp2_with fail
   refine bodyPost_ret (v := .tuple #[.agg #[.bool false, .slice none 0 0, .int .i64 0], .bool false]) (sdec_result rfl _ _ (w.heap.size + 1) _ _ _ _ _ rfl rfl (store3 (kept_heap HK.out HZ.out) _ _ _)) rfl ⟨chg3 (HC0.out.trans HK.out sb_) (by omega) _ _ _, rfl⟩
  ·obtain ⟨p, rfl⟩ : ∃ p, k = p + 1 := ⟨k - 1, by omega⟩
   have e1 : ((p + 1 : Nat) : Int) - 1 = (p : Int) := by omega
   rw [e1]
   have hge : (0 : Int) ≤ (p : Int) := by omega
   have hp19 : p ≤ 19 := by omega
   have hpN : p ≤ N := by omega
   obtain ⟨sb, hsb⟩ : ∃ sb, (n1 && rhe (a * 10 ^ p) x != 0) = sb := ⟨_, rfl⟩
   have HR1 := hid (HRD.out p hp19 sb hsb wr (HC0.out.trans HK.out sb_))
   have HB1 := hid (HBD.out p hp19)
   obtain ⟨d0, d1, d2, _, _, _⟩ := HB.out _ HK.out
   obtain ⟨Z, hZ⟩ : ∃ Z, rhe (a * 10 ^ p) x = Z := ⟨_, rfl⟩
   have HZZ := hid hZ
   rw [hZ] at HR1 HB1 hsb
   have HSB := hid hsb
   clear hsb hZ
   obtain ⟨e0, he0⟩ : ∃ e0 : Int, -(p : Int) = e0 := ⟨_, rfl⟩
   rw [he0] at HR1
   have HE0 := hid he0
   clear he0
   by_cases hd : digs Z ≤ 19
   ·have hd' : ((digs Z : Nat) : Int) ≤ 19 := by omega
    have HD := hid hd
    clear hd
    go_wp2_with (first | (go_at_call 39; refine HR1.out.mono ?_; intro e w1 h; obtain ⟨E, kk, l, he, hsn, hc⟩ := h; subst he; have HS := hid (hsn.kept ((Chg.refl (fun _ => False) w1).alloc (.cells #[.bool sb, .slice E kk l, .int .i64 e0] 42))); have HK1 := hid ((HK.out.trans hc sb_).alloc (.cells #[.bool sb, .slice E kk l, .int .i64 e0] 42)); have HG := hid (heap_alloc_new w1 (.cells #[.bool sb, .slice E kk l, .int .i64 e0] 42)); clear hsn hc) | (go_at_call 40; refine (Digits_any HS.out HB1.out).mono ?_; intro e w2 h; obtain ⟨he, hc⟩ := h; subst he; have HK2 := hid (HK1.out.trans hc sb_); have HS2 := hid (HS.out.kept hc); obtain ⟨g0, g1, g2, _, _, _⟩ := cell3 (kept_heap hc HG.out); obtain ⟨k0, k1, k2, f0, f1, f2⟩ := cell3 (kept_heap HK2.out HZ.out); clear hc))
    have hlt : atP a x p < 10 ^ 19 := by unfold atP; rw [HZZ.out]; exact digs_le.1 HD.out
    have hroom : room (10 ^ 19) (atP a x) N = some p := room_some hpN hlt (fun n h1 h2 => HF.out n (by omega) h2)
    have hon : o = some p := HO.out.symm.trans hroom
    clear hroom
    subst hon
    have hfz : atP a x p = Z := HZZ.out
    refine bodyPost_ret (v := .tuple #[.agg #[.bool sb, .slice E kk l, .int .i64 e0], .bool true]) (sdec_result rfl _ _ (w.heap.size + 1) _ _ _ _ _ rfl rfl (store3 (kept_heap HK2.out HZ.out) _ _ _)) rfl ⟨chg3 (HC0.out.trans HK2.out sb_) (by omega) _ _ _, sb, E, kk, l, by rw [HE0.out], by rw [hfz]; exact sn_end3 HS2.out (kept_heap HK2.out HZ.out) (by simp) _ _ _, by rw [hfz]; exact HSB.out⟩
   ·have hd' : ¬ ((digs Z : Nat) : Int) ≤ 19 := by omega
    have HD := hid hd
    clear hd
    go_wp2_with (first | (go_at_call 39; refine HR1.out.mono ?_; intro e w1 h; obtain ⟨E, kk, l, he, hsn, hc⟩ := h; subst he; have HS := hid (hsn.kept ((Chg.refl (fun _ => False) w1).alloc (.cells #[.bool sb, .slice E kk l, .int .i64 e0] 42))); have HK1 := hid ((HK.out.trans hc sb_).alloc (.cells #[.bool sb, .slice E kk l, .int .i64 e0] 42)); clear hsn hc) | (go_at_call 40; refine (Digits_any HS.out HB1.out).mono ?_; intro e w2 h; obtain ⟨he, hc⟩ := h; subst he; have HK2 := hid (HK1.out.trans hc sb_); clear hc))
    go_roundw
    case rel => exact ⟨p, by omega, by go_num, hid (fun m h1 h2 => by
     by_cases e : m = p
     ·subst e; unfold atP; rw [HZZ.out]; exact digs_lt.1 (by have := HD.out; omega)
     ·exact HF.out m (by omega) h2), HK2⟩
    case measure => first | (simp [intOf]; done) | (simp [intOf]; omega)
set_option maxHeartbeats 1000000 in
theorem fint_prec (x : Int) (hx : Fi x) (w : World) (ht : Tab w) :
  Calls Tryz.prog 102 #[.int .u64 x] w (fun e w' => e = .returned (.int .i64 (digs x.toNat)) ∧ w = w') := by
 obtain ⟨hx0, hx1⟩ := hx
 have hkey : ∀ k, x < 10 ^ k ↔ digs x.toNat ≤ k := fun k => pow_lt_digs hx0
 have e19 : (10 : Int) ^ 19 = 10000000000000000000 := by decide
 have hD : digs x.toNat ≤ 19 := (hkey 19).1 (by omega)
 generalize digs x.toNat = D at *
 have HKEY := hid hkey; have HT := hid ht
 clear hkey ht e19
 go_enter Tryz.func102, Tryz.ntmps102
 go_wp2_with fail
 go_loopw [3, 4] (fun l r wr => ∃ L R : Nat, l = .int .i64 L ∧ r = .int .i64 R ∧ L ≤ D ∧ D ≤ R ∧ R ≤ 20 ∧ w = wr) (fun l r _ => (intOf r - intOf l).toNat)
 case atStart => exact ⟨0, 20, rfl, rfl, by omega, by omega, by omega, rfl⟩
 case round =>
  obtain ⟨L, R, rfl, rfl, h1, h2, h3, rfl⟩ := hrel
  by_cases hlr : L < R
  ·have hlt : (L : Int) < (R : Int) := by omega
   have hsum : IntKind.i64.wrap ((L : Int) + (R : Int)) = (L : Int) + (R : Int) := IntWalk.i64_in _ (by omega)
   obtain ⟨M, hM⟩ : ∃ M : Nat, M = (L + R) / 2 := ⟨_, rfl⟩
   have hquo : ((L : Int) + (R : Int)) / 2 = (M : Int) := by omega
   have hM1 : L ≤ M := by omega
   have hM2 : M < R := by omega
   clear hM
   have hcell := HT.out M (by omega)
   have hk := HKEY.out M
   have hm0 : (0 : Int) ≤ (M : Int) := by omega
   have hm20 : (M : Int) < 20 := by omega
   generalize (10 : Int) ^ M = T at *
   by_cases hc : x < T
   ·have hDM : D ≤ M := hk.1 hc
    have hd : decide (x < T) = true := decide_eq_true hc
    clear hk
    go_wp2_with fail
    go_roundw
    case rel => exact ⟨L, M, rfl, (by first | rfl | rw [hquo]), h1, hDM, by omega, (by first | rfl | trivial)⟩
    case measure => simp [intOf]; omega
   ·have hDM : ¬ D ≤ M := fun h => hc (hk.2 h)
    have hd : decide (x < T) = false := decide_eq_false hc
    have hinc : IntKind.i64.wrap ((M : Int) + 1) = (M : Int) + 1 := IntWalk.i64_in _ (by omega)
    clear hk
    go_wp2_with fail
    go_roundw
    case rel => exact ⟨M + 1, R, by rw [show ((M + 1 : Nat) : Int) = (M : Int) + 1 by omega], (by first | rfl | rw [hquo]), by omega, h2, h3, (by first | rfl | trivial)⟩
    case measure => simp [intOf]; omega
  ·have hge : ¬ (L : Int) < (R : Int) := by omega
   obtain rfl : L = D := by omega
   go_wp2_with fail
   go_ret
   exact ⟨rfl, rfl⟩
theorem fint_rshDown (x : Int) (n : Nat) (hx : Fi x) (hx1 : x ≠ 0) (hn1 : 1 ≤ n) (hn : n ≤ 19) (w : World) (ht : Tab w) :
  Calls Tryz.prog 87 #[.int .u64 x, .int .i64 n] w (fun e w' => e = .returned (.int .u64 (x / 10 ^ n)) ∧ w = w') := by
 have hcell := ht n (by omega)
 have hY := p10_pos n
 obtain ⟨hY0, hY1⟩ := p10_wd (k := n) (by omega)
 generalize (10 : Int) ^ n = Y at *
 obtain ⟨hx0, hxm⟩ := hx
 have hb0 : (x == 0) = false := beq_eq_false_iff_ne.2 hx1
 have hle : ¬ (n : Int) ≤ 0 := by omega
 have hlt20 : (n : Int) < 20 := by omega
 have hge0 : (0 : Int) ≤ (n : Int) := by omega
 have hnge : ¬ (20 : Int) ≤ (n : Int) := by omega
 have hYne : Y ≠ 0 := by omega
 go_enter Tryz.func87, Tryz.ntmps87
 go_wp2_with fail
 first | (go_quiet (fail); go_wp2_with fail) | skip
 go_ret
 exact ⟨rfl, rfl⟩
theorem dvd_less {x a b : Nat} (hab : a ≤ b) (h : x % 10 ^ b = 0) : x % 10 ^ a = 0 :=
 Nat.mod_eq_zero_of_dvd (Nat.dvd_trans (Nat.pow_dvd_pow 10 hab) (Nat.dvd_of_mod_eq_zero h))
theorem IsZero_any (neg : Bool) (c : Int) (s : Nat) (w : World) :
  Calls Tryz.prog 55 #[.agg #[.bool neg, .int .i8 s, .int .u64 c]] w (fun e w' => e = .returned (.bool (c == 0)) ∧ Chg (fun _ => False) w w') := by
 obtain ⟨b, hb⟩ : ∃ b, (c == 0) = b := ⟨_, rfl⟩
 rw [hb]
 go_enter Tryz.func55, Tryz.ntmps55
 go_wp2_with fail
 go_ret
 exact ⟨rfl, (Chg.refl _ _).alloc _⟩
theorem rsh_any (c : Nat) (n : Nat) (hc : c < 10 ^ 19) (hn1 : 1 ≤ n) (hn : n ≤ 19) (w : World) (ht : Tab w) :
  Calls Tryz.prog 87 #[.int .u64 (c : Int), .int .i64 n] w (fun e w' => e = .returned (.int .u64 ((c / 10 ^ n : Nat) : Int)) ∧ w = w') := by
 by_cases h : c = 0
 ·subst h
  rw [Nat.zero_div]
  have hb0 : (((0 : Nat) : Int) == 0) = true := rfl
  go_enter Tryz.func87, Tryz.ntmps87
  go_wp2_with fail
  go_ret
  exact ⟨rfl, rfl⟩
 ·have hcast : (c : Int) / 10 ^ n = ((c / 10 ^ n : Nat) : Int) := by rw [← pow_cast, Int.natCast_ediv]
  have := fint_rshDown (c : Int) n (fiN hc) (by omega) hn1 hn w ht
  rw [hcast] at this
  exact this
set_option maxHeartbeats 1000000 in
theorem Trunc_less (nb : Bool) (c s t : Nat) (hc : c < 10 ^ 19) (hs : s ≤ 19) (ht : t < s) (hnb : (nb && ((c / 10 ^ (s - t) : Nat) : Int) != 0) = nb) (w : World) (he : EnvD w) :
  Calls Tryz.prog 71 #[.agg #[.bool nb, .int .i8 s, .int .u64 (c : Int)], .int .i64 t] w (fun e w' => e = .returned (.agg #[.bool nb, .int .i8 t, .int .u64 ((c / 10 ^ (s - t) : Nat) : Int)]) ∧ Chg (fun _ => False) w w') := by
 have HS := hid (fun w => Scale_any nb (c : Int) s hs w)
 have HN := hid (fun w => IsNeg_any nb (c : Int) s w)
 have HR := hid (fun w ht1 => rsh_any c (s - t) hc (by omega) (by omega) w ht1)
 have hq : c / 10 ^ (s - t) < 10 ^ 19 := Nat.lt_of_le_of_lt (Nat.div_le_self _ _) hc
 have HU := hid (fun w => newUnsafe_flat nb nb ((c / 10 ^ (s - t) : Nat) : Int) t (fiN hq) (by omega) hnb w)
 have hw : IntKind.i64.wrap ((s : Int) - (t : Int)) = ((s - t : Nat) : Int) := by rw [show (s : Int) - (t : Int) = ((s - t : Nat) : Int) by omega]; exact IntWalk.i64_in _ (by omega)
 have hmx : max (t : Int) 0 = (t : Int) := by omega
 have c1 : ¬ (s : Int) ≤ (t : Int) := by omega
 obtain ⟨Q, hQ⟩ : ∃ Q : Int, ((c / 10 ^ (s - t) : Nat) : Int) = Q := ⟨_, rfl⟩
 rw [hQ] at HR HU ⊢
 generalize s - t = j at *
 obtain ⟨HC0, HD, hB0, hB1⟩ := box2 w #[.bool nb, .int .i8 s, .int .u64 (c : Int)] 54 #[.bool false, .int .i8 0, .int .u64 0] 54
 have HBX := hid (fun w1 h => kept_heap (w' := w1) h hB1)
 have HB := hid (fun w1 h => And.intro (cell3 (kept_heap (w' := w1) h hB0)) (cell3 (kept_heap (w' := w1) h hB1)))
 have HE := hid he
 have hk := Chg.refl (fun _ => False) ((w.alloc (.cells #[.bool nb, .int .i8 s, .int .u64 (c : Int)] 54)).alloc (.cells #[.bool false, .int .i8 0, .int .u64 0] 54))
 clear hB0 hB1 HD he hc hs ht hq hQ hnb
 obtain ⟨⟨d0, d1, d2, _, _, _⟩, ⟨r0, r1, r2, q0, q1, q2⟩⟩ := HB.out _ hk
 go_enter Tryz.func71, Tryz.ntmps71
 go_wp2_with (first | (go_at_call 48; refine (HS.out _).mono ?_; intro e w1 h; obtain ⟨he1, hc1⟩ := h; subst he1; replace hk := hk.trans hc1 sb_; clear hc1 d0 d1 d2 r0 r1 r2 q0 q1 q2; obtain ⟨⟨d0, d1, d2, _, _, _⟩, ⟨r0, r1, r2, q0, q1, q2⟩⟩ := HB.out _ hk) | (go_at_call 46; refine (HN.out _).mono ?_; intro e w1 h; obtain ⟨he1, hc1⟩ := h; subst he1; replace hk := hk.trans hc1 sb_; clear hc1 d0 d1 d2 r0 r1 r2 q0 q1 q2; obtain ⟨⟨d0, d1, d2, _, _, _⟩, ⟨r0, r1, r2, q0, q1, q2⟩⟩ := HB.out _ hk) | (go_at_call 87; refine (HR.out _ (HE.out.kept (HC0.out.trans hk sb_)).env.tab).mono ?_; intro e w2 h; obtain ⟨he1, he2⟩ := h; subst he1; subst he2) | (go_at_call 69; refine (HU.out _).mono ?_; intro e w1 h; obtain ⟨he1, hc1⟩ := h; subst he1; replace hk := hk.trans hc1 sb_; clear hc1 d0 d1 d2 r0 r1 r2 q0 q1 q2; obtain ⟨⟨d0, d1, d2, _, _, _⟩, ⟨r0, r1, r2, q0, q1, q2⟩⟩ := HB.out _ hk))
 exact bodyPost_ret (v := .agg #[.bool nb, .int .i8 t, .int .u64 Q]) (by rw [results_cell_row rfl _ _ (w.heap.size + 1) _ _ _ _ rfl (store3 (HBX.out _ hk) _ _ _) Tryz.underlying54 rfl dec_size]) rfl ⟨rfl, chg3 (HC0.out.trans hk sb_) (by omega) _ _ _⟩
set_option maxHeartbeats 1000000 in
theorem Trunc_same (nb : Bool) (c : Int) (s : Nat) (hs : s ≤ 19) (w : World) :
  Calls Tryz.prog 71 #[.agg #[.bool nb, .int .i8 s, .int .u64 c], .int .i64 s] w (fun e w' => e = .returned (.agg #[.bool nb, .int .i8 s, .int .u64 c]) ∧ Chg (fun _ => False) w w') := by
 have HS := hid (fun w => Scale_any nb c s hs w)
 have hmx : max (s : Int) 0 = (s : Int) := by omega
 have c1 : (s : Int) ≤ (s : Int) := by omega
 obtain ⟨HC0, HD, hB0, hB1⟩ := box2 w #[.bool nb, .int .i8 s, .int .u64 c] 54 #[.bool false, .int .i8 0, .int .u64 0] 54
 have HBX := hid (fun w1 h => kept_heap (w' := w1) h hB1)
 have HB := hid (fun w1 h => And.intro (cell3 (kept_heap (w' := w1) h hB0)) (cell3 (kept_heap (w' := w1) h hB1)))
 have hk := Chg.refl (fun _ => False) ((w.alloc (.cells #[.bool nb, .int .i8 s, .int .u64 c] 54)).alloc (.cells #[.bool false, .int .i8 0, .int .u64 0] 54))
 clear hB0 hB1 HD hs
 obtain ⟨⟨d0, d1, d2, _, _, _⟩, ⟨r0, r1, r2, q0, q1, q2⟩⟩ := HB.out _ hk
 go_enter Tryz.func71, Tryz.ntmps71
 go_wp2_with (go_at_call 48; refine (HS.out _).mono ?_; intro e w1 h; obtain ⟨he1, hc1⟩ := h; subst he1; replace hk := hk.trans hc1 sb_; clear hc1 d0 d1 d2 r0 r1 r2 q0 q1 q2; obtain ⟨⟨d0, d1, d2, _, _, _⟩, ⟨r0, r1, r2, q0, q1, q2⟩⟩ := HB.out _ hk)
 exact bodyPost_ret (v := .agg #[.bool nb, .int .i8 s, .int .u64 c]) (by rw [results_cell_row rfl _ _ (w.heap.size + 1) _ _ _ _ rfl (store3 (HBX.out _ hk) _ _ _) Tryz.underlying54 rfl dec_size]) rfl ⟨rfl, chg3 (HC0.out.trans hk sb_) (by omega) _ _ _⟩
set_option maxHeartbeats 1000000 in
theorem fint_ntz' (x : Int) (hx : Fi x) (w : World) (ht : Tab w) :
  Calls Tryz.prog 86 #[.int .u64 x] w (fun e w' => ∃ z : Nat, e = .returned (.int .i64 z) ∧ z ≤ 18 ∧ x % 10 ^ z = 0 ∧ (x ≠ 0 → x % 10 ^ (z + 1) ≠ 0) ∧ w = w') := by
 have hD : digs x.toNat ≤ 19 := digs_le.2 (by have h1 := hx.2; have h0 := hx.1; have e : (10 : Nat) ^ 19 = 10000000000000000000 := (by decide); omega)
 have HP := hid (fint_prec x hx w ht)
 obtain ⟨hx0, hx1⟩ := hx
 have hR0 : x ≠ 0 → x % 10 ^ (digs x.toNat) ≠ 0 := fun h => by rw [Int.emod_eq_of_lt hx0 ((pow_lt_digs hx0).2 (Nat.le_refl _))]; exact h
 generalize digs x.toNat = D at *
 have HT := hid ht
 have HR0 := hid hR0
 clear hR0
 have h10 : x % 10 ^ 0 = 0 := by rw [Int.pow_zero]; exact Int.emod_one x
 clear ht
 go_enter Tryz.func86, Tryz.ntmps86
 go_wp2_with (go_at_call 102; refine HP.out.mono ?_; intro e w' h; obtain ⟨he1, he2⟩ := h; subst he1; subst he2)
 go_loopw [3, 4] (fun l r wr => ∃ z R : Nat, l = .int .i64 ((z : Int) + 1) ∧ r = .int .i64 R ∧ z ≤ 18 ∧ R ≤ 19 ∧ x % 10 ^ z = 0 ∧ Hid (x ≠ 0 → x % 10 ^ R ≠ 0) ∧ w = wr) (fun l r _ => (intOf r - intOf l).toNat)
 case atStart => exact ⟨0, D, rfl, rfl, by omega, by omega, h10, HR0, rfl⟩
 case round =>
  obtain ⟨z, R, rfl, rfl, h1, h2, h3, HRR, rfl⟩ := hrel
  by_cases hlr : z + 1 < R
  ·have hlt : (z : Int) + 1 < (R : Int) := by omega
   have hsum : IntKind.i64.wrap ((z : Int) + 1 + (R : Int)) = (z : Int) + 1 + (R : Int) := IntWalk.i64_in _ (by omega)
   obtain ⟨M, hM⟩ : ∃ M : Nat, M = (z + 1 + R) / 2 := ⟨_, rfl⟩
   have hquo : ((z : Int) + 1 + (R : Int)) / 2 = (M : Int) := by omega
   have hM1 : z + 1 ≤ M := by omega
   have hM2 : M < R := by omega
   clear hM
   have hcell := HT.out M (by omega)
   have hp := p10_pos M
   have hwp := p10_wd (k := M) (by omega)
   have hm0 : (0 : Int) ≤ (M : Int) := by omega
   have hm20 : (M : Int) < 20 := by omega
   obtain ⟨T, hT⟩ : ∃ T, (10 : Int) ^ M = T := ⟨_, rfl⟩
   rw [hT] at hcell hp hwp
   have hTne : T ≠ 0 := by omega
   by_cases hc : x % T = 0
   ·have hd : (x % T == 0) = true := by rw [hc]; rfl
    have hinc : IntKind.i64.wrap ((M : Int) + 1) = (M : Int) + 1 := IntWalk.i64_in _ (by omega)
    rw [← hT] at hc
    have HC := hid hc
    clear hc hT h3
    go_wp2_with fail
    go_roundw
    case rel => exact ⟨M, R, (by first | rfl | rw [hquo]), rfl, by omega, h2, HC.out, HRR, (by first | rfl | trivial)⟩
    case measure => simp [intOf]; omega
   ·have hd : (x % T == 0) = false := beq_eq_false_iff_ne.2 hc
    have HC := hid h3
    have HRM : Hid (x ≠ 0 → x % 10 ^ M ≠ 0) := hid (fun _ => by rw [hT]; exact hc)
    clear hT h3
    go_wp2_with fail
    go_roundw
    case rel => exact ⟨z, M, rfl, (by first | rfl | rw [hquo]), h1, by omega, HC.out, HRM, (by first | rfl | trivial)⟩
    case measure => simp [intOf]; omega
  ·have hge : ¬ (z : Int) + 1 < (R : Int) := by omega
   have hsub : IntKind.i64.wrap ((z : Int) + 1 - 1) = (z : Int) := by rw [show (z : Int) + 1 - 1 = (z : Int) by omega]; exact IntWalk.i64_in _ (by omega)
   have HC := hid h3
   have HZ1 : Hid (x ≠ 0 → x % 10 ^ (z + 1) ≠ 0) := hid (fun h0 h => HRR.out h0 (Int.emod_eq_zero_of_dvd (Int.dvd_trans (⟨(10 : Int) ^ (z + 1 - R), by rw [← Int.pow_add, show R + (z + 1 - R) = z + 1 by omega]⟩ : (10 : Int) ^ R ∣ 10 ^ (z + 1)) (Int.dvd_of_emod_eq_zero h))))
   clear h3
   go_wp2_with fail
   go_ret
   exact ⟨z, rfl, h1, HC.out, HZ1.out, rfl⟩
theorem last_digit {c z : Nat} (h1 : c % 10 ^ z = 0) (h2 : c % 10 ^ (z + 1) ≠ 0) : c / 10 ^ z % 10 ≠ 0 := fun h => h2 (by
 have e1 := Nat.div_mul_cancel (Nat.dvd_of_mod_eq_zero h1)
 have e2 := Nat.div_mul_cancel (Nat.dvd_of_mod_eq_zero h)
 refine Nat.mod_eq_zero_of_dvd ⟨c / 10 ^ z / 10, ?_⟩
 rw [Nat.pow_succ, Nat.mul_assoc, Nat.mul_comm 10, e2, Nat.mul_comm]
 exact e1.symm)
set_option maxHeartbeats 1000000 in
theorem MinScale_ex (neg : Bool) (c s : Nat) (hc : c < 10 ^ 19) (hs : s ≤ 19) (w : World) (he : EnvD w) :
  Calls Tryz.prog 70 #[.agg #[.bool neg, .int .i8 s, .int .u64 (c : Int)]] w (fun e w' => ∃ r : Nat, e = .returned (.int .i64 r) ∧ r ≤ s ∧ c % 10 ^ (s - r) = 0 ∧ (c ≠ 0 → r = 0 ∨ c / 10 ^ (s - r) % 10 ≠ 0) ∧ Chg (fun _ => False) w w') := by
 have HZ := hid (fun w => IsZero_any neg (c : Int) s w)
 have HS := hid (fun w => Scale_any neg (c : Int) s hs w)
 have HN := hid (fun w ht => fint_ntz' (c : Int) (fiN hc) w ht)
 obtain ⟨HC0, HD, hB0⟩ := box1 w #[.bool neg, .int .i8 s, .int .u64 (c : Int)] 54
 have HB := hid (fun w1 (h : Chg (fun _ => False) (w.alloc (.cells #[.bool neg, .int .i8 s, .int .u64 (c : Int)] 54)) w1) => cell3 (kept_heap h hB0))
 have HE := hid he
 have hk := Chg.refl (fun _ => False) (w.alloc (.cells #[.bool neg, .int .i8 s, .int .u64 (c : Int)] 54))
 clear hB0 HD he
 obtain ⟨d0, d1, d2, f0, f1, f2⟩ := HB.out _ hk
 by_cases h0 : c = 0
 ·have hb : ((c : Int) == 0) = true := by rw [h0]; rfl
  have H0 := hid h0
  clear hc hs h0
  go_enter Tryz.func70, Tryz.ntmps70
  go_wp2_with (go_at_call 55; refine (HZ.out _).mono ?_; intro e w1 h; obtain ⟨he1, hc1⟩ := h; subst he1; replace hk := hk.trans hc1 sb_; clear hc1 d0 d1 d2 f0 f1 f2; obtain ⟨d0, d1, d2, f0, f1, f2⟩ := HB.out _ hk)
  go_ret
  exact ⟨0, rfl, by omega, by rw [H0.out, Nat.zero_mod], fun h => absurd H0.out h, HC0.out.trans hk sb_⟩
 ·have hb : ((c : Int) == 0) = false := beq_eq_false_iff_ne.2 (by omega)
  have HS19 := hid hs
  clear hc hs h0
  go_enter Tryz.func70, Tryz.ntmps70
  go_wp2_with (first | (go_at_call 55; refine (HZ.out _).mono ?_; intro e w1 h; obtain ⟨he1, hc1⟩ := h; subst he1; replace hk := hk.trans hc1 sb_; clear hc1 d0 d1 d2 f0 f1 f2; obtain ⟨d0, d1, d2, f0, f1, f2⟩ := HB.out _ hk) | (go_at_call 48; refine (HS.out _).mono ?_; intro e w1 h; obtain ⟨he1, hc1⟩ := h; subst he1; replace hk := hk.trans hc1 sb_; clear hc1 d0 d1 d2 f0 f1 f2; obtain ⟨d0, d1, d2, f0, f1, f2⟩ := HB.out _ hk))
  go_at_call 86
  refine (HN.out _ (HE.out.kept (HC0.out.trans hk sb_)).env.tab).mono ?_
  intro e w2 h
  obtain ⟨z, he1, hz1, hz2, hz4, he2⟩ := h
  subst he1
  subst he2
  have hz3 : c % 10 ^ z = 0 := by rw [← pow_cast] at hz2; exact_mod_cast hz2
  have HR : Hid (s - z ≤ s ∧ c % 10 ^ (s - (s - z)) = 0 ∧ (c ≠ 0 → s - z = 0 ∨ c / 10 ^ (s - (s - z)) % 10 ≠ 0)) := ⟨by omega, dvd_less (by omega) hz3, fun h0 => by
   by_cases hs : s - z = 0
   ·exact .inl hs
   ·right
    rw [show s - (s - z) = z by omega]
    refine last_digit hz3 (fun h => hz4 (by omega) ?_)
    rw [← pow_cast]
    exact_mod_cast h⟩
  obtain ⟨D, hD⟩ : ∃ D : Int, (s : Int) - (z : Int) = D := ⟨_, rfl⟩
  have hs19 := HS19.out
  have hw : IntKind.i64.wrap ((s : Int) - (z : Int)) = D := by rw [hD]; exact IntWalk.i64_in _ (by omega)
  have hmx : max (0 : Int) D = ((s - z : Nat) : Int) := by omega
  generalize s - z = r at *
  clear hz1 hz2 hz3 hz4 hD hs19 HS19
  go_wp2_with fail
  go_ret
  exact ⟨r, rfl, HR.out.1, HR.out.2.1, HR.out.2.2, HC0.out.trans hk sb_⟩
def PTrim0 (nb : Bool) (c s : Nat) (w : World) (e : Ending) (w' : World) : Prop :=
 ∃ c' t : Nat, e = .returned (.agg #[.bool nb, .int .i8 (t : Int), .int .u64 (c' : Int)]) ∧ t ≤ s ∧ (c ≠ 0 → t = 0 ∨ c' % 10 ≠ 0) ∧ c = c' * 10 ^ (s - t) ∧ Chg (fun _ => False) w w'
set_option maxHeartbeats 2000000 in
theorem Trim_zero (nb : Bool) (c s p : Nat) (hp0 : p = 0) (hc : c < 10 ^ 19) (hs : s ≤ 19) (hnb : (nb && (c : Int) != 0) = nb) (w : World) (he : EnvD w) :
  Calls Tryz.prog 58 #[.agg #[.bool nb, .int .i8 s, .int .u64 (c : Int)], .int .i64 p] w (PTrim0 nb c s w) := by
 have HP0 := hid hp0
 clear hp0
 have HS := hid (fun w => Scale_any nb (c : Int) s hs w)
 have HM := hid (fun w he => MinScale_ex nb c s hc hs w he)
 have HTS := hid (fun w => Trunc_same nb (c : Int) s hs w)
 have HTL := hid (fun w he t (ht : t < s) h => Trunc_less nb c s t hc hs ht h w he)
 obtain ⟨HC0, HD, hB0, hB1⟩ := box2 w #[.bool nb, .int .i8 s, .int .u64 (c : Int)] 54 #[.bool false, .int .i8 0, .int .u64 0] 54
 have HBX := hid (fun w1 h => kept_heap (w' := w1) h hB1)
 have HB := hid (fun w1 h => And.intro (cell3 (kept_heap (w' := w1) h hB0)) (cell3 (kept_heap (w' := w1) h hB1)))
 have HE := hid he
 have HNB := hid hnb
 have hk := Chg.refl (fun _ => False) ((w.alloc (.cells #[.bool nb, .int .i8 s, .int .u64 (c : Int)] 54)).alloc (.cells #[.bool false, .int .i8 0, .int .u64 0] 54))
 clear hB0 hB1 HD he hnb hc hs
 obtain ⟨⟨d0, d1, d2, _, _, _⟩, ⟨r0, r1, r2, q0, q1, q2⟩⟩ := HB.out _ hk
 by_cases hsp : s ≤ p
 ·have c1 : (s : Int) ≤ (p : Int) := by omega
  have HP := hid hsp
  clear hsp
  go_enter Tryz.func58, Tryz.ntmps58
  go_wp2_with (go_at_call 48; refine (HS.out _).mono ?_; intro e w1 h; obtain ⟨he1, hc1⟩ := h; subst he1; replace hk := hk.trans hc1 sb_; clear hc1 d0 d1 d2 r0 r1 r2 q0 q1 q2; obtain ⟨⟨d0, d1, d2, _, _, _⟩, ⟨r0, r1, r2, q0, q1, q2⟩⟩ := HB.out _ hk)
  exact bodyPost_ret (v := .agg #[.bool nb, .int .i8 s, .int .u64 (c : Int)]) (by rw [results_cell_row rfl _ _ (w.heap.size + 1) _ _ _ _ rfl (store3 (HBX.out _ hk) _ _ _) Tryz.underlying54 rfl dec_size]) rfl ⟨c, s, rfl, by omega, fun _ => .inl (by have := HP.out; have := HP0.out; omega), by rw [Nat.sub_self, Nat.pow_zero, Nat.mul_one], chg3 (HC0.out.trans hk sb_) (by omega) _ _ _⟩
 ·have c1 : ¬ (s : Int) ≤ (p : Int) := by omega
  have HP := hid hsp
  clear hsp
  go_enter Tryz.func58, Tryz.ntmps58
  go_wp2_with (go_at_call 48; refine (HS.out _).mono ?_; intro e w1 h; obtain ⟨he1, hc1⟩ := h; subst he1; replace hk := hk.trans hc1 sb_; clear hc1 d0 d1 d2 r0 r1 r2 q0 q1 q2; obtain ⟨⟨d0, d1, d2, _, _, _⟩, ⟨r0, r1, r2, q0, q1, q2⟩⟩ := HB.out _ hk)
  go_at_call 70
  refine (HM.out _ (HE.out.kept (HC0.out.trans hk sb_))).mono ?_
  intro e w2 h
  obtain ⟨r, he1, hr1, hr2, hr3, hc1⟩ := h
  subst he1
  replace hk := hk.trans hc1 sb_
  clear hc1 d0 d1 d2 r0 r1 r2 q0 q1 q2
  obtain ⟨⟨d0, d1, d2, _, _, _⟩, ⟨r0, r1, r2, q0, q1, q2⟩⟩ := HB.out _ hk
  have hps := HP.out
  obtain ⟨t, hmx⟩ : ∃ t : Nat, max (p : Int) (r : Int) = (t : Int) := ⟨max p r, by omega⟩
  have hrt : r = t := by have := HP0.out; omega
  have HL : Hid (c ≠ 0 → t = 0 ∨ c / 10 ^ (s - t) % 10 ≠ 0) := hid (by rw [← hrt]; exact hr3)
  clear hr3 hrt
  have ht1 : t ≤ s := by omega
  have ht2 : p ≤ t := by omega
  have ht3 : c % 10 ^ (s - t) = 0 := dvd_less (by omega) hr2
  have HT3 := hid ht3
  by_cases hts : t = s
  ·subst hts
   have HT2 := hid ht2
   have HL := hid (show c ≠ 0 → t = 0 ∨ c % 10 ≠ 0 from fun h => by have := HL.out h; rw [Nat.sub_self, Nat.pow_zero, Nat.div_one] at this; exact this)
   clear ht1 ht2 ht3 hr1 hr2 hps c1
   go_wp2_with (go_at_call 71; refine (HTS.out _).mono ?_; intro e w1 h; obtain ⟨he1, hc1⟩ := h; subst he1; replace hk := hk.trans hc1 sb_; clear hc1 d0 d1 d2 r0 r1 r2 q0 q1 q2; obtain ⟨⟨d0, d1, d2, _, _, _⟩, ⟨r0, r1, r2, q0, q1, q2⟩⟩ := HB.out _ hk)
   exact bodyPost_ret (v := .agg #[.bool nb, .int .i8 t, .int .u64 (c : Int)]) (by rw [results_cell_row rfl _ _ (w.heap.size + 1) _ _ _ _ rfl (store3 (HBX.out _ hk) _ _ _) Tryz.underlying54 rfl dec_size]) rfl ⟨c, t, rfl, by omega, HL.out, by rw [Nat.sub_self, Nat.pow_zero, Nat.mul_one], chg3 (HC0.out.trans hk sb_) (by omega) _ _ _⟩
  ·have hdiv : c / 10 ^ (s - t) * 10 ^ (s - t) = c := Nat.div_mul_cancel (Nat.dvd_of_mod_eq_zero ht3)
   have hnz : (nb && ((c / 10 ^ (s - t) : Nat) : Int) != 0) = nb := by
    have h1 := HNB.out
    cases nb with
    | false => rfl
    | true =>
     rw [Bool.true_and] at h1 ⊢
     have h2 : (c : Int) ≠ 0 := bne_iff_ne.1 h1
     refine bne_iff_ne.2 (fun h3 => h2 ?_)
     have h4 : c / 10 ^ (s - t) = 0 := by omega
     rw [h4, Nat.zero_mul] at hdiv
     omega
   have HTR := hid (fun w he => HTL.out w he t (by omega) hnz)
   have HF : Hid (t ≤ s ∧ p ≤ t ∧ c = c / 10 ^ (s - t) * 10 ^ (s - t)) := ⟨ht1, ht2, hdiv.symm⟩
   generalize c / 10 ^ (s - t) = Q at *
   clear ht1 ht2 ht3 hr1 hr2 hps c1 hdiv hnz hts
   go_wp2_with (go_at_call 71; refine (HTR.out _ (HE.out.kept (HC0.out.trans hk sb_))).mono ?_; intro e w1 h; obtain ⟨he1, hc1⟩ := h; subst he1; replace hk := hk.trans hc1 sb_; clear hc1 d0 d1 d2 r0 r1 r2 q0 q1 q2; obtain ⟨⟨d0, d1, d2, _, _, _⟩, ⟨r0, r1, r2, q0, q1, q2⟩⟩ := HB.out _ hk)
   exact bodyPost_ret (v := .agg #[.bool nb, .int .i8 t, .int .u64 ((Q : Nat) : Int)]) (by rw [results_cell_row rfl _ _ (w.heap.size + 1) _ _ _ _ rfl (store3 (HBX.out _ hk) _ _ _) Tryz.underlying54 rfl dec_size]) rfl ⟨Q, t, rfl, HF.out.1, HL.out, HF.out.2.2, chg3 (HC0.out.trans hk sb_) (by omega) _ _ _⟩
def sgnI (neg : Bool) (c : Int) : Int := if neg = true then -1 else if c = 0 then 0 else 1
theorem Sign_any (neg : Bool) (c s : Int) (w : World) : Calls Tryz.prog 56 #[.agg #[.bool neg, .int .i8 s, .int .u64 c]] w (PV w (.int .i64 (sgnI neg c))) := by
 obtain ⟨HC0, HD, hB0⟩ := box1 w #[.bool neg, .int .i8 s, .int .u64 c] 54
 obtain ⟨d0, d1, d2, _, _, _⟩ := cell3 hB0
 clear hB0 HD
 cases neg with
 | true =>
  go_enter Tryz.func56, Tryz.ntmps56
  go_wp2_with fail
  go_ret
  exact ⟨rfl, HC0.out⟩
 | false =>
  by_cases h0 : c = 0
  ·subst h0
   have hb : ((0 : Int) == 0) = true := rfl
   go_enter Tryz.func56, Tryz.ntmps56
   go_wp2_with fail
   go_ret
   exact ⟨rfl, HC0.out⟩
  ·have hb : (c == 0) = false := beq_eq_false_iff_ne.2 h0
   have e : sgnI false c = 1 := by unfold sgnI; rw [if_neg (by simp), if_neg h0]
   rw [e]
   clear h0 e
   go_enter Tryz.func56, Tryz.ntmps56
   go_wp2_with fail
   go_ret
   exact ⟨rfl, HC0.out⟩
set_option maxHeartbeats 1000000 in
theorem WithinOne_any (neg : Bool) (c : Int) (s : Nat) (hs : s ≤ 19) (w : World) (he : EnvD w) : Calls Tryz.prog 57 #[.agg #[.bool neg, .int .i8 s, .int .u64 c]] w (PV w (.bool (decide (c < 10 ^ s)))) := by
 have HS := hid (fun w => Scale_any neg c s hs w)
 obtain ⟨HC0, HD, hB0⟩ := box1 w #[.bool neg, .int .i8 s, .int .u64 c] 54
 have HB := hid (fun w1 (h : Chg (fun _ => False) (w.alloc (.cells #[.bool neg, .int .i8 s, .int .u64 c] 54)) w1) => cell3 (kept_heap h hB0))
 have HT := hid (fun w1 (h : Chg (fun _ => False) (w.alloc (.cells #[.bool neg, .int .i8 s, .int .u64 c] 54)) w1) => (he.kept (HC0.out.trans h sb_)).env.tab s (by omega))
 have hk := Chg.refl (fun _ => False) (w.alloc (.cells #[.bool neg, .int .i8 s, .int .u64 c] 54))
 have hs0 : (0 : Int) ≤ (s : Int) := by omega
 have hs20 : (s : Int) < 20 := by omega
 obtain ⟨T, hT⟩ : ∃ T : Int, (10 : Int) ^ s = T := ⟨_, rfl⟩
 rw [hT] at HT ⊢
 obtain ⟨b, hb⟩ : ∃ b, decide (c < T) = b := ⟨_, rfl⟩
 have HBB := hid hb
 clear hB0 HD he hs hT hb
 obtain ⟨d0, d1, d2, _, _, _⟩ := HB.out _ hk
 have hcell := HT.out _ hk
 go_enter Tryz.func57, Tryz.ntmps57
 go_wp2_with fail
 have HSS := hid (fun w1 (h : Chg (fun _ => False) (w.alloc (.cells #[.bool neg, .int .i8 s, .int .u64 c] 54)) w1) => And.intro (HB.out w1 h).1 (And.intro (HB.out w1 h).2.1 (And.intro (HB.out w1 h).2.2.1 (HT.out w1 h))))
 have hk := hk.drew
 clear d0 d1 d2 hcell
 first | (go_region_held3 (fun w' => w'.cell? ⟨w.heap.size, 0, none⟩ = some (.bool neg) ∧ w'.cell? ⟨w.heap.size, 1, none⟩ = some (.int .i8 s) ∧ w'.cell? ⟨w.heap.size, 2, none⟩ = some (.int .u64 c) ∧ w'.cell? ⟨0, s, none⟩ = some (.int .u64 T)) (first | with_reducible exact HSS.out _ hk) (first | (go_at_call 48; refine (HS.out _).mono ?_; intro e w1 h; obtain ⟨he1, hc1⟩ := h; subst he1; replace hk := hk.trans hc1 sb_; clear hc1))) | fail
 all_goals (go_wp2_with fail; go_ret; exact ⟨rfl, HC0.out.trans hk sb_⟩)
theorem FracAbs_any (n1 : Bool) (A : Option Addr) (n c : Nat) (B : Option Addr) (m d : Nat) (w : World) :
  Calls Tryz.prog 14 #[.agg #[.bool n1, .slice A n c, .slice B m d]] w (PV w (.agg #[.bool false, .slice A n c, .slice B m d])) := by
 obtain ⟨HC0, HD, hB0, hB1⟩ := box2 w #[.bool n1, .slice A n c, .slice B m d] 34 #[.bool false, .slice none 0 0, .slice none 0 0] 34
 have HZ := hid hB1
 obtain ⟨d0, d1, d2, _, _, _⟩ := cell3 hB0
 obtain ⟨k0, k1, k2, f0, f1, f2⟩ := cell3 hB1
 clear hB0 hB1 HD
 go_enter Tryz.func14, Tryz.ntmps14
 go_wp2_with fail
 have HC1 := ((Chg.refl (fun _ => False) w).alloc (.cells #[.bool n1, .slice A n c, .slice B m d] 34)).alloc (.cells #[.bool false, .slice A n c, .slice B m d] 34)
 have hz := alloc_last (W := w.alloc (.cells #[.bool n1, .slice A n c, .slice B m d] 34)) (x := .cells #[.bool false, .slice A n c, .slice B m d] 34) (k := w.heap.size + 1) (by simp)
 refine bodyPost_ret (v := .agg #[.bool false, .slice A n c, .slice B m d]) (by rw [results_cell_row rfl _ _ (w.heap.size + 1) _ _ _ _ rfl hz Tryz.underlying34 rfl frac_size]) rfl ⟨rfl, HC1⟩
def cmpW (n1 : Bool) (a : Nat) (n2 : Bool) (b : Nat) : Int := if n1 = n2 then (if n1 = true then cmpN b a else cmpN a b) else if n1 = true then -1 else 1
set_option maxHeartbeats 2000000 in
theorem WholeCmp_ex {w : World} {A B : Option Addr} {n c m d a b : Nat} (n1 n2 : Bool) (ha : SN w A n c a) (hb : SN w B m d b) (ha1 : a < tn 1800) (hb1 : b < tn 1800) :
  Calls Tryz.prog 37 #[.agg #[.bool n1, .slice A n c], .agg #[.bool n2, .slice B m d]] w (PV w (.int .i64 (cmpW n1 a n2 b))) := by
 have HCM := hid (fun w1 (h : Chg (fun _ => False) w w1) => NatCmp_any (ha.kept h) (hb.kept h) ha1 hb1)
 have HCN := hid (fun w1 (h : Chg (fun _ => False) w w1) => NatCmp_any (hb.kept h) (ha.kept h) hb1 ha1)
 have HE1 : Hid (cmpW false a false b = cmpN a b) := hid rfl
 have HE2 : Hid (cmpW true a true b = cmpN b a) := hid rfl
 have HE3 : Hid (cmpW true a false b = -1) := hid rfl
 have HE4 : Hid (cmpW false a true b = 1) := hid rfl
 obtain ⟨F, hF⟩ : ∃ F : Bool → Bool → Int, ∀ x y, cmpW x a y b = F x y := ⟨fun x y => cmpW x a y b, fun _ _ => rfl⟩
 rw [hF] at HE1 HE2 HE3 HE4
 rw [hF]
 generalize cmpN a b = q1 at *
 generalize cmpN b a = q2 at *
 clear ha hb ha1 hb1 hF
 obtain ⟨HC0, HD, hB0, hB1⟩ := box2 w #[.bool n1, .slice A n c] 32 #[.bool n2, .slice B m d] 32
 have HSS := hid (fun (w1 : World) h => And.intro ((cell2 (kept_heap (w' := w1) h hB0)).1) (And.intro ((cell2 (kept_heap (w' := w1) h hB0)).2.1) (And.intro ((cell2 (kept_heap (w' := w1) h hB1)).1) ((cell2 (kept_heap (w' := w1) h hB1)).2.1))))
 clear hB0 hB1
 obtain ⟨d0, d1, d2, d3⟩ := HSS.out _ (Chg.refl _ _)
 cases n1 <;> cases n2
 ·rw [HE1.out]
  go_enter Tryz.func37, Tryz.ntmps37
  go_wp2_with (go_at_call 60; refine (HCM.out _ HC0.out).mono ?_; intro e w1 h; obtain ⟨he, hc⟩ := h; subst he)
  go_ret
  exact ⟨rfl, HC0.out.trans hc sb_⟩
 ·rw [HE4.out]
  go_enter Tryz.func37, Tryz.ntmps37
  go_wp2_with fail
  go_ret
  exact ⟨rfl, HC0.out⟩
 ·rw [HE3.out]
  go_enter Tryz.func37, Tryz.ntmps37
  go_wp2_with fail
  go_ret
  exact ⟨rfl, HC0.out⟩
 ·rw [HE2.out]
  go_enter Tryz.func37, Tryz.ntmps37
  go_wp2_with (go_at_call 60; refine (HCN.out _ HC0.out).mono ?_; intro e w1 h; obtain ⟨he, hc⟩ := h; subst he)
  go_ret
  exact ⟨rfl, HC0.out.trans hc sb_⟩
set_option maxHeartbeats 2000000 in
theorem FracCmp_ex {w : World} {A B D1 D2 : Option Addr} {n c m d p1 q1 p2 q2 a b x y : Nat} (n1 n2 : Bool) (ha : SN w A n c a) (hx : SN w D1 p1 q1 x) (hb : SN w B m d b) (hy : SN w D2 p2 q2 y)
  (ha1 : a < tn 850) (hb1 : b < tn 850) (hx1 : x < tn 850) (hy1 : y < tn 850) :
  Calls Tryz.prog 15 #[.agg #[.bool n1, .slice A n c, .slice D1 p1 q1], .agg #[.bool n2, .slice B m d, .slice D2 p2 q2]] w (PV w (.int .i64 (cmpW (n1 && a * y != 0) (a * y) (n2 && b * x != 0) (b * x)))) := by
 have HM1 := hid (fun w1 s (hs : (n1 && a * y != 0) = s) (h : Chg (fun _ => False) w w1) => WholeMul_any n1 false s (ha.kept h) (hy.kept h) (up240 ha1 (by omega)) (up240 hy1 (by omega)) (by rw [← hs]; cases n1 <;> rfl))
 have HM2 := hid (fun w1 s (hs : (n2 && b * x != 0) = s) (h : Chg (fun _ => False) w w1) => WholeMul_any n2 false s (hb.kept h) (hx.kept h) (up240 hb1 (by omega)) (up240 hx1 (by omega)) (by rw [← hs]; cases n2 <;> rfl))
 have hP : a * y < tn 1800 := up243 (mul_tn2 ha1 hy1) (by omega)
 have hQ : b * x < tn 1800 := up243 (mul_tn2 hb1 hx1) (by omega)
 obtain ⟨P, hPe⟩ : ∃ P, a * y = P := ⟨_, rfl⟩
 obtain ⟨Q, hQe⟩ : ∃ Q, b * x = Q := ⟨_, rfl⟩
 rw [hPe] at HM1 hP
 rw [hQe] at HM2 hQ
 rw [hPe, hQe]
 obtain ⟨s1, hs1⟩ : ∃ s, (n1 && P != 0) = s := ⟨_, rfl⟩
 obtain ⟨s2, hs2⟩ : ∃ s, (n2 && Q != 0) = s := ⟨_, rfl⟩
 rw [hs1, hs2]
 have HA := hid (fun (w1 : World) (E : Option Addr) (k l : Nat) (G : Option Addr) (i j : Nat) (h1 : SN w1 E k l P) (h2 : SN w1 G i j Q) => WholeCmp_ex s1 s2 h1 h2 hP hQ)
 have HS1 := hid hs1
 have HS2 := hid hs2
 generalize hpp : cmpW s1 P s2 Q = pp at *
 clear ha hb hx hy ha1 hb1 hx1 hy1 hs1 hs2 hP hQ hPe hQe hpp
 obtain ⟨HC0, HD, hB0, hB1⟩ := box2 w #[.bool n1, .slice A n c, .slice D1 p1 q1] 34 #[.bool n2, .slice B m d, .slice D2 p2 q2] 34
 have HSS := hid (fun (w1 : World) h => d3_ (cell3 (kept_heap (w' := w1) h hB0)) (c3_ (cell3 (kept_heap (w' := w1) h hB1))))
 clear hB0 hB1
 have hk := HD.out
 go_enter Tryz.func15, Tryz.ntmps15
 go_wp2_with fail
 first | (go_region_held3 (fun w' => w'.cell? ⟨w.heap.size, 0, none⟩ = some (.bool n1) ∧ w'.cell? ⟨w.heap.size, 1, none⟩ = some (.slice A n c) ∧ w'.cell? ⟨w.heap.size, 2, none⟩ = some (.slice D1 p1 q1) ∧ w'.cell? ⟨w.heap.size + 1, 0, none⟩ = some (.bool n2) ∧ w'.cell? ⟨w.heap.size + 1, 1, none⟩ = some (.slice B m d) ∧ w'.cell? ⟨w.heap.size + 1, 2, none⟩ = some (.slice D2 p2 q2)) (first | with_reducible exact HSS.out _ hk | go_keep) (first | (go_at_call_of 36 (Value.agg #[Value.bool n1, Value.slice A n c]); refine (HM1.out _ s1 HS1.out (HC0.out.trans hk sb_)).mono ?_; intro e w1 h; obtain ⟨E1, k1_, l1_, he, hsn, hc⟩ := h; subst he; replace hk := hk.trans hc sb_; (try replace HN1 := hid (HN1.out.kept hc)); (try replace HN2 := hid (HN2.out.kept hc)); have HN1 := hid hsn; clear hsn; clear hc) | (go_at_call_of 36 (Value.agg #[Value.bool n2, Value.slice B m d]); refine (HM2.out _ s2 HS2.out (HC0.out.trans hk sb_)).mono ?_; intro e w1 h; obtain ⟨E2, k2_, l2_, he, hsn, hc⟩ := h; subst he; replace hk := hk.trans hc sb_; (try replace HN1 := hid (HN1.out.kept hc)); (try replace HN2 := hid (HN2.out.kept hc)); have HN2 := hid hsn; clear hsn; clear hc) | (go_at_call 37; refine (HA.out _ _ _ _ _ _ _ HN1.out HN2.out).mono ?_; intro e w1 h; obtain ⟨he, hc⟩ := h; subst he; replace hk := hk.trans hc sb_; clear hc))) | fail
 all_goals (go_wp2_with fail; go_ret; exact ⟨rfl, HC0.out.trans hk sb_⟩)
set_option maxHeartbeats 4000000 in
theorem SameDec_true {w : World} {A B : Option Addr} {n c m d a b s p : Nat} (n1 n2 : Bool) (ha : SN w A n c a) (hb : SN w B m d b) (ha1 : a < tn 850) (hb1 : b < tn 850) (hs : s ≤ 200) (hp : p ≤ 200) (hn1 : (n1 && a != 0) = n1) (hn2 : (n2 && b != 0) = n2)
  (hcmp : (n1 && a * 10 ^ p != 0) = (n2 && b * 10 ^ s != 0) ∧ a * 10 ^ p = b * 10 ^ s) :
  Calls Tryz.prog 42 #[.agg #[.bool n1, .slice A n c, .int .i64 (-(s : Int))], .agg #[.bool n2, .slice B m d, .int .i64 (-(p : Int))]] w (PV w (.bool true)) := by
 have HF1 := hid (fun w1 (h : Chg (fun _ => False) w w1) => DecFrac_any n1 (-(s : Int)) s (ha.kept h) (up240 ha1 (by omega)) hs hn1 rfl)
 have HF2 := hid (fun w1 (h : Chg (fun _ => False) w w1) => DecFrac_any n2 (-(p : Int)) p (hb.kept h) (up240 hb1 (by omega)) hp hn2 rfl)
 have h1 : (10 : Nat) ^ s < tn 850 := pow_tn (by omega)
 have h2 : (10 : Nat) ^ p < tn 850 := pow_tn (by omega)
 have HCM := hid (fun (w1 : World) (E : Option Addr) (k l : Nat) (G : Option Addr) (i j : Nat) (E2 : Option Addr) (k2 l2 : Nat) (G2 : Option Addr) (i2 j2 : Nat) (q1 : SN w1 E k l a) (q2 : SN w1 G i j (10 ^ s)) (q3 : SN w1 E2 k2 l2 b) (q4 : SN w1 G2 i2 j2 (10 ^ p)) => FracCmp_any n1 n2 q1 q2 q3 q4 ha1 hb1 h1 h2)
 have HP := hid hcmp
 obtain ⟨e1, he1⟩ : ∃ e : Int, -(s : Int) = e := ⟨_, rfl⟩
 obtain ⟨e2, he2⟩ : ∃ e : Int, -(p : Int) = e := ⟨_, rfl⟩
 rw [he1] at HF1
 rw [he2] at HF2
 rw [he1, he2]
 clear hcmp ha hb ha1 hb1 hs hp hn1 hn2 h1 h2 he1 he2
 generalize 10 ^ s = S at *
 generalize 10 ^ p = T at *
 obtain ⟨HC0, HD, hB0, hB1⟩ := box2 w #[.bool n1, .slice A n c, .int .i64 e1] 42 #[.bool n2, .slice B m d, .int .i64 e2] 42
 have HSS := hid (fun (w1 : World) h => d3_ (cell3 (kept_heap (w' := w1) h hB0)) (c3_ (cell3 (kept_heap (w' := w1) h hB1))))
 clear hB0 hB1
 have hk := HD.out
 go_enter Tryz.func42, Tryz.ntmps42
 go_wp2_with fail
 first | (go_region_held3 (fun w' => w'.cell? ⟨w.heap.size, 0, none⟩ = some (.bool n1) ∧ w'.cell? ⟨w.heap.size, 1, none⟩ = some (.slice A n c) ∧ w'.cell? ⟨w.heap.size, 2, none⟩ = some (.int .i64 e1) ∧ w'.cell? ⟨w.heap.size + 1, 0, none⟩ = some (.bool n2) ∧ w'.cell? ⟨w.heap.size + 1, 1, none⟩ = some (.slice B m d) ∧ w'.cell? ⟨w.heap.size + 1, 2, none⟩ = some (.int .i64 e2)) (first | with_reducible exact HSS.out _ hk | go_keep) (first | (go_at_call_of 13 (Value.agg #[Value.bool n1, Value.slice A n c, Value.int .i64 e1]); refine (HF1.out _ (HC0.out.trans hk sb_)).mono ?_; intro e w1 h; obtain ⟨E1, k1_, l1_, G1, i1_, j1_, he, hs1, hs2, hc⟩ := h; subst he; replace hk := hk.trans hc sb_; (try replace HN1 := hid (HN1.out.kept hc)); (try replace HN2 := hid (HN2.out.kept hc)); (try replace HN3 := hid (HN3.out.kept hc)); (try replace HN4 := hid (HN4.out.kept hc)); have HN1 := hid hs1; have HN2 := hid hs2; clear hs1 hs2; clear hc) | (go_at_call_of 13 (Value.agg #[Value.bool n2, Value.slice B m d, Value.int .i64 e2]); refine (HF2.out _ (HC0.out.trans hk sb_)).mono ?_; intro e w1 h; obtain ⟨E2, k2_, l2_, G2, i2_, j2_, he, hs1, hs2, hc⟩ := h; subst he; replace hk := hk.trans hc sb_; (try replace HN1 := hid (HN1.out.kept hc)); (try replace HN2 := hid (HN2.out.kept hc)); (try replace HN3 := hid (HN3.out.kept hc)); (try replace HN4 := hid (HN4.out.kept hc)); have HN3 := hid hs1; have HN4 := hid hs2; clear hs1 hs2; clear hc) | (go_at_call 15; refine (HCM.out _ _ _ _ _ _ _ _ _ _ _ _ _ HN1.out HN2.out HN3.out HN4.out).mono ?_; intro e w1 h; obtain ⟨q, he, hq, hc⟩ := h; have hq0 := hq.2 HP.out; subst hq0; subst he; replace hk := hk.trans hc sb_; clear hc hq))) | fail
 all_goals (go_wp2_with fail; go_ret; exact ⟨rfl, HC0.out.trans hk sb_⟩)
set_option maxHeartbeats 4000000 in
theorem FixWorth_ok {w : World} {B : Option Addr} {m d a b s p : Nat} (n1 n2 : Bool) (ha : a < 10 ^ 19) (hs : s ≤ 19) (hn1 : (n1 && a != 0) = n1) (hb : SN w B m d b) (hb1 : b < tn 850) (hp : p ≤ 200) (hn2 : (n2 && b != 0) = n2)
  (hcmp : (n1 && a * 10 ^ p != 0) = (n2 && b * 10 ^ s != 0) ∧ a * 10 ^ p = b * 10 ^ s) :
  Calls Tryz.prog 18 #[.agg #[.bool n1, .int .u64 (a : Int), .int .i64 (s : Int)], .agg #[.bool n2, .slice B m d, .int .i64 (-(p : Int))]] w (PV w (.bool true)) := by
 have HOF := hid (fun w1 => OfFix_ok (w := w1) n1 n1 a s ha hs hn1)
 have HSD := hid (fun (w1 : World) (E : Option Addr) (k l : Nat) (h : SN w1 E k l a) (h2 : SN w1 B m d b) => SameDec_true n1 n2 h h2 (lt_tn ha (by omega)) hb1 (show s ≤ 200 by omega) hp hn1 hn2 hcmp)
 have hneg : n1 = false ∨ (n1 = true ∧ (0 : Int) < (a : Int)) := by
  cases n1 with
  | false => exact .inl rfl
  | true =>
   rw [Bool.true_and] at hn1
   have := bne_iff_ne.1 hn1
   exact .inr ⟨rfl, by omega⟩
 obtain ⟨v, hv⟩ : ∃ v : Int, (a : Int) = v := ⟨_, rfl⟩
 obtain ⟨s0, hs0⟩ : ∃ v : Int, (s : Int) = v := ⟨_, rfl⟩
 obtain ⟨e1, he1⟩ : ∃ v : Int, -s0 = v := ⟨_, rfl⟩
 obtain ⟨e2, he2⟩ : ∃ v : Int, -(p : Int) = v := ⟨_, rfl⟩
 rw [hv, hs0, he1] at HOF
 rw [hs0, he1, he2] at HSD
 rw [hv] at hneg
 rw [hv, hs0, he2]
 have HB := hid hb
 clear ha hs hn1 hb hb1 hp hn2 hcmp hv hs0 he1 he2
 obtain ⟨HC0, HD, hB0, hB1⟩ := box2 w #[.bool n1, .int .u64 v, .int .i64 s0] 24 #[.bool n2, .slice B m d, .int .i64 e2] 42
 have HSS := hid (fun (w1 : World) h => d3_ (cell3 (kept_heap (w' := w1) h hB0)) (c3_ (cell3 (kept_heap (w' := w1) h hB1))))
 clear hB0 hB1 HD
 have hk := Chg.refl (fun _ => False) ((w.alloc (.cells #[.bool n1, .int .u64 v, .int .i64 s0] 24)).alloc (.cells #[.bool n2, .slice B m d, .int .i64 e2] 42))
 obtain ⟨d0, d1, d2, w0, w1_, w2_⟩ := HSS.out _ hk
 rcases hneg with rfl | ⟨rfl, hpos⟩
 ·go_enter Tryz.func18, Tryz.ntmps18
  go_wp2_with (first | (go_at_call 41; refine (HOF.out _).mono ?_; intro e w3 h; obtain ⟨E1, k1_, l1_, he, hsn, hc⟩ := h; subst he; have HN := hid (hsn.kept ((Chg.refl (fun _ => False) w3).alloc (.cells #[.bool false, .slice E1 k1_ l1_, .int .i64 e1] 42))); have HG := hid (heap_alloc_new w3 (.cells #[.bool false, .slice E1 k1_ l1_, .int .i64 e1] 42)); replace hk := (hk.trans hc sb_).alloc (.cells #[.bool false, .slice E1 k1_ l1_, .int .i64 e1] 42); clear hsn hc d0 d1 d2 w0 w1_ w2_; obtain ⟨d0, d1, d2, w0, w1_, w2_⟩ := HSS.out _ hk; obtain ⟨g0, g1, g2, _, _, _⟩ := cell3 HG.out) | (go_at_call 42; refine (HSD.out _ _ _ _ HN.out (HB.out.kept (HC0.out.trans hk sb_))).mono ?_; intro e w4 h; obtain ⟨he, hc⟩ := h; subst he; replace hk := hk.trans hc sb_; clear hc d0 d1 d2 w0 w1_ w2_ g0 g1 g2; obtain ⟨d0, d1, d2, w0, w1_, w2_⟩ := HSS.out _ hk))
  go_ret
  exact ⟨rfl, HC0.out.trans hk sb_⟩
 ·go_enter Tryz.func18, Tryz.ntmps18
  go_wp2_with (first | (go_at_call 41; refine (HOF.out _).mono ?_; intro e w3 h; obtain ⟨E1, k1_, l1_, he, hsn, hc⟩ := h; subst he; have HN := hid (hsn.kept ((Chg.refl (fun _ => False) w3).alloc (.cells #[.bool true, .slice E1 k1_ l1_, .int .i64 e1] 42))); have HG := hid (heap_alloc_new w3 (.cells #[.bool true, .slice E1 k1_ l1_, .int .i64 e1] 42)); replace hk := (hk.trans hc sb_).alloc (.cells #[.bool true, .slice E1 k1_ l1_, .int .i64 e1] 42); clear hsn hc d0 d1 d2 w0 w1_ w2_; obtain ⟨d0, d1, d2, w0, w1_, w2_⟩ := HSS.out _ hk; obtain ⟨g0, g1, g2, _, _, _⟩ := cell3 HG.out) | (go_at_call 42; refine (HSD.out _ _ _ _ HN.out (HB.out.kept (HC0.out.trans hk sb_))).mono ?_; intro e w4 h; obtain ⟨he, hc⟩ := h; subst he; replace hk := hk.trans hc sb_; clear hc d0 d1 d2 w0 w1_ w2_ g0 g1 g2; obtain ⟨d0, d1, d2, w0, w1_, w2_⟩ := HSS.out _ hk))
  go_ret
  exact ⟨rfl, HC0.out.trans hk sb_⟩
end Go.Proofs.YthdkandofddohaaGreatDoor
namespace Go.Proofs.YthdkandofddohaaGreatDoor
set_option linter.unusedVariables false
theorem from19_places {E F : Nat} (hE : Pow19 E F) {c s R k t : Nat} (h : from19 E 2 c s 0 = some (k, t)) (hR : room E (rnd c s) 19 = some R) : t = min s R := by
 by_cases h1 : 19 + s < digs c + 0
 ·unfold from19 at h; rw [if_pos h1] at h; cases h
 ·obtain ⟨N, hN⟩ : ∃ N, N = min 19 (19 + s - digs c) := ⟨_, rfl⟩
  have hN1 : N ≤ 19 := by omega
  have hN2 : N + digs c ≤ 19 + s := by omega
  have hN2' : digs c + N ≤ 19 + s := by omega
  have hN3 : N = 19 ∨ N + digs c = 19 + s := by omega
  obtain ⟨r1, r2⟩ := room_val hE (c := c) (s := s) (by omega) hN
  clear hN
  have cut_ : step19 c s 0 = (rnd c s N, N) → N ≤ s → t = min s R := by
   intro hst hNs
   by_cases hlt : rnd c s N < E
   ·have hf : from19 E 2 c s 0 = some (rnd c s N, N) := by
     unfold from19; rw [if_neg h1, hst, if_neg (by show ¬ E ≤ rnd c s N; omega)]
    rw [hf] at h
    rw [r1 hlt] at hR
    cases h; cases hR
    omega
   ·obtain ⟨he, hr⟩ := r2 hlt
    have hf : from19 E 2 c s 0 = if N = 0 then none else some (F, N - 1) := by
     have h2 := from19_top hE (t := N) (m := 0) (f := 0) (by omega) (by omega)
     rw [← h2]
     conv => lhs; unfold from19
     rw [if_neg h1, hst, if_pos (by show E ≤ rnd c s N; omega)]
     show from19 E 1 (rnd c s N) N 0 = _
     rw [he]
    rw [hf] at h
    rcases hr with ⟨h0, hr⟩ | ⟨n, h0, hr, h18⟩
    ·rw [if_pos h0] at h; cases h
    ·rw [if_neg (by omega)] at h
     rw [hr] at hR
     cases h; cases hR
     omega
  clear r2
  by_cases b : digs c ≤ s ∧ 19 < s
  ·refine cut_ ?_ (by omega)
   have : N = 19 := by omega
   subst this
   unfold step19; rw [if_neg (by omega), if_pos b, rnd_cut (by omega)]
  ·by_cases d : s < digs c ∧ 19 < digs c
   ·refine cut_ ?_ (by omega)
    have e1 : N = 19 + s - digs c := by omega
    unfold step19; rw [if_neg (by omega), if_neg b, if_pos d, rnd_cut (by omega)]
    rw [show s - N = digs c - 19 by omega, e1]
   ·have hst : step19 c s 0 = (c, s) := by unfold step19; rw [if_neg (by omega), if_neg b, if_neg d]
    have hcE : c < E := by have := digs_le.1 (Nat.le_refl (digs c)); rw [← hE.p]; exact Nat.lt_of_lt_of_le this (pow_le' (by omega))
    have hf : from19 E 2 c s 0 = some (c, s) := by unfold from19; rw [if_neg h1, hst, if_neg (by show ¬ E ≤ c; omega)]
    rw [hf] at h
    have hsN : s ≤ N := by omega
    have hx := exact_lt hE (c := c) (s := s) (n := N) hN2' hsN
    rw [r1 (by rw [rnd_exact hsN]; exact hx)] at hR
    cases h; cases hR
    omega
end Go.Proofs.YthdkandofddohaaGreatDoor
