/- Part 19 of the proof. -/
import Derived.Recover
import Derived.Test.YtlbjjhecgceiaaaGreatDoorP17
namespace Go.Proofs.YtlbjjhecgceiaaaGreatDoor
open Go.RowKit
set_option linter.unusedVariables false
set_option linter.unusedSimpArgs false
set_option maxRecDepth 20000
theorem sdec_result {fn : Func} {p u : Tmp} (h : fn.results = #[.cell p 43, .tmp u]) (tmps : Array Value) (w : World) (g : Nat) (a b d v : Value) (T : TypeId)
  (hp : tmps.getD p undef = .pointer (some ⟨g, 0, none⟩)) (hu : tmps.getD u undef = v) (hg : w.heap[g]? = some (.cells #[a, b, d] T (0, 0))) :
  (results fn tmps).run Tryz.prog w = .ok (.tuple #[.agg #[a, b, d], v]) w := by
 rw [results_cell_tmp h, hp, hu]
 have hl := run_loadVar_row (P := Tryz.prog) w g T 43 #[a, b, d] (0, 0) _ hg Tryz.underlying43 rfl sdec_size
 simp [asAddr, hl, Result.andThen]
theorem nb_f (w : World) (o : Obj) : (w.alloc o).heap.size = w.heap.size + 1 := by simp
theorem hand_f (w : World) (o : Obj) : (w.alloc o).drew.heap[w.heap.size]? = some o := heap_alloc_new w o
def POf (w : World) (sb : Bool) (a : Nat) (e0 : Int) (e : Ending) (w' : World) : Prop := ∃ (E : Option Addr) (k l : Nat), e = .returned (.tuple #[.agg #[.bool sb, .slice E k l, .int .i64 e0], .bool true]) ∧ SN w' E k l a ∧ Chg (fun _ => False) w w'
def GO (W : World) (sb : Bool) (a : Nat) (x : Value) (wx : World) : Prop := ∃ (g : Nat) (E : Option Addr) (k l : Nat), x = .pointer (some ⟨g, 0, none⟩) ∧ wx.heap[g]? = some (.cells #[.bool sb, .slice E k l] 32 (0, 0)) ∧ W.heap.size ≤ g ∧ SN wx E k l a ∧ Chg (fun _ => False) W wx
theorem go_new {W w1 : World} {sb : Bool} {a k l : Nat} {E : Option Addr} (h : SN w1 E k l a) (hk : Chg (fun _ => False) W w1) : GO W sb a (.pointer (some ⟨w1.heap.size, 0, none⟩)) (w1.alloc (.cells #[.bool sb, .slice E k l] 32)) :=
 ⟨w1.heap.size, E, k, l, rfl, heap_alloc_new _ _, hk.size, h.kept ((Chg.refl _ _).alloc _), hk.alloc _⟩
theorem go_old {W w1 : World} {sb b0 : Bool} {a k l g y0 z0 : Nat} {E x0 : Option Addr} (hg : w1.heap[g]? = some (.cells #[.bool b0, .slice x0 y0 z0] 32 (0, 0))) (hW : W.heap.size ≤ g) (h : SN w1 E k l a) (hk : Chg (fun _ => False) W w1) : GO W sb a (.pointer (some ⟨g, 0, none⟩)) ((w1.setCell ⟨g, 0, none⟩ (.bool sb)).setCell ⟨g, 1, none⟩ (.slice E k l)) :=
 ⟨g, E, k, l, rfl, store2 hg _ _, hW, sn_end2 h hg _ _, chg2 hk hW _ _⟩
set_option maxHeartbeats 4000000 in
theorem OfFix_ok {w : World} (n1 sb : Bool) (a s : Nat) (ha : a < 10 ^ 19) (hs : s ≤ 19) (hsb : (n1 && a != 0) = sb) :
  Calls Tryz.prog 21 #[.agg #[.bool n1, .int .u64 (a : Int), .int .i64 (s : Int)]] w (POf w sb a (-(s : Int))) := by
 have ha2 : (a : Int) < 18446744073709551616 := by
  have : (10 : Nat) ^ 19 = 10000000000000000000 := by decide
  omega
 have HP := hid (fun w1 => (NatFrom_any (w := w1) a ha2))
 have HDG := hid (fun (w1 : World) (E : Option Addr) (k l : Nat) (h : SN w1 E k l a) => Digits_any h (lt_tn ha (by omega)))
 have hd : ((digs a : Nat) : Int) ≤ 19 := by have := digs_le.2 ha; omega
 have hs0 : (0 : Int) ≤ (s : Int) := by omega
 have hs19 : (s : Int) ≤ 19 := by omega
 have c1 := decide_eq_true hd
 have c2 := decide_eq_true hs0
 have c3 := decide_eq_true hs19
 have hw0 : IntKind.i64.wrap (-(s : Int)) = -(s : Int) := IntWalk.i64_in _ (by omega)
 obtain ⟨v, hv⟩ : ∃ v : Int, (a : Int) = v := ⟨_, rfl⟩
 obtain ⟨s0, hs0'⟩ : ∃ v : Int, (s : Int) = v := ⟨_, rfl⟩
 obtain ⟨e0, he0⟩ : ∃ v : Int, -s0 = v := ⟨_, rfl⟩
 rw [hv] at HP ⊢
 rw [hs0'] at hs0 hs19 c2 c3 hw0 ⊢
 rw [he0] at hw0 ⊢
 obtain ⟨dg, hdg⟩ : ∃ v : Int, ((digs a : Nat) : Int) = v := ⟨_, rfl⟩
 rw [hdg] at HDG hd c1
 have hw1 : IntKind.i64.wrap (-s0) = e0 := by rw [he0]; exact hw0
 have HH := hid hsb
 clear ha ha2 hs hv hsb hs0' he0 hw0 hdg
 obtain ⟨HC0, HD, hB0, hB1⟩ := box2 w #[.bool n1, .int .u64 v, .int .i64 s0] 24 #[.bool false, .slice none 0 0, .int .i64 0] 43
 have HZ := hid hB1
 have HSS := hid (fun (w1 : World) h => c3_ (cell3 (kept_heap (w' := w1) h hB0)))
 obtain ⟨d0, d1, d2⟩ := HSS.out _ (Chg.refl _ _)
 obtain ⟨z0, z1, z2, y0, y1, y2⟩ := cell3 hB1
 have p0 := (Array.getElem?_eq_some_iff.1 hB0).1
 clear hB0 hB1
 have hk0 := Chg.refl (fun _ => False) ((w.alloc (.cells #[.bool n1, .int .u64 v, .int .i64 s0] 24)).alloc (.cells #[.bool false, .slice none 0 0, .int .i64 0] 43))
 have hk := hk0.drew
 go_enter Tryz.func21, Tryz.ntmps21
 go_upto_region 1 with fail
 go_cut [4] (fun x wx => GO ((w.alloc (.cells #[.bool n1, .int .u64 v, .int .i64 s0] 24)).alloc (.cells #[.bool false, .slice none 0 0, .int .i64 0] 43)) sb a x wx)
 case first =>
  go_region_held3 (fun w' => w'.cell? ⟨w.heap.size, 0, none⟩ = some (.bool n1) ∧ w'.cell? ⟨w.heap.size, 1, none⟩ = some (.int .u64 v) ∧ w'.cell? ⟨w.heap.size, 2, none⟩ = some (.int .i64 s0)) (first | with_reducible exact HSS.out _ (hk) | with_reducible exact HSS.out _ (hk.alloc _) | with_reducible exact HSS.out _ ((hk0.alloc _).drew) | with_reducible exact HSS.out _ (chg2 hk (by first | with_reducible assumption | (simp; done) | (simp; omega)) _ _)) (first | (go_at_call 52; refine (HP.out _).mono ?_; intro e w1 h; obtain ⟨E1, k1_, l1_, he, hsn, hc⟩ := h; subst he; have HN1 := hid hsn; (first | (have hq : Chg (fun _ => False) ((w.alloc (.cells #[.bool n1, .int .u64 v, .int .i64 s0] 24)).alloc (.cells #[.bool false, .slice none 0 0, .int .i64 0] 43)) w1 := (by with_reducible exact hk.trans hc sb_)) | (have hq : Chg (fun _ => False) ((w.alloc (.cells #[.bool n1, .int .u64 v, .int .i64 s0] 24)).alloc (.cells #[.bool false, .slice none 0 0, .int .i64 0] 43)) w1 := (by with_reducible exact ((hk0.alloc _).drew).trans hc sb_); have hy := kept_heap hc (hand_f _ _); simp only [nb_f] at hy; have HV := hid hy; clear hy)); replace hk := hq; clear hq hc hsn; have hz1 := hk.size) | (go_at_call 39; refine (wholeOf_sn n1 sb (by first | with_reducible exact HN1.out | with_reducible exact HN1.out.kept ((Chg.refl (fun _ => False) _).alloc _)) HH.out).mono ?_; intro e w2 h; obtain ⟨he, hc⟩ := h; subst he; (first | (have hq : Chg (fun _ => False) ((w.alloc (.cells #[.bool n1, .int .u64 v, .int .i64 s0] 24)).alloc (.cells #[.bool false, .slice none 0 0, .int .i64 0] 43)) w2 := (by with_reducible exact hk.trans hc sb_); replace HN1 := hid (HN1.out.kept hc); (try replace HV := hid (kept_heap hc HV.out))) | (have hq : Chg (fun _ => False) ((w.alloc (.cells #[.bool n1, .int .u64 v, .int .i64 s0] 24)).alloc (.cells #[.bool false, .slice none 0 0, .int .i64 0] 43)) w2 := (by with_reducible exact (hk.alloc _).trans hc sb_); have HV := hid (by with_reducible exact kept_heap hc (heap_alloc_new _ _)); replace HN1 := hid (HN1.out.kept (((Chg.refl (fun _ => False) _).alloc _).trans hc sb_)))); replace hk := hq; clear hq hc; (try (have hy := cell2 HV.out; obtain ⟨x0, x1, f0, f1⟩ := hy))))
  all_goals (go_wp2_with fail; go_meet; first | with_reducible exact go_new HN1.out hk | with_reducible exact go_old HV.out (by first | with_reducible assumption | (simp; done) | (simp; omega)) HN1.out hk)
 case rest =>
  obtain ⟨g, E1, k1_, l1_, hv, hx, hsz, hsn, hkc⟩ := hcut
  subst hv
  have HX := hid hx
  have HN := hid hsn
  have hgz : g ≠ w.heap.size + 1 := by simp only [nb_f] at hsz; omega
  have HS2 := hid (fun (w1 : World) h (h2 : Chg (fun _ => False) wc w1) => And.intro (HSS.out w1 h).1 (And.intro (HSS.out w1 h).2.1 (And.intro (HSS.out w1 h).2.2 (And.intro (cell2 (kept_heap h2 HX.out)).1 (cell2 (kept_heap h2 HX.out)).2.1))))
  have HS3 := hid (fun (w1 : World) x0 x1 x2 h (h2 : Chg (fun _ => False) wc w1) => And.intro (fr_ (w.heap.size + 1) x0 x1 x2 (HSS.out w1 h).1) (And.intro (fr_ (w.heap.size + 1) x0 x1 x2 (HSS.out w1 h).2.1) (And.intro (fr_ (w.heap.size + 1) x0 x1 x2 (HSS.out w1 h).2.2) (And.intro (far3 (z := w.heap.size + 1) (x0 := x0) (x1 := x1) (x2 := x2) (cell2 (kept_heap h2 HX.out)).1 hgz) (far3 (z := w.heap.size + 1) (x0 := x0) (x1 := x1) (x2 := x2) (cell2 (kept_heap h2 HX.out)).2.1 hgz)))))
  have hk := hkc.drew
  have hw := (Chg.refl (fun _ => False) wc).drew
  clear hx hsn hkc hsz d0 d1 d2 z0 z1 z2 y0 y1 y2
  obtain ⟨k0, k1, k2, f0, f1, f2⟩ := cell3 (kept_heap hk HZ.out)
  go_wp2_with fail
  first | (go_region_held3 (fun w' => w'.cell? ⟨w.heap.size, 0, none⟩ = some (.bool n1) ∧ w'.cell? ⟨w.heap.size, 1, none⟩ = some (.int .u64 v) ∧ w'.cell? ⟨w.heap.size, 2, none⟩ = some (.int .i64 s0) ∧ w'.cell? ⟨g, 0, none⟩ = some (.bool sb) ∧ w'.cell? ⟨g, 1, none⟩ = some (.slice E1 k1_ l1_)) (first | with_reducible exact HS2.out _ hk hw | with_reducible exact HS3.out _ _ _ _ hk hw) (first | (go_at_call 37; refine (HDG.out _ _ _ _ (HN.out.kept hw)).mono ?_; intro e w2 h; obtain ⟨he, hc⟩ := h; subst he; replace hk := hk.trans hc sb_; replace hw := hw.trans hc sb_; clear hc k0 k1 k2 f0 f1 f2; obtain ⟨k0, k1, k2, f0, f1, f2⟩ := cell3 (kept_heap hk HZ.out)))) | fail
  all_goals (go_wp2_with fail; refine bodyPost_ret (v := .tuple #[.agg #[.bool sb, .slice E1 k1_ l1_, .int .i64 e0], .bool true]) (sdec_result rfl _ _ (w.heap.size + 1) _ _ _ _ _ rfl rfl (store3 (kept_heap hk HZ.out) _ _ _)) rfl ⟨E1, k1_, l1_, rfl, sn_end3 (HN.out.kept hw) (kept_heap hk HZ.out) (by simp) _ _ _, chg3 (HC0.out.trans hk sb_) (by omega) _ _ _⟩)
end Go.Proofs.YtlbjjhecgceiaaaGreatDoor
namespace Go.Proofs.YtlbjjhecgceiaaaGreatDoor
open Go.RowKit Go.Proofs.YtlbjjhecgceiaaaGreatDoorW.PrintWords Go.Proofs.YtlbjjhecgceiaaaGreatDoorW.PrintLast Go.Proofs.YtlbjjhecgceiaaaGreatDoorW.PrintMore PFnFixSubExact
set_option linter.unusedVariables false
set_option linter.unusedSimpArgs false
theorem NatString_any {w : World} {A : Option Addr} {n c a : Nat} (ha : SN w A n c a) (ha' : a < tn 1800) :
  Calls Tryz.prog 50 #[.slice A n c] w (fun e w' => e = .returned (.string (strOfNums (dtx a))) ∧ Chg (fun _ => False) w w') := by
 obtain ⟨xs, rfl, h2, h3, h4⟩ := ha
 obtain ⟨K, hK⟩ := string_law h4 ha'
 exact (spec_Nat_String.calls K A c xs _ w h3 h2 (hK K (Nat.le_refl _))).mono (fun e w' h => ⟨h.1, chg_of_below h.2⟩)
end Go.Proofs.YtlbjjhecgceiaaaGreatDoor
namespace Go.Proofs.YtlbjjhecgceiaaaGreatDoor
open Go.RowKit
set_option linter.unusedVariables false
set_option linter.unusedSimpArgs false
set_option maxRecDepth 20000
theorem rheI_zero {Y : Int} (h : 0 < Y) : rheI 0 Y = 0 := by
 unfold rheI
 rw [Int.zero_emod, Int.zero_ediv]
 exact if_neg (by omega)
theorem fint_rsh_any (x : Int) (n : Nat) (hx : Fi x) (hn1 : 1 ≤ n) (hn : n ≤ 19) (w : World) (ht : Tab w) :
  Calls Tryz.prog 128 #[.int .u64 x, .int .i64 n] w (fun e w' => e = .returned (.int .u64 (rheI x (10 ^ n))) ∧ w = w') := by
 by_cases h : x = 0
 ·subst h
  rw [rheI_zero (p10_pos n)]
  have hb0 : ((0 : Int) == 0) = true := rfl
  go_enter Tryz.func128, Tryz.ntmps128
  go_wp2_with fail
  go_ret
  exact ⟨rfl, rfl⟩
 ·exact fint_rsh_pos x n hx h hn1 hn w ht
theorem rheI_fi {c : Int} {k : Nat} (hc : Fi c) (hk : 1 ≤ k) : Fi (rheI c (10 ^ k)) := by
 obtain ⟨h0, h1⟩ := hc
 obtain ⟨j, rfl⟩ : ∃ j, k = j + 1 := ⟨k - 1, by omega⟩
 have hp := p10_pos j
 have e : (10 : Int) ^ (j + 1) = 10 * 10 ^ j := by rw [Int.pow_succ, Int.mul_comm]
 generalize (10 : Int) ^ j = P at *
 rw [e]
 have hq0 : 0 ≤ c / (10 * P) := Int.ediv_nonneg h0 (by omega)
 have hq1 : c / (10 * P) ≤ c / 10 := by
  rw [← Int.ediv_ediv_of_nonneg (by omega : (0 : Int) ≤ 10)]
  exact Int.ediv_le_self _ (Int.ediv_nonneg h0 (by omega))
 unfold rheI
 split
 ·exact ⟨by omega, by omega⟩
 ·exact ⟨by omega, by omega⟩
set_option maxHeartbeats 1000000 in
theorem fint_prec (x : Int) (hx : Fi x) (w : World) (ht : Tab w) :
  Calls Tryz.prog 129 #[.int .u64 x] w (fun e w' => e = .returned (.int .i64 (digs x.toNat)) ∧ w = w') := by
 obtain ⟨hx0, hx1⟩ := hx
 have hkey : ∀ k, x < 10 ^ k ↔ digs x.toNat ≤ k := fun k => pow_lt_digs hx0
 have e19 : (10 : Int) ^ 19 = 10000000000000000000 := by decide
 have hD : digs x.toNat ≤ 19 := (hkey 19).1 (by omega)
 generalize digs x.toNat = D at *
 have HKEY := hid hkey; have HT := hid ht
 clear hkey ht e19
 go_enter Tryz.func129, Tryz.ntmps129
 go_wp2_with fail
 go_loopw [3, 4] (fun l r wr => ∃ L R : Nat, l = .int .i64 L ∧ r = .int .i64 R ∧ L ≤ D ∧ D ≤ R ∧ R ≤ 20 ∧ w = wr) (fun l r _ => (intOf r - intOf l).toNat)
 case atStart => exact ⟨0, 20, rfl, rfl, by omega, by omega, by omega, rfl⟩
 case round =>
  obtain ⟨L, R, rfl, rfl, h1, h2, h3, rfl⟩ := hrel
  by_cases hlr : L < R
  ·have hlt : (L : Int) < (R : Int) := by omega
   have hsum : IntKind.i64.wrap ((L : Int) + (R : Int)) = (L : Int) + (R : Int) := IntWalk.i64_in _ (by omega)
   obtain ⟨M, hM⟩ : ∃ M : Nat, M = (L + R) / 2 := ⟨_, rfl⟩
   have hquo : ((L : Int) + (R : Int)) / 2 = (M : Int) := by omega
   have hM1 : L ≤ M := by omega
   have hM2 : M < R := by omega
   clear hM
   have hcell := HT.out M (by omega)
   have hk := HKEY.out M
   have hm0 : (0 : Int) ≤ (M : Int) := by omega
   have hm20 : (M : Int) < 20 := by omega
   generalize (10 : Int) ^ M = T at *
   by_cases hc : x < T
   ·have hDM : D ≤ M := hk.1 hc
    have hd : decide (x < T) = true := decide_eq_true hc
    clear hk
    go_wp2_with fail
    go_roundw
    case rel => exact ⟨L, M, rfl, (by first | rfl | rw [hquo]), h1, hDM, by omega, (by first | rfl | trivial)⟩
    case measure => simp [intOf]; omega
   ·have hDM : ¬ D ≤ M := fun h => hc (hk.2 h)
    have hd : decide (x < T) = false := decide_eq_false hc
    have hinc : IntKind.i64.wrap ((M : Int) + 1) = (M : Int) + 1 := IntWalk.i64_in _ (by omega)
    clear hk
    go_wp2_with fail
    go_roundw
    case rel => exact ⟨M + 1, R, by rw [show ((M + 1 : Nat) : Int) = (M : Int) + 1 by omega], (by first | rfl | rw [hquo]), by omega, h2, h3, (by first | rfl | trivial)⟩
    case measure => simp [intOf]; omega
  ·have hge : ¬ (L : Int) < (R : Int) := by omega
   obtain rfl : L = D := by omega
   go_wp2_with fail
   go_ret
   exact ⟨rfl, rfl⟩
theorem fiN {a : Nat} (h : a < 10 ^ 19) : Fi (a : Int) := by
 have e : (10 : Nat) ^ 19 = 10000000000000000000 := by decide
 exact ⟨by omega, by omega⟩
theorem Coef_any (neg : Bool) (c : Int) (s : Nat) (w : World) :
  Calls Tryz.prog 59 #[.agg #[.bool neg, .int .i8 s, .int .u64 c]] w (fun e w' => e = .returned (.int .u64 c) ∧ Chg (fun _ => False) w w') := by
 go_enter Tryz.func59, Tryz.ntmps59
 go_wp2_with fail
 go_ret
 exact ⟨rfl, (Chg.refl _ _).alloc _⟩
theorem ZzMake_any (neg nb : Bool) (c : Int) (s : Nat) (hc : Fi c) (hs : s ≤ 19) (hnb : (neg && c != 0) = nb) (w : World) :
  Calls Tryz.prog 55 #[.bool neg, .int .u64 c, .int .i64 s] w (fun e w' => e = .returned (.tuple #[.agg #[.bool nb, .int .i8 s, .int .u64 c], .nilIface]) ∧ Chg (fun _ => False) w w') := by
 have HN := hid (fun w => newSafe_flat neg nb c s hc hs hnb w)
 have HZ := hid (heap_alloc_new w (.cells #[.bool false, .int .i8 0, .int .u64 0] 65))
 have HC0 := hid ((Chg.refl (fun _ => False) w).alloc (.cells #[.bool false, .int .i8 0, .int .u64 0] 65))
 clear hc hs hnb
 go_enter Tryz.func55, Tryz.ntmps55
 go_wp2_with (go_at_call 77; refine (HN.out _).mono ?_; intro e w1 h; obtain ⟨he, hc⟩ := h; subst he; have hk := hc; clear hc; obtain ⟨k0, k1, k2, f0, f1, f2⟩ := cell3 (kept_heap hk HZ.out))
 refine bodyPost_ret (v := .tuple #[.agg #[.bool nb, .int .i8 s, .int .u64 c], .nilIface]) (dec_result rfl _ _ w.heap.size _ _ _ _ 65 rfl rfl (store3 (kept_heap hk HZ.out) _ _ _)) rfl ⟨rfl, chg3 (HC0.out.trans hk sb_) (Nat.le_refl _) _ _ _⟩
set_option maxHeartbeats 2000000 in
theorem fixed_any (n1 nb : Bool) (c : Int) (s : Nat) (hc : Fi c) (hs : s ≤ 19) (hnb : (n1 && c != 0) = nb) (w : World) :
  Calls Tryz.prog 26 #[.agg #[.bool n1, .int .u64 c, .int .i64 s]] w (PV w (.tuple #[.agg #[.bool nb, .int .i8 s, .int .u64 c], .bool true])) := by
 have HM := hid (fun w => ZzMake_any n1 nb c s hc hs hnb w)
 clear hc hs hnb
 obtain ⟨HC0, HD, hB0, hB1⟩ := box2 w #[.bool n1, .int .u64 c, .int .i64 s] 24 #[.bool false, .int .i8 0, .int .u64 0] 65
 have HZ := hid hB1
 have HSS := hid (fun (w1 : World) h => c3_ (cell3 (kept_heap (w' := w1) h hB0)))
 have HST := hid (fun w1 x0 x1 x2 h => And.intro (fr_ (w.heap.size + 1) x0 x1 x2 (HSS.out w1 h).1) (And.intro (fr_ (w.heap.size + 1) x0 x1 x2 (HSS.out w1 h).2.1) (fr_ (w.heap.size + 1) x0 x1 x2 (HSS.out w1 h).2.2)))
 clear hB0 hB1
 have hk := Chg.refl (fun _ => False) ((w.alloc (.cells #[.bool n1, .int .u64 c, .int .i64 s] 24)).alloc (.cells #[.bool false, .int .i8 0, .int .u64 0] 65))
 obtain ⟨d0, d1, d2⟩ := HSS.out _ hk
 go_enter Tryz.func26, Tryz.ntmps26
 go_wp2_with (go_at_call 55; refine (HM.out _).mono ?_; intro e w1 h; obtain ⟨he, hc⟩ := h; subst he; replace hk := hk.trans hc sb_; have HG := hid (heap_alloc_new w1 (.cells #[.bool nb, .int .i8 s, .int .u64 c] 65)); have hk2 := hk.alloc (.cells #[.bool nb, .int .i8 s, .int .u64 c] 65); clear hc d0 d1 d2; obtain ⟨k0, k1, k2, f0, f1, f2⟩ := cell3 (kept_heap hk2 HZ.out); obtain ⟨g0, g1, g2, _, _, _⟩ := cell3 HG.out)
 go_region
 all_goals (go_wp2_with fail; refine bodyPost_ret (v := .tuple #[.agg #[.bool nb, .int .i8 s, .int .u64 c], .bool true]) (dec_result rfl _ _ (w.heap.size + 1) _ _ _ _ 65 rfl rfl (store3 (kept_heap hk2.drew HZ.out) _ _ _)) rfl ⟨rfl, chg3 (HC0.out.trans hk2.drew sb_) (by omega) _ _ _⟩)
theorem results_two {fn : Func} {p u : Tmp} {ty ty2 : TypeId} (h : fn.results = #[.cell p ty, .cell u ty2]) (tmps : Array Value) (P : Program) (w : World) :
  (results fn tmps).run P w =
   ((asAddr (tmps.getD p undef)).run P w).andThen fun a w₁ => ((loadVar ty a).run P w₁).andThen fun v w₂ => ((asAddr (tmps.getD u undef)).run P w₂).andThen fun a2 w₃ => ((loadVar ty2 a2).run P w₃).andThen fun v2 w₄ => .ok (.tuple #[v, v2]) w₄ := by
 simp only [results, h]
 simp [Sem.run_bind, Result.andThen]
theorem cell1 {w1 : World} {z : Nat} {x0 : Value} {T : TypeId} (hh : w1.heap[z]? = some (.cells #[x0] T (0, 0))) : w1.cell? ⟨z, 0, none⟩ = some x0 ∧ w1.frozen? ⟨z, 0, none⟩ = false := by
 refine ⟨?_, ?_⟩ <;> simp [World.cell?, World.frozen?, hh]
theorem fix_far' {w1 : World} {z y i : Nat} {o : Obj} {v : Value} (h : w1.heap[z]? = some o) (hne : z ≠ y) : (w1.setCell ⟨y, i, none⟩ v).heap[z]? = some o := by
 rw [Below.heap_setCell _ _ _ _ (by simpa using hne)]; exact h
theorem fix_near {w1 : World} {z y : Nat} {o : Obj} {a b c : Value} (h : w1.heap[z]? = some o) (hne : z ≠ y) : (((w1.setCell ⟨y, 0, none⟩ a).setCell ⟨y, 1, none⟩ b).setCell ⟨y, 2, none⟩ c).heap[z]? = some o :=
 fix_far' (fix_far' (fix_far' h hne) hne) hne
theorem int_set {w1 : World} {z : Nat} {x v : Value} {T : TypeId} (h : w1.heap[z]? = some (.cells #[x] T (0, 0))) : (w1.setCell ⟨z, 0, none⟩ v).heap[z]? = some (.cells #[v] T (0, 0)) := by
 simp [World.setCell, Array.getElem?_modify, h]
end Go.Proofs.YtlbjjhecgceiaaaGreatDoor
