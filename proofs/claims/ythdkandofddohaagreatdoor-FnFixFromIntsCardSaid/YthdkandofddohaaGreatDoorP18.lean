/- Part 18 of the proof. -/
import Derived.Test.YthdkandofddohaaGreatDoorP17
namespace Go.Proofs.YthdkandofddohaaGreatDoor
open Go.RowKit
set_option linter.unusedVariables false
set_option linter.unusedSimpArgs false
set_option maxRecDepth 20000
theorem bint_quoRem (p q r t : Nat) (bo bq br bt : Option Nat) (x0 x y t0 : Int) (w : World) (hp : IntAt w p bo x0) (hq : IntAt w q bq x) (hr : IntAt w r br y) (ht : IntAt w t bt t0)
  (hpt : p ≠ t) (hqt : q ≠ t) (hrt : r ≠ t) (hbx : ∀ b, bq = some b → bt ≠ some b) (hby : ∀ b, br = some b → bt ≠ some b) (hbz : ∀ b, bo = some b → bt ≠ some b) (hx : x < BP 30) (hy : 0 < y) (hy2 : y < BP 3)
  (hdt : w.cell? ⟨6, 0, none⟩ = some (.int .i64 40)) :
  Calls Tryz.prog 115 #[.pointer (some ⟨p, 0, none⟩), .pointer (some ⟨q, 0, none⟩), .pointer (some ⟨r, 0, none⟩), .pointer (some ⟨t, 0, none⟩)] w
   (fun e w' => e = .returned (.tuple #[]) ∧ PQuo w p t bo bt x y (.returned (.tuple #[.pointer (some ⟨p, 0, none⟩), .pointer (some ⟨t, 0, none⟩)])) w') := by
 have H := hid (Int_QuoRem p q r t bo bq br bt x0 x y t0 w hp hq hr ht hpt hqt hrt hbx hby hbz hx hy hy2 hdt)
 go_enter Tryz.func115, Tryz.ntmps115
 go_wp2_with (go_at_call 134; refine H.out.mono ?_; intro e w1 h; have he := h.1; subst he; have HH := hid h; clear h)
 go_end0
 exact ⟨rfl, HH.out⟩
structure RS (w w3 : World) (p t y : Nat) (bo : Option Nat) (q r Y : Int) : Prop where
 ints : ∃ bp bt by_, IntAt w3 p bp q ∧ IntAt w3 t bt r ∧ IntAt w3 y by_ Y ∧ (∀ b, bp = some b → bt ≠ some b) ∧ (∀ b, by_ = some b → bt ≠ some b) ∧ (bp = bo ∨ ∃ b, bp = some b ∧ w.heap.size ≤ b) ∧ (∀ b, bt = some b → w.heap.size ≤ b)
 pt : p ≠ t
 py : p ≠ y
 yt : y ≠ t
 tn : w.heap.size ≤ t
 env : Env w3
 chg : Chg (fun k => k = p ∨ bo = some k) w w3
theorem rs_quo {w w1 w2 w3 : World} {p t y : Nat} {bo : Option Nat} {x Y : Int} (hp : IntAt w p bo x) (he : Env w) (ht : IntAt w1 t none 0) (htn : w.heap.size ≤ t) (hc1 : Chg (fun _ => False) w w1) (hv : ValAt w1 y Y w2)
  (h : PQuo w2 p t bo none x Y (.returned (.tuple #[.pointer (some ⟨p, 0, none⟩), .pointer (some ⟨t, 0, none⟩)])) w3) : RS w w3 p t y bo (x / Y) (x % Y) Y := by
 obtain ⟨bb, v1, v2, v3, v4⟩ := hv
 obtain ⟨_, bp, bt, q1, q2, q3, q4, q5, q6⟩ := h
 have hpl := hp.lt
 have htl := ht.lt
 have hs1 := hc1.size
 have hs2 := v4.size
 have hc12 := hc1.trans v4 sb_
 have hp2 := hp.new hc12
 have hby : ∀ b, bb = some b → ¬ ((b = p ∨ bo = some b) ∨ (b = t ∨ (none : Option Nat) = some b)) := by
  rintro b hb ((h | h) | (h | h))
  ·have := v3 b hb; omega
  ·have := v3 b hb; have := hp.blk h; omega
  ·exact (ht.new v4).ne v1 hb h
  ·cases h
 have hy3 := v1.kept q6 (by rintro ((h | h) | (h | h)); omega; (have := hp.blk h; omega); omega; cases h) hby
 have hbt : ∀ b, bt = some b → w2.heap.size ≤ b := by
  intro b hb
  rcases q4 with k | ⟨c, k, hk⟩
  ·rw [hb] at k; cases k
  ·rw [hb] at k; simp only [Option.some.injEq] at k; omega
 refine ⟨⟨bp, bt, bb, q1, q2, hy3, q5, fun b hb h => ?_, ?_, fun b hb => by have := hbt b hb; omega⟩, by omega, by omega, by omega, htn, ?_, ?_⟩
 ·have := hbt b h
  have := v1.blk hb
  omega
 ·rcases q3 with k | ⟨c, k, hk⟩
  ·exact .inl k
  ·exact .inr ⟨c, k, by omega⟩
 ·refine ((he.kept hc12).keep q6 ?_ ?_ ?_)
  ·rintro ((h | h) | (h | h))
   ·exact hp.notInt (he.tab 0 (by omega)) h
   ·subst h
    obtain ⟨_, _, ds, _, _, ⟨sp, _, hr, _⟩, _⟩ := hp
    exact he.apart _ hr
   ·have := he.tab.lt; omega
   ·cases h
  ·rintro ((h | h) | (h | h))
   ·exact hp.notInt he.kar h
   ·exact hp.notBlk he.kar h
   ·have := cell_lt he.kar; omega
   ·cases h
  ·rintro ((h | h) | (h | h))
   ·exact hp.notInt he.div h
   ·exact hp.notBlk he.div h
   ·have := cell_lt he.div; omega
   ·cases h
 ·refine (hc12.mono (fun _ h => h.elim)).trans q6 (fun i hi h => ?_)
  rcases h with h | (h | h)
  ·exact h
  ·omega
  ·cases h
theorem rs_dbl {w w3 w4 : World} {p t y : Nat} {bo bt : Option Nat} {q r r' Y : Int} {e : Ending} {v : Value} (h : RS w w3 p t y bo q r Y) (hbt : IntAt w3 t bt r) (k : PInt w3 t bt r' v e w4)
  (hsame : ∀ bp bt' by_, IntAt w3 p bp q → IntAt w3 t bt' r → IntAt w3 y by_ Y → bt' = bt) : RS w w4 p t y bo q r' Y := by
 obtain ⟨⟨bp, bt', by_, h1, h2, h3, h4, h5, h6, h7⟩, pt, py, yt, tn, env, chg⟩ := h
 obtain rfl := hsame _ _ _ h1 h2 h3
 obtain ⟨_, bn, k1, k2, k3⟩ := k
 have hs := chg.size
 have hn : ∀ b, bn = some b → bt' = some b ∨ w3.heap.size ≤ b := by
  intro b hb
  rcases k2 with e | ⟨c, e, hc⟩
  ·exact .inl (e ▸ hb)
  ·rw [hb] at e; simp only [Option.some.injEq] at e; exact .inr (by omega)
 refine ⟨⟨bp, bn, by_, h1.kept k3 ?_ ?_, k1, h3.kept k3 ?_ ?_, ?_, ?_, h6, ?_⟩, pt, py, yt, tn, env.int h2 k3, chg.trans k3 (fun i hi hh => ?_)⟩
 ·rintro (hh | hh); exact pt hh; exact h1.ne h2 hh rfl
 ·rintro b hb (hh | hh); exact h2.ne h1 hb hh; exact h4 b hb hh
 ·rintro (hh | hh); exact yt hh; exact h3.ne h2 hh rfl
 ·rintro b hb (hh | hh); exact h2.ne h3 hb hh; exact h5 b hb hh
 ·intro b hb hh
  rcases hn b hh with k | k
  ·exact h4 b hb k
  ·have := h1.blk hb; omega
 ·intro b hb hh
  rcases hn b hh with k | k
  ·exact h5 b hb k
  ·have := h3.blk hb; omega
 ·intro b hb
  rcases hn b hb with k | k
  ·exact h7 b k
  ·omega
 ·rcases hh with hh | hh
  ·omega
  ·have := h7 i hh; omega
theorem rs_end {w w4 w5 : World} {p t y : Nat} {bo bp : Option Nat} {q r Y X : Int} {e : Ending} {v : Value} (h : RS w w4 p t y bo q r Y) (hb : IntAt w4 p bp q) (hbo : bp = bo ∨ ∃ b, bp = some b ∧ w.heap.size ≤ b) (k : PInt w4 p bp X v e w5) : PInt w p bo X v e w5 := by
 obtain ⟨k0, bn, k1, k2, k3⟩ := k
 have hs := h.chg.size
 refine ⟨k0, bn, k1, ?_, h.chg.trans k3 (fun i hi hh => ?_)⟩
 ·rcases k2 with e | ⟨c, e, hc⟩
  ·rw [e]; exact hbo
  ·exact .inr ⟨c, e, by omega⟩
 ·rcases hh with hh | hh
  ·exact .inl hh
  ·rcases hbo with e | ⟨c, e, hc⟩
   ·exact .inr (e ▸ hh)
   ·rw [hh] at e; simp only [Option.some.injEq] at e; omega
theorem IntAt.uniq {w : World} {p : Nat} {bo bq : Option Nat} {x y : Int} (h : IntAt w p bo x) (k : IntAt w p bq y) : bo = bq := by
 obtain ⟨T, v, ds, h1, h2, h3, h4, h5⟩ := h
 obtain ⟨T', v', ds', k1, k2, k3, k4, k5⟩ := k
 have e := h1.symm.trans k1
 simp only [Option.some.injEq, Obj.cells.injEq, Array.mk.injEq, List.cons.injEq, and_true, true_and] at e
 obtain ⟨rfl, -⟩ := e
 cases bo with
 | none =>
  cases bq with
  | none => rfl
  | some b => obtain ⟨sp, hv, _⟩ := k3; rw [h3.1] at hv; cases hv
 | some b =>
  obtain ⟨sp, hv, _⟩ := h3
  cases bq with
  | none => rw [k3.1] at hv; cases hv
  | some c => obtain ⟨sp', hv', _⟩ := k3; rw [hv] at hv'; simp only [Value.slice.injEq, Option.some.injEq, Addr.mk.injEq] at hv'; rw [hv'.1.1]
def rheI (x Y : Int) : Int := if Y < 2 * (x % Y) ∨ (Y = 2 * (x % Y) ∧ (x / Y) % 2 = 1) then x / Y + 1 else x / Y
theorem rheI_nat (a b : Nat) : rheI (a : Int) (b : Int) = ((rhe a b : Nat) : Int) := by
 unfold rheI rhe
 have h1 : ((a : Int) % (b : Int)) = ((a % b : Nat) : Int) := by omega
 have h2 : ((a : Int) / (b : Int)) = ((a / b : Nat) : Int) := by omega
 rw [h1, h2]
 by_cases h : b < 2 * (a % b) ∨ (b = 2 * (a % b) ∧ (a / b) % 2 = 1)
 ·rw [if_pos h, if_pos (by omega)]; omega
 ·rw [if_neg h, if_neg (by omega)]
theorem p10_nat3 : (10 : Nat) ^ 57 < 18446744073709551616 ^ 3 := by decide
theorem p10_bd3 {k : Nat} (h : k ≤ 57) : (10 : Int) ^ k < BP 3 := by
 have h1 : (10 : Nat) ^ k ≤ 10 ^ 57 := Nat.pow_le_pow_right (by omega) h
 have h3 : ((10 ^ k : Nat) : Int) < ((18446744073709551616 ^ 3 : Nat) : Int) := by exact_mod_cast Nat.lt_of_le_of_lt h1 p10_nat3
 rw [Int.natCast_pow, Int.natCast_pow] at h3
 exact h3
theorem BP3_30 : BP 3 < BP 30 := by
 unfold BP
 have h : (18446744073709551616 : Nat) ^ 3 < 18446744073709551616 ^ 30 := by decide
 have h3 : ((18446744073709551616 ^ 3 : Nat) : Int) < ((18446744073709551616 ^ 30 : Nat) : Int) := by exact_mod_cast h
 rw [Int.natCast_pow, Int.natCast_pow] at h3
 exact h3
theorem rs_step_quo {w : World} {p : Nat} {bo : Option Nat} {x Y : Int} (hp : IntAt w p bo x) (he : Env w) (hx : x < BP 30) (hY : 0 < Y) (hY3 : Y < BP 3) (w1 w2 : World) (t y : Nat) (ht : IntAt w1 t none 0) (htn : w.heap.size ≤ t) (hc1 : Chg (fun _ => False) w w1) (hv : ValAt w1 y Y w2) :
  Calls Tryz.prog 115 #[.pointer (some ⟨p, 0, none⟩), .pointer (some ⟨p, 0, none⟩), .pointer (some ⟨y, 0, none⟩), .pointer (some ⟨t, 0, none⟩)] w2 (fun e w3 => e = .returned (.tuple #[]) ∧ RS w w3 p t y bo (x / Y) (x % Y) Y) := by
 have hv' := hv
 obtain ⟨bb, v1, v2, v3, v4⟩ := hv
 have hc12 := hc1.trans v4 sb_
 have hp2 := hp.new hc12
 have hpl := hp.lt
 have htl := ht.lt
 have hs1 := hc1.size
 exact (bint_quoRem p p y t bo bo bb none x x Y 0 w2 hp2 hp2 v1 (ht.new v4) (by omega) (by omega) (by omega) (fun _ _ h => by cases h) (fun _ _ h => by cases h) (fun _ _ h => by cases h) hx hY hY3 (cell_kept he.div hc12 (fun h => h))).mono
  (fun e w3 h => ⟨h.1, rs_quo hp he ht htn hc1 hv' h.2⟩)
theorem rs_step_dbl {w w3 : World} {p t y : Nat} {bo : Option Nat} {q r Y : Int} (h : RS w w3 p t y bo q r Y) (hr : r < BP 30) :
  Calls Tryz.prog 116 #[.pointer (some ⟨t, 0, none⟩), .pointer (some ⟨t, 0, none⟩)] w3 (fun e w4 => e = .returned (.tuple #[]) ∧ RS w w4 p t y bo q (r * 2) Y) := by
 obtain ⟨bp, bt, by_, h1, h2, h3, _⟩ := h.ints
 exact (bint_dbl t t bt bt r r w3 h2 h2 hr).mono (fun e w4 k => ⟨k.1, rs_dbl h h2 k (fun _ bt' _ _ k2 _ => k2.uniq h2)⟩)
theorem RS.alike {w w3 w4 : World} {p t y : Nat} {bo : Option Nat} {q r Y : Int} (h : RS w w3 p t y bo q r Y) (k : Q w3 w4) : RS w w4 p t y bo q r Y := by
 obtain ⟨n, rfl⟩ := k
 obtain ⟨⟨bp, bt, by_, h1, h2, h3, h4⟩, pt, py, yt, tn, env, chg⟩ := h
 exact ⟨⟨bp, bt, by_, h1.drewN n, h2.drewN n, h3.drewN n, h4⟩, pt, py, yt, tn, env.kept ((Chg.refl _ _).drewN n), chg.drewN n⟩
theorem rs_step_cmp {w w4 : World} {p t y : Nat} {bo : Option Nat} {q r Y : Int} (h : RS w w4 p t y bo q r Y) :
  Calls Tryz.prog 83 #[.pointer (some ⟨y, 0, none⟩), .pointer (some ⟨t, 0, none⟩)] w4 (fun e w5 => e = .returned (.int .i64 (cmpI Y r)) ∧ RS w w5 p t y bo q r Y) := by
 obtain ⟨bp, bt, by_, h1, h2, h3, _⟩ := h.ints
 exact (bint_cmp y t by_ bt Y r w4 h3 h2 h.yt).mono (fun e w5 k => ⟨k.1, h.alike k.2⟩)
theorem rs_step_inc {w w4 : World} {p t y : Nat} {bo : Option Nat} {q r Y : Int} (h : RS w w4 p t y bo q r Y) (hq : q < BP 30) :
  Calls Tryz.prog 117 #[.pointer (some ⟨p, 0, none⟩), .pointer (some ⟨p, 0, none⟩)] w4 (fun e w5 => e = .returned (.tuple #[]) ∧ PInt w p bo (q + 1) (.tuple #[]) (.returned (.tuple #[])) w5) := by
 obtain ⟨bp, bt, by_, h1, h2, h3, h4, h5, h6, _⟩ := h.ints
 exact (bint_inc_same p bp q w4 h1 h.env hq).mono (fun e w5 k => ⟨k.1, rs_end h h1 h6 (by have := k.1; subst this; exact k)⟩)
theorem rs_step_odd {w w4 : World} {p t y : Nat} {bo : Option Nat} {q r Y : Int} (h : RS w w4 p t y bo q r Y) :
  Calls Tryz.prog 118 #[.pointer (some ⟨p, 0, none⟩)] w4 (fun e w5 => e = .returned (.bool (q % 2 != 0)) ∧ w4 = w5) := by
 obtain ⟨bp, bt, by_, h1, _⟩ := h.ints
 exact bint_isOdd p bp q w4 h1
theorem rs_same {w w4 : World} {p t y : Nat} {bo : Option Nat} {q r Y : Int} (h : RS w w4 p t y bo q r Y) : PInt w p bo q (.tuple #[]) (.returned (.tuple #[])) w4 := by
 obtain ⟨bp, bt, by_, h1, h2, h3, h4, h5, h6, _⟩ := h.ints
 exact ⟨rfl, bp, h1, h6, h.chg⟩
set_option maxHeartbeats 2000000 in
theorem bint_rshHalfEven (p n : Nat) (bo : Option Nat) (x : Int) (w : World) (hp : IntAt w p bo x) (he : Env w) (hx : x < BP 30) (hn1 : 1 ≤ n) (hn : n ≤ 57) :
  Calls Tryz.prog 99 #[.pointer (some ⟨p, 0, none⟩), .pointer (some ⟨p, 0, none⟩), .int .i64 n] w (PInt w p bo (rheI x (10 ^ n)) (.tuple #[])) := by
 have hx0 := hp.nonneg
 have hY := p10_pos n
 have hY3 := p10_bd3 hn
 have hsg := bint_sign p bo x w hp
 by_cases hz : x = 0
 ·subst hz
  rw [if_pos rfl] at hsg
  have e : rheI 0 (10 ^ n) = 0 := by unfold rheI; rw [Int.zero_emod, Int.zero_ediv, if_neg (by omega)]
  rw [e]
  have HS := hid hsg
  have HF := hid (bint_setFint p bo 0 0 w hp wd0)
  have hb : ((0 : Int) == 0) = true := rfl
  clear hsg e
  go_enter_defers Tryz.func99, Tryz.ntmps99
  go_wp2_with (first | (go_at_call 114; refine HS.out.mono ?_; intro e w1 h; obtain ⟨h1, h2⟩ := h; subst h1; subst h2) | (go_at_call 80; refine HF.out.mono ?_; intro e w1 h; have he1 := h.1; subst he1; have HH := hid h; clear h))
  exact ⟨_, results_none rfl _ _ _, HH.out⟩
 ·rw [if_neg hz] at hsg
  have HS := hid hsg
  have hb : ((1 : Int) == 0) = false := rfl
  have hpw := fun w1 (hc : Chg (fun _ => False) w w1) => bpow10_any n w1 (by omega) (he.kept hc).tab (he.kept hc).kar
  have hq := rs_step_quo hp he hx hY hY3
  have hqb : x / 10 ^ n < BP 30 := by
   have := Int.ediv_le_self (10 ^ n) hx0
   omega
  have hrb : x % 10 ^ n < BP 30 := by
   have := Int.emod_lt_of_pos x hY
   have := BP3_30
   omega
  have hr0 := Int.emod_nonneg x (show (10 : Int) ^ n ≠ 0 by omega)
  have hdef : rheI x (10 ^ n) = if 10 ^ n < 2 * (x % 10 ^ n) ∨ (10 ^ n = 2 * (x % 10 ^ n) ∧ (x / 10 ^ n) % 2 = 1) then x / 10 ^ n + 1 else x / 10 ^ n := rfl
  generalize rheI x (10 ^ n) = RES at *
  generalize x / 10 ^ n = q at *
  generalize x % 10 ^ n = r at *
  generalize (10 : Int) ^ n = Y at *
  have hle : ¬ (n : Int) ≤ 0 := by omega
  have hlt : (n : Int) < 100 := by omega
  have HQ := hid hq; have HPW := hid hpw
  clear hsg hq hpw hY hY3 hx hp he
  by_cases hc1 : Y < r * 2
  ·have hk : cmpI Y (r * 2) = -1 := by unfold cmpI; rw [if_pos hc1]
   have hres : RES = q + 1 := by rw [hdef, if_pos (by omega)]
   subst hres
   have hb1 : ((-1 : Int) == -1) = true := rfl
   clear hdef hc1
   go_enter_defers Tryz.func99, Tryz.ntmps99
   go_wp2_with (first | (go_at_call 114; refine HS.out.mono ?_; intro e w1 h; obtain ⟨h1, h2⟩ := h; subst h1; subst h2) | (go_at_call 78; refine (getBint_any _).mono ?_; intro e w1 h; obtain ⟨t, he1, ht, htn, hc1⟩ := h; subst he1; have HT := hid ht; clear ht) | (go_at_call 91; refine (HPW.out _ hc1).mono ?_; intro e w2 h; obtain ⟨y, he2, hv⟩ := h; subst he2; have hq2 := HQ.out _ _ t y HT.out htn hc1 hv; have HQ2 := hid hq2; clear hv hq2) | (go_at_call 115; refine HQ2.out.mono ?_; intro e w3 h; obtain ⟨he3, hr3⟩ := h; subst he3; have hdb := rs_step_dbl hr3 hrb; have HD := hid hdb; clear hr3 hdb) | (go_at_call 116; refine HD.out.mono ?_; intro e w4 h; obtain ⟨he4, hr4⟩ := h; subst he4; have hcm := rs_step_cmp hr4; rw [hk] at hcm; have HCM := hid hcm; clear hr4 hcm) | (go_at_call 83; refine HCM.out.mono ?_; intro e w5 h; obtain ⟨he5, hr5⟩ := h; subst he5; have HR5 := hid hr5; clear hr5) | (go_at_call 118; refine (rs_step_odd HR5.out).mono ?_; intro e w6 h; obtain ⟨he6, hw6⟩ := h; subst he6; subst hw6) | (go_at_call 117; refine (rs_step_inc HR5.out hqb).mono ?_; intro e w6 h; obtain ⟨he6, hp6⟩ := h; subst he6; have HH := hid hp6; clear hp6))
   refine leaves_cons (f := 79) (args := #[.pointer (some ⟨t, 0, none⟩)]) (by simp) (by simp [go_sem]) ?_
   refine (putBint_d _ .returning _).mono ?_
   intro e u' w'' h
   obtain ⟨hu1, hu2, hu3⟩ := h
   subst hu1; subst hu2; subst hu3
   exact ⟨_, results_none rfl _ _ _, HH.out⟩
  ·by_cases hc2 : Y = r * 2
   ·have hk : cmpI Y (r * 2) = 0 := by unfold cmpI; rw [if_neg hc1, if_neg (by omega)]
    have hb1 : ((0 : Int) == -1) = false := rfl
    have hb2 : ((0 : Int) == 0) = true := rfl
    by_cases ho : q % 2 = 1
    ·have hres : RES = q + 1 := by rw [hdef, if_pos (by omega)]
     subst hres
     have hb3 : (q % 2 != 0) = true := by rw [ho]; rfl
     clear hdef hc1 hc2 ho
     go_enter_defers Tryz.func99, Tryz.ntmps99
     go_wp2_with (first | (go_at_call 114; refine HS.out.mono ?_; intro e w1 h; obtain ⟨h1, h2⟩ := h; subst h1; subst h2) | (go_at_call 78; refine (getBint_any _).mono ?_; intro e w1 h; obtain ⟨t, he1, ht, htn, hc1⟩ := h; subst he1; have HT := hid ht; clear ht) | (go_at_call 91; refine (HPW.out _ hc1).mono ?_; intro e w2 h; obtain ⟨y, he2, hv⟩ := h; subst he2; have hq2 := HQ.out _ _ t y HT.out htn hc1 hv; have HQ2 := hid hq2; clear hv hq2) | (go_at_call 115; refine HQ2.out.mono ?_; intro e w3 h; obtain ⟨he3, hr3⟩ := h; subst he3; have hdb := rs_step_dbl hr3 hrb; have HD := hid hdb; clear hr3 hdb) | (go_at_call 116; refine HD.out.mono ?_; intro e w4 h; obtain ⟨he4, hr4⟩ := h; subst he4; have hcm := rs_step_cmp hr4; rw [hk] at hcm; have HCM := hid hcm; clear hr4 hcm) | (go_at_call 83; refine HCM.out.mono ?_; intro e w5 h; obtain ⟨he5, hr5⟩ := h; subst he5; have HR5 := hid hr5; clear hr5) | (go_at_call 118; refine (rs_step_odd HR5.out).mono ?_; intro e w6 h; obtain ⟨he6, hw6⟩ := h; subst he6; subst hw6) | (go_at_call 117; refine (rs_step_inc HR5.out hqb).mono ?_; intro e w6 h; obtain ⟨he6, hp6⟩ := h; subst he6; have HH := hid hp6; clear hp6))
     refine leaves_cons (f := 79) (args := #[.pointer (some ⟨t, 0, none⟩)]) (by simp) (by simp [go_sem]) ?_
     refine (putBint_d _ .returning _).mono ?_
     intro e u' w'' h
     obtain ⟨hu1, hu2, hu3⟩ := h
     subst hu1; subst hu2; subst hu3
     exact ⟨_, results_none rfl _ _ _, HH.out⟩
    ·have hres : RES = q := by rw [hdef, if_neg (by omega)]
     rw [hres]; clear hres
     have ho' : q % 2 = 0 := by omega
     have hb3 : (q % 2 != 0) = false := by rw [ho']; rfl
     clear hdef hc1 hc2 ho ho'
     go_enter_defers Tryz.func99, Tryz.ntmps99
     go_wp2_with (first | (go_at_call 114; refine HS.out.mono ?_; intro e w1 h; obtain ⟨h1, h2⟩ := h; subst h1; subst h2) | (go_at_call 78; refine (getBint_any _).mono ?_; intro e w1 h; obtain ⟨t, he1, ht, htn, hc1⟩ := h; subst he1; have HT := hid ht; clear ht) | (go_at_call 91; refine (HPW.out _ hc1).mono ?_; intro e w2 h; obtain ⟨y, he2, hv⟩ := h; subst he2; have hq2 := HQ.out _ _ t y HT.out htn hc1 hv; have HQ2 := hid hq2; clear hv hq2) | (go_at_call 115; refine HQ2.out.mono ?_; intro e w3 h; obtain ⟨he3, hr3⟩ := h; subst he3; have hdb := rs_step_dbl hr3 hrb; have HD := hid hdb; clear hr3 hdb) | (go_at_call 116; refine HD.out.mono ?_; intro e w4 h; obtain ⟨he4, hr4⟩ := h; subst he4; have hcm := rs_step_cmp hr4; rw [hk] at hcm; have HCM := hid hcm; clear hr4 hcm) | (go_at_call 83; refine HCM.out.mono ?_; intro e w5 h; obtain ⟨he5, hr5⟩ := h; subst he5; have HR5 := hid hr5; clear hr5) | (go_at_call 118; refine (rs_step_odd HR5.out).mono ?_; intro e w6 h; obtain ⟨he6, hw6⟩ := h; subst he6; subst hw6) | (go_at_call 117; refine (rs_step_inc HR5.out hqb).mono ?_; intro e w6 h; obtain ⟨he6, hp6⟩ := h; subst he6; have HH := hid hp6; clear hp6))
     refine leaves_cons (f := 79) (args := #[.pointer (some ⟨t, 0, none⟩)]) (by simp) (by simp [go_sem]) ?_
     refine (putBint_d _ .returning _).mono ?_
     intro e u' w'' h
     obtain ⟨hu1, hu2, hu3⟩ := h
     subst hu1; subst hu2; subst hu3
     exact ⟨_, results_none rfl _ _ _, rs_same HR5.out⟩
   ·have hk : cmpI Y (r * 2) = 1 := by unfold cmpI; rw [if_neg hc1, if_pos (by omega)]
    have hres : RES = q := by rw [hdef, if_neg (by omega)]
    rw [hres]; clear hres
    have hb1 : ((1 : Int) == -1) = false := rfl
    have hb2 : ((1 : Int) == 0) = false := rfl
    clear hdef hc1 hc2
    go_enter_defers Tryz.func99, Tryz.ntmps99
    go_wp2_with (first | (go_at_call 114; refine HS.out.mono ?_; intro e w1 h; obtain ⟨h1, h2⟩ := h; subst h1; subst h2) | (go_at_call 78; refine (getBint_any _).mono ?_; intro e w1 h; obtain ⟨t, he1, ht, htn, hc1⟩ := h; subst he1; have HT := hid ht; clear ht) | (go_at_call 91; refine (HPW.out _ hc1).mono ?_; intro e w2 h; obtain ⟨y, he2, hv⟩ := h; subst he2; have hq2 := HQ.out _ _ t y HT.out htn hc1 hv; have HQ2 := hid hq2; clear hv hq2) | (go_at_call 115; refine HQ2.out.mono ?_; intro e w3 h; obtain ⟨he3, hr3⟩ := h; subst he3; have hdb := rs_step_dbl hr3 hrb; have HD := hid hdb; clear hr3 hdb) | (go_at_call 116; refine HD.out.mono ?_; intro e w4 h; obtain ⟨he4, hr4⟩ := h; subst he4; have hcm := rs_step_cmp hr4; rw [hk] at hcm; have HCM := hid hcm; clear hr4 hcm) | (go_at_call 83; refine HCM.out.mono ?_; intro e w5 h; obtain ⟨he5, hr5⟩ := h; subst he5; have HR5 := hid hr5; clear hr5) | (go_at_call 118; refine (rs_step_odd HR5.out).mono ?_; intro e w6 h; obtain ⟨he6, hw6⟩ := h; subst he6; subst hw6) | (go_at_call 117; refine (rs_step_inc HR5.out hqb).mono ?_; intro e w6 h; obtain ⟨he6, hp6⟩ := h; subst he6; have HH := hid hp6; clear hp6))
    refine leaves_cons (f := 79) (args := #[.pointer (some ⟨t, 0, none⟩)]) (by simp) (by simp [go_sem]) ?_
    refine (putBint_d _ .returning _).mono ?_
    intro e u' w'' h
    obtain ⟨hu1, hu2, hu3⟩ := h
    subst hu1; subst hu2; subst hu3
    exact ⟨_, results_none rfl _ _ _, rs_same HR5.out⟩
def PErr (w : World) (e : Ending) (w' : World) : Prop := (∃ t v, e = .returned (.iface t v)) ∧ Chg (fun _ => False) w w'
theorem errorsNew_any (s : ByteArray) (w : World) : Calls Tryz.prog 54 #[.string s] w (PErr w) := by
 go_enter Tryz.func54, Tryz.ntmps54
 go_wp2_with fail
 go_ret
 exact ⟨⟨_, _, rfl⟩, (Chg.refl _ _).alloc _⟩
theorem overflowError_any (a b c : Int) (w : World) : Calls Tryz.prog 98 #[.int .i64 a, .int .i64 b, .int .i64 c] w (PErr w) := by
 go_enter Tryz.func98, Tryz.ntmps98
 go_wp2_with (go_at_call 54; refine (errorsNew_any _ _).mono ?_; intro e w1 h; obtain ⟨⟨t, v, he⟩, hc⟩ := h; subst he)
 go_ret
 exact ⟨⟨_, _, rfl⟩, hc⟩
def PDecB (w : World) (p : Nat) (bo : Option Nat) (neg : Bool) (o : Option (Nat × Nat)) (e : Ending) (w' : World) : Prop :=
 Chg (fun k => k = p ∨ bo = some k) w w' ∧ match o with
 | some (c, s) => e = .returned (.tuple #[decV (neg && (c : Int) != 0) c s, .nilIface])
 | none => ∃ t v, e = .returned (.tuple #[decV false 0 0, .iface t v])
theorem cell_z {w : World} {p : Nat} {bo : Option Nat} {x : Int} (hp : IntAt w p bo x) {w1 : World} (h : Chg (fun k => k = p ∨ bo = some k) (w.alloc (.cells #[.bool false, .int .i8 0, .int .u64 0] 54)) w1) :
  w1.heap[w.heap.size]? = some (.cells #[.bool false, .int .i8 0, .int .u64 0] 54 (0, 0)) := by
 rw [h.keep w.heap.size (by simp) (by rintro (k | k); (have := hp.lt; omega); (have := hp.blk k; omega))]
 exact heap_alloc_new w _
set_option maxHeartbeats 1000000 in
theorem nfb_none (neg : Bool) (p : Nat) (bo : Option Nat) (c s m : Nat) (w : World) (hp : IntAt w p bo (c : Int)) (he : EnvD w) (hc : digs c ≤ 80) (hs : s ≤ 57) (hm : m ≤ 19) (h1 : 19 + s < digs c + m) :
  Calls Tryz.prog 85 #[.bool neg, .pointer (some ⟨p, 0, none⟩), .int .i64 s, .int .i64 m] w (PDecB w p bo neg none) := by
 have hch : Chg (fun _ => False) w (w.alloc (.cells #[.bool false, .int .i8 0, .int .u64 0] 54)) := (Chg.refl _ w).alloc _
 have hc99 : (c : Int) < 10 ^ 99 := by
  have h1 := digs_le.1 hc
  have h2 : (10 : Nat) ^ 80 ≤ 10 ^ 99 := Nat.pow_le_pow_right (by omega) (by omega)
  have := pow_cast 99
  omega
 have hpr := bint_prec p bo (c : Int) _ (hp.new hch) (he.env.kept hch) hc99
 rw [Int.toNat_natCast] at hpr
 have HW := hid (fun w1 (h : Chg (fun k => k = p ∨ bo = some k) (w.alloc (.cells #[.bool false, .int .i8 0, .int .u64 0] 54)) w1) => cell_z hp h)
 generalize digs c = D at *
 have HP := hid hpr
 have HCH := hid hch
 have hw1 : IntKind.i64.wrap ((D : Int) - (s : Int)) = (D : Int) - (s : Int) := IntWalk.i64_in _ (by omega)
 have hw2 : IntKind.i64.wrap (19 - (m : Int)) = 19 - (m : Int) := IntWalk.i64_in _ (by omega)
 have hgt : 19 - (m : Int) < (D : Int) - (s : Int) := by omega
 clear hpr hch hc99 hp he
 go_enter Tryz.func85, Tryz.ntmps85
 go_wp2_with (first | (go_at_call 97; refine HP.out.mono ?_; intro e w1 h; obtain ⟨he1, hc1⟩ := h; subst he1) | (go_at_call 98; refine (overflowError_any _ _ _ _).mono ?_; intro e w2 h; obtain ⟨⟨t, v, he2⟩, hc2⟩ := h; subst he2; have hcc := hc1.trans hc2 sb_; obtain ⟨k0, k1, k2, f0, f1, f2⟩ := cell3 (HW.out w2 (hcc.mono (fun _ h => h.elim)))))
 refine bodyPost_ret (v := .tuple #[.agg #[.bool false, .int .i8 0, .int .u64 0], .iface t v]) (dec_result rfl _ _ w.heap.size _ _ _ _ 54 rfl rfl (store3 (HW.out w2 (hcc.mono (fun _ h => h.elim))) _ _ _)) rfl ⟨(chg3 (HCH.out.trans hcc sb_) (Nat.le_refl _) _ _ _).mono (fun _ h => h.elim), t, v, rfl⟩
theorem EnvD.int {w w' : World} {p : Nat} {bo : Option Nat} {x : Int} (h : EnvD w) (hp : IntAt w p bo x) (hc : Chg (fun k => k = p ∨ bo = some k) w w') : EnvD w' := by
 refine ⟨h.env.int hp hc, ?_⟩
 obtain ⟨t, v, e⟩ := h.ovf
 refine ⟨t, v, cell_kept e hc ?_⟩
 rintro (k | k)
 ·have k' : 2 = p := k
  subst k'
  obtain ⟨_, _, c0, _⟩ := hp.fld
  rw [c0] at e; cases e
 ·subst k
  obtain ⟨_, _, ds, _, _, ⟨sp, _, hr, h1, _⟩, _⟩ := hp
  have := hr.cell (i := 0) (by simp; omega)
  rw [e] at this; cases this
structure Mid (w0 w2 : World) (p : Nat) (bo : Option Nat) (x : Int) : Prop where
 int : ∃ b2, IntAt w2 p b2 x ∧ (b2 = bo ∨ ∃ b, b2 = some b ∧ w0.heap.size ≤ b)
 env : EnvD w2
 chg : Chg (fun k => k = p ∨ bo = some k) w0 w2
theorem Mid.same {w0 w2 w3 : World} {p : Nat} {bo : Option Nat} {x : Int} (h : Mid w0 w2 p bo x) (hc : Chg (fun _ => False) w2 w3) : Mid w0 w3 p bo x := by
 obtain ⟨b2, h1, h2⟩ := h.int
 exact ⟨⟨b2, h1.new hc, h2⟩, h.env.kept hc, h.chg.trans hc (fun _ _ h => h.elim)⟩
theorem Mid.step {w0 w2 w3 : World} {p : Nat} {bo b2 : Option Nat} {x y : Int} {r : Value} {e : Ending} (h : Mid w0 w2 p bo x) (h1 : IntAt w2 p b2 x) (k : PInt w2 p b2 y r e w3) : Mid w0 w3 p bo y := by
 obtain ⟨b2', h1', h2⟩ := h.int
 obtain rfl := h1.uniq h1'
 obtain ⟨_, bn, k1, k2, k3⟩ := k
 have hs := h.chg.size
 refine ⟨⟨bn, k1, ?_⟩, h.env.int h1 k3, h.chg.trans k3 (fun i hi hh => ?_)⟩
 ·rcases k2 with e | ⟨c, e, hc⟩
  ·rw [e]; exact h2
  ·exact .inr ⟨c, e, by omega⟩
 ·rcases hh with hh | hh
  ·exact .inl hh
  ·rcases h2 with e | ⟨c, e, hc⟩
   ·exact .inr (e ▸ hh)
   ·rw [hh] at e; simp only [Option.some.injEq] at e; omega
theorem mid_prec {w0 w2 : World} {p : Nat} {bo : Option Nat} {c : Nat} (h : Mid w0 w2 p bo (c : Int)) (hc : digs c ≤ 80) :
  Calls Tryz.prog 97 #[.pointer (some ⟨p, 0, none⟩)] w2 (fun e w3 => e = .returned (.int .i64 (digs c)) ∧ Mid w0 w3 p bo (c : Int)) := by
 obtain ⟨b2, h1, _⟩ := h.int
 have hc99 : (c : Int) < 10 ^ 99 := by
  have h1 := digs_le.1 hc
  have h2 : (10 : Nat) ^ 80 ≤ 10 ^ 99 := Nat.pow_le_pow_right (by omega) (by omega)
  have := pow_cast 99
  omega
 have hpr := bint_prec p b2 (c : Int) _ h1 h.env.env hc99
 rw [Int.toNat_natCast] at hpr
 exact hpr.mono (fun e w3 k => ⟨k.1, h.same k.2⟩)
theorem mid_hasPrec {w0 w2 : World} {p : Nat} {bo : Option Nat} {x : Int} {b : Bool} (h : Mid w0 w2 p bo x) (hb : decide ((10 : Int) ^ 19 ≤ x) = b) :
  Calls Tryz.prog 100 #[.pointer (some ⟨p, 0, none⟩), .int .i64 20] w2 (fun e w3 => e = .returned (.bool b) ∧ Mid w0 w3 p bo x) := by
 obtain ⟨b2, h1, _⟩ := h.int
 subst hb
 exact (bint_hasPrec p b2 x w2 h1 h.env.env).mono (fun e w3 k => ⟨k.1, h.same k.2⟩)
theorem mid_fint {w0 w2 : World} {p : Nat} {bo : Option Nat} {x : Int} (h : Mid w0 w2 p bo x) (hx : Wd x) :
  Calls Tryz.prog 101 #[.pointer (some ⟨p, 0, none⟩)] w2 (fun e w3 => e = .returned (.int .u64 x) ∧ w2 = w3) := by
 obtain ⟨b2, h1, _⟩ := h.int
 exact bint_fint p b2 x w2 h1 hx
theorem digs_bp {c : Nat} (hc : digs c ≤ 80) : (c : Int) < BP 30 := by
 have h1 := digs_le.1 hc
 have h2 := pow_cast 80
 have := p10_bd (k := 80) (by omega)
 omega
theorem mid_lsh {w0 w2 : World} {p : Nat} {bo : Option Nat} {c k : Nat} (h : Mid w0 w2 p bo (c : Int)) (hc : digs c ≤ 80) (hk : k ≤ 99) :
  Calls Tryz.prog 81 #[.pointer (some ⟨p, 0, none⟩), .pointer (some ⟨p, 0, none⟩), .int .i64 k] w2 (fun e w3 => e = .returned (.tuple #[]) ∧ Mid w0 w3 p bo ((c * 10 ^ k : Nat) : Int)) := by
 obtain ⟨b2, h1, _⟩ := h.int
 have e : ((c * 10 ^ k : Nat) : Int) = (c : Int) * 10 ^ k := by rw [Int.natCast_mul, pow_cast]
 rw [e]
 exact (bint_lsh_same p b2 (c : Int) k w2 h1 h.env.env (digs_bp hc) hk).mono (fun e w3 q => ⟨q.1, h.step h1 q⟩)
theorem mid_rsh {w0 w2 : World} {p : Nat} {bo : Option Nat} {c k : Nat} (h : Mid w0 w2 p bo (c : Int)) (hc : digs c ≤ 80) (hk1 : 1 ≤ k) (hk : k ≤ 57) :
  Calls Tryz.prog 99 #[.pointer (some ⟨p, 0, none⟩), .pointer (some ⟨p, 0, none⟩), .int .i64 k] w2 (fun e w3 => e = .returned (.tuple #[]) ∧ Mid w0 w3 p bo ((rhe c (10 ^ k) : Nat) : Int)) := by
 obtain ⟨b2, h1, _⟩ := h.int
 rw [← rheI_nat, pow_cast]
 exact (bint_rshHalfEven p k b2 (c : Int) w2 h1 h.env.env (digs_bp hc) hk1 hk).mono (fun e w3 q => ⟨q.1, h.step h1 q⟩)
theorem mid_start {w : World} {p : Nat} {bo : Option Nat} {x : Int} (hp : IntAt w p bo x) (he : EnvD w) :
  Mid (w.alloc (.cells #[.bool false, .int .i8 0, .int .u64 0] 54)) (w.alloc (.cells #[.bool false, .int .i8 0, .int .u64 0] 54)) p bo x := by
 have hch : Chg (fun _ => False) w (w.alloc (.cells #[.bool false, .int .i8 0, .int .u64 0] 54)) := (Chg.refl _ w).alloc _
 exact ⟨⟨bo, hp.new hch, .inl rfl⟩, he.kept hch, Chg.refl _ _⟩
theorem mid_end {w w2 : World} {p : Nat} {bo : Option Nat} {x : Int} {neg nb : Bool} {c1 t : Nat} (hp : IntAt w p bo x) (hnb : (neg && (c1 : Int) != 0) = nb)
  (h : Chg (fun k => k = p ∨ bo = some k) (w.alloc (.cells #[.bool false, .int .i8 0, .int .u64 0] 54)) w2) :
  PDecB w p bo neg (some (c1, t)) (.returned (.tuple #[.agg #[.bool nb, .int .i8 t, .int .u64 c1], .nilIface])) (((w2.setCell ⟨w.heap.size, 0, none⟩ (.bool nb)).setCell ⟨w.heap.size, 1, none⟩ (.int .i8 t)).setCell ⟨w.heap.size, 2, none⟩ (.int .u64 c1)) := by
 have hch : Chg (fun k => k = p ∨ bo = some k) w (w.alloc (.cells #[.bool false, .int .i8 0, .int .u64 0] 54)) := (Chg.refl _ w).alloc _
 have h2 := hch.trans h sb_
 refine ⟨Chg.setCell (p := ⟨w.heap.size, 2, none⟩) (Chg.setCell (p := ⟨w.heap.size, 1, none⟩) (Chg.setCell (p := ⟨w.heap.size, 0, none⟩) h2 (fun h => by simp only at h; omega) _) (fun h => by simp only at h; omega) _) (fun h => by simp only at h; omega) _, ?_⟩
 show _ = Ending.returned (.tuple #[decV (neg && (c1 : Int) != 0) c1 t, .nilIface])
 rw [hnb]; rfl
set_option maxHeartbeats 1000000 in
theorem nfb_exact1 (neg : Bool) (p : Nat) (bo : Option Nat) (c s m : Nat) (w : World) (hp : IntAt w p bo (c : Int)) (he : EnvD w) (hc : digs c ≤ 80) (hs : s ≤ 57) (hm : m ≤ 19) (h1 : ¬ 19 + s < digs c + m)(ha : ¬ s < m) (hb : s ≤ 19) (hd : digs c ≤ 19) (hds : digs c ≤ s) (hlt : c < 10 ^ 19) :
    Calls Tryz.prog 85 #[.bool neg, .pointer (some ⟨p, 0, none⟩), .int .i64 s, .int .i64 m] w (PDecB w p bo neg (some (c, s))) := by
  have hpr := mid_prec (mid_start hp he) hc
  have HPR := hid hpr
  have HW := hid (fun w1 (h : Chg (fun k => k = p ∨ bo = some k) (w.alloc (.cells #[.bool false, .int .i8 0, .int .u64 0] 54)) w1) => cell_z hp h)
  obtain ⟨c1, hc1e⟩ : ∃ c1, c = c1 := ⟨_, rfl⟩
  rw [hc1e] at hlt
  rw [hc1e]
  have hfi : Fi (c1 : Int) := ⟨by omega, by have : (10 : Nat) ^ 19 = 10000000000000000000 := by decide
                                            omega⟩
  have hwd := hfi.wd
  have hb19 : decide ((10 : Int) ^ 19 ≤ (c1 : Int)) = false := decide_eq_false (by have := pow_cast 19; omega)
  obtain ⟨nb, hnb⟩ : ∃ nb, (neg && (c1 : Int) != 0) = nb := ⟨_, rfl⟩
  have hns := fun w => newSafe_flat neg nb (c1 : Int) s hfi (by omega) hnb w
  have HNS := hid hns
  have HEND := hid (fun w2 h => mid_end (w := w) (w2 := w2) (t := s) hp hnb h)
  have hlt1 : ¬ (s : Int) < (m : Int) := by omega
  have hle1 : ¬ (19 : Int) < (s : Int) := by omega
  have hd2 : ¬ (19 : Int) < (digs c : Int) := by omega
  have hd3 : (digs c : Int) ≤ (s : Int) := by omega
  have hd4 : ¬ (s : Int) < (digs c : Int) := by omega
  have hw1 : IntKind.i64.wrap ((digs c : Int) - (s : Int)) = (digs c : Int) - (s : Int) := IntWalk.i64_in _ (by omega)
  have hw2 : IntKind.i64.wrap (19 - (m : Int)) = 19 - (m : Int) := IntWalk.i64_in _ (by omega)
  obtain ⟨A, hA⟩ : ∃ A, (digs c : Int) - (s : Int) = A := ⟨_, rfl⟩
  obtain ⟨B, hB⟩ : ∃ B, 19 - (m : Int) = B := ⟨_, rfl⟩
  have hgt : ¬ B < A := by omega
  replace hw1 : IntKind.i64.wrap ((digs c : Int) - (s : Int)) = A := by rw [hw1, hA]
  replace hw2 : IntKind.i64.wrap (19 - (m : Int)) = B := by rw [hw2, hB]
  clear hA hB
  have HWD := hid hwd
  clear hwd
  have HC1 := hid hc1e
  have HMID := True.intro
  clear hpr hns hp he hlt hfi hc1e h1 ha hb hd hds
  clear hc
  generalize digs c = D at *
  go_enter Tryz.func85, Tryz.ntmps85
  go_wp2_with (first | (go_at_call 97; refine HPR.out.mono ?_; intro e w1 h; obtain ⟨he1, hm1⟩ := h; subst he1; rw [HC1.out] at hm1; have HM1 := hid hm1; clear hm1) | (go_at_call 100; refine (mid_hasPrec HM1.out hb19).mono ?_; intro e w3 h; obtain ⟨he3, hm3⟩ := h; subst he3; have HM3 := hid hm3; clear hm3) | (go_at_call 101; refine (mid_fint HM3.out HWD.out).mono ?_; intro e w4 h; obtain ⟨he4, hw4⟩ := h; subst he4; subst hw4) | (go_at_call 66; refine (HNS.out _).mono ?_; intro e w5 h; obtain ⟨he5, hc5⟩ := h; subst he5; have hcc := HM3.out.chg.trans hc5 (fun _ _ h => h.elim); obtain ⟨k0, k1, k2, f0, f1, f2⟩ := cell3 (HW.out w5 hcc); have HCC := hid hcc; clear hcc))
  refine bodyPost_ret (v := .tuple #[.agg #[.bool nb, .int .i8 s, .int .u64 c1], .nilIface]) (dec_result rfl _ _ w.heap.size _ _ _ _ 54 rfl rfl (store3 (HW.out w5 HCC.out) _ _ _)) rfl (HEND.out _ HCC.out)
set_option maxHeartbeats 1000000 in
theorem nfb_exact2 (neg : Bool) (p : Nat) (bo : Option Nat) (c s m : Nat) (w : World) (hp : IntAt w p bo (c : Int)) (he : EnvD w) (hc : digs c ≤ 80) (hs : s ≤ 57) (hm : m ≤ 19) (h1 : ¬ 19 + s < digs c + m)(ha : ¬ s < m) (hb : s ≤ 19) (hd : digs c ≤ 19) (hds : s < digs c) (hlt : c < 10 ^ 19) :
    Calls Tryz.prog 85 #[.bool neg, .pointer (some ⟨p, 0, none⟩), .int .i64 s, .int .i64 m] w (PDecB w p bo neg (some (c, s))) := by
  have hpr := mid_prec (mid_start hp he) hc
  have HPR := hid hpr
  have HW := hid (fun w1 (h : Chg (fun k => k = p ∨ bo = some k) (w.alloc (.cells #[.bool false, .int .i8 0, .int .u64 0] 54)) w1) => cell_z hp h)
  obtain ⟨c1, hc1e⟩ : ∃ c1, c = c1 := ⟨_, rfl⟩
  rw [hc1e] at hlt
  rw [hc1e]
  have hfi : Fi (c1 : Int) := ⟨by omega, by have : (10 : Nat) ^ 19 = 10000000000000000000 := by decide
                                            omega⟩
  have hwd := hfi.wd
  have hb19 : decide ((10 : Int) ^ 19 ≤ (c1 : Int)) = false := decide_eq_false (by have := pow_cast 19; omega)
  obtain ⟨nb, hnb⟩ : ∃ nb, (neg && (c1 : Int) != 0) = nb := ⟨_, rfl⟩
  have hns := fun w => newSafe_flat neg nb (c1 : Int) s hfi (by omega) hnb w
  have HNS := hid hns
  have HEND := hid (fun w2 h => mid_end (w := w) (w2 := w2) (t := s) hp hnb h)
  have hlt1 : ¬ (s : Int) < (m : Int) := by omega
  have hle1 : ¬ (19 : Int) < (s : Int) := by omega
  have hd2 : ¬ (19 : Int) < (digs c : Int) := by omega
  have hd3 : ¬ (digs c : Int) ≤ (s : Int) := by omega
  have hd4 : (s : Int) < (digs c : Int) := by omega
  have hw1 : IntKind.i64.wrap ((digs c : Int) - (s : Int)) = (digs c : Int) - (s : Int) := IntWalk.i64_in _ (by omega)
  have hw2 : IntKind.i64.wrap (19 - (m : Int)) = 19 - (m : Int) := IntWalk.i64_in _ (by omega)
  obtain ⟨A, hA⟩ : ∃ A, (digs c : Int) - (s : Int) = A := ⟨_, rfl⟩
  obtain ⟨B, hB⟩ : ∃ B, 19 - (m : Int) = B := ⟨_, rfl⟩
  have hgt : ¬ B < A := by omega
  replace hw1 : IntKind.i64.wrap ((digs c : Int) - (s : Int)) = A := by rw [hw1, hA]
  replace hw2 : IntKind.i64.wrap (19 - (m : Int)) = B := by rw [hw2, hB]
  clear hA hB
  have HWD := hid hwd
  clear hwd
  have HC1 := hid hc1e
  have HMID := True.intro
  clear hpr hns hp he hlt hfi hc1e h1 ha hb hd hds
  clear hc
  generalize digs c = D at *
  go_enter Tryz.func85, Tryz.ntmps85
  go_wp2_with (first | (go_at_call 97; refine HPR.out.mono ?_; intro e w1 h; obtain ⟨he1, hm1⟩ := h; subst he1; rw [HC1.out] at hm1; have HM1 := hid hm1; clear hm1) | (go_at_call 100; refine (mid_hasPrec HM1.out hb19).mono ?_; intro e w3 h; obtain ⟨he3, hm3⟩ := h; subst he3; have HM3 := hid hm3; clear hm3) | (go_at_call 101; refine (mid_fint HM3.out HWD.out).mono ?_; intro e w4 h; obtain ⟨he4, hw4⟩ := h; subst he4; subst hw4) | (go_at_call 66; refine (HNS.out _).mono ?_; intro e w5 h; obtain ⟨he5, hc5⟩ := h; subst he5; have hcc := HM3.out.chg.trans hc5 (fun _ _ h => h.elim); obtain ⟨k0, k1, k2, f0, f1, f2⟩ := cell3 (HW.out w5 hcc); have HCC := hid hcc; clear hcc))
  refine bodyPost_ret (v := .tuple #[.agg #[.bool nb, .int .i8 s, .int .u64 c1], .nilIface]) (dec_result rfl _ _ w.heap.size _ _ _ _ 54 rfl rfl (store3 (HW.out w5 HCC.out) _ _ _)) rfl (HEND.out _ HCC.out)
set_option maxHeartbeats 1000000 in
theorem nfb_lsh (neg : Bool) (p : Nat) (bo : Option Nat) (c s m : Nat) (w : World) (hp : IntAt w p bo (c : Int)) (he : EnvD w) (hc : digs c ≤ 80) (hs : s ≤ 57) (hm : m ≤ 19) (h1 : ¬ 19 + s < digs c + m)(ha : s < m) (hlt : (c * 10 ^ (m - s)) < 10 ^ 19) :
    Calls Tryz.prog 85 #[.bool neg, .pointer (some ⟨p, 0, none⟩), .int .i64 s, .int .i64 m] w (PDecB w p bo neg (some ((c * 10 ^ (m - s)), m))) := by
  have hpr := mid_prec (mid_start hp he) hc
  have HPR := hid hpr
  have HW := hid (fun w1 (h : Chg (fun k => k = p ∨ bo = some k) (w.alloc (.cells #[.bool false, .int .i8 0, .int .u64 0] 54)) w1) => cell_z hp h)
  obtain ⟨c1, hc1e⟩ : ∃ c1, (c * 10 ^ (m - s)) = c1 := ⟨_, rfl⟩
  rw [hc1e] at hlt
  rw [hc1e]
  have hfi : Fi (c1 : Int) := ⟨by omega, by have : (10 : Nat) ^ 19 = 10000000000000000000 := by decide
                                            omega⟩
  have hwd := hfi.wd
  have hb19 : decide ((10 : Int) ^ 19 ≤ (c1 : Int)) = false := decide_eq_false (by have := pow_cast 19; omega)
  obtain ⟨nb, hnb⟩ : ∃ nb, (neg && (c1 : Int) != 0) = nb := ⟨_, rfl⟩
  have hns := fun w => newSafe_flat neg nb (c1 : Int) m hfi (by omega) hnb w
  have HNS := hid hns
  have HEND := hid (fun w2 h => mid_end (w := w) (w2 := w2) (t := m) hp hnb h)
  have hlt1 : (s : Int) < (m : Int) := by omega
  have hsub : IntKind.i64.wrap ((m : Int) - (s : Int)) = ((m - s : Nat) : Int) := by rw [show (m : Int) - (s : Int) = ((m - s : Nat) : Int) by omega]; exact IntWalk.i64_in _ (by omega)
  have hw1 : IntKind.i64.wrap ((digs c : Int) - (s : Int)) = (digs c : Int) - (s : Int) := IntWalk.i64_in _ (by omega)
  have hw2 : IntKind.i64.wrap (19 - (m : Int)) = 19 - (m : Int) := IntWalk.i64_in _ (by omega)
  obtain ⟨A, hA⟩ : ∃ A, (digs c : Int) - (s : Int) = A := ⟨_, rfl⟩
  obtain ⟨B, hB⟩ : ∃ B, 19 - (m : Int) = B := ⟨_, rfl⟩
  have hgt : ¬ B < A := by omega
  replace hw1 : IntKind.i64.wrap ((digs c : Int) - (s : Int)) = A := by rw [hw1, hA]
  replace hw2 : IntKind.i64.wrap (19 - (m : Int)) = B := by rw [hw2, hB]
  clear hA hB
  have HWD := hid hwd
  clear hwd
  have HC1 := hid hc1e
  have HMID := hid (fun w2 (h : Mid (w.alloc (.cells #[.bool false, .int .i8 0, .int .u64 0] 54)) w2 p bo (c : Int)) => mid_lsh (k := m - s) h hc (by omega))
  clear hpr hns hp he hlt hfi hc1e h1 ha
  clear hc
  generalize m - s = d at *
  generalize digs c = D at *
  go_enter Tryz.func85, Tryz.ntmps85
  go_wp2_with (first | (go_at_call 97; refine HPR.out.mono ?_; intro e w1 h; obtain ⟨he1, hm1⟩ := h; subst he1; have HM1 := hid hm1; clear hm1) | (go_at_call 81; refine (HMID.out _ HM1.out).mono ?_; intro e w2 h; obtain ⟨he2, hm2⟩ := h; subst he2; rw [HC1.out] at hm2; have HM2 := hid hm2; clear hm2) | (go_at_call 100; refine (mid_hasPrec HM2.out hb19).mono ?_; intro e w3 h; obtain ⟨he3, hm3⟩ := h; subst he3; have HM3 := hid hm3; clear hm3) | (go_at_call 101; refine (mid_fint HM3.out HWD.out).mono ?_; intro e w4 h; obtain ⟨he4, hw4⟩ := h; subst he4; subst hw4) | (go_at_call 66; refine (HNS.out _).mono ?_; intro e w5 h; obtain ⟨he5, hc5⟩ := h; subst he5; have hcc := HM3.out.chg.trans hc5 (fun _ _ h => h.elim); obtain ⟨k0, k1, k2, f0, f1, f2⟩ := cell3 (HW.out w5 hcc); have HCC := hid hcc; clear hcc))
  refine bodyPost_ret (v := .tuple #[.agg #[.bool nb, .int .i8 (m : Nat), .int .u64 c1], .nilIface]) (dec_result rfl _ _ w.heap.size _ _ _ _ 54 rfl rfl (store3 (HW.out w5 HCC.out) _ _ _)) rfl (HEND.out _ HCC.out)
set_option maxHeartbeats 1000000 in
theorem nfb_rsh (neg : Bool) (p : Nat) (bo : Option Nat) (c s m : Nat) (w : World) (hp : IntAt w p bo (c : Int)) (he : EnvD w) (hc : digs c ≤ 80) (hs : s ≤ 57) (hm : m ≤ 19) (h1 : ¬ 19 + s < digs c + m)(ha : ¬ s < m) (hb : digs c ≤ s ∧ 19 < s) (hlt : (rhe c (10 ^ (s - 19))) < 10 ^ 19) :
    Calls Tryz.prog 85 #[.bool neg, .pointer (some ⟨p, 0, none⟩), .int .i64 s, .int .i64 m] w (PDecB w p bo neg (some ((rhe c (10 ^ (s - 19))), 19))) := by
  have hpr := mid_prec (mid_start hp he) hc
  have HPR := hid hpr
  have HW := hid (fun w1 (h : Chg (fun k => k = p ∨ bo = some k) (w.alloc (.cells #[.bool false, .int .i8 0, .int .u64 0] 54)) w1) => cell_z hp h)
  obtain ⟨c1, hc1e⟩ : ∃ c1, (rhe c (10 ^ (s - 19))) = c1 := ⟨_, rfl⟩
  rw [hc1e] at hlt
  rw [hc1e]
  have hfi : Fi (c1 : Int) := ⟨by omega, by have : (10 : Nat) ^ 19 = 10000000000000000000 := by decide
                                            omega⟩
  have hwd := hfi.wd
  have hb19 : decide ((10 : Int) ^ 19 ≤ (c1 : Int)) = false := decide_eq_false (by have := pow_cast 19; omega)
  obtain ⟨nb, hnb⟩ : ∃ nb, (neg && (c1 : Int) != 0) = nb := ⟨_, rfl⟩
  have hns := fun w => newSafe_flat neg nb (c1 : Int) 19 hfi (by omega) hnb w
  have HNS := hid hns
  have HEND := hid (fun w2 h => mid_end (w := w) (w2 := w2) (t := 19) hp hnb h)
  have hlt1 : ¬ (s : Int) < (m : Int) := by omega
  have hd3 : (digs c : Int) ≤ (s : Int) := by omega
  have hd5 : (19 : Int) < (s : Int) := by omega
  have hsub : IntKind.i64.wrap ((s : Int) - 19) = ((s - 19 : Nat) : Int) := by rw [show (s : Int) - 19 = ((s - 19 : Nat) : Int) by omega]; exact IntWalk.i64_in _ (by omega)
  have hw1 : IntKind.i64.wrap ((digs c : Int) - (s : Int)) = (digs c : Int) - (s : Int) := IntWalk.i64_in _ (by omega)
  have hw2 : IntKind.i64.wrap (19 - (m : Int)) = 19 - (m : Int) := IntWalk.i64_in _ (by omega)
  obtain ⟨A, hA⟩ : ∃ A, (digs c : Int) - (s : Int) = A := ⟨_, rfl⟩
  obtain ⟨B, hB⟩ : ∃ B, 19 - (m : Int) = B := ⟨_, rfl⟩
  have hgt : ¬ B < A := by omega
  replace hw1 : IntKind.i64.wrap ((digs c : Int) - (s : Int)) = A := by rw [hw1, hA]
  replace hw2 : IntKind.i64.wrap (19 - (m : Int)) = B := by rw [hw2, hB]
  clear hA hB
  have HWD := hid hwd
  clear hwd
  have HC1 := hid hc1e
  have HMID := hid (fun w2 (h : Mid (w.alloc (.cells #[.bool false, .int .i8 0, .int .u64 0] 54)) w2 p bo (c : Int)) => mid_rsh (k := s - 19) h hc (by omega) (by omega))
  clear hpr hns hp he hlt hfi hc1e h1 ha hb
  clear hc
  generalize s - 19 = d at *
  generalize digs c = D at *
  go_enter Tryz.func85, Tryz.ntmps85
  go_wp2_with (first | (go_at_call 97; refine HPR.out.mono ?_; intro e w1 h; obtain ⟨he1, hm1⟩ := h; subst he1; have HM1 := hid hm1; clear hm1) | (go_at_call 99; refine (HMID.out _ HM1.out).mono ?_; intro e w2 h; obtain ⟨he2, hm2⟩ := h; subst he2; rw [HC1.out] at hm2; have HM2 := hid hm2; clear hm2) | (go_at_call 100; refine (mid_hasPrec HM2.out hb19).mono ?_; intro e w3 h; obtain ⟨he3, hm3⟩ := h; subst he3; have HM3 := hid hm3; clear hm3) | (go_at_call 101; refine (mid_fint HM3.out HWD.out).mono ?_; intro e w4 h; obtain ⟨he4, hw4⟩ := h; subst he4; subst hw4) | (go_at_call 66; refine (HNS.out _).mono ?_; intro e w5 h; obtain ⟨he5, hc5⟩ := h; subst he5; have hcc := HM3.out.chg.trans hc5 (fun _ _ h => h.elim); obtain ⟨k0, k1, k2, f0, f1, f2⟩ := cell3 (HW.out w5 hcc); have HCC := hid hcc; clear hcc))
  refine bodyPost_ret (v := .tuple #[.agg #[.bool nb, .int .i8 (19 : Nat), .int .u64 c1], .nilIface]) (dec_result rfl _ _ w.heap.size _ _ _ _ 54 rfl rfl (store3 (HW.out w5 HCC.out) _ _ _)) rfl (HEND.out _ HCC.out)
set_option maxHeartbeats 1000000 in
theorem nfb_cut (neg : Bool) (p : Nat) (bo : Option Nat) (c s m : Nat) (w : World) (hp : IntAt w p bo (c : Int)) (he : EnvD w) (hc : digs c ≤ 80) (hs : s ≤ 57) (hm : m ≤ 19) (h1 : ¬ 19 + s < digs c + m)(ha : ¬ s < m) (hb : s < digs c ∧ 19 < digs c) (hlt : (rhe c (10 ^ (digs c - 19))) < 10 ^ 19) :
    Calls Tryz.prog 85 #[.bool neg, .pointer (some ⟨p, 0, none⟩), .int .i64 s, .int .i64 m] w (PDecB w p bo neg (some ((rhe c (10 ^ (digs c - 19))), (19 + s - digs c)))) := by
  have hpr := mid_prec (mid_start hp he) hc
  have HPR := hid hpr
  have HW := hid (fun w1 (h : Chg (fun k => k = p ∨ bo = some k) (w.alloc (.cells #[.bool false, .int .i8 0, .int .u64 0] 54)) w1) => cell_z hp h)
  obtain ⟨c1, hc1e⟩ : ∃ c1, (rhe c (10 ^ (digs c - 19))) = c1 := ⟨_, rfl⟩
  obtain ⟨tt, hte⟩ : ∃ tt, (19 + s - digs c) = tt := ⟨_, rfl⟩
  rw [hc1e] at hlt
  rw [hc1e, hte]
  have hfi : Fi (c1 : Int) := ⟨by omega, by have : (10 : Nat) ^ 19 = 10000000000000000000 := by decide
                                            omega⟩
  have hwd := hfi.wd
  have hb19 : decide ((10 : Int) ^ 19 ≤ (c1 : Int)) = false := decide_eq_false (by have := pow_cast 19; omega)
  obtain ⟨nb, hnb⟩ : ∃ nb, (neg && (c1 : Int) != 0) = nb := ⟨_, rfl⟩
  have hns := fun w => newSafe_flat neg nb (c1 : Int) tt hfi (by omega) hnb w
  have HNS := hid hns
  have HEND := hid (fun w2 h => mid_end (w := w) (w2 := w2) (t := tt) hp hnb h)
  have hlt1 : ¬ (s : Int) < (m : Int) := by omega
  have hd3 : ¬ (digs c : Int) ≤ (s : Int) := by omega
  have hd4 : (s : Int) < (digs c : Int) := by omega
  have hd5 : (19 : Int) < (digs c : Int) := by omega
  have hsub : IntKind.i64.wrap ((digs c : Int) - 19) = ((digs c - 19 : Nat) : Int) := by rw [show (digs c : Int) - 19 = ((digs c - 19 : Nat) : Int) by omega]; exact IntWalk.i64_in _ (by omega)
  have hw5 : IntKind.i64.wrap (19 - (digs c : Int)) = 19 - (digs c : Int) := IntWalk.i64_in _ (by omega)
  have hw6 : IntKind.i64.wrap (19 - (digs c : Int) + (s : Int)) = (tt : Int) := by rw [show 19 - (digs c : Int) + (s : Int) = (tt : Int) by omega]; exact IntWalk.i64_in _ (by omega)
  have hw1 : IntKind.i64.wrap ((digs c : Int) - (s : Int)) = (digs c : Int) - (s : Int) := IntWalk.i64_in _ (by omega)
  have hw2 : IntKind.i64.wrap (19 - (m : Int)) = 19 - (m : Int) := IntWalk.i64_in _ (by omega)
  obtain ⟨A, hA⟩ : ∃ A, (digs c : Int) - (s : Int) = A := ⟨_, rfl⟩
  obtain ⟨B, hB⟩ : ∃ B, 19 - (m : Int) = B := ⟨_, rfl⟩
  have hgt : ¬ B < A := by omega
  replace hw1 : IntKind.i64.wrap ((digs c : Int) - (s : Int)) = A := by rw [hw1, hA]
  replace hw2 : IntKind.i64.wrap (19 - (m : Int)) = B := by rw [hw2, hB]
  clear hA hB
  have HWD := hid hwd
  clear hwd
  have HC1 := hid hc1e
  have HMID := hid (fun w2 (h : Mid (w.alloc (.cells #[.bool false, .int .i8 0, .int .u64 0] 54)) w2 p bo (c : Int)) => mid_rsh (k := digs c - 19) h hc (by omega) (by omega))
  clear hpr hns hp he hlt hfi hc1e h1 ha hb hte
  clear hc
  generalize digs c - 19 = d at *
  generalize digs c = D at *
  go_enter Tryz.func85, Tryz.ntmps85
  go_wp2_with (first | (go_at_call 97; refine HPR.out.mono ?_; intro e w1 h; obtain ⟨he1, hm1⟩ := h; subst he1; have HM1 := hid hm1; clear hm1) | (go_at_call 99; refine (HMID.out _ HM1.out).mono ?_; intro e w2 h; obtain ⟨he2, hm2⟩ := h; subst he2; rw [HC1.out] at hm2; have HM2 := hid hm2; clear hm2) | (go_at_call 100; refine (mid_hasPrec HM2.out hb19).mono ?_; intro e w3 h; obtain ⟨he3, hm3⟩ := h; subst he3; have HM3 := hid hm3; clear hm3) | (go_at_call 101; refine (mid_fint HM3.out HWD.out).mono ?_; intro e w4 h; obtain ⟨he4, hw4⟩ := h; subst he4; subst hw4) | (go_at_call 66; refine (HNS.out _).mono ?_; intro e w5 h; obtain ⟨he5, hc5⟩ := h; subst he5; have hcc := HM3.out.chg.trans hc5 (fun _ _ h => h.elim); obtain ⟨k0, k1, k2, f0, f1, f2⟩ := cell3 (HW.out w5 hcc); have HCC := hid hcc; clear hcc))
  refine bodyPost_ret (v := .tuple #[.agg #[.bool nb, .int .i8 tt, .int .u64 c1], .nilIface]) (dec_result rfl _ _ w.heap.size _ _ _ _ 54 rfl rfl (store3 (HW.out w5 HCC.out) _ _ _)) rfl (HEND.out _ HCC.out)
theorem PDecB.flat {w w' : World} {p : Nat} {bo : Option Nat} {neg : Bool} {o : Option (Nat × Nat)} {e : Ending} (h : PDecB w p bo neg o e w') :
  ∃ (nb : Bool) (s8 c64 : Int) (ev : Value), e = .returned (.tuple #[.agg #[.bool nb, .int .i8 s8, .int .u64 c64], ev]) ∧ Chg (fun k => k = p ∨ bo = some k) w w' ∧
   ∀ (w0 w2 : World) (p0 : Nat) (bo0 : Option Nat), Chg (fun k => k = p0 ∨ bo0 = some k) w0 w2 → PDecB w0 p0 bo0 neg o (.returned (.tuple #[.agg #[.bool nb, .int .i8 s8, .int .u64 c64], ev])) w2 := by
 obtain ⟨hc, ho⟩ := h
 cases o with
 | none =>
  obtain ⟨t, v, he⟩ := ho
  exact ⟨false, _, _, _, he, hc, fun w0 w2 p0 bo0 h => ⟨h, t, v, rfl⟩⟩
 | some cs =>
  obtain ⟨c, s⟩ := cs
  exact ⟨_, _, _, _, ho, hc, fun w0 w2 p0 bo0 h => ⟨h, rfl⟩⟩
theorem nfb_top (neg : Bool) (p : Nat) (bo : Option Nat) (t m : Nat) (w : World) (hp : IntAt w p bo (((10 ^ 19 : Nat)) : Int)) (he : EnvD w) (ht : t ≤ 19) (hm : m ≤ t) :
  Calls Tryz.prog 85 #[.bool neg, .pointer (some ⟨p, 0, none⟩), .int .i64 t, .int .i64 m] w (PDecB w p bo neg (if t = m then none else some (10 ^ 18, t - 1))) := by
 have hd : digs (10 ^ 19) = 20 := digs19 pow19
 by_cases e : t = m
 ·rw [if_pos e]
  exact nfb_none neg p bo (10 ^ 19) t m w hp he (by rw [hd]; omega) (by omega) (by omega) (by rw [hd]; omega)
 ·rw [if_neg e]
  have hr : rhe (10 ^ 19) (10 ^ (digs (10 ^ 19) - 19)) = 10 ^ 18 := by rw [hd]; exact rhe19 pow19
  have h := nfb_cut neg p bo (10 ^ 19) t m w hp he (by rw [hd]; omega) (by omega) (by omega) (by rw [hd]; omega) (by omega) (by rw [hd]; omega) (by rw [hr]; exact pow19.lt)
  rw [hr, hd] at h
  rw [show t - 1 = 19 + t - 20 by omega]
  exact h
theorem mid_top {w0 w3 : World} {p : Nat} {bo : Option Nat} {neg : Bool} {c1 t m : Nat} (h : Mid w0 w3 p bo (c1 : Int)) (hc : c1 = 10 ^ 19) (ht : t ≤ 19) (hm : m ≤ t) :
  Calls Tryz.prog 85 #[.bool neg, .pointer (some ⟨p, 0, none⟩), .int .i64 t, .int .i64 m] w3 (fun e w4 => ∃ (nb : Bool) (s8 c64 : Int) (ev : Value), e = .returned (.tuple #[.agg #[.bool nb, .int .i8 s8, .int .u64 c64], ev]) ∧ Chg (fun k => k = p ∨ bo = some k) w0 w4 ∧
   ∀ (wa w2 : World) (p0 : Nat) (bo0 : Option Nat), Chg (fun k => k = p0 ∨ bo0 = some k) wa w2 → PDecB wa p0 bo0 neg (if t = m then none else some (10 ^ 18, t - 1)) (.returned (.tuple #[.agg #[.bool nb, .int .i8 s8, .int .u64 c64], ev])) w2) := by
 obtain ⟨b2, h1, h2⟩ := h.int
 subst hc
 refine (nfb_top neg p b2 t m w3 h1 h.env ht hm).mono (fun e w4 k => ?_)
 obtain ⟨nb, s8, c64, ev, k1, k2, k3⟩ := k.flat
 refine ⟨nb, s8, c64, ev, k1, h.chg.trans k2 (fun i hi hh => ?_), k3⟩
 rcases hh with hh | hh
 ·exact .inl hh
 ·rcases h2 with e | ⟨c, e, hc⟩
  ·exact .inr (e ▸ hh)
  ·rw [hh] at e; simp only [Option.some.injEq] at e; omega
set_option maxHeartbeats 1000000 in
theorem nfb_rsh2 (neg : Bool) (p : Nat) (bo : Option Nat) (c s m : Nat) (w : World) (hp : IntAt w p bo (c : Int)) (he : EnvD w) (hc : digs c ≤ 80) (hs : s ≤ 57) (hm : m ≤ 19) (h1 : ¬ 19 + s < digs c + m) (ha : ¬ s < m) (hb : digs c ≤ s ∧ 19 < s) (hlt : (rhe c (10 ^ (s - 19))) = 10 ^ 19) :
  Calls Tryz.prog 85 #[.bool neg, .pointer (some ⟨p, 0, none⟩), .int .i64 s, .int .i64 m] w (PDecB w p bo neg (if 19 = m then none else some (10 ^ 18, 19 - 1))) := by
 have hpr := mid_prec (mid_start hp he) hc
 have HPR := hid hpr
 have HW := hid (fun w1 (h : Chg (fun k => k = p ∨ bo = some k) (w.alloc (.cells #[.bool false, .int .i8 0, .int .u64 0] 54)) w1) => cell_z hp h)
 obtain ⟨c1, hc1e⟩ : ∃ c1, (rhe c (10 ^ (s - 19))) = c1 := ⟨_, rfl⟩
 rw [hc1e] at hlt
 have hb19 : decide ((10 : Int) ^ 19 ≤ (c1 : Int)) = true := decide_eq_true (by have := pow_cast 19; rw [hlt]; omega)
 have HREC := hid (fun w3 (h : Mid (w.alloc (.cells #[.bool false, .int .i8 0, .int .u64 0] 54)) w3 p bo (c1 : Int)) => mid_top (neg := neg) (t := 19) (m := m) h hlt (by omega) (by omega))
 have HCHG : Hid (∀ w2, Chg (fun k => k = p ∨ bo = some k) (w.alloc (.cells #[.bool false, .int .i8 0, .int .u64 0] 54)) w2 → ∀ (a b d : Value), Chg (fun k => k = p ∨ bo = some k) w (((w2.setCell ⟨w.heap.size, 0, none⟩ a).setCell ⟨w.heap.size, 1, none⟩ b).setCell ⟨w.heap.size, 2, none⟩ d)) := fun w2 h a b d => by
  have hch : Chg (fun k => k = p ∨ bo = some k) w (w.alloc (.cells #[.bool false, .int .i8 0, .int .u64 0] 54)) := (Chg.refl _ w).alloc _
  have h2 := hch.trans h sb_
  exact Chg.setCell (p := ⟨w.heap.size, 2, none⟩) (Chg.setCell (p := ⟨w.heap.size, 1, none⟩) (Chg.setCell (p := ⟨w.heap.size, 0, none⟩) h2 (fun h => by simp only at h; omega) _) (fun h => by simp only at h; omega) _) (fun h => by simp only at h; omega) _
 generalize (if 19 = m then (none : Option (Nat × Nat)) else some (10 ^ 18, 19 - 1)) = oo at *
 have hlt1 : ¬ (s : Int) < (m : Int) := by omega
 have hd3 : (digs c : Int) ≤ (s : Int) := by omega
 have hd5 : (19 : Int) < (s : Int) := by omega
 have hsub : IntKind.i64.wrap ((s : Int) - 19) = ((s - 19 : Nat) : Int) := by rw [show (s : Int) - 19 = ((s - 19 : Nat) : Int) by omega]; exact IntWalk.i64_in _ (by omega)
 have hw1 : IntKind.i64.wrap ((digs c : Int) - (s : Int)) = (digs c : Int) - (s : Int) := IntWalk.i64_in _ (by omega)
 have hw2 : IntKind.i64.wrap (19 - (m : Int)) = 19 - (m : Int) := IntWalk.i64_in _ (by omega)
 obtain ⟨A, hA⟩ : ∃ A, (digs c : Int) - (s : Int) = A := ⟨_, rfl⟩
 obtain ⟨B, hB⟩ : ∃ B, 19 - (m : Int) = B := ⟨_, rfl⟩
 have hgt : ¬ B < A := by omega
 replace hw1 : IntKind.i64.wrap ((digs c : Int) - (s : Int)) = A := by rw [hw1, hA]
 replace hw2 : IntKind.i64.wrap (19 - (m : Int)) = B := by rw [hw2, hB]
 clear hA hB
 have HC1 := hid hc1e
 have HMID := hid (fun w2 (h : Mid (w.alloc (.cells #[.bool false, .int .i8 0, .int .u64 0] 54)) w2 p bo (c : Int)) => mid_rsh (k := s - 19) h hc (by omega) (by omega))
 clear hpr hp he hlt hc1e h1 ha hb
 clear hc
 generalize s - 19 = d at *
 generalize digs c = D at *
 go_enter Tryz.func85, Tryz.ntmps85
 go_wp2_with (first | (go_at_call 97; refine HPR.out.mono ?_; intro e w1 h; obtain ⟨he1, hm1⟩ := h; subst he1; have HM1 := hid hm1; clear hm1) | (go_at_call 99; refine (HMID.out _ HM1.out).mono ?_; intro e w2 h; obtain ⟨he2, hm2⟩ := h; subst he2; rw [HC1.out] at hm2; have HM2 := hid hm2; clear hm2) | (go_at_call 100; refine (mid_hasPrec HM2.out hb19).mono ?_; intro e w3 h; obtain ⟨he3, hm3⟩ := h; subst he3; have hrc := HREC.out w3 hm3; have HRC := hid hrc; clear hm3 hrc) | (go_at_call 85; refine HRC.out.mono ?_; intro e w5 h; obtain ⟨nb, s8, c64, ev, he5, hcc, hfin⟩ := h; subst he5; obtain ⟨k0, k1, k2, f0, f1, f2⟩ := cell3 (HW.out w5 hcc); have HCC := hid hcc; have HFIN := hid hfin; clear hcc hfin))
 refine bodyPost_ret (v := .tuple #[.agg #[.bool nb, .int .i8 s8, .int .u64 c64], ev]) (dec_result rfl _ _ w.heap.size _ _ _ _ 54 rfl rfl (store3 (HW.out w5 HCC.out) _ _ _)) rfl (HFIN.out _ _ _ _ (HCHG.out _ HCC.out _ _ _))
set_option maxHeartbeats 1000000 in
theorem nfb_cut2 (neg : Bool) (p : Nat) (bo : Option Nat) (c s m : Nat) (w : World) (hp : IntAt w p bo (c : Int)) (he : EnvD w) (hc : digs c ≤ 80) (hs : s ≤ 57) (hm : m ≤ 19) (h1 : ¬ 19 + s < digs c + m) (ha : ¬ s < m) (hb : s < digs c ∧ 19 < digs c) (hlt : (rhe c (10 ^ (digs c - 19))) = 10 ^ 19) :
  Calls Tryz.prog 85 #[.bool neg, .pointer (some ⟨p, 0, none⟩), .int .i64 s, .int .i64 m] w (PDecB w p bo neg (if (19 + s - digs c) = m then none else some (10 ^ 18, (19 + s - digs c) - 1))) := by
 have hpr := mid_prec (mid_start hp he) hc
 have HPR := hid hpr
 have HW := hid (fun w1 (h : Chg (fun k => k = p ∨ bo = some k) (w.alloc (.cells #[.bool false, .int .i8 0, .int .u64 0] 54)) w1) => cell_z hp h)
 obtain ⟨c1, hc1e⟩ : ∃ c1, (rhe c (10 ^ (digs c - 19))) = c1 := ⟨_, rfl⟩
 obtain ⟨tt, hte⟩ : ∃ tt, (19 + s - digs c) = tt := ⟨_, rfl⟩
 rw [hc1e] at hlt
 rw [hte]
 have hb19 : decide ((10 : Int) ^ 19 ≤ (c1 : Int)) = true := decide_eq_true (by have := pow_cast 19; rw [hlt]; omega)
 have HREC := hid (fun w3 (h : Mid (w.alloc (.cells #[.bool false, .int .i8 0, .int .u64 0] 54)) w3 p bo (c1 : Int)) => mid_top (neg := neg) (t := tt) (m := m) h hlt (by omega) (by omega))
 have HCHG : Hid (∀ w2, Chg (fun k => k = p ∨ bo = some k) (w.alloc (.cells #[.bool false, .int .i8 0, .int .u64 0] 54)) w2 → ∀ (a b d : Value), Chg (fun k => k = p ∨ bo = some k) w (((w2.setCell ⟨w.heap.size, 0, none⟩ a).setCell ⟨w.heap.size, 1, none⟩ b).setCell ⟨w.heap.size, 2, none⟩ d)) := fun w2 h a b d => by
  have hch : Chg (fun k => k = p ∨ bo = some k) w (w.alloc (.cells #[.bool false, .int .i8 0, .int .u64 0] 54)) := (Chg.refl _ w).alloc _
  have h2 := hch.trans h sb_
  exact Chg.setCell (p := ⟨w.heap.size, 2, none⟩) (Chg.setCell (p := ⟨w.heap.size, 1, none⟩) (Chg.setCell (p := ⟨w.heap.size, 0, none⟩) h2 (fun h => by simp only at h; omega) _) (fun h => by simp only at h; omega) _) (fun h => by simp only at h; omega) _
 generalize (if tt = m then (none : Option (Nat × Nat)) else some (10 ^ 18, tt - 1)) = oo at *
 have hlt1 : ¬ (s : Int) < (m : Int) := by omega
 have hd3 : ¬ (digs c : Int) ≤ (s : Int) := by omega
 have hd4 : (s : Int) < (digs c : Int) := by omega
 have hd5 : (19 : Int) < (digs c : Int) := by omega
 have hsub : IntKind.i64.wrap ((digs c : Int) - 19) = ((digs c - 19 : Nat) : Int) := by rw [show (digs c : Int) - 19 = ((digs c - 19 : Nat) : Int) by omega]; exact IntWalk.i64_in _ (by omega)
 have hw5 : IntKind.i64.wrap (19 - (digs c : Int)) = 19 - (digs c : Int) := IntWalk.i64_in _ (by omega)
 have hw6 : IntKind.i64.wrap (19 - (digs c : Int) + (s : Int)) = (tt : Int) := by rw [show 19 - (digs c : Int) + (s : Int) = (tt : Int) by omega]; exact IntWalk.i64_in _ (by omega)
 have hw1 : IntKind.i64.wrap ((digs c : Int) - (s : Int)) = (digs c : Int) - (s : Int) := IntWalk.i64_in _ (by omega)
 have hw2 : IntKind.i64.wrap (19 - (m : Int)) = 19 - (m : Int) := IntWalk.i64_in _ (by omega)
 obtain ⟨A, hA⟩ : ∃ A, (digs c : Int) - (s : Int) = A := ⟨_, rfl⟩
 obtain ⟨B, hB⟩ : ∃ B, 19 - (m : Int) = B := ⟨_, rfl⟩
 have hgt : ¬ B < A := by omega
 replace hw1 : IntKind.i64.wrap ((digs c : Int) - (s : Int)) = A := by rw [hw1, hA]
 replace hw2 : IntKind.i64.wrap (19 - (m : Int)) = B := by rw [hw2, hB]
 clear hA hB
 have HC1 := hid hc1e
 have HMID := hid (fun w2 (h : Mid (w.alloc (.cells #[.bool false, .int .i8 0, .int .u64 0] 54)) w2 p bo (c : Int)) => mid_rsh (k := digs c - 19) h hc (by omega) (by omega))
 clear hpr hp he hlt hc1e h1 ha hb hte
 clear hc
 generalize digs c - 19 = d at *
 generalize digs c = D at *
 go_enter Tryz.func85, Tryz.ntmps85
 go_wp2_with (first | (go_at_call 97; refine HPR.out.mono ?_; intro e w1 h; obtain ⟨he1, hm1⟩ := h; subst he1; have HM1 := hid hm1; clear hm1) | (go_at_call 99; refine (HMID.out _ HM1.out).mono ?_; intro e w2 h; obtain ⟨he2, hm2⟩ := h; subst he2; rw [HC1.out] at hm2; have HM2 := hid hm2; clear hm2) | (go_at_call 100; refine (mid_hasPrec HM2.out hb19).mono ?_; intro e w3 h; obtain ⟨he3, hm3⟩ := h; subst he3; have hrc := HREC.out w3 hm3; have HRC := hid hrc; clear hm3 hrc) | (go_at_call 85; refine HRC.out.mono ?_; intro e w5 h; obtain ⟨nb, s8, c64, ev, he5, hcc, hfin⟩ := h; subst he5; obtain ⟨k0, k1, k2, f0, f1, f2⟩ := cell3 (HW.out w5 hcc); have HCC := hid hcc; have HFIN := hid hfin; clear hcc hfin))
 refine bodyPost_ret (v := .tuple #[.agg #[.bool nb, .int .i8 s8, .int .u64 c64], ev]) (dec_result rfl _ _ w.heap.size _ _ _ _ 54 rfl rfl (store3 (HW.out w5 HCC.out) _ _ _)) rfl (HFIN.out _ _ _ _ (HCHG.out _ HCC.out _ _ _))
theorem from19_two (E c s m : Nat) : from19 E 2 c s m = if 19 + s < digs c + m then none else if E ≤ (step19 c s m).1 then from19 E 1 (step19 c s m).1 (step19 c s m).2 m else some (step19 c s m) := by
 conv => lhs; unfold from19
theorem from19_one {E c s m k t : Nat} (h1 : ¬ 19 + s < digs c + m) (hst : step19 c s m = (k, t)) (hk : k < E) : from19 E 2 c s m = some (k, t) := by
 rw [from19_two, if_neg h1, hst, if_neg (by show ¬ E ≤ k; omega)]
theorem from19_again {E F c s m k t : Nat} (hE : Pow19 E F) (h1 : ¬ 19 + s < digs c + m) (hst : step19 c s m = (k, t)) (hk : k = E) (ht : t ≤ 19) (hm : m ≤ t) : from19 E 2 c s m = if t = m then none else some (F, t - 1) := by
 rw [from19_two, if_neg h1, hst, if_pos (by show E ≤ k; omega)]
 show from19 E 1 k t m = _
 rw [hk]
 exact from19_top hE (f := 0) ht hm
theorem newFromBint_any (neg : Bool) (p : Nat) (bo : Option Nat) (c s m : Nat) (w : World) (hp : IntAt w p bo (c : Int)) (he : EnvD w) (hc : digs c ≤ 80) (hs : s ≤ 57) (hm : m ≤ 19) :
  Calls Tryz.prog 85 #[.bool neg, .pointer (some ⟨p, 0, none⟩), .int .i64 s, .int .i64 m] w (PDecB w p bo neg (from19 (10 ^ 19) 2 c s m)) := by
 by_cases h1 : 19 + s < digs c + m
 ·rw [from19_two, if_pos h1]
  exact nfb_none neg p bo c s m w hp he hc hs hm h1
 ·by_cases ha : s < m
  ·have hlt := exact_lt pow19 (c := c) (s := s) (n := m) (by omega) (by omega)
   rw [from19_one (k := c * 10 ^ (m - s)) (t := m) h1 (by unfold step19; rw [if_pos ha]) hlt]
   exact nfb_lsh neg p bo c s m w hp he hc hs hm h1 ha hlt
  ·by_cases hb : digs c ≤ s ∧ 19 < s
   ·have hst : step19 c s m = (rhe c (10 ^ (s - 19)), 19) := by unfold step19; rw [if_neg ha, if_pos hb]
    have hle : rhe c (10 ^ (s - 19)) ≤ 10 ^ 19 := by
     have := rnd_le pow19 (c := c) (s := s) (n := 19) (by omega)
     rwa [rnd_cut (by omega)] at this
    by_cases hlt : rhe c (10 ^ (s - 19)) < 10 ^ 19
    ·rw [from19_one h1 hst hlt]
     exact nfb_rsh neg p bo c s m w hp he hc hs hm h1 ha hb hlt
    ·have heq : rhe c (10 ^ (s - 19)) = 10 ^ 19 := by omega
     rw [from19_again pow19 h1 hst heq (by omega) (by omega)]
     exact nfb_rsh2 neg p bo c s m w hp he hc hs hm h1 ha hb heq
   ·by_cases hd : s < digs c ∧ 19 < digs c
    ·have hst : step19 c s m = (rhe c (10 ^ (digs c - 19)), 19 + s - digs c) := by unfold step19; rw [if_neg ha, if_neg hb, if_pos hd]
     have hle : rhe c (10 ^ (digs c - 19)) ≤ 10 ^ 19 := by
      have := rnd_le pow19 (c := c) (s := s) (n := 19 + s - digs c) (by omega)
      rw [rnd_cut (by omega)] at this
      rwa [show s - (19 + s - digs c) = digs c - 19 by omega] at this
     by_cases hlt : rhe c (10 ^ (digs c - 19)) < 10 ^ 19
     ·rw [from19_one h1 hst hlt]
      exact nfb_cut neg p bo c s m w hp he hc hs hm h1 ha hd hlt
     ·have heq : rhe c (10 ^ (digs c - 19)) = 10 ^ 19 := by omega
      rw [from19_again pow19 h1 hst heq (by omega) (by omega)]
      exact nfb_cut2 neg p bo c s m w hp he hc hs hm h1 ha hd heq
    ·have hlt : c < 10 ^ 19 := digs_le.1 (by omega)
     rw [from19_one (k := c) (t := s) h1 (by unfold step19; rw [if_neg ha, if_neg hb, if_neg hd]) hlt]
     by_cases hds : digs c ≤ s
     ·exact nfb_exact1 neg p bo c s m w hp he hc hs hm h1 ha (by omega) (by omega) hds hlt
     ·exact nfb_exact2 neg p bo c s m w hp he hc hs hm h1 ha (by omega) (by omega) (by omega) hlt
theorem fromFint_from19 {c s m : Nat} (hc : c < 10 ^ 19) (hs : s ≤ 19) (hm : m ≤ 19) {k : Int} {t : Nat} (h : fromFint (c : Int) s m = some (k, t)) : ∃ k' : Nat, k = k' ∧ from19 (10 ^ 19) 2 c s m = some (k', t) := by
 have hd : digs c ≤ 19 := digs_le.2 hc
 unfold fromFint at h
 by_cases ha : s < m
 ·rw [if_pos ha] at h
  have e : (c : Int) * 10 ^ (m - s) = ((c * 10 ^ (m - s) : Nat) : Int) := by rw [Int.natCast_mul, pow_cast]
  rw [e] at h
  by_cases h2 : ((c * 10 ^ (m - s) : Nat) : Int) ≤ 9999999999999999999
  ·rw [if_pos h2] at h
   simp only [Option.some.injEq, Prod.mk.injEq] at h
   obtain ⟨rfl, rfl⟩ := h
   have hlt : c * 10 ^ (m - s) < 10 ^ 19 := by
    have : (10 : Nat) ^ 19 = 10000000000000000000 := by decide
    omega
   refine ⟨_, rfl, from19_one ?_ (by unfold step19; rw [if_pos ha]) hlt⟩
   intro h1
   have h3 := digs_lt.1 (show digs c - 1 < digs c by omega)
   have h4 : 10 ^ (digs c - 1) * 10 ^ (m - s) ≤ c * 10 ^ (m - s) := Nat.mul_le_mul_right _ h3
   rw [← Nat.pow_add] at h4
   have h5 : 10 ^ 19 ≤ 10 ^ (digs c - 1 + (m - s)) := pow_le' (by omega)
   omega
  ·rw [if_neg h2] at h; cases h
 ·rw [if_neg ha] at h
  simp only [Option.some.injEq, Prod.mk.injEq] at h
  obtain ⟨rfl, rfl⟩ := h
  exact ⟨c, rfl, from19_one (by omega) (by unfold step19; rw [if_neg ha, if_neg (by omega), if_neg (by omega)]) hc⟩
end Go.Proofs.YthdkandofddohaaGreatDoor
namespace Go.Proofs.YthdkandofddohaaGreatDoor
open Go.RowKit
set_option linter.unusedVariables false
set_option linter.unusedSimpArgs false
def sumS (n1 : Bool) (a : Nat) (n2 : Bool) (b : Nat) : Bool × Nat := if n1 = n2 then (n1, a + b) else if a < b then (n2, b - a) else (n1, a - b)
theorem digs_add {a b k : Nat} (ha : digs a ≤ k) (hb : digs b ≤ k) {c : Nat} (hc : c ≤ a + b) : digs c ≤ k + 1 := by
 rw [digs_le] at *
 rw [Nat.pow_succ]; omega
theorem digs_mul {a j k : Nat} (ha : digs a ≤ k) : digs (a * 10 ^ j) ≤ k + j := by
 rw [digs_le] at *
 rw [Nat.pow_add]
 exact Nat.mul_lt_mul_of_pos_right ha (pow10_pos j)
def mxp (a b : Nat) : Nat := if a < b then b else a
def addF (dn : Bool) (dc ds : Nat) (en : Bool) (ec es m : Nat) : Option (Int × Nat) :=
 if dc * 10 ^ (mxp ds es - ds) < 10 ^ 19 ∧ ec * 10 ^ (mxp ds es - es) < 10 ^ 19 ∧ (dn = en → dc * 10 ^ (mxp ds es - ds) + ec * 10 ^ (mxp ds es - es) < 10 ^ 19) then
  fromFint ((sumS dn (dc * 10 ^ (mxp ds es - ds)) en (ec * 10 ^ (mxp ds es - es))).2 : Nat) (mxp ds es) m
 else none
def sumD (dn : Bool) (dc ds : Nat) (en : Bool) (ec es : Nat) : Bool × Nat := sumS dn (dc * 10 ^ (mxp ds es - ds)) en (ec * 10 ^ (mxp ds es - es))
theorem addF_from19 {dn en : Bool} {dc ds ec es m : Nat} (hds : ds ≤ 19) (hes : es ≤ 19) (hm : m ≤ 19) {k : Int} {t : Nat} (h : addF dn dc ds en ec es m = some (k, t)) :
  ∃ k' : Nat, k = k' ∧ from19 (10 ^ 19) 2 (sumD dn dc ds en ec es).2 (mxp ds es) m = some (k', t) := by
 unfold addF at h
 split at h
 ·next hh =>
  obtain ⟨h1, h2, h3⟩ := hh
  refine fromFint_from19 ?_ (by unfold mxp; split <;> omega) hm h
  unfold sumD sumS
  split
  ·next e => exact h3 e
  ·split <;> simp only <;> omega
 ·cases h
theorem from19_bd {c s m k t : Nat} (hm : m ≤ 19) (h : from19 (10 ^ 19) 2 c s m = some (k, t)) : t ≤ 19 ∧ k < 10 ^ 19 ∧ m ≤ t := by
 have hr := from19_right pow19 0 c s m hm
 rw [h] at hr
 obtain ⟨h1, h2⟩ := hr
 cases hR : room (10 ^ 19) (rnd c s) 19 with
 | none => exact absurd (h1 hR) (by simp)
 | some R =>
  obtain ⟨h3, h4⟩ := h2 R hR
  by_cases hl : R < m
  ·exact absurd (h3 hl) (by simp)
  ·obtain ⟨k', t', e, a, b, c, _⟩ := h4 (by omega)
   simp only [Option.some.injEq, Prod.mk.injEq] at e
   obtain ⟨rfl, rfl⟩ := e
   exact ⟨b, c, a⟩
end Go.Proofs.YthdkandofddohaaGreatDoor
namespace Go.Proofs.YthdkandofddohaaGreatDoor
open Go.RowKit
set_option linter.unusedVariables false
set_option linter.unusedSimpArgs false
set_option maxRecDepth 20000
theorem WholeAdd_any {w : World} {A B : Option Addr} {n c m d a b : Nat} (n1 n2 sb : Bool) (ha : SN w A n c a) (hb : SN w B m d b) (ha1 : a < tn 1797) (hb1 : b < tn 1797) (hsb : ((sumS n1 a n2 b).1 && (sumS n1 a n2 b).2 != 0) = sb) :
  Calls Tryz.prog 38 #[.agg #[.bool n1, .slice A n c], .agg #[.bool n2, .slice B m d]] w (PWN w sb (sumS n1 a n2 b).2) := by
 unfold sumS at hsb ⊢
 by_cases hs : n1 = n2
 ·rw [if_pos hs] at hsb ⊢
  exact WholeAdd_same n1 n2 sb ha hb ha1 hb1 hs hsb
 ·rw [if_neg hs] at hsb ⊢
  have hs' : (n1 == n2) = false := by simpa using hs
  by_cases hlt : a < b
  ·rw [if_pos hlt] at hsb ⊢
   exact WholeAdd_lt n1 n2 sb ha hb ha1 hb1 hs' hlt hsb
  ·rw [if_neg hlt] at hsb ⊢
   exact WholeAdd_ge n1 n2 sb ha hb ha1 hb1 hs' (by omega) hsb
theorem cmpN_zero (a b : Nat) : cmpN a b = 0 ↔ a = b := by
 unfold cmpN
 by_cases h1 : a < b
 ·rw [if_pos h1]; omega
 ·rw [if_neg h1]
  by_cases h2 : a = b
  ·rw [if_pos h2]; simp [h2]
  ·rw [if_neg h2]; simp [h2]
def PCmp (w : World) (p : Prop) (e : Ending) (w' : World) : Prop := ∃ q : Int, e = .returned (.int .i64 q) ∧ (q = 0 ↔ p) ∧ Chg (fun _ => False) w w'
set_option maxHeartbeats 2000000 in
theorem WholeCmp_any {w : World} {A B : Option Addr} {n c m d a b : Nat} (n1 n2 : Bool) (ha : SN w A n c a) (hb : SN w B m d b) (ha1 : a < tn 1800) (hb1 : b < tn 1800) :
  Calls Tryz.prog 37 #[.agg #[.bool n1, .slice A n c], .agg #[.bool n2, .slice B m d]] w (PCmp w (n1 = n2 ∧ a = b)) := by
 have HCM := hid (fun w1 (h : Chg (fun _ => False) w w1) => NatCmp_any (ha.kept h) (hb.kept h) ha1 hb1)
 have HCN := hid (fun w1 (h : Chg (fun _ => False) w w1) => NatCmp_any (hb.kept h) (ha.kept h) hb1 ha1)
 have h1 := cmpN_zero a b
 have h2 : cmpN b a = 0 ↔ a = b := by rw [cmpN_zero]; exact eq_comm
 generalize cmpN a b = q1 at *
 generalize cmpN b a = q2 at *
 have H1 := hid h1
 have H2 := hid h2
 clear h1 h2 ha hb ha1 hb1
 obtain ⟨HC0, HD, hB0, hB1⟩ := box2 w #[.bool n1, .slice A n c] 32 #[.bool n2, .slice B m d] 32
 have HSS := hid (fun (w1 : World) h => And.intro ((cell2 (kept_heap (w' := w1) h hB0)).1) (And.intro ((cell2 (kept_heap (w' := w1) h hB0)).2.1) (And.intro ((cell2 (kept_heap (w' := w1) h hB1)).1) ((cell2 (kept_heap (w' := w1) h hB1)).2.1))))
 clear hB0 hB1
 obtain ⟨d0, d1, d2, d3⟩ := HSS.out _ (Chg.refl _ _)
 cases n1 <;> cases n2
 ·go_enter Tryz.func37, Tryz.ntmps37
  go_wp2_with (go_at_call 60; refine (HCM.out _ HC0.out).mono ?_; intro e w1 h; obtain ⟨he, hc⟩ := h; subst he)
  go_ret
  exact ⟨_, rfl, by rw [H1.out]; simp, HC0.out.trans hc sb_⟩
 ·go_enter Tryz.func37, Tryz.ntmps37
  go_wp2_with fail
  go_ret
  exact ⟨_, rfl, by simp, HC0.out⟩
 ·go_enter Tryz.func37, Tryz.ntmps37
  go_wp2_with fail
  go_ret
  exact ⟨_, rfl, by simp, HC0.out⟩
 ·go_enter Tryz.func37, Tryz.ntmps37
  go_wp2_with (go_at_call 60; refine (HCN.out _ HC0.out).mono ?_; intro e w1 h; obtain ⟨he, hc⟩ := h; subst he)
  go_ret
  exact ⟨_, rfl, by rw [H2.out]; simp, HC0.out.trans hc sb_⟩
def PFN (w : World) (sb : Bool) (a d : Nat) (e : Ending) (w' : World) : Prop := ∃ (E : Option Addr) (k l : Nat) (G : Option Addr) (i j : Nat), e = .returned (.agg #[.bool sb, .slice E k l, .slice G i j]) ∧ SN w' E k l a ∧ SN w' G i j d ∧ Chg (fun _ => False) w w'
theorem up243 {x k : Nat} (h : x < tn k) (hk : k ≤ 1800) : x < tn 1800 := up_tn h hk
theorem up240 {x k : Nat} (h : x < tn k) (hk : k ≤ 1797) : x < tn 1797 := up_tn h hk
set_option maxHeartbeats 4000000 in
theorem FracAdd_any {w : World} {A B D1 D2 : Option Addr} {n c m d p1 q1 p2 q2 a b x y : Nat} (n1 n2 sb : Bool) (ha : SN w A n c a) (hx : SN w D1 p1 q1 x) (hb : SN w B m d b) (hy : SN w D2 p2 q2 y)
  (ha1 : a < tn 850) (hb1 : b < tn 850) (hx1 : x < tn 850) (hy1 : y < tn 850) (hsb : ((sumS (n1 && a * y != 0) (a * y) (n2 && b * x != 0) (b * x)).1 && (sumS (n1 && a * y != 0) (a * y) (n2 && b * x != 0) (b * x)).2 != 0) = sb) :
  Calls Tryz.prog 16 #[.agg #[.bool n1, .slice A n c, .slice D1 p1 q1], .agg #[.bool n2, .slice B m d, .slice D2 p2 q2]] w (PFN w sb (sumS (n1 && a * y != 0) (a * y) (n2 && b * x != 0) (b * x)).2 (x * y)) := by
 have HM1 := hid (fun w1 s (hs : (n1 && a * y != 0) = s) (h : Chg (fun _ => False) w w1) => WholeMul_any n1 false s (ha.kept h) (hy.kept h) (up240 ha1 (by omega)) (up240 hy1 (by omega)) (by rw [← hs]; cases n1 <;> rfl))
 have HM2 := hid (fun w1 s (hs : (n2 && b * x != 0) = s) (h : Chg (fun _ => False) w w1) => WholeMul_any n2 false s (hb.kept h) (hx.kept h) (up240 hb1 (by omega)) (up240 hx1 (by omega)) (by rw [← hs]; cases n2 <;> rfl))
 have HM3 := hid (fun w1 (h : Chg (fun _ => False) w w1) => NatMul_any (hx.kept h) (hy.kept h) (up243 hx1 (by omega)) (up243 hy1 (by omega)))
 have hP : a * y < tn 1797 := up240 (mul_tn2 ha1 hy1) (by omega)
 have hQ : b * x < tn 1797 := up240 (mul_tn2 hb1 hx1) (by omega)
 obtain ⟨P, hPe⟩ : ∃ P, a * y = P := ⟨_, rfl⟩
 obtain ⟨Q, hQe⟩ : ∃ Q, b * x = Q := ⟨_, rfl⟩
 obtain ⟨R, hRe⟩ : ∃ R, x * y = R := ⟨_, rfl⟩
 rw [hPe] at HM1 hP
 rw [hQe] at HM2 hQ
 rw [hRe] at HM3
 rw [hPe, hQe] at hsb
 rw [hPe, hQe, hRe]
 obtain ⟨s1, hs1⟩ : ∃ s, (n1 && P != 0) = s := ⟨_, rfl⟩
 obtain ⟨s2, hs2⟩ : ∃ s, (n2 && Q != 0) = s := ⟨_, rfl⟩
 rw [hs1, hs2] at hsb
 rw [hs1, hs2]
 have HA := hid (fun (w1 : World) (E : Option Addr) (k l : Nat) (G : Option Addr) (i j : Nat) (h1 : SN w1 E k l P) (h2 : SN w1 G i j Q) => WholeAdd_any s1 s2 sb h1 h2 hP hQ hsb)
 have HS1 := hid hs1
 have HS2 := hid hs2
 generalize (sumS s1 P s2 Q).2 = Z at *
 clear ha hb hx hy ha1 hb1 hx1 hy1 hsb hs1 hs2 hP hQ hPe hQe hRe
 obtain ⟨HC0, HD, hB0, hB1, hB2⟩ := box3 w #[.bool n1, .slice A n c, .slice D1 p1 q1] 34 #[.bool n2, .slice B m d, .slice D2 p2 q2] 34 #[.bool false, .slice none 0 0, .slice none 0 0] 34
 have HZ := hid hB2
 have HSS := hid (fun (w1 : World) h => d3_ (cell3 (kept_heap (w' := w1) h hB0)) (c3_ (cell3 (kept_heap (w' := w1) h hB1))))
 have HST := hid (fun w1 x0 x1 x2 h => And.intro (fr_ (w.heap.size + 1 + 1) x0 x1 x2 (HSS.out w1 h).1) (And.intro (fr_ (w.heap.size + 1 + 1) x0 x1 x2 (HSS.out w1 h).2.1) (And.intro (fr_ (w.heap.size + 1 + 1) x0 x1 x2 (HSS.out w1 h).2.2.1) (And.intro (fr_ (w.heap.size + 1 + 1) x0 x1 x2 (HSS.out w1 h).2.2.2.1) (And.intro (fr_ (w.heap.size + 1 + 1) x0 x1 x2 (HSS.out w1 h).2.2.2.2.1) (fr_ (w.heap.size + 1 + 1) x0 x1 x2 (HSS.out w1 h).2.2.2.2.2))))))
 clear hB0 hB1 hB2
 have hk := HD.out
 go_enter Tryz.func16, Tryz.ntmps16
 go_wp2_with fail
 first | (go_region_held3 (fun w' => w'.cell? ⟨w.heap.size, 0, none⟩ = some (.bool n1) ∧ w'.cell? ⟨w.heap.size, 1, none⟩ = some (.slice A n c) ∧ w'.cell? ⟨w.heap.size, 2, none⟩ = some (.slice D1 p1 q1) ∧ w'.cell? ⟨w.heap.size + 1, 0, none⟩ = some (.bool n2) ∧ w'.cell? ⟨w.heap.size + 1, 1, none⟩ = some (.slice B m d) ∧ w'.cell? ⟨w.heap.size + 1, 2, none⟩ = some (.slice D2 p2 q2)) (first | with_reducible exact HSS.out _ hk | with_reducible exact HST.out _ _ _ _ hk | go_keep) (first | (go_at_call_of 36 (Value.agg #[Value.bool n1, Value.slice A n c]); refine (HM1.out _ s1 HS1.out (HC0.out.trans hk sb_)).mono ?_; intro e w1 h; obtain ⟨E1, k1_, l1_, he, hsn, hc⟩ := h; subst he; replace hk := hk.trans hc sb_; (try replace HN1 := hid (HN1.out.kept hc)); (try replace HN2 := hid (HN2.out.kept hc)); (try replace HN3 := hid (HN3.out.kept hc)); (try replace HN4 := hid (HN4.out.kept hc)); have HN1 := hid hsn; clear hsn; clear hc; obtain ⟨k0, k1, k2, f0, f1, f2⟩ := cell3 (kept_heap hk HZ.out)) | (go_at_call_of 36 (Value.agg #[Value.bool n2, Value.slice B m d]); refine (HM2.out _ s2 HS2.out (HC0.out.trans hk sb_)).mono ?_; intro e w1 h; obtain ⟨E2, k2_, l2_, he, hsn, hc⟩ := h; subst he; replace hk := hk.trans hc sb_; (try replace HN1 := hid (HN1.out.kept hc)); (try replace HN2 := hid (HN2.out.kept hc)); (try replace HN3 := hid (HN3.out.kept hc)); (try replace HN4 := hid (HN4.out.kept hc)); have HN2 := hid hsn; clear hsn; clear hc; obtain ⟨k0, k1, k2, f0, f1, f2⟩ := cell3 (kept_heap hk HZ.out)) | (go_at_call 33; refine (HM3.out _ (HC0.out.trans hk sb_)).mono ?_; intro e w1 h; obtain ⟨E3, k3_, l3_, he, hsn, hc⟩ := h; subst he; replace hk := hk.trans hc sb_; (try replace HN1 := hid (HN1.out.kept hc)); (try replace HN2 := hid (HN2.out.kept hc)); (try replace HN3 := hid (HN3.out.kept hc)); (try replace HN4 := hid (HN4.out.kept hc)); have HN3 := hid hsn; clear hsn; clear hc; obtain ⟨k0, k1, k2, f0, f1, f2⟩ := cell3 (kept_heap hk HZ.out)) | (go_at_call 38; refine (HA.out _ _ _ _ _ _ _ HN1.out HN2.out).mono ?_; intro e w1 h; obtain ⟨E4, k4_, l4_, he, hsn, hc⟩ := h; subst he; replace hk := hk.trans hc sb_; (try replace HN1 := hid (HN1.out.kept hc)); (try replace HN2 := hid (HN2.out.kept hc)); (try replace HN3 := hid (HN3.out.kept hc)); (try replace HN4 := hid (HN4.out.kept hc)); have HN4 := hid hsn; clear hsn; clear hc; obtain ⟨k0, k1, k2, f0, f1, f2⟩ := cell3 (kept_heap hk HZ.out)))) | fail
 all_goals (go_wp2_with fail; refine bodyPost_ret (v := .agg #[.bool sb, .slice E4 k4_ l4_, .slice E3 k3_ l3_]) (by rw [results_cell_row rfl _ _ (w.heap.size + 1 + 1) _ _ _ _ rfl (store3 (kept_heap hk HZ.out) _ _ _) Tryz.underlying34 rfl frac_size]) rfl ⟨E4, k4_, l4_, E3, k3_, l3_, rfl, sn_end3 HN4.out (kept_heap hk HZ.out) (by simp) _ _ _, sn_end3 HN3.out (kept_heap hk HZ.out) (by simp) _ _ _, chg3 (HC0.out.trans hk sb_) (by omega) _ _ _⟩)
end Go.Proofs.YthdkandofddohaaGreatDoor
