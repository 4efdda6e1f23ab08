/- Part 15 of the proof. -/
import Derived.Test.YtbjhnckboimliaaGreatDoorQ14
namespace Go.Proofs.YtbjhnckboimliaaGreatDoor
open Go.RowKit
set_option linter.unusedVariables false
set_option linter.unusedSimpArgs false
set_option maxRecDepth 20000
theorem PInt.after {w w1 w' : World} {p : Nat} {bo : Option Nat} {X : Int} {ret : Value} {e : Ending} (hc : Chg (fun _ => False) w w1) (h : PInt w1 p bo X ret e w') : PInt w p bo X ret e w' := by
 obtain ⟨h1, bo', h2, h3, h4⟩ := h
 refine ⟨h1, bo', h2, ?_, (hc.mono (fun _ h => h.elim)).trans h4 sb_⟩
 rcases h3 with k | ⟨c, k, hk⟩
 ·exact .inl k
 ·exact .inr ⟨c, k, by have := hc.size; omega⟩
theorem PInt.eq {w w' : World} {p : Nat} {bo : Option Nat} {X : Int} {r : Value} {e : Ending} (h : PInt w p bo X r e w') : e = .returned r := h.1
theorem bint_row : (Tryz.prog.info? 259).map (fun i => i.size) = some 2 := by kernel_rfl
noncomputable def bintInfo : TypeInfo := (Tryz.prog.info? 259).get (by have := bint_row; cases h : Tryz.prog.info? 259 with | none => simp [h] at this | some i => rfl)
theorem info_bint : Tryz.prog.info? 259 = some bintInfo := by unfold bintInfo; simp
theorem bint_size : bintInfo.size = 2 := by have := bint_row; rw [info_bint] at this; simpa using this
theorem pbint_eql_same (w : World) (a : Addr) : (binOp .eql 108 (.pointer (some a)) (.pointer (some a))).run Tryz.prog w = .ok (.bool true) w := by
 have h : ∀ d : Nat, (Op.equalIn (d + 1) 108 (.pointer (some a)) (.pointer (some a))).run Tryz.prog w = .ok true w := fun d => by
  simp [Op.equalIn, run_underlying Tryz.underlying108, sizeOf, typeInfo, info_bint, run_sameAddr_same]
 simp only [binOp]
 simp [Op.equal, Op.maxDepth, h 9999]
theorem pbint_eql_other {w : World} {p q : Nat} {bo bq : Option Nat} {x y : Int} (hp : IntAt w p bo x) (hq : IntAt w q bq y) (hne : p ≠ q) :
  (binOp .eql 108 (.pointer (some ⟨p, 0, none⟩)) (.pointer (some ⟨q, 0, none⟩))).run Tryz.prog w = .ok (.bool false) w := by
 obtain ⟨c1, T1, h1⟩ := hp.obj
 obtain ⟨c2, T2, h2⟩ := hq.obj
 have h : ∀ d : Nat, (Op.equalIn (d + 1) 108 (.pointer (some ⟨p, 0, none⟩)) (.pointer (some ⟨q, 0, none⟩))).run Tryz.prog w = .ok false w := fun d => by
  simp [Op.equalIn, run_underlying Tryz.underlying108, sizeOf, typeInfo, info_bint, bint_size, run_sameAddr_other w (a := ⟨p, 0, none⟩) (b := ⟨q, 0, none⟩) (fun e => hne (Addr.mk.inj e).1) h1 h2]
 simp only [binOp]
 simp [Op.equal, Op.maxDepth, h 9999]
def PNew (w : World) (e : Ending) (w' : World) : Prop := ∃ b, e = .returned (.pointer (some ⟨b, 0, none⟩)) ∧ IntAt w' b none 0 ∧ w.heap.size ≤ b ∧ Chg (fun _ => False) w w'
theorem getBint_any (w : World) : Calls Tryz.prog 98 #[] w (PNew w) := by
 go_enter Tryz.func98, Tryz.ntmps98
 go_wp2
 go_ret
 refine ⟨w.heap.size, rfl, ⟨127, .slice none 0 0, [], ?_, by decide, ⟨rfl, rfl⟩, Nrm.nil, rfl⟩, Nat.le_refl _, (Chg.refl _ _).alloc _⟩
 rw [heap_alloc_new]
theorem putBint_d (v : Value) (u : FrameMode) (w : World) : CallsD Tryz.prog 99 #[v] u w (fun e u' w' => u' = u ∧ e = .returned (.tuple #[]) ∧ w' = w) := by
 go_enter_d Tryz.func99, Tryz.ntmps99
 go_wp2
 first | go_end0 | ((try simp only [Exit.inBlock, Exit.then]); refine bodyPost_ret (results_none rfl _ _ _) rfl ?_) | skip
 first | exact ⟨rfl, rfl, rfl⟩ | exact ⟨rfl, rfl⟩ | trivial | simp
theorem bint_setFint (p : Nat) (bo : Option Nat) (x0 x : Int) (w : World) (hp : IntAt w p bo x0) (hx : Wd x) :
  Calls Tryz.prog 100 #[.pointer (some ⟨p, 0, none⟩), .int .u64 x] w (PInt w p bo x (.tuple #[])) := by
 have H := hid (Int_SetUint64 p bo x0 x w hp hx)
 go_enter Tryz.func100, Tryz.ntmps100
 go_wp2_with (go_at_call 121; refine H.out.mono ?_; rintro e w1 ⟨rfl, h⟩; have HH := hid h; clear h)
 go_end0
 exact ⟨rfl, HH.out⟩
theorem bint_add (p q r : Nat) (bo bq br : Option Nat) (x0 x y : Int) (w : World) (hp : IntAt w p bo x0) (hq : IntAt w q bq x) (hr : IntAt w r br y) (hx : x < BP 30) (hy : y < BP 30) :
  Calls Tryz.prog 102 #[.pointer (some ⟨p, 0, none⟩), .pointer (some ⟨q, 0, none⟩), .pointer (some ⟨r, 0, none⟩)] w (PInt w p bo (x + y) (.tuple #[])) := by
 have H := hid (Int_Add p q r bo bq br x0 x y w hp hq hr hx hy)
 go_enter Tryz.func102, Tryz.ntmps102
 go_wp2_with (go_at_call 124; refine H.out.mono ?_; rintro e w1 ⟨rfl, h⟩; have HH := hid h; clear h)
 go_end0
 exact ⟨rfl, HH.out⟩
theorem bint_sub (p q r : Nat) (bo bq br : Option Nat) (x0 x y : Int) (w : World) (hp : IntAt w p bo x0) (hq : IntAt w q bq x) (hr : IntAt w r br y) (hx : x < BP 30) (hy : y ≤ x) :
  Calls Tryz.prog 126 #[.pointer (some ⟨p, 0, none⟩), .pointer (some ⟨q, 0, none⟩), .pointer (some ⟨r, 0, none⟩)] w (PInt w p bo (x - y) (.tuple #[])) := by
 have H := hid (Int_Sub p q r bo bq br x0 x y w hp hq hr hx hy)
 go_enter Tryz.func126, Tryz.ntmps126
 go_wp2_with (go_at_call 147; refine H.out.mono ?_; rintro e w1 ⟨rfl, h⟩; have HH := hid h; clear h)
 go_end0
 exact ⟨rfl, HH.out⟩
theorem bint_setBint (p q : Nat) (bo bq : Option Nat) (x0 x : Int) (w : World) (hp : IntAt w p bo x0) (hq : IntAt w q bq x) (hne : p ≠ q) (hx : x < BP 30) :
  Calls Tryz.prog 131 #[.pointer (some ⟨p, 0, none⟩), .pointer (some ⟨q, 0, none⟩)] w (PInt w p bo x (.tuple #[])) := by
 have H := hid (Int_Set p q bo bq x0 x w hp hq hne hx)
 go_enter Tryz.func131, Tryz.ntmps131
 go_wp2_with (go_at_call 152; refine H.out.mono ?_; rintro e w1 ⟨rfl, h⟩; have HH := hid h; clear h)
 go_end0
 exact ⟨rfl, HH.out⟩
theorem bint_dbl (p q : Nat) (bo bq : Option Nat) (x0 x : Int) (w : World) (hp : IntAt w p bo x0) (hq : IntAt w q bq x) (hx : x < BP 30) :
  Calls Tryz.prog 148 #[.pointer (some ⟨p, 0, none⟩), .pointer (some ⟨q, 0, none⟩)] w (PInt w p bo (x * 2) (.tuple #[])) := by
 have H := hid (Int_Lsh p q 1 bo bq x0 x w hp hq hx (by omega) (by omega))
 go_enter Tryz.func148, Tryz.ntmps148
 go_wp2_with (go_at_call 166; refine H.out.mono ?_; rintro e w1 ⟨rfl, h⟩; have HH := hid h; clear h)
 go_end0
 exact ⟨rfl, HH.out⟩
theorem bint_cmp (q r : Nat) (bq br : Option Nat) (x y : Int) (w : World) (hq : IntAt w q bq x) (hr : IntAt w r br y) (hne : q ≠ r) :
  Calls Tryz.prog 103 #[.pointer (some ⟨q, 0, none⟩), .pointer (some ⟨r, 0, none⟩)] w (fun e w' => e = .returned (.int .i64 (cmpI x y)) ∧ Q w w') := by
 have h := Int_Cmp q r bq br x y w hq hr hne
 generalize cmpI x y = k at *
 have H := hid h
 clear h
 go_enter Tryz.func103, Tryz.ntmps103
 go_wp2_with (go_at_call 125; refine H.out.mono ?_; rintro e w1 ⟨rfl, i, rfl⟩)
 go_ret
 exact ⟨rfl, _, rfl⟩
theorem bint_sign (q : Nat) (bq : Option Nat) (x : Int) (w : World) (hq : IntAt w q bq x) :
  Calls Tryz.prog 133 #[.pointer (some ⟨q, 0, none⟩)] w (fun e w' => e = .returned (.int .i64 (if x = 0 then 0 else 1)) ∧ w = w') := by
 have h := Int_Sign q bq x w hq
 generalize (if x = 0 then (0 : Int) else 1) = k at *
 have H := hid h
 clear h
 go_enter Tryz.func133, Tryz.ntmps133
 go_wp2_with (go_at_call 154; refine H.out.mono ?_; rintro e w1 ⟨rfl, rfl⟩)
 go_ret
 exact ⟨rfl, rfl⟩
theorem bint_fint (q : Nat) (bq : Option Nat) (x : Int) (w : World) (hq : IntAt w q bq x) (hx : Wd x) :
  Calls Tryz.prog 130 #[.pointer (some ⟨q, 0, none⟩)] w (fun e w' => e = .returned (.int .u64 x) ∧ w = w') := by
 have H := hid (Int_Uint64 q bq x w hq hx)
 go_enter Tryz.func130, Tryz.ntmps130
 go_wp2_with (go_at_call 151; refine H.out.mono ?_; rintro e w1 ⟨rfl, rfl⟩)
 go_ret
 exact ⟨rfl, rfl⟩
theorem bint_isOdd (q : Nat) (bq : Option Nat) (x : Int) (w : World) (hq : IntAt w q bq x) :
  Calls Tryz.prog 150 #[.pointer (some ⟨q, 0, none⟩)] w (fun e w' => e = .returned (.bool (x % 2 != 0)) ∧ w = w') := by
 have h := Int_Bit0 q bq x w hq
 have h0 : 0 ≤ x % 2 := by omega
 have h1 : x % 2 < 2 := by omega
 generalize x % 2 = k at *
 have H := hid h
 clear h
 go_enter Tryz.func150, Tryz.ntmps150
 go_wp2_with (go_at_call 167; refine H.out.mono ?_; rintro e w1 ⟨rfl, rfl⟩)
 go_ret
 exact ⟨rfl, rfl⟩
theorem bint_subAbs (p q r : Nat) (bo bq br : Option Nat) (x0 x y : Int) (w : World) (hp : IntAt w p bo x0) (hq : IntAt w q bq x) (hr : IntAt w r br y) (hne : q ≠ r) (hx : x < BP 30) (hy : y < BP 30) :
  Calls Tryz.prog 104 #[.pointer (some ⟨p, 0, none⟩), .pointer (some ⟨q, 0, none⟩), .pointer (some ⟨r, 0, none⟩)] w (PInt w p bo (if y ≤ x then x - y else y - x) (.tuple #[])) := by
 have hcm := bint_cmp q r bq br x y w hq hr hne
 by_cases h : y < x
 ·have hc : cmpI x y = 1 := by unfold cmpI; rw [if_neg (by omega), if_pos h]
  rw [hc] at hcm
  rw [if_pos (by omega)]
  have hs := fun (w1 : World) (k : Alike w w1) => (bint_sub p q r bo bq br x0 x y w1 (hp.alike k) (hq.alike k) (hr.alike k) hx (by omega))
  have HC := hid hcm; have HS := hid hs
  have hb : ((1 : Int) == 1) = true := rfl
  clear hcm hs hc
  go_enter Tryz.func104, Tryz.ntmps104
  go_wp2_with (first | (go_at_call 103; refine HC.out.mono ?_; rintro e w1 ⟨rfl, i, rfl⟩) | (go_at_call 126; refine (HS.out _ (by exact ⟨rfl, rfl, rfl, rfl⟩)).mono ?_; rintro e w2 hh; replace hh := hh.ofQ ⟨i, rfl⟩; obtain ⟨rfl, hh⟩ := hh; have HH := hid hh; clear hh))
  go_end0
  exact ⟨rfl, HH.out⟩
 ·have hk : cmpI x y ≤ 0 := by unfold cmpI; split <;> (try split) <;> omega
  have hE : (if y ≤ x then x - y else y - x) = y - x := by split <;> omega
  rw [hE]
  generalize cmpI x y = k at *
  have hs := fun (w1 : World) (k : Alike w w1) => (bint_sub p r q bo br bq x0 y x w1 (hp.alike k) (hr.alike k) (hq.alike k) hy (by omega))
  have HC := hid hcm; have HS := hid hs
  have hb : (k == 1) = false := beq_eq_false_iff_ne.2 (by omega)
  clear hcm hs hE
  go_enter Tryz.func104, Tryz.ntmps104
  go_wp2_with (first | (go_at_call 103; refine HC.out.mono ?_; rintro e w1 ⟨rfl, i, rfl⟩) | (go_at_call 126; refine (HS.out _ (by exact ⟨rfl, rfl, rfl, rfl⟩)).mono ?_; rintro e w2 hh; replace hh := hh.ofQ ⟨i, rfl⟩; obtain ⟨rfl, hh⟩ := hh; have HH := hid hh; clear hh))
  go_end0
  exact ⟨rfl, HH.out⟩
theorem IntAt.blk {w : World} {p b : Nat} {bo : Option Nat} {x : Int} (h : IntAt w p bo x) (e : bo = some b) : b < w.heap.size := by
 subst e
 obtain ⟨_, _, _, _, _, hn, _⟩ := h
 exact NatAt.lt hn
theorem cell_lt {w : World} {g : Nat} {v : Value} (h : w.cell? ⟨g, 0, none⟩ = some v) : g < w.heap.size := World.block_lt_of_cell? w _ h
set_option maxHeartbeats 2000000 in
theorem bint_mul_same (p r : Nat) (bo br : Option Nat) (x y : Int) (w : World) (hp : IntAt w p bo x) (hr : IntAt w r br y) (hne : p ≠ r) (hx : x < BP 30) (hy : y < BP 30)
  (hkt : w.cell? ⟨6, 0, none⟩ = some (.int .i64 40)) :
  Calls Tryz.prog 109 #[.pointer (some ⟨p, 0, none⟩), .pointer (some ⟨p, 0, none⟩), .pointer (some ⟨r, 0, none⟩)] w (PInt w p bo (x * y) (.tuple #[])) := by
 have hpe := pbint_eql_same w ⟨p, 0, none⟩
 have hpl := hp.lt
 have hgl := cell_lt hkt
 have hnp : bo ≠ some p := fun h => hp.ne hp h rfl
 have hset := fun (w1 : World) (b : Nat) (hb : IntAt w1 b none 0) (hbs : w.heap.size ≤ b) (hc : Chg (fun _ => False) w w1) =>
  bint_setBint b p none bo 0 x w1 hb (hp.kept hc (fun h => h) (fun _ _ h => h)) (by omega) hx
 have hrest : ∀ (w1 w2 : World) (b : Nat), w.heap.size ≤ b → Chg (fun _ => False) w w1 → PInt w1 b none x (.tuple #[]) (.returned (.tuple #[])) w2 →
   (binOp .eql 108 (.pointer (some ⟨p, 0, none⟩)) (.pointer (some ⟨r, 0, none⟩))).run Tryz.prog w2 = .ok (.bool false) w2 ∧
   Calls Tryz.prog 132 #[.pointer (some ⟨p, 0, none⟩), .pointer (some ⟨b, 0, none⟩), .pointer (some ⟨r, 0, none⟩)] w2 (fun e w' => e = .returned (.pointer (some ⟨p, 0, none⟩)) ∧ PInt w p bo (x * y) (.tuple #[]) (.returned (.tuple #[])) w') := by
  intro w1 w2 b hbs hc h
  obtain ⟨_, bb, h2, h3, h4⟩ := h
  have hcc : ∀ k, k < w.heap.size → ¬ (k = b ∨ (none : Option Nat) = some k) := by rintro k hk (h | h); omega; cases h
  have hbk : ∀ b', bo = some b' → ¬ (b' = b ∨ (none : Option Nat) = some b') := fun b' hb' => hcc b' (hp.blk hb')
  have hp2 := (hp.kept hc (fun h => h) (fun _ _ h => h)).kept h4 (hcc p hpl) hbk
  have hr2 := (hr.kept hc (fun h => h) (fun _ _ h => h)).kept h4 (hcc r hr.lt) (fun b' hb' => hcc b' (hr.blk hb'))
  have hk2 := cell_kept (cell_kept hkt hc (fun h => h)) h4 (hcc _ hgl)
  refine ⟨pbint_eql_other hp2 hr2 hne, (Int_Mul p b r bo bb br x x y w2 hp2 h2 hr2 (by have := hr.lt; omega) hx hy hk2).mono (fun e w' k => ⟨k.eq, ?_⟩)⟩
  obtain ⟨_, bo', k1, k2, k3⟩ := k
  have hs := hc.size
  have hs2 := h4.size
  refine ⟨rfl, bo', k1, ?_, ((hc.mono (fun _ h => h.elim)).trans h4 (fun i hi h => absurd h (hcc i hi))).trans k3 sb_⟩
  rcases k2 with h | ⟨c, h, hh⟩
  ·exact .inl h
  ·exact .inr ⟨c, h, by omega⟩
 have HS := hid hset; have HR := hid hrest
 clear hset hrest
 go_enter_defers Tryz.func109, Tryz.ntmps109
 go_wp2_with (first | (go_at_call 98; refine (getBint_any _).mono ?_; rintro e w1 ⟨b, rfl, hb, hbs, hc⟩) | (go_at_call 131; refine (HS.out _ b hb hbs hc).mono ?_; rintro e w2 h; obtain ⟨hpe2, hm⟩ := HR.out w1 w2 b hbs hc ⟨rfl, h.2⟩; have HM := hid hm; obtain ⟨rfl, h⟩ := h; clear h hm) | (go_at_call 132; refine HM.out.mono ?_; rintro e w3 ⟨rfl, h⟩; have HH := hid h; clear h))
 refine leaves_cons (f := 99) (args := #[.pointer (some ⟨b, 0, none⟩)]) (by simp) (by simp [go_sem]) ?_
 refine (putBint_d _ .returning _).mono ?_
 rintro e u' w'' ⟨rfl, rfl, rfl⟩
 exact ⟨_, results_none rfl _ _ _, HH.out⟩
def Tab (w : World) : Prop := ∀ k : Nat, k < 20 → w.cell? ⟨3, k, none⟩ = some (.int .u64 (10 ^ k))
theorem Tab.kept {S : Nat → Prop} {w w' : World} (h : Tab w) (hc : Chg S w w') (hs : ¬ S 3) : Tab w' := fun k hk => cell_kept (h k hk) hc hs
theorem Tab.lt {w : World} (h : Tab w) : 3 < w.heap.size := World.block_lt_of_cell? w _ (h 0 (by omega))
theorem p10_nat : (10 : Nat) ^ 99 < 18446744073709551616 ^ 30 := by decide
theorem p10_bd {k : Nat} (h : k ≤ 99) : (10 : Int) ^ k < BP 30 := by
 have h1 : (10 : Nat) ^ k ≤ 10 ^ 99 := Nat.pow_le_pow_right (by omega) h
 have h2 := p10_nat
 have h3 : ((10 ^ k : Nat) : Int) < ((18446744073709551616 ^ 30 : Nat) : Int) := by exact_mod_cast Nat.lt_of_le_of_lt h1 h2
 rw [Int.natCast_pow, Int.natCast_pow] at h3
 exact h3
theorem p10_pos (k : Nat) : (0 : Int) < 10 ^ k := Int.pow_pos (by omega)
theorem p10_wd {k : Nat} (h : k < 20) : Wd ((10 : Int) ^ k) := by
 refine ⟨Int.le_of_lt (p10_pos k), ?_⟩
 have h1 : (10 : Nat) ^ k ≤ 10 ^ 19 := Nat.pow_le_pow_right (by omega) (by omega)
 have h2 : (10 : Nat) ^ 19 < 18446744073709551616 := by decide
 have h3 : ((10 ^ k : Nat) : Int) < ((18446744073709551616 : Nat) : Int) := by exact_mod_cast Nat.lt_of_le_of_lt h1 h2
 rw [Int.natCast_pow] at h3
 exact h3
def ValAt (w : World) (b : Nat) (X : Int) (w' : World) : Prop :=
 ∃ bb, IntAt w' b bb X ∧ w.heap.size ≤ b ∧ (∀ c, bb = some c → w.heap.size ≤ c) ∧ Chg (fun _ => False) w w'
def PVal (w : World) (X : Int) (e : Ending) (w' : World) : Prop := ∃ b, e = .returned (.pointer (some ⟨b, 0, none⟩)) ∧ ValAt w b X w'
theorem alloc_int (w : World) : IntAt (w.alloc (.cells #[.bool false, .slice none 0 0] 127)) w.heap.size none 0 :=
 ⟨127, .slice none 0 0, [], by rw [heap_alloc_new], by decide, ⟨rfl, rfl⟩, Nrm.nil, rfl⟩
theorem PInt.val {w w1 w' : World} {p : Nat} {bo : Option Nat} {X : Int} {r : Value} {e : Ending} (h : PInt w1 p bo X r e w') (hc : Chg (fun _ => False) w w1) (hp : w.heap.size ≤ p) (hb : ∀ c, bo = some c → w.heap.size ≤ c) : ValAt w p X w' := by
 obtain ⟨_, bo', h2, h3, h4⟩ := h
 have hs := hc.size
 refine ⟨bo', h2, hp, fun c hcc => ?_, hc.trans h4 (fun i hi h => ?_)⟩
 ·rcases h3 with k | ⟨d, k, hk⟩
  ·exact hb c (k ▸ hcc)
  ·rw [hcc] at k
   simp only [Option.some.injEq] at k
   omega
 ·rcases h with h | h
  ·omega
  ·have := hb i h; omega
theorem newSet (x : Int) (w : World) (hx : Wd x) :
  Calls Tryz.prog 121 #[.pointer (some ⟨w.heap.size, 0, none⟩), .int .u64 x] (w.alloc (.cells #[.bool false, .slice none 0 0] 127)) (fun e w' => e = .returned (.pointer (some ⟨w.heap.size, 0, none⟩)) ∧ ValAt w w.heap.size x w') :=
 (Int_SetUint64 _ none 0 x _ (alloc_int w) hx).mono (fun e w' h => ⟨h.eq, h.val ((Chg.refl _ _).alloc _) (Nat.le_refl _) (fun c h => by cases h)⟩)
theorem val_mul {w wr w2 : World} {z b : Nat} {X Y : Int} (h : ValAt w z X wr) (k : ValAt wr b Y w2) (hX : X < BP 30) (hY : Y < BP 30) (hkt : w.cell? ⟨6, 0, none⟩ = some (.int .i64 40)) :
  Calls Tryz.prog 132 #[.pointer (some ⟨z, 0, none⟩), .pointer (some ⟨z, 0, none⟩), .pointer (some ⟨b, 0, none⟩)] w2 (fun e w' => e = .returned (.pointer (some ⟨z, 0, none⟩)) ∧ ValAt w z (X * Y) w') := by
 obtain ⟨zb, h1, h2, h3, h4⟩ := h
 obtain ⟨bb, k1, k2, k3, k4⟩ := k
 have hz2 := h1.kept k4 (fun h => h) (fun _ _ h => h)
 have hc := h4.trans k4 sb_
 exact (Int_Mul z z b zb zb bb X X Y w2 hz2 hz2 k1 (by have := h1.lt; omega) hX hY (cell_kept hkt hc (fun h => h))).mono (fun e w' h => ⟨h.eq, h.val hc h2 h3⟩)
set_option maxHeartbeats 2000000 in
theorem bpow10_any (n : Nat) (w : World) (hn : n ≤ 99) (ht : Tab w) (hkt : w.cell? ⟨6, 0, none⟩ = some (.int .i64 40)) :
  Calls Tryz.prog 122 #[.int .i64 n] w (PVal w (10 ^ n)) := by
 have hb1 : decide ((n : Int) < 0) = false := decide_eq_false (by omega)
 have hb2 : decide ((100 : Int) ≤ (n : Int)) = false := decide_eq_false (by omega)
 have hs1 := newSet 1 w ⟨by omega, by omega⟩
 have HS1 := hid hs1
 clear hs1
 go_enter Tryz.func122, Tryz.ntmps122
 go_wp2_with (go_at_call 121; refine HS1.out.mono ?_; rintro e w1 ⟨rfl, hz⟩)
 have HK := hid hkt
 have HT := hid ht
 generalize hzz : w.heap.size = z at *
 clear hzz ht hkt hb1 hb2 HS1
 go_loopw [0] (fun i wr => ∃ k : Nat, k ≤ n ∧ i = .int .i64 k ∧ Hid (ValAt w z (10 ^ (n - k)) wr)) (fun i _ => (intOf i).toNat)
 case atStart => exact ⟨n, Nat.le_refl _, rfl, by rw [Nat.sub_self]; exact hz⟩
 case round =>
  obtain ⟨k, hk, rfl, HV⟩ := hrel
  have hcw : Chg (fun _ => False) w wr := by obtain ⟨_, _, _, _, h⟩ := HV.out; exact h
  have htr : Tab (wr.alloc (.cells #[.bool false, .slice none 0 0] 127)) := (HT.out.kept hcw (fun h => h)).kept ((Chg.refl (fun _ => False) _).alloc _) (fun h => h)
  by_cases h19 : 19 < k
  ·have hgt : (19 : Int) < (k : Int) := by omega
   have hcell := htr 19 (by omega)
   have hs := newSet _ wr (p10_wd (k := 19) (by omega))
   have hbd := p10_bd (k := 19) (by omega)
   have hw9 := p10_wd (k := 19) (by omega)
   generalize hT : (10 : Int) ^ 19 = T at *
   have HTT := hid hT
   have hsub : IntKind.i64.wrap ((k : Int) - 19) = (k : Int) - 19 := IntWalk.i64_in _ (by omega)
   have hm := fun w2 (h : ValAt wr wr.heap.size T w2) => val_mul HV.out h (p10_bd (by omega)) hbd HK.out
   have HS := hid hs; have HM := hid hm
   obtain ⟨hT0, hT1⟩ := hw9
   clear hs hm hT htr hcw
   go_wp2_with (first | (go_at_call 121; refine HS.out.mono ?_; rintro e w2 ⟨rfl, hv⟩; have HV2 := hid hv; clear hv) | (go_at_call 132; refine (HM.out _ HV2.out).mono ?_; rintro e w3 ⟨rfl, hv⟩; have HV3 := hid hv; clear hv))
   go_roundw
   case rel =>
    refine ⟨k - 19, by omega, by rw [show ((k - 19 : Nat) : Int) = (k : Int) - 19 by omega], ?_⟩
    have e : (10 : Int) ^ (n - (k - 19)) = 10 ^ (n - k) * T := by rw [← HTT.out, ← Int.pow_add]; congr 1; omega
    rw [e]; exact HV3
   case measure => simp [intOf]; omega
  ·have hle : ¬ (19 : Int) < (k : Int) := by omega
   have hcell := htr k (by omega)
   have hs := newSet _ wr (p10_wd (k := k) (by omega))
   have hbd := p10_bd (k := k) (by omega)
   have hw9 := p10_wd (k := k) (by omega)
   generalize hT : (10 : Int) ^ k = T at *
   have HTT := hid hT
   have hm := fun w2 (h : ValAt wr wr.heap.size T w2) => val_mul HV.out h (p10_bd (by omega)) hbd HK.out
   have HS := hid hs; have HM := hid hm
   obtain ⟨hT0, hT1⟩ := hw9
   have hlt20 : (k : Int) < 20 := by omega
   have hge0 : (0 : Int) ≤ (k : Int) := by omega
   clear hs hm hT htr hcw
   go_wp2_with (first | (go_at_call 121; refine HS.out.mono ?_; rintro e w2 ⟨rfl, hv⟩; have HV2 := hid hv; clear hv) | (go_at_call 132; refine (HM.out _ HV2.out).mono ?_; rintro e w3 ⟨rfl, hv⟩; have HV3 := hid hv; clear hv))
   go_ret
   refine ⟨z, rfl, ?_⟩
   have e : (10 : Int) ^ n = 10 ^ (n - k) * T := by rw [← HTT.out, ← Int.pow_add]; congr 1; omega
   rw [e]; exact HV3.out
structure Env (w : World) : Prop where
 tab : Tab w
 kar : w.cell? ⟨6, 0, none⟩ = some (.int .i64 40)
 div : w.cell? ⟨7, 0, none⟩ = some (.int .i64 40)
 apart : ∀ xs, ¬ Row w 3 xs
theorem Env.keep {S : Nat → Prop} {w w' : World} (h : Env w) (hc : Chg S w w') (h1 : ¬ S 3) (h2 : ¬ S 6) (h3 : ¬ S 7) : Env w' :=
 ⟨h.tab.kept hc h1, cell_kept h.kar hc h2, cell_kept h.div hc h3, fun xs hr => h.apart xs ⟨(hc.keep _ h.tab.lt h1).symm.trans hr.1, hr.2⟩⟩
theorem Env.kept {w w' : World} (h : Env w) (hc : Chg (fun _ => False) w w') : Env w' := h.keep hc (fun h => h) (fun h => h) (fun h => h)
theorem IntAt.notInt {w : World} {p : Nat} {bo : Option Nat} {x : Int} (h : IntAt w p bo x) {g : Nat} {k : IntKind} {n : Int} (hg : w.cell? ⟨g, 0, none⟩ = some (.int k n)) : g ≠ p := by
 rintro rfl
 obtain ⟨v, ds, c0, _⟩ := h.fld
 rw [c0] at hg
 cases hg
theorem IntAt.notBlk {w : World} {p g : Nat} {bo : Option Nat} {x n : Int} (h : IntAt w p bo x) (hg : w.cell? ⟨g, 0, none⟩ = some (.int .i64 n)) : bo ≠ some g := by
 rintro rfl
 obtain ⟨_, _, ds, _, _, ⟨sp, _, hr, h1, _⟩, _⟩ := h
 have := hr.cell (i := 0) (by simp; omega)
 rw [hg] at this
 cases this
theorem Env.int {w w' : World} {p : Nat} {bo : Option Nat} {x : Int} (h : Env w) (hp : IntAt w p bo x) (hc : Chg (fun k => k = p ∨ bo = some k) w w') : Env w' :=
 h.keep hc (by
  rintro (k | k)
  ·exact hp.notInt (h.tab 0 (by omega)) k
  ·subst k
   obtain ⟨_, _, ds, _, _, ⟨sp, _, hr, h1, _⟩, _⟩ := hp
   exact h.apart _ hr)
  (by rintro (k | k); exact hp.notInt h.kar k; exact hp.notBlk h.kar k) (by rintro (k | k); exact hp.notInt h.div k; exact hp.notBlk h.div k)
theorem IntAt.new {w w' : World} {p : Nat} {bo : Option Nat} {x : Int} (h : IntAt w p bo x) (hc : Chg (fun _ => False) w w') : IntAt w' p bo x := h.kept hc (fun h => h) (fun _ _ h => h)
theorem bint_lsh_same (p : Nat) (bo : Option Nat) (x : Int) (s : Nat) (w : World) (hp : IntAt w p bo x) (he : Env w) (hx : x < BP 30) (hs : s ≤ 99) :
  Calls Tryz.prog 101 #[.pointer (some ⟨p, 0, none⟩), .pointer (some ⟨p, 0, none⟩), .int .i64 s] w (PInt w p bo (x * 10 ^ s) (.tuple #[])) := by
 have hb := bpow10_any s w hs he.tab he.kar
 have hbd := p10_bd hs
 have hm := fun w1 b (h : ValAt w b (10 ^ s) w1) => show Calls Tryz.prog 109 #[.pointer (some ⟨p, 0, none⟩), .pointer (some ⟨p, 0, none⟩), .pointer (some ⟨b, 0, none⟩)] w1 (PInt w p bo (x * 10 ^ s) (.tuple #[])) from by
  obtain ⟨bb, h1, h2, h3, h4⟩ := h
  exact (bint_mul_same p b bo bb x (10 ^ s) w1 (hp.new h4) h1 (by have := hp.lt; omega) hx hbd (cell_kept he.kar h4 (fun h => h))).mono (fun e w' h => h.after h4)
 have hlt : (s : Int) < 100 := by omega
 generalize (10 : Int) ^ s = T at *
 have HB := hid hb; have HM := hid hm
 clear hb hm
 go_enter_defers Tryz.func101, Tryz.ntmps101
 go_wp2_with (first | (go_at_call 122; refine HB.out.mono ?_; rintro e w1 ⟨b, rfl, hv⟩; have HV := hid hv; clear hv) | (go_at_call 109; refine (HM.out _ _ HV.out).mono ?_; rintro e w2 hh; obtain ⟨rfl, hh⟩ := hh; have HH := hid hh; clear hh))
 exact ⟨_, results_none rfl _ _ _, rfl, HH.out⟩
theorem bint_inc_same (p : Nat) (bo : Option Nat) (x : Int) (w : World) (hp : IntAt w p bo x) (he : Env w) (hx : x < BP 30) :
  Calls Tryz.prog 149 #[.pointer (some ⟨p, 0, none⟩), .pointer (some ⟨p, 0, none⟩)] w (PInt w p bo (x + 1) (.tuple #[])) := by
 have hb := bpow10_any 0 w (by omega) he.tab he.kar
 rw [Int.pow_zero] at hb
 have hm := fun w1 b (h : ValAt w b 1 w1) => show Calls Tryz.prog 102 #[.pointer (some ⟨p, 0, none⟩), .pointer (some ⟨p, 0, none⟩), .pointer (some ⟨b, 0, none⟩)] w1 (PInt w p bo (x + 1) (.tuple #[])) from by
  obtain ⟨bb, h1, h2, h3, h4⟩ := h
  exact (bint_add p p b bo bo bb x x 1 w1 (hp.new h4) (hp.new h4) h1 hx (by have := p10_bd (k := 0) (by omega); rwa [Int.pow_zero] at this)).mono (fun e w' h => h.after h4)
 have HB := hid hb; have HM := hid hm
 clear hb hm
 go_enter Tryz.func149, Tryz.ntmps149
 go_wp2_with (first | (go_at_call 122; refine HB.out.mono ?_; rintro e w1 ⟨b, rfl, hv⟩; have HV := hid hv; clear hv) | (go_at_call 102; refine (HM.out _ _ HV.out).mono ?_; rintro e w2 hh; obtain ⟨rfl, hh⟩ := hh; have HH := hid hh; clear hh))
 go_end0
 exact ⟨rfl, HH.out⟩
theorem cmp_pow (p : Nat) (bo : Option Nat) (x : Int) (w w1 : World) (k b : Nat) (hp : IntAt w p bo x) (hv : ValAt w b (10 ^ k) w1) :
  Calls Tryz.prog 103 #[.pointer (some ⟨p, 0, none⟩), .pointer (some ⟨b, 0, none⟩)] w1 (fun e w' => e = .returned (.int .i64 (cmpI x (10 ^ k))) ∧ Chg (fun _ => False) w w') := by
 obtain ⟨bb, h1, h2, h3, h4⟩ := hv
 exact (bint_cmp p b bo bb x _ w1 (hp.new h4) h1 (by have := hp.lt; omega)).mono (fun e w' ⟨h, q⟩ => ⟨h, h4.trans (q.chg _) sb_⟩)
theorem cmpI_lt {x y : Int} : cmpI x y < 0 ↔ x < y := by unfold cmpI; split <;> (try split) <;> omega
theorem cmpI_gt {x y : Int} : 0 < cmpI x y ↔ y < x := by unfold cmpI; split <;> (try split) <;> omega
theorem cmpI_ge0 {x y : Int} : 0 ≤ cmpI x y ↔ y ≤ x := by unfold cmpI; split <;> (try split) <;> omega
theorem pow_cast (k : Nat) : ((10 ^ k : Nat) : Int) = (10 : Int) ^ k := by rw [Int.natCast_pow]; rfl
theorem bint_hasPrec (p : Nat) (bo : Option Nat) (x : Int) (w : World) (hp : IntAt w p bo x) (he : Env w) :
  Calls Tryz.prog 111 #[.pointer (some ⟨p, 0, none⟩), .int .i64 20] w (fun e w' => e = .returned (.bool (decide ((10 : Int) ^ 19 ≤ x))) ∧ Chg (fun _ => False) w w') := by
 have hb := bpow10_any 19 w (by omega) he.tab he.kar
 have hm := fun w1 b (h : ValAt w b (10 ^ 19) w1) => cmp_pow p bo x w w1 19 b hp h
 have hd : decide (0 ≤ cmpI x (10 ^ 19)) = decide ((10 : Int) ^ 19 ≤ x) := decide_eq_decide.2 cmpI_ge0
 generalize (10 : Int) ^ 19 = T at *
 generalize cmpI x T = k at *
 rw [← hd]
 have HB := hid hb; have HM := hid hm
 clear hb hm hd
 go_enter Tryz.func111, Tryz.ntmps111
 go_wp2_with (first | (go_at_call 122; refine HB.out.mono ?_; rintro e w1 ⟨b, rfl, hv⟩; have HV := hid hv; clear hv) | (go_at_call 103; refine (HM.out _ _ HV.out).mono ?_; rintro e w2 ⟨rfl, hc⟩; have HH := hid hc; clear hc))
 go_ret
 exact ⟨rfl, HH.out⟩
theorem pow_lt_digs {x : Int} {k : Nat} (hx : 0 ≤ x) : x < 10 ^ k ↔ digs x.toNat ≤ k := by
 rw [digs_le]
 have := pow_cast k
 omega
set_option maxHeartbeats 1000000 in
theorem bint_prec (p : Nat) (bo : Option Nat) (x : Int) (w : World) (hp : IntAt w p bo x) (he : Env w) (hx : x < 10 ^ 99) :
  Calls Tryz.prog 127 #[.pointer (some ⟨p, 0, none⟩)] w (fun e w' => e = .returned (.int .i64 (digs x.toNat)) ∧ Chg (fun _ => False) w w') := by
 have hx0 := hp.nonneg
 have hD : digs x.toNat ≤ 99 := (pow_lt_digs hx0).1 hx
 have hkey : ∀ k, x < 10 ^ k ↔ digs x.toNat ≤ k := fun k => pow_lt_digs hx0
 generalize digs x.toNat = D at *
 have hb := bpow10_any 99 w (by omega) he.tab he.kar
 have hm := fun w1 b (h : ValAt w b (10 ^ 99) w1) => cmp_pow p bo x w w1 99 b hp h
 have hng : ¬ 0 < cmpI x (10 ^ 99) := fun h => by have := cmpI_gt.1 h; omega
 generalize cmpI x (10 ^ 99) = c99 at *
 generalize (10 : Int) ^ 99 = T99 at *
 have HB := hid hb; have HM := hid hm; have HKEY := hid hkey; have HE := hid he; have HP := hid hp
 clear hb hm hx hkey he
 go_enter Tryz.func127, Tryz.ntmps127
 go_wp2_with (first | (go_at_call 122; refine HB.out.mono ?_; rintro e w1 ⟨b, rfl, hv⟩; have HV := hid hv; clear hv) | (go_at_call 103; refine (HM.out _ _ HV.out).mono ?_; rintro e w2 ⟨rfl, hc⟩))
 go_loopw [3, 4] (fun l r wr => ∃ L R : Nat, l = .int .i64 L ∧ r = .int .i64 R ∧ L ≤ D ∧ D ≤ R ∧ R ≤ 100 ∧ Chg (fun _ => False) w wr) (fun l r _ => (intOf r - intOf l).toNat)
 case atStart => exact ⟨0, 100, rfl, rfl, by omega, by omega, by omega, hc⟩
 case round =>
  obtain ⟨L, R, rfl, rfl, h1, h2, h3, h4⟩ := hrel
  by_cases hlr : L < R
  ·have hlt : (L : Int) < (R : Int) := by omega
   have hsum : IntKind.i64.wrap ((L : Int) + (R : Int)) = (L : Int) + (R : Int) := IntWalk.i64_in _ (by omega)
   obtain ⟨M, hM⟩ : ∃ M : Nat, M = (L + R) / 2 := ⟨_, rfl⟩
   have hquo : ((L : Int) + (R : Int)) / 2 = (M : Int) := by omega
   have hM1 : L ≤ M := by omega
   have hM2 : M < R := by omega
   clear hM
   have hb := bpow10_any M wr (by omega) (HE.out.kept h4).tab (HE.out.kept h4).kar
   have hm := fun w1 b (h : ValAt wr b (10 ^ M) w1) => cmp_pow p bo x wr w1 M b (HP.out.new h4) h
   have hk := HKEY.out M
   have HB := hid hb
   by_cases hc : x < 10 ^ M
   ·have hneg : cmpI x (10 ^ M) < 0 := cmpI_lt.2 hc
    have hDM : D ≤ M := hk.1 hc
    generalize cmpI x (10 ^ M) = c at *
    have HM := hid hm
    clear hb hm hk
    go_wp2_with (first | (go_at_call 122; refine HB.out.mono ?_; rintro e w3 ⟨b3, rfl, hv⟩; have HV := hid hv; clear hv) | (go_at_call 103; refine (HM.out _ _ HV.out).mono ?_; rintro e w4 ⟨rfl, hc4⟩))
    go_roundw
    case rel => exact ⟨L, M, rfl, rfl, h1, hDM, by omega, h4.trans hc4 sb_⟩
    case measure => simp [intOf]; omega
   ·have hneg : ¬ cmpI x (10 ^ M) < 0 := fun h => hc (cmpI_lt.1 h)
    have hDM : ¬ D ≤ M := fun h => hc (hk.2 h)
    generalize cmpI x (10 ^ M) = c at *
    have HM := hid hm
    clear hb hm hk
    have hinc : IntKind.i64.wrap ((M : Int) + 1) = (M : Int) + 1 := IntWalk.i64_in _ (by omega)
    go_wp2_with (first | (go_at_call 122; refine HB.out.mono ?_; rintro e w3 ⟨b3, rfl, hv⟩; have HV := hid hv; clear hv) | (go_at_call 103; refine (HM.out _ _ HV.out).mono ?_; rintro e w4 ⟨rfl, hc4⟩))
    go_roundw
    case rel => exact ⟨M + 1, R, by rw [show ((M + 1 : Nat) : Int) = (M : Int) + 1 by omega], rfl, by omega, h2, h3, h4.trans hc4 sb_⟩
    case measure => simp [intOf]; omega
  ·have hge : ¬ (L : Int) < (R : Int) := by omega
   obtain rfl : L = D := by omega
   go_wp2_with fail
   go_ret
   exact ⟨rfl, h4⟩
end Go.Proofs.YtbjhnckboimliaaGreatDoor
namespace Go.Proofs.YtbjhnckboimliaaGreatDoor
open Go.RowKit
set_option linter.unusedVariables false
set_option linter.unusedSimpArgs false
theorem div_scaled {X Y P q u : Int} (hP : 0 < P) (hY : 0 < Y) (h : u + Y * P * q = X * P) (h0 : 0 ≤ u) (h1 : u < Y * P) : q = X / Y ∧ u / P = X % Y := by
 have e : u = (X - Y * q) * P := by rw [Int.sub_mul, ← h, Int.mul_right_comm]; omega
 have t0 : 0 ≤ X - Y * q := by
  by_cases k : 0 ≤ X - Y * q
  ·exact k
  ·have := Int.mul_neg_of_neg_of_pos (show X - Y * q < 0 by omega) hP
   omega
 have t1 : X - Y * q < Y := by
  rw [e] at h1
  exact Int.lt_of_mul_lt_mul_right h1 (Int.le_of_lt hP)
 have := (Int.ediv_emod_unique (a := X) (b := Y) (q := q) (r := X - Y * q) hY).2 ⟨by omega, t0, t1⟩
 refine ⟨this.1.symm, ?_⟩
 rw [e, Int.mul_ediv_cancel _ (by omega), this.2]
theorem scale_top {ys : List Int} {n s : Nat} {a : Int} (hw : Wds ys) (hl : ys.length = n) (hn : 1 ≤ n) (hs : s ≤ 63) (ha : ys.getD (n - 1) 0 = a)
  (h1 : 9223372036854775808 ≤ a * 2 ^ s) (h2 : a * 2 ^ s < 18446744073709551616) :
  mulC ys (2 ^ s) 0 = 0 ∧ val (mulD ys (2 ^ s) 0) = val ys * 2 ^ s ∧ 9223372036854775808 ≤ (mulD ys (2 ^ s) 0).getD (n - 1) 0 := by
 obtain ⟨m, rfl⟩ : ∃ m, n = m + 1 := ⟨n - 1, by omega⟩
 simp only [Nat.add_sub_cancel] at ha ⊢
 have hsp : ys = ys.take m ++ [a] := by
  have := seg_all ys
  rw [hl, seg_succ (by omega), Nat.zero_add, seg_take, ha] at this
  exact this.symm
 have htl : (ys.take m).length = m := by simp; omega
 obtain ⟨c0, c1, _⟩ := mulC_shl (ys.take m) (s := s) (by omega) (hw.take m)
 have hp := pow_pos' s
 have hm : a * 2 ^ s + mulC (ys.take m) (2 ^ s) 0 < 18446744073709551616 := by
  obtain ⟨d, hd⟩ : ∃ d : Int, (18446744073709551616 : Int) = d * 2 ^ s := ⟨2 ^ (64 - s), by rw [Int.mul_comm]; exact (pow_split (by omega)).symm⟩
  have hlt : a < d := by rw [hd] at h2; exact Int.lt_of_mul_lt_mul_right h2 (Int.le_of_lt hp)
  have h3 := Int.mul_le_mul_of_nonneg_right (show a + 1 ≤ d by omega) (Int.le_of_lt hp)
  rw [Int.add_mul, Int.one_mul, ← hd] at h3
  omega
 have e1 : mulC ys (2 ^ s) 0 = 0 := by
  rw [hsp, mulC_snoc]
  omega
 refine ⟨e1, ?_, ?_⟩
 ·have := mulD_val ys (2 ^ s) 0
  rw [e1] at this
  omega
 ·rw [hsp, mulD_snoc]
  have hl2 : (mulD (ys.take m) (2 ^ s) 0).length = m := by rw [mulD_length]; exact htl
  rw [List.getD_eq_getElem?_getD, List.getElem?_append_right (by omega), hl2]
  simp
  omega
end Go.Proofs.YtbjhnckboimliaaGreatDoor
namespace Go.Proofs.YtbjhnckboimliaaGreatDoor
open Go.RowKit
set_option linter.unusedVariables false
set_option linter.unusedSimpArgs false
set_option maxRecDepth 20000
def PDiv (w : World) (bz b2 : Option Nat) (X Y : Int) (e : Ending) (w' : World) : Prop :=
 ∃ (vq vr : Value) (bq br : Option Nat) (qd rd : List Int), e = .returned (.tuple #[vq, vr]) ∧ NatAt w' vq bq qd ∧ Nrm qd ∧ val qd = X / Y ∧ (bq = bz ∨ ∃ b, bq = some b ∧ w.heap.size ≤ b) ∧
  NatAt w' vr br rd ∧ Nrm rd ∧ val rd = X % Y ∧ (br = b2 ∨ ∃ b, br = some b ∧ w.heap.size ≤ b) ∧ (∀ b, bq = some b → br ≠ some b) ∧ Chg (fun k => bz = some k ∨ b2 = some k) w w'
theorem StkAt.ne {w : World} {s b : Nat} {xs : List Int} (h : StkAt w s) (k : Row w b xs) (hx : 1 ≤ xs.length) : s ≠ b := by
 rintro rfl
 have h1 := h.1
 have h2 := k.cell (i := 0) (by omega)
 rw [h1] at h2
 cases h2
def Scaled (w2 : World) (g bu cg cu n L s : Nat) (X Y : Int) (wx : World) : Prop :=
 ∃ us vs usp gsp : List Int, Row wx bu (us ++ usp) ∧ Row wx g (vs ++ gsp) ∧ us.length = L + 1 ∧ vs.length = n ∧ (us ++ usp).length = cu ∧ (vs ++ gsp).length = cg ∧ val us = X * 2 ^ s ∧ val vs = Y * 2 ^ s ∧
  9223372036854775808 ≤ vs.getD (n - 1) 0 ∧ us.getD L 0 < vs.getD (n - 1) 0 ∧ Chg (fun k => k = g ∨ k = bu) w2 wx
theorem split_put {rs ds : List Int} {n : Nat} (hd : ds.length = n) (h : n ≤ rs.length) : put rs 0 ds = ds ++ rs.drop n := by
 unfold put; rw [hd]; simp
theorem scaled_pos {w2 w3 w4 : World} {g bu n L s : Nat} {gs us xs ys : List Int} (hn : 1 ≤ n) (hs : s ≤ 63) (hxl : xs.length = L) (hyl : ys.length = n) (hwx : Wds xs) (hwy : Wds ys) (hgl : n ≤ gs.length) (hul : L + 1 ≤ us.length)
  (htop : 9223372036854775808 ≤ ys.getD (n - 1) 0 * 2 ^ s) (htop2 : ys.getD (n - 1) 0 * 2 ^ s < 18446744073709551616) (hgu : g ≠ bu)
  (r3 : Row w3 g (put gs 0 (mulD ys (2 ^ s) 0))) (c3 : Chg (· = g) w2 w3) (r4 : Row w4 bu (put us 0 (mulD xs (2 ^ s) 0))) (c4 : Chg (· = bu) w3 w4) :
  Scaled w2 g bu gs.length us.length n L s (val xs) (val ys) (w4.setCell ⟨bu, L, none⟩ (.int .u64 (mulC xs (2 ^ s) 0))) := by
 obtain ⟨e1, e2, e3⟩ := scale_top hwy hyl hn hs rfl htop htop2
 obtain ⟨k0, k1, _⟩ := mulC_shl xs (s := s) (by omega) hwx
 have hp : (2 : Int) ^ s ≤ 9223372036854775808 := by
  obtain ⟨d, hd⟩ : ∃ d, 63 = s + d := ⟨63 - s, by omega⟩
  have h2 : (2 : Int) ^ s * 2 ^ d = 9223372036854775808 := by rw [← Int.pow_add, ← hd]; rfl
  have h3 : (1 : Int) ≤ 2 ^ d := by have := pow_pos' d; omega
  have := Int.mul_le_mul_of_nonneg_left h3 (Int.le_of_lt (pow_pos' s))
  omega
 have hcw : Wd (mulC xs (2 ^ s) 0) := ⟨k0, by omega⟩
 have hml : (mulD xs (2 ^ s) 0).length = L := by rw [mulD_length]; exact hxl
 have hset := r4.set L hcw
 have hsn := put_snoc (xs := us) (i := 0) (ds := mulD xs (2 ^ s) 0) (mulC xs (2 ^ s) 0) (by omega)
 rw [hml, Nat.zero_add] at hsn
 rw [hsn, split_put (n := L + 1) (by simp [hml]) (by omega)] at hset
 have hg := (r3.kept c4 hgu).set_ne hgu L (.int .u64 (mulC xs (2 ^ s) 0))
 rw [split_put (n := n) (by rw [mulD_length]; exact hyl) hgl] at hg
 refine ⟨_, _, _, _, hset, hg, by simp [hml], by rw [mulD_length]; exact hyl, ?_, ?_, ?_, e2, e3, ?_, ?_⟩
 ·simp [hml]; omega
 ·simp [mulD_length, hyl]; omega
 ·have := mulD_val xs (2 ^ s) 0
  rw [val_snoc, mulD_length]; omega
 ·have : (mulD xs (2 ^ s) 0 ++ [mulC xs (2 ^ s) 0]).getD L 0 = mulC xs (2 ^ s) 0 := by
   rw [List.getD_eq_getElem?_getD, List.getElem?_append_right (by omega), hml]; simp
  rw [this]; omega
 ·exact ((c3.mono (fun _ h => .inl h)).trans (c4.mono (fun _ h => .inr h)) (fun _ _ h => h)).setCell (fun _ => .inr rfl) _
theorem scaled_of {w2 wx : World} {g bu n L s : Nat} {gs us U V : List Int} {X Y : Int} (hU : U.length = L + 1) (hV : V.length = n) (hgl : n ≤ gs.length) (hul : L + 1 ≤ us.length)
  (ru : Row wx bu (put us 0 U)) (rg : Row wx g (put gs 0 V)) (h1 : val U = X * 2 ^ s) (h2 : val V = Y * 2 ^ s) (h3 : 9223372036854775808 ≤ V.getD (n - 1) 0) (h4 : U.getD L 0 < V.getD (n - 1) 0)
  (hc : Chg (fun k => k = g ∨ k = bu) w2 wx) : Scaled w2 g bu gs.length us.length n L s X Y wx := by
 rw [split_put hU (by omega)] at ru
 rw [split_put hV (by omega)] at rg
 exact ⟨_, _, _, _, ru, rg, hU, hV, by simp [hU]; omega, by simp [hV]; omega, h1, h2, h3, h4, hc⟩
theorem scaled_zero {w2 : World} {g bu n L : Nat} {gs us xs ys : List Int} (hn : 1 ≤ n) (hxl : xs.length = L) (hyl : ys.length = n) (hwx : Wds xs) (hwy : Wds ys) (hgl : n ≤ gs.length) (hul : L + 1 ≤ us.length)
  (htop : 9223372036854775808 ≤ ys.getD (n - 1) 0) (hgu : g ≠ bu) (hg : Row w2 g gs) (hu : Row w2 bu us) :
  Scaled w2 g bu gs.length us.length n L 0 (val xs) (val ys) (((w2.setRow g ((put gs 0 ys).map (Value.int .u64)).toArray).setRow bu ((put us 0 xs).map (Value.int .u64)).toArray).setCell ⟨bu, L, none⟩ (.int .u64 0)) := by
 have c3 : Chg (· = g) w2 (w2.setRow g ((put gs 0 ys).map (Value.int .u64)).toArray) := (Chg.refl (· = g) w2).setRow (fun _ => rfl) _
 have r3 := hg.setRow (put_wds hg.2 hwy 0)
 have hu3 := hu.kept c3 (fun h => hgu h.symm)
 have c4 : Chg (· = bu) (w2.setRow g ((put gs 0 ys).map (Value.int .u64)).toArray) ((w2.setRow g ((put gs 0 ys).map (Value.int .u64)).toArray).setRow bu ((put us 0 xs).map (Value.int .u64)).toArray) := (Chg.refl (· = bu) _).setRow (fun _ => rfl) _
 have r4 := hu3.setRow (put_wds hu.2 hwx 0)
 have hset := r4.set L wd0
 have hsn := put_snoc (xs := us) (i := 0) (ds := xs) 0 (by omega)
 rw [hxl, Nat.zero_add] at hsn
 have hg' := (r3.kept c4 hgu).set_ne hgu L (.int .u64 0)
 have hset' : Row (((w2.setRow g ((put gs 0 ys).map (Value.int .u64)).toArray).setRow bu ((put us 0 xs).map (Value.int .u64)).toArray).setCell ⟨bu, L, none⟩ (.int .u64 0)) bu (put us 0 (xs ++ [0])) := by rw [← hsn]; exact hset
 refine scaled_of (by simp [hxl]) hyl hgl hul hset' hg' (by rw [val_snoc]; simp) (by simp) htop ?_ ?_
 ·have : (xs ++ [(0 : Int)]).getD L 0 = 0 := by
   rw [List.getD_eq_getElem?_getD, List.getElem?_append_right (by omega), hxl]; simp
  rw [this]; omega
 ·exact ((c3.mono (fun _ h => .inl h)).trans (c4.mono (fun _ h => .inr h)) (fun _ _ h => h)).setCell (fun _ => .inr rfl) _
theorem scaled_back {X Y : Int} {us vs qd : List Int} {s : Nat} (hs : s ≤ 63) (hw : Wds us) (hY : 0 < Y) (hu : val us + val vs * val qd = X * 2 ^ s) (hlt : val us < val vs) (hv : val vs = Y * 2 ^ s) :
  val qd = X / Y ∧ val us / 2 ^ s = X % Y := by
 rw [hv] at hu hlt
 exact div_scaled (pow_pos' s) hY hu (val_nonneg hw) hlt
theorem val_top_pos {ys : List Int} {n : Nat} (hw : Wds ys) (hl : ys.length = n) (hn : 1 ≤ n) (h : 1 ≤ ys.getD (n - 1) 0) : 0 < val ys := by
 obtain ⟨k, rfl⟩ : ∃ k, n = k + 1 := ⟨n - 1, by omega⟩
 have e := getD_last (us := ys) (k := k) hl
 simp only [Nat.add_sub_cancel] at h
 have h0 := val_nonneg (hw.take k)
 have := Int.mul_pos (BP_pos k) (show 0 < ys.getD k 0 by omega)
 omega
theorem NatAt.lt' {w : World} {v : Value} {bo : Option Nat} {ds : List Int} {b : Nat} (h : NatAt w v bo ds) (e : bo = some b) : b < w.heap.size := by subst e; exact h.lt
set_option maxHeartbeats 4000000 in
theorem divLarge_any (v v2 : Value) (bz b2 : Option Nat) (s bx by_ n m L cx cy : Nat) (zs z2s xs xsp ys ysp : List Int) (w : World)
  (hz : NatAt w v bz zs) (h2 : NatAt w v2 b2 z2s) (hs : StkAt w s) (hx : Row w bx (xs ++ xsp)) (hy : Row w by_ (ys ++ ysp)) (hxl : xs.length = L) (hyl : ys.length = n) (hL : L = m + n)
  (hn2 : 2 ≤ n) (hn3 : n ≤ 3) (hm : m ≤ 10000) (htop : 1 ≤ ys.getD (n - 1) 0) (h2x : b2 ≠ some bx) (h2y : b2 ≠ some by_) (h2z : ∀ b, bz = some b → b2 ≠ some b)
  (hcx : L ≤ cx) (hcy : n ≤ cy) (hdt : w.cell? ⟨7, 0, none⟩ = some (.int .i64 40)) :
  Calls Tryz.prog 196 #[v, .pointer (some ⟨s, 0, none⟩), v2, .slice (some ⟨bx, 0, none⟩) L cx, .slice (some ⟨by_, 0, none⟩) n cy] w (PDiv w bz b2 (val xs) (val ys)) := by
 have hwt := hy.2.left.getD (n - 1)
 obtain ⟨hsh, ht1, ht2⟩ := nlzN_spec hwt htop
 have hnz := fun w => nlz_any (ys.getD (n - 1) 0) hwt w
 have hcell : ∀ w', Row w' by_ (ys ++ ysp) → w'.cell? ⟨by_, n - 1, none⟩ = some (.int .u64 (ys.getD (n - 1) 0)) := fun w' h => by
  have := h.cell (i := n - 1) (by simp; omega)
  rwa [getD_app (by omega)] at this
 generalize nlzN (ys.getD (n - 1) 0) = sh at *
 have hc1 := hcell w hy
 generalize htt : ys.getD (n - 1) 0 = tp at *
 have HTT := hid htt
 have HNZ := hid hnz
 have hsn := fun w h => stkNat_any s n w h (by omega) (by omega)
 have HSN := hid hsn
 have HSV := hid (fun w h => save_any s w h)
 have hmk := fun w h => make_any v2 b2 z2s (L + 1) w h (by omega) (by omega)
 rw [show ((L + 1 : Nat) : Int) = (L : Int) + 1 by omega] at hmk
 have HMK := hid hmk
 have hw1 : IntKind.i64.wrap ((L : Int) - (n : Int)) = (m : Int) := by rw [show (L : Int) - (n : Int) = (m : Int) by omega]; exact IntWalk.i64_in _ (by omega)
 have hw2 : IntKind.i64.wrap ((L : Int) + 1) = (L : Int) + 1 := IntWalk.i64_in _ (by omega)
 have hw3 : IntKind.i64.wrap ((n : Int) - 1) = (n : Int) - 1 := IntWalk.i64_in _ (by omega)
 have hn0 : (0 : Int) ≤ (n : Int) - 1 := by omega
 have htn : ((n : Int) - 1).toNat = n - 1 := by omega
 have hlt1 : (n : Int) - 1 < (n : Int) := by omega
 have hLb : L ≤ 100000 := by omega
 have hL1 : 1 ≤ L := by omega
 have H2 := hid h2; have HZ := hid hz; have HL := hid hL; have HXL := hid hxl; have HYL := hid hyl
 clear hnz hsn hmk htt hcell hz h2 hL hxl hyl
 go_enter_defers Tryz.func196, Tryz.ntmps196
 go_upto_region 7 with (first | (go_at_call 191; refine (HSV.out _ hs).mono ?_; rintro e w' ⟨rfl, rfl⟩) | (go_at_call 220; refine (HNZ.out _).mono ?_; rintro e w' ⟨rfl, rfl⟩) | (go_at_call 192; refine (HSN.out _ hs).mono ?_; rintro e w1 ⟨g, gs, rfl, hg, hg1, hg2, hg3, hg4, hgc⟩) | (go_at_call 158; refine (HMK.out _ (H2.out.kept hgc (fun _ _ h => h))).mono ?_; rintro e w2 ⟨bu, us, rfl, hu, hu1, hu2, hu3, hu4, huc⟩))
 generalize hcg : gs.length = cg at *
 generalize hcu : us.length = cu at *
 go_upto_if 40 with fail
 have hgu : g ≠ bu := by
  rcases hu4 with h | h
  ·have := (H2.out).lt' h; omega
  ·have := hg.lt; omega
 have hg2' := hg.kept huc (fun h => h)
 have hy2 := (hy.kept hgc (fun h => h)).kept huc (fun h => h)
 have hx2 := (hx.kept hgc (fun h => h)).kept huc (fun h => h)
 have hbuy : bu ≠ by_ := by
  rcases hu4 with h | h
  ·rintro rfl; exact h2y h
  ·have := (hy.kept hgc (fun h => h)).lt; omega
 have hbux : bu ≠ bx := by
  rcases hu4 with h | h
  ·rintro rfl; exact h2x h
  ·have := (hx.kept hgc (fun h => h)).lt; omega
 have hgy : g ≠ by_ := by have := hy.lt; omega
 have hgx : g ≠ bx := by have := hx.lt; omega
 have HXS : Hid (seg (xs ++ xsp) 0 L = xs) := by rw [seg_app (by have := HXL.out; omega), ← HXL.out, seg_all]; exact rfl
 have HYS : Hid (seg (ys ++ ysp) 0 n = ys) := by rw [seg_app (by have := HYL.out; omega), ← HYL.out, seg_all]; exact rfl
 have q1 : (L : Int) ≤ (cu : Int) := by omega
 have q2 : (L : Int) < (L : Int) + 1 := by omega
 have q3 : L ≤ cu := by omega
 have q4 : L < L + 1 := by omega
 have HGL := hid hcg; have HUL := hid hcu
 clear hcg hcu
 go_cut [41] from 40 to 68 (fun _ wx => Hid (Scaled w2 g bu cg cu n L sh (val xs) (val ys) wx))
 case first =>
  by_cases hz0 : sh = 0
  ·subst hz0
   have hb0 : ((((0 : Nat) : Int)) == 0) = true := rfl
   have hcp1 := fun ty => run_copy_words w2 ty g 0 n cg by_ 0 n cy n gs (ys ++ ysp) 125 125 Tryz.underlying125 hg2' hy2 (by simp) (by have := HGL.out; omega) (by simp; have := HYL.out; omega)
   rw [HYS.out] at hcp1
   have hu3' : Row (w2.setRow g ((put gs 0 ys).map (Value.int .u64)).toArray) bu us := hu.kept ((Chg.refl (· = g) w2).setRow (fun _ => rfl) _) (fun h => hgu h.symm)
   have hx3' : Row (w2.setRow g ((put gs 0 ys).map (Value.int .u64)).toArray) bx (xs ++ xsp) := hx2.kept ((Chg.refl (· = g) w2).setRow (fun _ => rfl) _) (fun h => hgx h.symm)
   have hcp2 := fun ty => run_copy_words _ ty bu 0 L cu bx 0 L cx L us (xs ++ xsp) 125 125 Tryz.underlying125 hu3' hx3' (by simp) (by have := HUL.out; omega) (by simp; have := HXL.out; omega)
   rw [HXS.out] at hcp2
   have hr4 := hu3'.setRow (put_wds hu3'.2 hx.2.left 0)
   have hput : (put us 0 xs).length = us.length := put_length (by have := HXL.out; have := HUL.out; omega)
   have hcell4 := hr4.cell (i := L) (by rw [hput, HUL.out]; omega)
   have hfree4 := hr4.free L
   have hsc := scaled_zero (w2 := w2) (g := g) (bu := bu) (n := n) (L := L) (gs := gs) (us := us) (by omega) HXL.out HYL.out hx.2.left hy.2.left (by have := HGL.out; omega) (by have := HUL.out; omega) (by rw [HTT.out]; simpa using ht1) hgu hg2' hu
   rw [HGL.out, HUL.out] at hsc
   have HSC := hid hsc
   clear hsc hr4 hu3' hx3' hput
   generalize (put us 0 xs).getD L 0 = old at *
   go_wp2_with fail
   go_meet
   exact HSC
  ·have hb0 : ((sh : Int) == 0) = false := beq_eq_false_iff_ne.2 (by omega)
   have hl1 := lshVU_any g 0 cg by_ 0 cy n sh gs (ys ++ ysp) w2 hg2' hy2 (by have := HGL.out; omega) (by simp; have := HYL.out; omega) (fun h => absurd h.symm hgy) (by omega) (by omega) (by omega) hsh
   have hl2 := fun w3 (h1 : Row w3 bu us) (h2 : Row w3 bx (xs ++ xsp)) => lshVU_any bu 0 cu bx 0 cx L sh us (xs ++ xsp) w3 h1 h2 (by have := HUL.out; omega) (by simp; have := HXL.out; omega) (fun h => absurd h.symm hbux) (by omega) (by omega) (by omega) hsh
   rw [HYS.out] at hl1
   rw [HXS.out] at hl2
   have HL1 := hid hl1; have HL2 := hid hl2
   have hsc := fun w3 w4 r3 c3 r4 c4 => scaled_pos (w2 := w2) (w3 := w3) (w4 := w4) (g := g) (bu := bu) (n := n) (L := L) (s := sh) (gs := gs) (us := us) (xs := xs) (ys := ys) (by omega) hsh HXL.out HYL.out hx.2.left hy.2.left (by have := HGL.out; omega) (by have := HUL.out; omega) (by rw [HTT.out]; exact ht1) (by rw [HTT.out]; exact ht2) hgu r3 c3 r4 c4
   rw [HGL.out, HUL.out] at hsc
   have HSC := hid hsc
   have hput : (put us 0 (mulD xs (2 ^ sh) 0)).length = cu := by rw [put_length (by rw [mulD_length]; have := HXL.out; have := HUL.out; omega)]; exact HUL.out
   have HP := hid hput
   clear hsc hl1 hl2 hput
   go_wp2_with (first | (go_at_call_of 204 (Value.slice (some ⟨g, 0, none⟩) n cg); refine HL1.out.mono ?_; rintro e w3 ⟨rfl, r3, c3⟩) | (go_at_call_of 204 (Value.slice (some ⟨bu, 0, none⟩) L cu); refine (HL2.out _ (hu.kept c3 (fun h => hgu h.symm)) (hx2.kept c3 (fun h => hgx h.symm))).mono ?_; rintro e w4 ⟨rfl, r4, c4⟩; have hcell4 := r4.cell (i := L) (by rw [HP.out]; omega); have hfree4 := r4.free L; have HFIN := hid (HSC.out _ _ r3 c3 r4 c4)))
   go_meet
   exact HFIN
 case rest =>
  obtain ⟨us1, vs1, usp, gsp, ru, rg, ul, vl, ucap, gcap, hvu, hvv, vtop, utop, cs⟩ := hcut.out
  have hzb : ∀ b, bz = some b → b ≠ g ∧ b ≠ bu := by
   intro b hb
   have hl := HZ.out.lt' hb
   refine ⟨by omega, ?_⟩
   rcases hu4 with h | h
   ·rintro rfl; exact h2z b hb h
   ·have := hgc.size; omega
  have hz2 : NatAt wc v bz zs := ((HZ.out.kept hgc (fun _ _ h => h)).kept huc (fun _ _ h => h)).kept cs (fun b hb h => by rcases h with h | h; exact (hzb b hb).1 h; exact (hzb b hb).2 h)
  have hun : NatAt wc (.slice (some ⟨bu, 0, none⟩) ((L + 1 : Nat)) cu) (some bu) us1 := ⟨usp, by rw [← ucap, ← ul]; simp, ru, by rw [← List.length_append, ucap]; omega, by rw [← List.length_append, ucap]; have := HUL.out; omega⟩
  have hal := alias_any v _ bz (some bu) zs us1 wc hz2 hun
  have hob : oneBlk bz (some bu) = false := by
   cases bz with
   | none => rfl
   | some b => simp [oneBlk]; exact (hzb b rfl).2
  rw [hob] at hal
  have hmk2 := fun w6 (h : NatAt w6 v bz zs) => make_any v bz zs (m + 1) w6 h (by omega) (by omega)
  rw [show ((m + 1 : Nat) : Int) = (m : Int) + 1 by omega] at hmk2
  have hdl : 7 < w.heap.size := by
   have := hdt
   unfold World.cell? at this
   cases h : w.heap[7]? with
   | none => simp [h] at this
   | some o => exact (Array.getElem?_eq_some_iff.1 h).1
  have hd2 : w2.cell? ⟨7, 0, none⟩ = some (.int .i64 40) := cell_kept (cell_kept hdt hgc (fun h => h)) huc (fun h => h)
  have hdbu : 7 ≠ bu := by
   rintro rfl
   have := hu.cell (i := 0) (by have := HUL.out; omega)
   rw [hd2] at this
   cases this
  have hdc : wc.cell? ⟨7, 0, none⟩ = some (.int .i64 40) := cell_kept hd2 cs (by rintro (h | h); (simp only at h; omega); exact hdbu h)
  have hn40 : (n : Int) < 40 := by omega
  have hw4 : IntKind.i64.wrap ((m : Int) + 1) = (m : Int) + 1 := IntWalk.i64_in _ (by omega)
  have HAL := hid hal; have HMK2 := hid hmk2; have HZ2 := hid hz2
  clear hal hmk2 hz2 hun hob hd2 hc1 hdt
  go_upto_region 17 with (first | (go_at_call 182; refine HAL.out.mono ?_; rintro e w6 ⟨rfl, i6, rfl⟩) | (go_at_call 158; refine (HMK2.out _ (HZ2.out.drewN _)).mono ?_; rintro e w7 ⟨bq, zq, rfl, rq, rq1, rq2, rq3, rq4, c7⟩; have hd7 := cell_kept (w := wc.drewN i6) hdc c7 (fun h => h)))
  have hs1 := hs.kept hgc (fun h => h)
  have hsb : s ≠ bu := StkAt.ne (hs1.kept huc (fun h => h)) hu (by have := HUL.out; omega)
  have hsg : s ≠ g := by have := hs.2; omega
  have hsq' : True := trivial
  have hs7 : StkAt w7 s := (((hs1.kept huc (fun h => h)).kept cs (by rintro (h | h); exact hsg h; exact hsb h)).drewN i6).kept c7 (fun h => h)
  have hsq : s ≠ bq := StkAt.ne hs7 rq (by omega)
  have ru7 : Row w7 bu (us1 ++ usp) := (ru.drewN i6).kept c7 (fun h => h)
  have rg7 : Row w7 g (vs1 ++ gsp) := (rg.drewN i6).kept c7 (fun h => h)
  have hqn : bq ≠ g ∧ bq ≠ bu := by
   rcases rq4 with h | h
   ·exact hzb bq h
   ·have := ru.lt; have := rg.lt; simp at h; omega
  have hdb := divBasic_any bq bu g s (m + 1) n zq us1 usp vs1 gsp w7 rq ru7 rg7 hs7 (by rw [ul, HL.out]; omega) vl hn2 hn3 (by omega) (by omega) rq1 vtop
   (by rw [show m + 1 + n - 1 = L by have := HL.out; omega]; exact utop) (fun h => hgu h.symm) hqn.2 hqn.1 hsb hsq cu cg zq.length (by have := HL.out; omega) (by omega) (by have := HUL.out; omega) (by have := HGL.out; omega)
  rw [show m + 1 + n = L + 1 by have := HL.out; omega] at hdb
  have hno := fun w8 qd (h : Row w8 bq (put zq 0 qd)) (hd : qd.length = m + 1) => norm_put bq (m + 1) zq qd w8 h hd rq1 rq2 rq3
  have HDB := hid hdb; have HNO := hid hno; have HRL := hid rq1
  have hYp : 0 < val ys := val_top_pos hy.2.left HYL.out (by omega) (by rw [HTT.out]; exact htop)
  have hcAll : Chg (fun k => b2 = some k) w w7 := by
   have h1 : Chg (fun k => b2 = some k) w w2 := (hgc.trans huc sb_).mono (fun _ h => h.elim)
   have h2 : Chg (fun k => b2 = some k) w wc := h1.trans cs (fun i hi h => by
    rcases h with h | h
    ·omega
    ·rcases hu4 with k | k
     ·rw [h]; exact k
     ·have := hgc.size; omega)
   exact (h2.drewN i6).trans c7 (fun _ _ h => h.elim)
  have hbq : some bq = bz ∨ ∃ b, some bq = some b ∧ w.heap.size ≤ b := by
   rcases rq4 with h | h
   ·exact .inl h.symm
   ·refine .inr ⟨bq, rfl, ?_⟩
    have := hgc.size; have := huc.size; have := cs.size; simp at h; omega
  have hbr : some bu = b2 ∨ ∃ b, some bu = some b ∧ w.heap.size ≤ b := by
   rcases hu4 with h | h
   ·exact .inl h.symm
   ·exact .inr ⟨bu, rfl, by have := hgc.size; omega⟩
  have hend : ∀ (qd us' : List Int) (w8 w9 : World) (vq vr : Value) (qs rs : List Int), Wds qd → Wds us' → val us' + val vs1 * val qd = val us1 → val us' < val vs1 → Chg (fun i => i = bu ∨ i = bq) w7 w8 →
    NatAt w8 vq (some bq) qs → Nrm qs → val qs = val qd → Chg (· = bu) w8 w9 → NatAt w9 vr (some bu) rs → Nrm rs → val rs = val us' / 2 ^ sh → PDiv w bz b2 (val xs) (val ys) (.returned (.tuple #[vq, vr])) w9 := by
   intro qd us' w8 w9 vq vr qs rs k1 k2 k3 k4 k5 k6 k7 k8 k9 k10 k11 k12
   rw [hvu] at k3
   obtain ⟨a1, a2⟩ := scaled_back hsh k2 hYp k3 k4 hvv
   refine ⟨vq, vr, some bq, some bu, qs, rs, rfl, k6.kept k9 (fun b hb h => ?_), k7, by rw [k8, a1], hbq, k10, k11, by rw [k12, a2], hbr, fun b hb h => ?_, ?_⟩
   ·simp only [Option.some.injEq] at hb; exact hqn.2 (hb.trans h)
   ·simp only [Option.some.injEq] at hb h; exact hqn.2 (hb.trans h.symm)
   ·have e1 : Chg (fun k => bz = some k ∨ b2 = some k) w w8 := (hcAll.mono (fun _ h => .inr h)).trans k5 (fun i hi h => by
     rcases h with h | h
     ·rcases hu4 with k | k
      ·exact .inr (by rw [h]; exact k)
      ·have := hgc.size; omega
     ·rcases rq4 with k | k
      ·exact .inl (by rw [h]; exact k)
      ·have := hgc.size; have := huc.size; have := cs.size; simp at k; omega)
    exact e1.trans k9 (fun i hi h => by
     have h' : i = bu := h
     rcases hu4 with k | k
     ·exact .inr (by rw [h']; exact k)
     ·have := hgc.size; omega)
  have HEND := hid hend
  have hsX := And.intro hsb hsq
  have hbu1 : (us1 ++ usp).length = cu := ucap
  clear hend hno hdb hcAll hbq hbr hzb hdc hd7 hs1 hsb hsg hsq rq4 rg7 rq ru7 rg ru cs c7 hvu hvv vtop utop
  have hcuc : cu ≤ 9223372036854775807 := by have := HUL.out; omega
  have HUC := hid hcuc
  by_cases hz0 : sh = 0
  ·subst hz0
   go_upto_region 20 with (first | (go_at_call 221; refine HDB.out.mono ?_; rintro e w8 ⟨rfl, qd, us', d1, d2, d3, d4, d5, d6, d7, d8⟩) | (go_at_call 163; refine (HNO.out _ _ d1 d3).mono ?_; rintro e w9 ⟨vq, qs, rfl, n1, n2, n3, n4, rfl⟩))
   have hL8 : us'.length = L + 1 := by have := HL.out; omega
   have hc8 : (us' ++ usp).length = cu := by rw [← hbu1, List.length_append, List.length_append, hL8, ul]
   have hno2 := norm_any bu (L + 1) (us' ++ usp) w8 d2 (by simp; omega) (by simp; omega) (by have := HUC.out; omega)
   have htk : (us' ++ usp).take (L + 1) = us' := by rw [← hL8]; simp
   rw [htk, hc8] at hno2
   have HNO2 := hid hno2
   have hs8 : StkAt w8 s := hs7.kept d8 (by rintro (h | h) <;> (first | exact hsX.1 h | exact hsX.2 h))
   have HE := hid (fun vr rs k1 k2 k3 => HEND.out qd us' w8 w8 vq vr qs rs d5 d2.2.left d6 d7 d8 n1 n2 n3 (Chg.refl _ _) k1 k2 k3)
   clear d1 d2 d3 d4 d5 d6 d7 d8 n1 n2 n3 n4 hno2 hc8 hL8 htk
   go_wp2_with (go_at_call 163; refine HNO2.out.mono ?_; rintro e w9 ⟨vr, rs, rfl, k1, k2, k3, k4, rfl⟩)
   refine leaves_cons (f := 190) (args := #[.pointer (some ⟨s, 0, none⟩), .int .i64 0]) (by simp) (by simp [go_sem]) ?_
   refine (restore_d s 0 .returning _ hs8).mono ?_
   rintro e u' w'' ⟨rfl, rfl, rfl⟩
   refine ⟨_, results_tmp2 rfl _ _ _, ?_⟩
   have hE := HE.out _ _ k1 k2 (by rw [k3]; simp)
   simp only [Array.getD_eq_getD_getElem?, List.getElem?_toArray, List.getElem?_cons_succ, List.getElem?_cons_zero, Option.getD_some]
   exact hE
  ·have hb0 : ((sh : Int) != 0) = true := by simp [hz0]
   go_upto_region 20 with (first | (go_at_call 221; refine HDB.out.mono ?_; rintro e w8 ⟨rfl, qd, us', d1, d2, d3, d4, d5, d6, d7, d8⟩) | (go_at_call 163; refine (HNO.out _ _ d1 d3).mono ?_; rintro e w9 ⟨vq, qs, rfl, n1, n2, n3, n4, rfl⟩))
   have hL8 : us'.length = L + 1 := by have := HL.out; omega
   have hc8 : (us' ++ usp).length = cu := by rw [← hbu1, List.length_append, List.length_append, hL8, ul]
   have hrs := rshVU_any bu 0 cu bu 0 cu (L + 1) sh (us' ++ usp) (us' ++ usp) w8 d2 d2 (by rw [hc8]; omega) (by rw [hc8]; omega) (fun _ => Nat.le_refl _) (by omega) (by omega) (by omega) hsh
   have hsg' : seg (us' ++ usp) 0 (L + 1) = us' := by rw [← hL8, seg_app (by omega), seg_all]
   rw [hsg'] at hrs
   have hno2 := fun w9 (h : Row w9 bu (put (us' ++ usp) 0 (shrD sh us'))) => norm_put bu (L + 1) (us' ++ usp) (shrD sh us') w9 h (by rw [shrD_length]; exact hL8) (by rw [hc8]; omega) (by rw [hc8]; omega) (by rw [hc8]; have := HUC.out; omega)
   rw [hc8, shrD_div (by omega) d2.2.left] at hno2
   have HNO2 := hid hno2
   have HRS := hid hrs
   have hs8 : StkAt w8 s := hs7.kept d8 (by rintro (h | h) <;> (first | exact hsX.1 h | exact hsX.2 h))
   have HE := hid (fun w9 vr rs k0 k1 k2 k3 => HEND.out qd us' w8 w9 vq vr qs rs d5 d2.2.left d6 d7 d8 n1 n2 n3 k0 k1 k2 k3)
   clear d1 d2 d3 d4 d5 d6 d7 d8 n1 n2 n3 n4 hno2 hc8 hL8 hrs hsg'
   go_wp2_with (first | (go_at_call 223; refine HRS.out.mono ?_; rintro e w9 ⟨rfl, x1, x2⟩) | (go_at_call 163; refine (HNO2.out _ x1).mono ?_; rintro e w10 ⟨vr, rs, rfl, k1, k2, k3, k4, rfl⟩))
   refine leaves_cons (f := 190) (args := #[.pointer (some ⟨s, 0, none⟩), .int .i64 0]) (by simp) (by simp [go_sem]) ?_
   refine (restore_d s 0 .returning _ (hs8.kept x2 hsX.1)).mono ?_
   rintro e u' w'' ⟨rfl, rfl, rfl⟩
   refine ⟨_, results_tmp2 rfl _ _ _, ?_⟩
   have hE := HE.out _ _ _ x2 k1 k2 k3
   simp only [Array.getD_eq_getD_getElem?, List.getElem?_toArray, List.getElem?_cons_succ, List.getElem?_cons_zero, Option.getD_some]
   exact hE
theorem pdiv_mk {w w1 w2 : World} {v v2 vq vr : Value} {bz b2 : Option Nat} {zs z2s : List Int} {Qt R X Y : Int} (hz : NatAt w v bz zs) (h2 : NatAt w v2 b2 z2s) (h2z : ∀ b, bz = some b → b2 ≠ some b)
  (hq : PNat w bz Qt (.returned vq) w1) (hr : PNat w1 b2 R (.returned vr) w2) (e1 : Qt = X / Y) (e2 : R = X % Y) : PDiv w bz b2 X Y (.returned (.tuple #[vq, vr])) w2 := by
 obtain ⟨_, bq, qd, eq, q1, q2, q3, q4, q5⟩ := hq
 obtain ⟨_, br, rd, er, r1, r2, r3, r4, r5⟩ := hr
 simp only [Ending.returned.injEq] at eq er
 subst eq; subst er
 have hne : ∀ b, bq = some b → b2 ≠ some b := by
  intro b hb h
  rcases q4 with k | ⟨c, k, hk⟩
  ·exact h2z b (k ▸ hb) h
  ·have := h2.lt' h
   rw [hb] at k
   simp only [Option.some.injEq] at k
   omega
 refine ⟨vq, vr, bq, br, qd, rd, rfl, q1.kept r5 (fun b hb h => hne b hb h), q2, by rw [q3, e1], q4, r1, r2, by rw [r3, e2], ?_, ?_, ?_⟩
 ·rcases r4 with k | ⟨c, k, hk⟩
  ·exact .inl k
  ·exact .inr ⟨c, k, by have := q5.size; omega⟩
 ·intro b hb h
  rcases r4 with k | ⟨c, k, hk⟩
  ·exact hne b hb (k ▸ h)
  ·have := q1.lt' hb
   rw [h] at k
   simp only [Option.some.injEq] at k
   omega
 ·exact (q5.mono (fun _ h => .inl h)).trans r5 (fun _ _ h => .inr h)
theorem PDiv.after {w w1 w' : World} {bz b2 : Option Nat} {X Y : Int} {e : Ending} (hc : Chg (fun _ => False) w w1) (h : PDiv w1 bz b2 X Y e w') : PDiv w bz b2 X Y e w' := by
 obtain ⟨vq, vr, bq, br, qd, rd, h1, h2, h3, h4, h5, h6, h7, h8, h9, h10, h11⟩ := h
 have hs := hc.size
 refine ⟨vq, vr, bq, br, qd, rd, h1, h2, h3, h4, ?_, h6, h7, h8, ?_, h10, (hc.mono (fun _ h => h.elim)).trans h11 sb_⟩
 ·rcases h5 with k | ⟨c, k, hk⟩
  ·exact .inl k
  ·exact .inr ⟨c, k, by omega⟩
 ·rcases h9 with k | ⟨c, k, hk⟩
  ·exact .inl k
  ·exact .inr ⟨c, k, by omega⟩
set_option maxHeartbeats 2000000 in
theorem div_any (v v2 vx vy : Value) (bz b2 bx by_ : Option Nat) (zs z2s xs ys : List Int) (w : World)
  (hz : NatAt w v bz zs) (h2 : NatAt w v2 b2 z2s) (hx : NatAt w vx bx xs) (hy : NatAt w vy by_ ys) (nx : Nrm xs) (ny : Nrm ys) (hyp : 0 < val ys) (hyl : ys.length ≤ 3) (hxl : xs.length ≤ 10000)
  (h2x : ∀ b, bx = some b → b2 ≠ some b) (h2y : ∀ b, by_ = some b → b2 ≠ some b) (h2z : ∀ b, bz = some b → b2 ≠ some b) (hdt : w.cell? ⟨7, 0, none⟩ = some (.int .i64 40)) :
  Calls Tryz.prog 172 #[v, .pointer none, v2, vx, vy] w (PDiv w bz b2 (val xs) (val ys)) := by
 have hyne : ys ≠ [] := by rintro rfl; simp [val] at hyp
 obtain ⟨by1, rfl⟩ := hy.ne_nil hyne
 have hy0 := hy
 obtain ⟨ysp, rfl, hry, hy1, hy2⟩ := hy
 have hl0 : ys.length ≠ 0 := fun h => hyne (List.length_eq_zero_iff.1 h)
 have hb0 : ((ys.length : Int) == 0) = false := beq_eq_false_iff_ne.2 (by omega)
 obtain ⟨a1, c1, rfl⟩ := hx.len
 obtain ⟨a0, c0, rfl⟩ := hz.len
 by_cases h1 : ys.length = 1
 ·obtain ⟨y, rfl⟩ : ∃ y, ys = [y] := by
   cases ys with
   | nil => simp at h1
   | cons y t => cases t with
    | nil => exact ⟨y, rfl⟩
    | cons z t => simp at h1
  have hv : val [y] = y := by simp [val]
  rw [hv] at hyp ⊢
  have hcell := hry.cell (i := 0) (by simp)
  simp only [List.cons_append, List.getD_cons_zero] at hcell
  have hwy := hry.2.left.head
  have hdw := divW_any _ _ bz bx zs xs y w hz hx nx (by omega) hwy (by omega)
  have hrw : Wd (val xs % y) := ⟨Int.emod_nonneg _ (by omega), by have := Int.emod_lt_of_pos (val xs) hyp; have := hwy.2; omega⟩
  have HDW := hid hdw
  have hset := fun w1 (h : NatAt w1 v2 b2 z2s) => setWord_any v2 b2 z2s (val xs % y) w1 h hrw
  have HSET := hid hset
  have HEND := hid (fun vq vr w1 w2 (h : PNat w bz (val xs / y) (.returned vq) w1) (k : PNat w1 b2 (val xs % y) (.returned vr) w2) => pdiv_mk hz h2 h2z h k rfl rfl)
  have H2 := hid (fun w1 (hc : Chg (fun k => bz = some k) w w1) => h2.kept hc (fun b hb h => h2z b h hb))
  have hb1 : (((([y] : List Int).length : Nat) : Int) == 1) = true := rfl
  clear hdw hset hx hz h2 nx ny hy0
  simp only [List.length_cons, List.length_nil] at *
  obtain ⟨hrw0, hrw1⟩ := hrw
  generalize xs.length = L at *
  generalize zs.length = Z at *
  go_enter_defers Tryz.func172, Tryz.ntmps172
  go_wp2_with (first | (go_at_call 195; refine HDW.out.mono ?_; rintro e w1 ⟨vq, rfl, hq⟩; have h2' := H2.out w1 hq.chg; have HQ := hid hq; clear hq) | (go_at_call 157; refine (HSET.out _ h2').mono ?_; rintro e w2 hp; obtain ⟨vr, rfl, hp2⟩ := hp.get; have HP := hid hp2; clear hp hp2))
  refine ⟨_, results_tmp2 rfl _ _ _, ?_⟩
  exact HEND.out _ _ _ _ HQ.out HP.out
 ·have hb1 : ((ys.length : Int) == 1) = false := beq_eq_false_iff_ne.2 (by omega)
  by_cases hlt : val xs < val ys
  ·have hc : cmpI (val xs) (val ys) = -1 := by unfold cmpI; rw [if_pos hlt]
   have hcm := cmp_any _ _ bx (some by1) xs ys w hx hy0 nx ny
   rw [hc] at hcm
   have hset := fun w1 (h : NatAt w1 v2 b2 z2s) (h' : NatAt w1 (.slice a1 xs.length c1) bx xs) => set_any v2 _ b2 bx z2s xs w1 h h' nx (by omega)
   have hz0 := hz.cut0
   have hX0 := val_nonneg hx.wds
   have hend := fun vr w1 w2 (hq : Q w w1) (k : PNat w1 b2 (val xs) (.returned vr) w2) =>
    pdiv_mk (vq := .slice a0 0 c0) (X := val xs) (Y := val ys) hz h2 h2z (show PNat w bz 0 (.returned (.slice a0 0 c0)) w1 from ⟨_, bz, [], rfl, hz0.q hq, Nrm.nil, rfl, .inl rfl, hq.chg _⟩) k (Int.ediv_eq_zero_of_lt hX0 hlt).symm (Int.emod_eq_of_lt hX0 hlt).symm
   have HCM := hid hcm; have HSET := hid hset; have HEND := hid hend; have H2 := hid h2; have HX := hid hx
   have hnb : (-1 : Int) < 0 := by omega
   clear hcm hset hend hx hz h2 nx ny hy0 hz0 hc hlt
   generalize xs.length = L at *
   generalize zs.length = Z at *
   generalize ys.length = N at *
   go_enter_defers Tryz.func172, Tryz.ntmps172
   go_wp2_with (first | (go_at_call 145; refine HCM.out.mono ?_; rintro e w1 ⟨rfl, i1, rfl⟩) | (go_at_call 160; refine (HSET.out _ (H2.out.drewN _) (HX.out.drewN _)).mono ?_; rintro e w2 hp; obtain ⟨vr, rfl, hp2⟩ := hp.get; have HP := hid hp2; clear hp hp2))
   refine ⟨_, results_tmp2 rfl _ _ _, ?_⟩
   exact HEND.out _ _ _ ⟨_, rfl⟩ HP.out
  ·have hge := cmpI_ge (show val ys ≤ val xs by omega)
   have hcm := cmp_any _ _ bx (some by1) xs ys w hx hy0 nx ny
   generalize cmpI (val xs) (val ys) = k at *
   have hnb : ¬ k < 0 := by omega
   have hlen : ys.length ≤ xs.length := by
    apply Nat.le_of_not_lt
    intro h
    have := len_lt_val hx.wds hry.2.left ny h
    omega
   obtain ⟨bx1, rfl⟩ := hx.ne_nil (by rintro rfl; have : ys.length ≤ 0 := hlen; omega)
   obtain ⟨xsp, hxv, hrx, hx1, hx2⟩ := hx
   simp only [Value.slice.injEq] at hxv
   obtain ⟨rfl, -, rfl⟩ := hxv
   obtain ⟨t1, t2⟩ : 1 ≤ ys.getD (ys.length - 1) 0 ∧ True := by
    rcases ny with h | ⟨r, x, h, hx0⟩
    ·exact absurd h hyne
    ·have : Wd x := hry.2.left x (by rw [h]; simp)
     rw [h]
     simp
     have := this.1
     omega
   have hdl := fun (w2 : World) (s : Nat) (hc : Chg (fun _ => False) w w2) (hs : StkAt w2 s) => (divLarge_any (.slice a0 zs.length c0) v2 bz b2 s bx1 by1 ys.length (xs.length - ys.length) xs.length (xs.length + xsp.length) (ys.length + ysp.length) zs z2s xs xsp ys ysp w2
    (hz.kept hc (fun _ _ h => h)) (h2.kept hc (fun _ _ h => h)) hs (hrx.kept hc (fun h => h)) (hry.kept hc (fun h => h)) rfl rfl (by omega) (by omega) hyl (by omega) t1 (h2x bx1 rfl) (h2y by1 rfl) h2z (by omega) (by omega) (cell_kept hdt hc (fun h => h))).mono (fun e w' h => (show PDiv w2 bz b2 (val xs) (val ys) e w' ∧ PDiv w bz b2 (val xs) (val ys) e w' ∧ (∀ b, b2 = some b → b < w.heap.size) ∧ (∀ b, bz = some b → b < w.heap.size) from ⟨h, h.after hc, fun b hb => h2.lt' hb, fun b hb => hz.lt' hb⟩))
   have HDL := hid hdl; have HCM := hid hcm
   clear hdl hcm hrx hz h2 nx ny hy0 hge hlt hlen t1 t2
   generalize xs.length + xsp.length = cx at *
   generalize ys.length + ysp.length = cy at *
   generalize xs.length = L at *
   generalize zs.length = Z at *
   generalize ys.length = N at *
   go_enter_defers Tryz.func172, Tryz.ntmps172
   go_wp2_with (first | (go_at_call 145; refine HCM.out.mono ?_; rintro e w1 ⟨rfl, i1, rfl⟩) | (go_at_call 184; refine (getStack_any _).mono ?_; rintro e w2 ⟨s, rfl, hs, hsz, hc⟩) | (go_at_call 196; refine (HDL.out _ s ((((Chg.refl _ w).drewN i1)).trans hc sb_) hs).mono ?_; rintro e w3 ⟨h, hpd, hb1', hb2'⟩; obtain ⟨vq, vr, bq, br, qd, rd, rfl, hh⟩ := h; have HH := hid hh; have HPD := hid hpd; clear hh hpd))
   have hgc := HH.out.2.2.2.2.2.2.2.2.2
   have hs3 : StkAt w3 s := hs.kept hgc (by
    rintro (h | h)
    ·have := hb2' s h; simp at hsz; omega
    ·have := hb1' s h; simp at hsz; omega)
   refine leaves_cons (f := 185) (args := #[.pointer (some ⟨s, 0, none⟩)]) (by simp) (by simp [go_sem]) ?_
   refine (free_d s .returning _ hs3).mono ?_
   rintro e u' w'' ⟨rfl, rfl, rfl⟩
   refine ⟨_, results_tmp2 rfl _ _ _, ?_⟩
   exact HPD.out
def PQuo (w : World) (p t : Nat) (bo bt : Option Nat) (X Y : Int) (e : Ending) (w' : World) : Prop :=
 e = .returned (.tuple #[.pointer (some ⟨p, 0, none⟩), .pointer (some ⟨t, 0, none⟩)]) ∧ ∃ bo' bt', IntAt w' p bo' (X / Y) ∧ IntAt w' t bt' (X % Y) ∧ (bo' = bo ∨ ∃ b, bo' = some b ∧ w.heap.size ≤ b) ∧
  (bt' = bt ∨ ∃ b, bt' = some b ∧ w.heap.size ≤ b) ∧ (∀ b, bo' = some b → bt' ≠ some b) ∧ Chg (fun k => (k = p ∨ bo = some k) ∨ (k = t ∨ bt = some k)) w w'
theorem quo_fin {w w1 : World} {p t : Nat} {bo bt : Option Nat} {x0 t0 X Y : Int} {vq vr : Value} (hp : IntAt w p bo x0) (ht : IntAt w t bt t0) (hpt : p ≠ t)
  (hd : PDiv w bo bt X Y (.returned (.tuple #[vq, vr])) w1) :
  PQuo w p t bo bt X Y (.returned (.tuple #[.pointer (some ⟨p, 0, none⟩), .pointer (some ⟨t, 0, none⟩)])) ((((w1.setCell ⟨p, 1, none⟩ vq).setCell ⟨t, 1, none⟩ vr).setCell ⟨p, 0, none⟩ (.bool false)).setCell ⟨t, 0, none⟩ (.bool false)) := by
 obtain ⟨vq', vr', bq, br, qd, rd, he, d1, d2, d3, d4, d5, d6, d7, d8, d9, d10⟩ := hd
 simp only [Ending.returned.injEq, Value.tuple.injEq, Array.mk.injEq, List.cons.injEq, and_true] at he
 obtain ⟨rfl, rfl⟩ := he
 have hlp := hp.lt
 have hlt := ht.lt
 have npp : bo ≠ some p := fun h => hp.ne hp h rfl
 have ntp : bt ≠ some p := fun h => hp.ne ht h rfl
 have npt : bo ≠ some t := fun h => ht.ne hp h rfl
 have ntt : bt ≠ some t := fun h => ht.ne ht h rfl
 obtain ⟨T, v, ds, h1, h2, _⟩ := hp
 obtain ⟨T', v', ds', k1, k2, _⟩ := ht
 have h1' := (d10.keep p hlp (by rintro (h | h); exact npp h; exact ntp h)).trans h1
 have k1' := (d10.keep t hlt (by rintro (h | h); exact npt h; exact ntt h)).trans k1
 have hbq : ∀ b, bq = some b → b ≠ p ∧ b ≠ t := by
  rintro b rfl
  obtain ⟨sp, _, hr, _⟩ := d1
  refine ⟨?_, ?_⟩
  ·rintro rfl; have := hr.1.symm.trans h1'; simp only [Option.some.injEq, Obj.cells.injEq] at this; exact h2 this.2.1.symm
  ·rintro rfl; have := hr.1.symm.trans k1'; simp only [Option.some.injEq, Obj.cells.injEq] at this; exact k2 this.2.1.symm
 have hbr : ∀ b, br = some b → b ≠ p ∧ b ≠ t := by
  rintro b rfl
  obtain ⟨sp, _, hr, _⟩ := d5
  refine ⟨?_, ?_⟩
  ·rintro rfl; have := hr.1.symm.trans h1'; simp only [Option.some.injEq, Obj.cells.injEq] at this; exact h2 this.2.1.symm
  ·rintro rfl; have := hr.1.symm.trans k1'; simp only [Option.some.injEq, Obj.cells.injEq] at this; exact k2 this.2.1.symm
 have hc : Chg (fun k => k = p ∨ k = t) w1 ((((w1.setCell ⟨p, 1, none⟩ vq).setCell ⟨t, 1, none⟩ vr).setCell ⟨p, 0, none⟩ (.bool false)).setCell ⟨t, 0, none⟩ (.bool false)) :=
  Chg.setCell (p := ⟨t, 0, none⟩) (Chg.setCell (p := ⟨p, 0, none⟩) (Chg.setCell (p := ⟨t, 1, none⟩) (Chg.setCell (p := ⟨p, 1, none⟩) (Chg.refl (fun k => k = p ∨ k = t) w1) (fun _ => .inl rfl) _) (fun _ => .inr rfl) _) (fun _ => .inl rfl) _) (fun _ => .inr rfl) _
 refine ⟨rfl, bq, br, ⟨T, vq, qd, ?_, h2, d1.kept hc (fun b hb h => ?_), d2, d3⟩, ⟨T', vr, rd, ?_, k2, d5.kept hc (fun b hb h => ?_), d6, d7⟩, d4, d8, d9, ?_⟩
 ·simp [World.setCell, Array.getElem?_modify, h1', hpt, Ne.symm hpt]
 ·rcases h with h | h
  ·exact (hbq b hb).1 h
  ·exact (hbq b hb).2 h
 ·simp [World.setCell, Array.getElem?_modify, k1', hpt, Ne.symm hpt]
 ·rcases h with h | h
  ·exact (hbr b hb).1 h
  ·exact (hbr b hb).2 h
 ·refine (d10.mono (fun k h => ?_)).trans hc (fun k _ h => ?_)
  ·rcases h with h | h
   ·exact .inl (.inr h)
   ·exact .inr (.inr h)
  ·rcases h with h | h
   ·exact .inl (.inl h)
   ·exact .inr (.inl h)
end Go.Proofs.YtbjhnckboimliaaGreatDoor
