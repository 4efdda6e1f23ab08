/- Part 15 of the proof. -/
import Derived.Test.YthdkandofddohaaGreatDoorP14
namespace Go.Proofs.YthdkandofddohaaGreatDoor
open Go.RowKit
set_option linter.unusedVariables false
set_option linter.unusedSimpArgs false
set_option maxRecDepth 20000
theorem IntAt.blk {w : World} {p b : Nat} {bo : Option Nat} {x : Int} (h : IntAt w p bo x) (e : bo = some b) : b < w.heap.size := by
 subst e
 obtain ⟨_, _, _, _, _, hn, _⟩ := h
 exact NatAt.lt hn
theorem cell_lt {w : World} {g : Nat} {v : Value} (h : w.cell? ⟨g, 0, none⟩ = some v) : g < w.heap.size := World.block_lt_of_cell? w _ h
set_option maxHeartbeats 2000000 in
theorem bint_mul_same (p r : Nat) (bo br : Option Nat) (x y : Int) (w : World) (hp : IntAt w p bo x) (hr : IntAt w r br y) (hne : p ≠ r) (hx : x < BP 30) (hy : y < BP 30)
  (hkt : w.cell? ⟨5, 0, none⟩ = some (.int .i64 40)) :
  Calls Tryz.prog 93 #[.pointer (some ⟨p, 0, none⟩), .pointer (some ⟨p, 0, none⟩), .pointer (some ⟨r, 0, none⟩)] w (PInt w p bo (x * y) (.tuple #[])) := by
 have hpe := pbint_eql_same w ⟨p, 0, none⟩
 have hpl := hp.lt
 have hgl := cell_lt hkt
 have hnp : bo ≠ some p := fun h => hp.ne hp h rfl
 have hset := fun (w1 : World) (b : Nat) (hb : IntAt w1 b none 0) (hbs : w.heap.size ≤ b) (hc : Chg (fun _ => False) w w1) =>
  bint_setBint b p none bo 0 x w1 hb (hp.kept hc (fun h => h) (fun _ _ h => h)) (by omega) hx
 have hrest : ∀ (w1 w2 : World) (b : Nat), w.heap.size ≤ b → Chg (fun _ => False) w w1 → PInt w1 b none x (.tuple #[]) (.returned (.tuple #[])) w2 →
   (binOp .eql 108 (.pointer (some ⟨p, 0, none⟩)) (.pointer (some ⟨r, 0, none⟩))).run Tryz.prog w2 = .ok (.bool false) w2 ∧
   Calls Tryz.prog 105 #[.pointer (some ⟨p, 0, none⟩), .pointer (some ⟨b, 0, none⟩), .pointer (some ⟨r, 0, none⟩)] w2 (fun e w' => e = .returned (.pointer (some ⟨p, 0, none⟩)) ∧ PInt w p bo (x * y) (.tuple #[]) (.returned (.tuple #[])) w') := by
  intro w1 w2 b hbs hc h
  obtain ⟨_, bb, h2, h3, h4⟩ := h
  have hcc : ∀ k, k < w.heap.size → ¬ (k = b ∨ (none : Option Nat) = some k) := by rintro k hk (h | h); omega; cases h
  have hbk : ∀ b', bo = some b' → ¬ (b' = b ∨ (none : Option Nat) = some b') := fun b' hb' => hcc b' (hp.blk hb')
  have hp2 := (hp.kept hc (fun h => h) (fun _ _ h => h)).kept h4 (hcc p hpl) hbk
  have hr2 := (hr.kept hc (fun h => h) (fun _ _ h => h)).kept h4 (hcc r hr.lt) (fun b' hb' => hcc b' (hr.blk hb'))
  have hk2 := cell_kept (cell_kept hkt hc (fun h => h)) h4 (hcc _ hgl)
  refine ⟨pbint_eql_other hp2 hr2 hne, (Int_Mul p b r bo bb br x x y w2 hp2 h2 hr2 (by have := hr.lt; omega) hx hy hk2).mono (fun e w' k => ⟨k.eq, ?_⟩)⟩
  obtain ⟨_, bo', k1, k2, k3⟩ := k
  have hs := hc.size
  have hs2 := h4.size
  refine ⟨rfl, bo', k1, ?_, ((hc.mono (fun _ h => h.elim)).trans h4 (fun i hi h => absurd h (hcc i hi))).trans k3 sb_⟩
  rcases k2 with h | ⟨c, h, hh⟩
  ·exact .inl h
  ·exact .inr ⟨c, h, by omega⟩
 have HS := hid hset; have HR := hid hrest
 clear hset hrest
 go_enter_defers Tryz.func93, Tryz.ntmps93
 go_wp2_with (first | (go_at_call 78; refine (getBint_any _).mono ?_; rintro e w1 ⟨b, rfl, hb, hbs, hc⟩) | (go_at_call 108; refine (HS.out _ b hb hbs hc).mono ?_; rintro e w2 h; obtain ⟨hpe2, hm⟩ := HR.out w1 w2 b hbs hc ⟨rfl, h.2⟩; have HM := hid hm; obtain ⟨rfl, h⟩ := h; clear h hm) | (go_at_call 105; refine HM.out.mono ?_; rintro e w3 ⟨rfl, h⟩; have HH := hid h; clear h))
 refine leaves_cons (f := 79) (args := #[.pointer (some ⟨b, 0, none⟩)]) (by simp) (by simp [go_sem]) ?_
 refine (putBint_d _ .returning _).mono ?_
 rintro e u' w'' ⟨rfl, rfl, rfl⟩
 exact ⟨_, results_none rfl _ _ _, HH.out⟩
def Tab (w : World) : Prop := ∀ k : Nat, k < 20 → w.cell? ⟨0, k, none⟩ = some (.int .u64 (10 ^ k))
theorem Tab.kept {S : Nat → Prop} {w w' : World} (h : Tab w) (hc : Chg S w w') (hs : ¬ S 0) : Tab w' := fun k hk => cell_kept (h k hk) hc hs
theorem Tab.lt {w : World} (h : Tab w) : 0 < w.heap.size := World.block_lt_of_cell? w _ (h 0 (by omega))
theorem p10_nat : (10 : Nat) ^ 99 < 18446744073709551616 ^ 30 := by decide
theorem p10_bd {k : Nat} (h : k ≤ 99) : (10 : Int) ^ k < BP 30 := by
 have h1 : (10 : Nat) ^ k ≤ 10 ^ 99 := Nat.pow_le_pow_right (by omega) h
 have h2 := p10_nat
 have h3 : ((10 ^ k : Nat) : Int) < ((18446744073709551616 ^ 30 : Nat) : Int) := by exact_mod_cast Nat.lt_of_le_of_lt h1 h2
 rw [Int.natCast_pow, Int.natCast_pow] at h3
 exact h3
theorem p10_pos (k : Nat) : (0 : Int) < 10 ^ k := Int.pow_pos (by omega)
theorem p10_wd {k : Nat} (h : k < 20) : Wd ((10 : Int) ^ k) := by
 refine ⟨Int.le_of_lt (p10_pos k), ?_⟩
 have h1 : (10 : Nat) ^ k ≤ 10 ^ 19 := Nat.pow_le_pow_right (by omega) (by omega)
 have h2 : (10 : Nat) ^ 19 < 18446744073709551616 := by decide
 have h3 : ((10 ^ k : Nat) : Int) < ((18446744073709551616 : Nat) : Int) := by exact_mod_cast Nat.lt_of_le_of_lt h1 h2
 rw [Int.natCast_pow] at h3
 exact h3
def ValAt (w : World) (b : Nat) (X : Int) (w' : World) : Prop :=
 ∃ bb, IntAt w' b bb X ∧ w.heap.size ≤ b ∧ (∀ c, bb = some c → w.heap.size ≤ c) ∧ Chg (fun _ => False) w w'
def PVal (w : World) (X : Int) (e : Ending) (w' : World) : Prop := ∃ b, e = .returned (.pointer (some ⟨b, 0, none⟩)) ∧ ValAt w b X w'
theorem alloc_int (w : World) : IntAt (w.alloc (.cells #[.bool false, .slice none 0 0] 121)) w.heap.size none 0 :=
 ⟨121, .slice none 0 0, [], by rw [heap_alloc_new], by decide, ⟨rfl, rfl⟩, Nrm.nil, rfl⟩
theorem PInt.val {w w1 w' : World} {p : Nat} {bo : Option Nat} {X : Int} {r : Value} {e : Ending} (h : PInt w1 p bo X r e w') (hc : Chg (fun _ => False) w w1) (hp : w.heap.size ≤ p) (hb : ∀ c, bo = some c → w.heap.size ≤ c) : ValAt w p X w' := by
 obtain ⟨_, bo', h2, h3, h4⟩ := h
 have hs := hc.size
 refine ⟨bo', h2, hp, fun c hcc => ?_, hc.trans h4 (fun i hi h => ?_)⟩
 ·rcases h3 with k | ⟨d, k, hk⟩
  ·exact hb c (k ▸ hcc)
  ·rw [hcc] at k
   simp only [Option.some.injEq] at k
   omega
 ·rcases h with h | h
  ·omega
  ·have := hb i h; omega
theorem newSet (x : Int) (w : World) (hx : Wd x) :
  Calls Tryz.prog 90 #[.pointer (some ⟨w.heap.size, 0, none⟩), .int .u64 x] (w.alloc (.cells #[.bool false, .slice none 0 0] 121)) (fun e w' => e = .returned (.pointer (some ⟨w.heap.size, 0, none⟩)) ∧ ValAt w w.heap.size x w') :=
 (Int_SetUint64 _ none 0 x _ (alloc_int w) hx).mono (fun e w' h => ⟨h.eq, h.val ((Chg.refl _ _).alloc _) (Nat.le_refl _) (fun c h => by cases h)⟩)
theorem val_mul {w wr w2 : World} {z b : Nat} {X Y : Int} (h : ValAt w z X wr) (k : ValAt wr b Y w2) (hX : X < BP 30) (hY : Y < BP 30) (hkt : w.cell? ⟨5, 0, none⟩ = some (.int .i64 40)) :
  Calls Tryz.prog 105 #[.pointer (some ⟨z, 0, none⟩), .pointer (some ⟨z, 0, none⟩), .pointer (some ⟨b, 0, none⟩)] w2 (fun e w' => e = .returned (.pointer (some ⟨z, 0, none⟩)) ∧ ValAt w z (X * Y) w') := by
 obtain ⟨zb, h1, h2, h3, h4⟩ := h
 obtain ⟨bb, k1, k2, k3, k4⟩ := k
 have hz2 := h1.kept k4 (fun h => h) (fun _ _ h => h)
 have hc := h4.trans k4 sb_
 exact (Int_Mul z z b zb zb bb X X Y w2 hz2 hz2 k1 (by have := h1.lt; omega) hX hY (cell_kept hkt hc (fun h => h))).mono (fun e w' h => ⟨h.eq, h.val hc h2 h3⟩)
set_option maxHeartbeats 2000000 in
theorem bpow10_any (n : Nat) (w : World) (hn : n ≤ 99) (ht : Tab w) (hkt : w.cell? ⟨5, 0, none⟩ = some (.int .i64 40)) :
  Calls Tryz.prog 91 #[.int .i64 n] w (PVal w (10 ^ n)) := by
 have hb1 : decide ((n : Int) < 0) = false := decide_eq_false (by omega)
 have hb2 : decide ((100 : Int) ≤ (n : Int)) = false := decide_eq_false (by omega)
 have hs1 := newSet 1 w ⟨by omega, by omega⟩
 have HS1 := hid hs1
 clear hs1
 go_enter Tryz.func91, Tryz.ntmps91
 go_wp2_with (go_at_call 90; refine HS1.out.mono ?_; rintro e w1 ⟨rfl, hz⟩)
 have HK := hid hkt
 have HT := hid ht
 generalize hzz : w.heap.size = z at *
 clear hzz ht hkt hb1 hb2 HS1
 go_loopw [0] (fun i wr => ∃ k : Nat, k ≤ n ∧ i = .int .i64 k ∧ Hid (ValAt w z (10 ^ (n - k)) wr)) (fun i _ => (intOf i).toNat)
 case atStart => exact ⟨n, Nat.le_refl _, rfl, by rw [Nat.sub_self]; exact hz⟩
 case round =>
  obtain ⟨k, hk, rfl, HV⟩ := hrel
  have hcw : Chg (fun _ => False) w wr := by obtain ⟨_, _, _, _, h⟩ := HV.out; exact h
  have htr : Tab (wr.alloc (.cells #[.bool false, .slice none 0 0] 121)) := (HT.out.kept hcw (fun h => h)).kept ((Chg.refl (fun _ => False) _).alloc _) (fun h => h)
  by_cases h19 : 19 < k
  ·have hgt : (19 : Int) < (k : Int) := by omega
   have hcell := htr 19 (by omega)
   have hs := newSet _ wr (p10_wd (k := 19) (by omega))
   have hbd := p10_bd (k := 19) (by omega)
   have hw9 := p10_wd (k := 19) (by omega)
   generalize hT : (10 : Int) ^ 19 = T at *
   have HTT := hid hT
   have hsub : IntKind.i64.wrap ((k : Int) - 19) = (k : Int) - 19 := IntWalk.i64_in _ (by omega)
   have hm := fun w2 (h : ValAt wr wr.heap.size T w2) => val_mul HV.out h (p10_bd (by omega)) hbd HK.out
   have HS := hid hs; have HM := hid hm
   obtain ⟨hT0, hT1⟩ := hw9
   clear hs hm hT htr hcw
   go_wp2_with (first | (go_at_call 90; refine HS.out.mono ?_; rintro e w2 ⟨rfl, hv⟩; have HV2 := hid hv; clear hv) | (go_at_call 105; refine (HM.out _ HV2.out).mono ?_; rintro e w3 ⟨rfl, hv⟩; have HV3 := hid hv; clear hv))
   go_roundw
   case rel =>
    refine ⟨k - 19, by omega, by rw [show ((k - 19 : Nat) : Int) = (k : Int) - 19 by omega], ?_⟩
    have e : (10 : Int) ^ (n - (k - 19)) = 10 ^ (n - k) * T := by rw [← HTT.out, ← Int.pow_add]; congr 1; omega
    rw [e]; exact HV3
   case measure => simp [intOf]; omega
  ·have hle : ¬ (19 : Int) < (k : Int) := by omega
   have hcell := htr k (by omega)
   have hs := newSet _ wr (p10_wd (k := k) (by omega))
   have hbd := p10_bd (k := k) (by omega)
   have hw9 := p10_wd (k := k) (by omega)
   generalize hT : (10 : Int) ^ k = T at *
   have HTT := hid hT
   have hm := fun w2 (h : ValAt wr wr.heap.size T w2) => val_mul HV.out h (p10_bd (by omega)) hbd HK.out
   have HS := hid hs; have HM := hid hm
   obtain ⟨hT0, hT1⟩ := hw9
   have hlt20 : (k : Int) < 20 := by omega
   have hge0 : (0 : Int) ≤ (k : Int) := by omega
   clear hs hm hT htr hcw
   go_wp2_with (first | (go_at_call 90; refine HS.out.mono ?_; rintro e w2 ⟨rfl, hv⟩; have HV2 := hid hv; clear hv) | (go_at_call 105; refine (HM.out _ HV2.out).mono ?_; rintro e w3 ⟨rfl, hv⟩; have HV3 := hid hv; clear hv))
   go_ret
   refine ⟨z, rfl, ?_⟩
   have e : (10 : Int) ^ n = 10 ^ (n - k) * T := by rw [← HTT.out, ← Int.pow_add]; congr 1; omega
   rw [e]; exact HV3.out
structure Env (w : World) : Prop where
 tab : Tab w
 kar : w.cell? ⟨5, 0, none⟩ = some (.int .i64 40)
 div : w.cell? ⟨6, 0, none⟩ = some (.int .i64 40)
 apart : ∀ xs, ¬ Row w 0 xs
theorem Env.keep {S : Nat → Prop} {w w' : World} (h : Env w) (hc : Chg S w w') (h1 : ¬ S 0) (h2 : ¬ S 5) (h3 : ¬ S 6) : Env w' :=
 ⟨h.tab.kept hc h1, cell_kept h.kar hc h2, cell_kept h.div hc h3, fun xs hr => h.apart xs ⟨(hc.keep _ h.tab.lt h1).symm.trans hr.1, hr.2⟩⟩
theorem Env.kept {w w' : World} (h : Env w) (hc : Chg (fun _ => False) w w') : Env w' := h.keep hc (fun h => h) (fun h => h) (fun h => h)
theorem IntAt.notInt {w : World} {p : Nat} {bo : Option Nat} {x : Int} (h : IntAt w p bo x) {g : Nat} {k : IntKind} {n : Int} (hg : w.cell? ⟨g, 0, none⟩ = some (.int k n)) : g ≠ p := by
 rintro rfl
 obtain ⟨v, ds, c0, _⟩ := h.fld
 rw [c0] at hg
 cases hg
theorem IntAt.notBlk {w : World} {p g : Nat} {bo : Option Nat} {x n : Int} (h : IntAt w p bo x) (hg : w.cell? ⟨g, 0, none⟩ = some (.int .i64 n)) : bo ≠ some g := by
 rintro rfl
 obtain ⟨_, _, ds, _, _, ⟨sp, _, hr, h1, _⟩, _⟩ := h
 have := hr.cell (i := 0) (by simp; omega)
 rw [hg] at this
 cases this
theorem Env.int {w w' : World} {p : Nat} {bo : Option Nat} {x : Int} (h : Env w) (hp : IntAt w p bo x) (hc : Chg (fun k => k = p ∨ bo = some k) w w') : Env w' :=
 h.keep hc (by
  rintro (k | k)
  ·exact hp.notInt (h.tab 0 (by omega)) k
  ·subst k
   obtain ⟨_, _, ds, _, _, ⟨sp, _, hr, h1, _⟩, _⟩ := hp
   exact h.apart _ hr)
  (by rintro (k | k); exact hp.notInt h.kar k; exact hp.notBlk h.kar k) (by rintro (k | k); exact hp.notInt h.div k; exact hp.notBlk h.div k)
theorem IntAt.new {w w' : World} {p : Nat} {bo : Option Nat} {x : Int} (h : IntAt w p bo x) (hc : Chg (fun _ => False) w w') : IntAt w' p bo x := h.kept hc (fun h => h) (fun _ _ h => h)
theorem bint_lsh_same (p : Nat) (bo : Option Nat) (x : Int) (s : Nat) (w : World) (hp : IntAt w p bo x) (he : Env w) (hx : x < BP 30) (hs : s ≤ 99) :
  Calls Tryz.prog 81 #[.pointer (some ⟨p, 0, none⟩), .pointer (some ⟨p, 0, none⟩), .int .i64 s] w (PInt w p bo (x * 10 ^ s) (.tuple #[])) := by
 have hb := bpow10_any s w hs he.tab he.kar
 have hbd := p10_bd hs
 have hm := fun w1 b (h : ValAt w b (10 ^ s) w1) => show Calls Tryz.prog 93 #[.pointer (some ⟨p, 0, none⟩), .pointer (some ⟨p, 0, none⟩), .pointer (some ⟨b, 0, none⟩)] w1 (PInt w p bo (x * 10 ^ s) (.tuple #[])) from by
  obtain ⟨bb, h1, h2, h3, h4⟩ := h
  exact (bint_mul_same p b bo bb x (10 ^ s) w1 (hp.new h4) h1 (by have := hp.lt; omega) hx hbd (cell_kept he.kar h4 (fun h => h))).mono (fun e w' h => h.after h4)
 have hlt : (s : Int) < 100 := by omega
 generalize (10 : Int) ^ s = T at *
 have HB := hid hb; have HM := hid hm
 clear hb hm
 go_enter_defers Tryz.func81, Tryz.ntmps81
 go_wp2_with (first | (go_at_call 91; refine HB.out.mono ?_; rintro e w1 ⟨b, rfl, hv⟩; have HV := hid hv; clear hv) | (go_at_call 93; refine (HM.out _ _ HV.out).mono ?_; rintro e w2 hh; obtain ⟨rfl, hh⟩ := hh; have HH := hid hh; clear hh))
 exact ⟨_, results_none rfl _ _ _, rfl, HH.out⟩
theorem bint_inc_same (p : Nat) (bo : Option Nat) (x : Int) (w : World) (hp : IntAt w p bo x) (he : Env w) (hx : x < BP 30) :
  Calls Tryz.prog 117 #[.pointer (some ⟨p, 0, none⟩), .pointer (some ⟨p, 0, none⟩)] w (PInt w p bo (x + 1) (.tuple #[])) := by
 have hb := bpow10_any 0 w (by omega) he.tab he.kar
 rw [Int.pow_zero] at hb
 have hm := fun w1 b (h : ValAt w b 1 w1) => show Calls Tryz.prog 82 #[.pointer (some ⟨p, 0, none⟩), .pointer (some ⟨p, 0, none⟩), .pointer (some ⟨b, 0, none⟩)] w1 (PInt w p bo (x + 1) (.tuple #[])) from by
  obtain ⟨bb, h1, h2, h3, h4⟩ := h
  exact (bint_add p p b bo bo bb x x 1 w1 (hp.new h4) (hp.new h4) h1 hx (by have := p10_bd (k := 0) (by omega); rwa [Int.pow_zero] at this)).mono (fun e w' h => h.after h4)
 have HB := hid hb; have HM := hid hm
 clear hb hm
 go_enter Tryz.func117, Tryz.ntmps117
 go_wp2_with (first | (go_at_call 91; refine HB.out.mono ?_; rintro e w1 ⟨b, rfl, hv⟩; have HV := hid hv; clear hv) | (go_at_call 82; refine (HM.out _ _ HV.out).mono ?_; rintro e w2 hh; obtain ⟨rfl, hh⟩ := hh; have HH := hid hh; clear hh))
 go_end0
 exact ⟨rfl, HH.out⟩
theorem cmp_pow (p : Nat) (bo : Option Nat) (x : Int) (w w1 : World) (k b : Nat) (hp : IntAt w p bo x) (hv : ValAt w b (10 ^ k) w1) :
  Calls Tryz.prog 83 #[.pointer (some ⟨p, 0, none⟩), .pointer (some ⟨b, 0, none⟩)] w1 (fun e w' => e = .returned (.int .i64 (cmpI x (10 ^ k))) ∧ Chg (fun _ => False) w w') := by
 obtain ⟨bb, h1, h2, h3, h4⟩ := hv
 exact (bint_cmp p b bo bb x _ w1 (hp.new h4) h1 (by have := hp.lt; omega)).mono (fun e w' ⟨h, q⟩ => ⟨h, h4.trans (q.chg _) sb_⟩)
theorem cmpI_lt {x y : Int} : cmpI x y < 0 ↔ x < y := by unfold cmpI; split <;> (try split) <;> omega
theorem cmpI_gt {x y : Int} : 0 < cmpI x y ↔ y < x := by unfold cmpI; split <;> (try split) <;> omega
theorem cmpI_ge0 {x y : Int} : 0 ≤ cmpI x y ↔ y ≤ x := by unfold cmpI; split <;> (try split) <;> omega
theorem pow_cast (k : Nat) : ((10 ^ k : Nat) : Int) = (10 : Int) ^ k := by rw [Int.natCast_pow]; rfl
theorem bint_hasPrec (p : Nat) (bo : Option Nat) (x : Int) (w : World) (hp : IntAt w p bo x) (he : Env w) :
  Calls Tryz.prog 100 #[.pointer (some ⟨p, 0, none⟩), .int .i64 20] w (fun e w' => e = .returned (.bool (decide ((10 : Int) ^ 19 ≤ x))) ∧ Chg (fun _ => False) w w') := by
 have hb := bpow10_any 19 w (by omega) he.tab he.kar
 have hm := fun w1 b (h : ValAt w b (10 ^ 19) w1) => cmp_pow p bo x w w1 19 b hp h
 have hd : decide (0 ≤ cmpI x (10 ^ 19)) = decide ((10 : Int) ^ 19 ≤ x) := decide_eq_decide.2 cmpI_ge0
 generalize (10 : Int) ^ 19 = T at *
 generalize cmpI x T = k at *
 rw [← hd]
 have HB := hid hb; have HM := hid hm
 clear hb hm hd
 go_enter Tryz.func100, Tryz.ntmps100
 go_wp2_with (first | (go_at_call 91; refine HB.out.mono ?_; rintro e w1 ⟨b, rfl, hv⟩; have HV := hid hv; clear hv) | (go_at_call 83; refine (HM.out _ _ HV.out).mono ?_; rintro e w2 ⟨rfl, hc⟩; have HH := hid hc; clear hc))
 go_ret
 exact ⟨rfl, HH.out⟩
theorem pow_lt_digs {x : Int} {k : Nat} (hx : 0 ≤ x) : x < 10 ^ k ↔ digs x.toNat ≤ k := by
 rw [digs_le]
 have := pow_cast k
 omega
set_option maxHeartbeats 1000000 in
theorem bint_prec (p : Nat) (bo : Option Nat) (x : Int) (w : World) (hp : IntAt w p bo x) (he : Env w) (hx : x < 10 ^ 99) :
  Calls Tryz.prog 97 #[.pointer (some ⟨p, 0, none⟩)] w (fun e w' => e = .returned (.int .i64 (digs x.toNat)) ∧ Chg (fun _ => False) w w') := by
 have hx0 := hp.nonneg
 have hD : digs x.toNat ≤ 99 := (pow_lt_digs hx0).1 hx
 have hkey : ∀ k, x < 10 ^ k ↔ digs x.toNat ≤ k := fun k => pow_lt_digs hx0
 generalize digs x.toNat = D at *
 have hb := bpow10_any 99 w (by omega) he.tab he.kar
 have hm := fun w1 b (h : ValAt w b (10 ^ 99) w1) => cmp_pow p bo x w w1 99 b hp h
 have hng : ¬ 0 < cmpI x (10 ^ 99) := fun h => by have := cmpI_gt.1 h; omega
 generalize cmpI x (10 ^ 99) = c99 at *
 generalize (10 : Int) ^ 99 = T99 at *
 have HB := hid hb; have HM := hid hm; have HKEY := hid hkey; have HE := hid he; have HP := hid hp
 clear hb hm hx hkey he
 go_enter Tryz.func97, Tryz.ntmps97
 go_wp2_with (first | (go_at_call 91; refine HB.out.mono ?_; rintro e w1 ⟨b, rfl, hv⟩; have HV := hid hv; clear hv) | (go_at_call 83; refine (HM.out _ _ HV.out).mono ?_; rintro e w2 ⟨rfl, hc⟩))
 go_loopw [3, 4] (fun l r wr => ∃ L R : Nat, l = .int .i64 L ∧ r = .int .i64 R ∧ L ≤ D ∧ D ≤ R ∧ R ≤ 100 ∧ Chg (fun _ => False) w wr) (fun l r _ => (intOf r - intOf l).toNat)
 case atStart => exact ⟨0, 100, rfl, rfl, by omega, by omega, by omega, hc⟩
 case round =>
  obtain ⟨L, R, rfl, rfl, h1, h2, h3, h4⟩ := hrel
  by_cases hlr : L < R
  ·have hlt : (L : Int) < (R : Int) := by omega
   have hsum : IntKind.i64.wrap ((L : Int) + (R : Int)) = (L : Int) + (R : Int) := IntWalk.i64_in _ (by omega)
   obtain ⟨M, hM⟩ : ∃ M : Nat, M = (L + R) / 2 := ⟨_, rfl⟩
   have hquo : ((L : Int) + (R : Int)) / 2 = (M : Int) := by omega
   have hM1 : L ≤ M := by omega
   have hM2 : M < R := by omega
   clear hM
   have hb := bpow10_any M wr (by omega) (HE.out.kept h4).tab (HE.out.kept h4).kar
   have hm := fun w1 b (h : ValAt wr b (10 ^ M) w1) => cmp_pow p bo x wr w1 M b (HP.out.new h4) h
   have hk := HKEY.out M
   have HB := hid hb
   by_cases hc : x < 10 ^ M
   ·have hneg : cmpI x (10 ^ M) < 0 := cmpI_lt.2 hc
    have hDM : D ≤ M := hk.1 hc
    generalize cmpI x (10 ^ M) = c at *
    have HM := hid hm
    clear hb hm hk
    go_wp2_with (first | (go_at_call 91; refine HB.out.mono ?_; rintro e w3 ⟨b3, rfl, hv⟩; have HV := hid hv; clear hv) | (go_at_call 83; refine (HM.out _ _ HV.out).mono ?_; rintro e w4 ⟨rfl, hc4⟩))
    go_roundw
    case rel => exact ⟨L, M, rfl, rfl, h1, hDM, by omega, h4.trans hc4 sb_⟩
    case measure => simp [intOf]; omega
   ·have hneg : ¬ cmpI x (10 ^ M) < 0 := fun h => hc (cmpI_lt.1 h)
    have hDM : ¬ D ≤ M := fun h => hc (hk.2 h)
    generalize cmpI x (10 ^ M) = c at *
    have HM := hid hm
    clear hb hm hk
    have hinc : IntKind.i64.wrap ((M : Int) + 1) = (M : Int) + 1 := IntWalk.i64_in _ (by omega)
    go_wp2_with (first | (go_at_call 91; refine HB.out.mono ?_; rintro e w3 ⟨b3, rfl, hv⟩; have HV := hid hv; clear hv) | (go_at_call 83; refine (HM.out _ _ HV.out).mono ?_; rintro e w4 ⟨rfl, hc4⟩))
    go_roundw
    case rel => exact ⟨M + 1, R, by rw [show ((M + 1 : Nat) : Int) = (M : Int) + 1 by omega], rfl, by omega, h2, h3, h4.trans hc4 sb_⟩
    case measure => simp [intOf]; omega
  ·have hge : ¬ (L : Int) < (R : Int) := by omega
   obtain rfl : L = D := by omega
   go_wp2_with fail
   go_ret
   exact ⟨rfl, h4⟩
def Fi (x : Int) : Prop := 0 ≤ x ∧ x ≤ 9999999999999999999
theorem Fi.wd {x : Int} (h : Fi x) : Wd x := ⟨h.1, by have := h.2; omega⟩
theorem fint_add (x y : Int) (hx : Fi x) (hy : Fi y) (w : World) :
  Calls Tryz.prog 75 #[.int .u64 x, .int .u64 y] w (fun e w' => e = .returned (.tuple #[.int .u64 (if x + y ≤ 9999999999999999999 then x + y else 0), .bool (decide (x + y ≤ 9999999999999999999))]) ∧ w = w') := by
 obtain ⟨hx0, hx1⟩ := hx
 obtain ⟨hy0, hy1⟩ := hy
 have hs : IntKind.u64.wrap (9999999999999999999 - x) = 9999999999999999999 - x := by rw [IntKind.wrap_u64]; omega
 by_cases h : x + y ≤ 9999999999999999999
 ·rw [if_pos h, decide_eq_true h]
  have hlt : ¬ 9999999999999999999 - x < y := by omega
  have hw : IntKind.u64.wrap (x + y) = x + y := by rw [IntKind.wrap_u64]; omega
  clear h
  go_enter Tryz.func75, Tryz.ntmps75
  go_wp2_with fail
  go_ret2
  exact ⟨rfl, rfl⟩
 ·rw [if_neg h, decide_eq_false h]
  have hlt : 9999999999999999999 - x < y := by omega
  clear h
  go_enter Tryz.func75, Tryz.ntmps75
  go_wp2_with fail
  go_ret2
  exact ⟨rfl, rfl⟩
theorem fint_subAbs (x y : Int) (hx : Fi x) (hy : Fi y) (w : World) :
  Calls Tryz.prog 76 #[.int .u64 x, .int .u64 y] w (fun e w' => e = .returned (.int .u64 (if y ≤ x then x - y else y - x)) ∧ w = w') := by
 obtain ⟨hx0, hx1⟩ := hx
 obtain ⟨hy0, hy1⟩ := hy
 by_cases h : y < x
 ·rw [if_pos (by omega)]
  have hw : IntKind.u64.wrap (x - y) = x - y := by rw [IntKind.wrap_u64]; omega
  go_enter Tryz.func76, Tryz.ntmps76
  go_wp2_with fail
  go_ret
  exact ⟨rfl, rfl⟩
 ·have e : (if y ≤ x then x - y else y - x) = y - x := by split <;> omega
  rw [e]
  have hw : IntKind.u64.wrap (y - x) = y - x := by rw [IntKind.wrap_u64]; omega
  clear e
  go_enter Tryz.func76, Tryz.ntmps76
  go_wp2_with fail
  go_ret
  exact ⟨rfl, rfl⟩
theorem fint_mul (x y : Int) (hx : Fi x) (hy : Wd y) (w : World) :
  Calls Tryz.prog 88 #[.int .u64 x, .int .u64 y] w (fun e w' => e = .returned (.tuple #[.int .u64 (if x * y ≤ 9999999999999999999 then x * y else 0), .bool (decide (x * y ≤ 9999999999999999999))]) ∧ w = w') := by
 obtain ⟨hx0, hx1⟩ := hx
 obtain ⟨hy0, hy1⟩ := hy
 by_cases hyz : y = 0
 ·subst hyz
  have hb : ((0 : Int) == 0) = true := rfl
  rw [Int.mul_zero, if_pos (by omega), decide_eq_true (by omega)]
  go_enter Tryz.func88, Tryz.ntmps88
  go_wp2_with fail
  go_ret2
  exact ⟨rfl, rfl⟩
 ·have hb : (y == 0) = false := beq_eq_false_iff_ne.2 hyz
  have hp : 0 ≤ x * y := Int.mul_nonneg hx0 hy0
  by_cases h : x * y ≤ 9999999999999999999
  ·rw [if_pos h, decide_eq_true h]
   have hw : IntKind.u64.wrap (x * y) = x * y := by rw [IntKind.wrap_u64]; omega
   have hq : x * y / y = x := Int.mul_ediv_cancel _ hyz
   have hne : (x != x) = false := by simp
   have hgt : ¬ 9999999999999999999 < x * y := by omega
   clear h
   go_enter Tryz.func88, Tryz.ntmps88
   go_wp2_with fail
   go_ret2
   exact ⟨rfl, rfl⟩
  ·rw [if_neg h, decide_eq_false h]
   by_cases h64 : x * y < 18446744073709551616
   ·have hw : IntKind.u64.wrap (x * y) = x * y := by rw [IntKind.wrap_u64]; omega
    have hq : x * y / y = x := Int.mul_ediv_cancel _ hyz
    have hne : (x != x) = false := by simp
    have hgt : 9999999999999999999 < x * y := by omega
    clear h
    go_enter Tryz.func88, Tryz.ntmps88
    go_wp2_with fail
    go_ret2
    exact ⟨rfl, rfl⟩
   ·obtain ⟨z, hz⟩ : ∃ z, z = (x * y) % 18446744073709551616 := ⟨_, rfl⟩
    have hw : IntKind.u64.wrap (x * y) = z := by rw [IntKind.wrap_u64]; omega
    have hz0 : 0 ≤ z := by omega
    have hz1 : z < 18446744073709551616 := by omega
    have hzq : z / y < x := by
     apply Int.ediv_lt_of_lt_mul (by omega)
     omega
    have hne : (z / y != x) = true := by simp; omega
    have hq0 : 0 ≤ z / y := Int.ediv_nonneg hz0 hy0
    have hq1 : z / y < 18446744073709551616 := by omega
    clear h h64 hz
    go_enter Tryz.func88, Tryz.ntmps88
    go_wp2_with fail
    go_ret2
    exact ⟨rfl, rfl⟩
theorem fint_lsh (x : Int) (s : Nat) (hx : Fi x) (hs : s ≤ 19) (w : World) (ht : Tab w) :
  Calls Tryz.prog 74 #[.int .u64 x, .int .i64 s] w (fun e w' => e = .returned (.tuple #[.int .u64 (if x * 10 ^ s ≤ 9999999999999999999 then x * 10 ^ s else 0), .bool (decide (x * 10 ^ s ≤ 9999999999999999999))]) ∧ w = w') := by
 have hcell := ht s (by omega)
 have hwp := p10_wd (k := s) (by omega)
 have hm := fint_mul x (10 ^ s) hx hwp w
 by_cases h0 : s = 0
 ·subst h0
  have e : x * 10 ^ 0 = x := by rw [Int.pow_zero, Int.mul_one]
  rw [e, if_pos hx.2, decide_eq_true hx.2]
  have hle : ((0 : Nat) : Int) ≤ 0 := by omega
  clear hm hcell hwp
  go_enter Tryz.func74, Tryz.ntmps74
  go_wp2_with fail
  go_ret2
  exact ⟨rfl, rfl⟩
 ·have hle : ¬ (s : Int) ≤ 0 := by omega
  obtain ⟨hx0, hx1⟩ := hx
  by_cases h1 : s = 1 ∧ x < 999999999999999999
  ·obtain ⟨rfl, hlt⟩ := h1
   have e : x * 10 ^ 1 = x * 10 := by rw [Int.pow_one]
   rw [e, if_pos (by omega), decide_eq_true (by omega)]
   have hb1 : (((1 : Nat) : Int) == 1) = true := rfl
   have hw : IntKind.u64.wrap (x * 10) = x * 10 := by rw [IntKind.wrap_u64]; omega
   clear hm hcell hwp
   go_enter Tryz.func74, Tryz.ntmps74
   go_wp2_with fail
   go_ret2
   exact ⟨rfl, rfl⟩
  ·have hge : ¬ (20 : Int) ≤ (s : Int) := by omega
   have hlt20 : (s : Int) < 20 := by omega
   have hs0 : (0 : Int) ≤ (s : Int) := by omega
   generalize (10 : Int) ^ s = T at *
   generalize hr : (if x * T ≤ 9999999999999999999 then x * T else 0) = rv at *
   generalize hd : decide (x * T ≤ 9999999999999999999) = dv at *
   have HM := hid hm
   obtain ⟨hT0, hT1⟩ := hwp
   have hrv : 0 ≤ rv ∧ rv < 18446744073709551616 := by
    rw [← hr]
    have := Int.mul_nonneg hx0 hT0
    split <;> omega
   obtain ⟨hrv0, hrv1⟩ := hrv
   clear hm hr hd
   by_cases h2 : s = 1
   ·have hb1 : ((s : Int) == 1) = true := by subst h2; rfl
    have hnl : ¬ x < 999999999999999999 := fun h => h1 ⟨h2, h⟩
    clear h1 h2
    go_enter Tryz.func74, Tryz.ntmps74
    go_wp2_with (go_at_call 88; refine HM.out.mono ?_; rintro e w' ⟨rfl, rfl⟩)
    go_ret2
    exact ⟨rfl, rfl⟩
   ·have hb1 : ((s : Int) == 1) = false := beq_eq_false_iff_ne.2 (by omega)
    clear h1
    go_enter Tryz.func74, Tryz.ntmps74
    go_wp2_with (go_at_call 88; refine HM.out.mono ?_; rintro e w' ⟨rfl, rfl⟩)
    go_ret2
    exact ⟨rfl, rfl⟩
def decV (neg : Bool) (coef : Int) (scale : Nat) : Value := .agg #[.bool neg, .int .i8 scale, .int .u64 coef]
theorem wrap_i8 {s : Nat} (hs : s ≤ 19) : IntKind.i8.wrap (s : Int) = (s : Int) := by
 have : s < 20 := by omega
 revert this
 have h : ∀ k : Fin 20, IntKind.i8.wrap ((k : Nat) : Int) = ((k : Nat) : Int) := by decide
 intro hk
 exact h ⟨s, hk⟩
theorem newUnsafe_any (neg : Bool) (c : Int) (s : Nat) (hc : Fi c) (hs : s ≤ 19) (w : World) :
  Calls Tryz.prog 69 #[.bool neg, .int .u64 c, .int .i64 s] w (fun e w' => e = .returned (decV (neg && c != 0) c s) ∧ Chg (fun _ => False) w w') := by
 have hw := wrap_i8 hs
 obtain ⟨hc0, hc1⟩ := hc
 by_cases h : c = 0
 ·subst h
  have hb : ((0 : Int) == 0) = true := rfl
  go_enter Tryz.func69, Tryz.ntmps69
  go_wp2_with fail
  refine bodyPost_ret (v := decV (neg && (0 : Int) != 0) 0 s) (by simp [results, Tryz.results69, go_sem, decV]) rfl ⟨rfl, (Chg.refl _ _).alloc _⟩
 ·have hb : (c == 0) = false := beq_eq_false_iff_ne.2 h
  have hb2 : (c != 0) = true := by simp [h]
  go_enter Tryz.func69, Tryz.ntmps69
  go_wp2_with fail
  refine bodyPost_ret (v := decV (neg && c != 0) c s) (by simp [results, Tryz.results69, go_sem, decV, hb2]) rfl ⟨rfl, (Chg.refl _ _).alloc _⟩
structure EnvD (w : World) : Prop where
 env : Env w
 ovf : ∃ t v, w.cell? ⟨2, 0, none⟩ = some (.iface t v)
theorem EnvD.kept {w w' : World} (h : EnvD w) (hc : Chg (fun _ => False) w w') : EnvD w' := ⟨h.env.kept hc, by obtain ⟨t, v, e⟩ := h.ovf; exact ⟨t, v, cell_kept e hc (fun h => h)⟩⟩
def PDec (w : World) (neg : Bool) (o : Option (Int × Nat)) (e : Ending) (w' : World) : Prop :=
 Chg (fun _ => False) w w' ∧ match o with
 | some (c, s) => e = .returned (.tuple #[decV (neg && c != 0) c s, .nilIface])
 | none => ∃ t v, e = .returned (.tuple #[decV false 0 0, .iface t v])
theorem cell3 {w1 : World} {z : Nat} {x0 x1 x2 : Value} {T : TypeId} (hh : w1.heap[z]? = some (.cells #[x0, x1, x2] T (0, 0))) :
  w1.cell? ⟨z, 0, none⟩ = some x0 ∧ w1.cell? ⟨z, 1, none⟩ = some x1 ∧ w1.cell? ⟨z, 2, none⟩ = some x2 ∧ w1.frozen? ⟨z, 0, none⟩ = false ∧ w1.frozen? ⟨z, 1, none⟩ = false ∧ w1.frozen? ⟨z, 2, none⟩ = false := by
 refine ⟨?_, ?_, ?_, ?_, ?_, ?_⟩ <;> simp [World.cell?, World.frozen?, hh]
theorem store3 {w1 : World} {z : Nat} {x0 x1 x2 : Value} {T : TypeId} (hh : w1.heap[z]? = some (.cells #[x0, x1, x2] T (0, 0))) (a b d : Value) :
  (((w1.setCell ⟨z, 0, none⟩ a).setCell ⟨z, 1, none⟩ b).setCell ⟨z, 2, none⟩ d).heap[z]? = some (.cells #[a, b, d] T (0, 0)) := by
 simp [World.setCell, Array.getElem?_modify, hh]
theorem chg3 {w w1 : World} {z : Nat} (hc : Chg (fun _ => False) w w1) (hz : w.heap.size ≤ z) (a b d : Value) : Chg (fun _ => False) w (((w1.setCell ⟨z, 0, none⟩ a).setCell ⟨z, 1, none⟩ b).setCell ⟨z, 2, none⟩ d) :=
 Chg.setCell (p := ⟨z, 2, none⟩) (Chg.setCell (p := ⟨z, 1, none⟩) (Chg.setCell (p := ⟨z, 0, none⟩) hc (fun h => by simp only at h; omega) a) (fun h => by simp only at h; omega) b) (fun h => by simp only at h; omega) d
theorem dec_size : (Tryz.prog.info? 54).map (·.size) = some 3 := by kernel_rfl
theorem dec_result {fn : Func} {p u : Tmp} (h : fn.results = #[.cell p 54, .tmp u]) (tmps : Array Value) (w : World) (g : Nat) (a b d v : Value) (T : TypeId)
  (hp : tmps.getD p undef = .pointer (some ⟨g, 0, none⟩)) (hu : tmps.getD u undef = v) (hg : w.heap[g]? = some (.cells #[a, b, d] T (0, 0))) :
  (results fn tmps).run Tryz.prog w = .ok (.tuple #[.agg #[a, b, d], v]) w := by
 rw [results_cell_tmp h, hp, hu]
 have hl := run_loadVar_row (P := Tryz.prog) w g T 54 #[a, b, d] (0, 0) _ hg Tryz.underlying54 rfl dec_size
 simp [asAddr, hl, Result.andThen]
theorem newSafe_any (neg : Bool) (c : Int) (s : Nat) (hc : Fi c) (hs : s ≤ 19) (w : World) :
  Calls Tryz.prog 66 #[.bool neg, .int .u64 c, .int .i64 s] w (PDec w neg (some (c, s))) := by
 have H := hid (fun w => newUnsafe_any neg c s hc hs w)
 have hb1 : decide ((s : Int) < 0) = false := decide_eq_false (by omega)
 have hb2 : decide ((19 : Int) < (s : Int)) = false := decide_eq_false (by omega)
 obtain ⟨hc0, hc1⟩ := hc
 have hgt : ¬ 9999999999999999999 < c := by omega
 unfold decV at H
 generalize hnb : (neg && c != 0) = nb at *
 have HNB := hid hnb
 clear hnb
 generalize hz : w.heap.size = z at *
 have hnew := heap_alloc_new w (.cells #[.bool false, .int .i8 0, .int .u64 0] 54)
 rw [hz] at hnew
 have hzl : z < (w.alloc (.cells #[.bool false, .int .i8 0, .int .u64 0] 54)).heap.size := by simp [hz]
 have HW := hid (fun w1 (h : Chg (fun _ => False) (w.alloc (.cells #[.bool false, .int .i8 0, .int .u64 0] 54)) w1) => (h.keep z hzl (fun h => h)).trans hnew)
 have HZ := hid hz
 clear hnew hzl
 go_enter Tryz.func66, Tryz.ntmps66
 go_wp2_with (go_at_call 69; refine (H.out _).mono ?_; intro e w1 h; obtain ⟨he, hc⟩ := h; subst he; obtain ⟨k0, k1, k2, f0, f1, f2⟩ := cell3 (HW.out w1 hc))
 have hh := HW.out w1 hc
 have hw3 := store3 hh (.bool nb) (.int .i8 s) (.int .u64 c)
 have hchg := chg3 (((Chg.refl (fun _ => False) w).alloc (.cells #[.bool false, .int .i8 0, .int .u64 0] 54)).trans hc sb_) (Nat.le_of_eq HZ.out) (.bool nb) (.int .i8 s) (.int .u64 c)
 refine bodyPost_ret (v := .tuple #[.agg #[.bool nb, .int .i8 s, .int .u64 c], .nilIface]) (dec_result rfl _ _ z _ _ _ _ _ rfl rfl hw3) rfl ⟨hchg, ?_⟩
 show _ = Ending.returned (.tuple #[decV (neg && c != 0) c s, .nilIface])
 rw [HNB.out]
 rfl
theorem newSafe_flat (neg nb : Bool) (c : Int) (s : Nat) (hc : Fi c) (hs : s ≤ 19) (hnb : (neg && c != 0) = nb) (w : World) :
  Calls Tryz.prog 66 #[.bool neg, .int .u64 c, .int .i64 s] w (fun e w' => e = .returned (.tuple #[.agg #[.bool nb, .int .i8 s, .int .u64 c], .nilIface]) ∧ Chg (fun _ => False) w w') :=
 (newSafe_any neg c s hc hs w).mono (fun e w' h => ⟨by have := h.2; rw [← hnb]; exact this, h.1⟩)
def fromFint (c : Int) (s m : Nat) : Option (Int × Nat) :=
 if s < m then (if c * 10 ^ (m - s) ≤ 9999999999999999999 then some (c * 10 ^ (m - s), m) else none) else some (c, s)
set_option maxHeartbeats 1000000 in
theorem newFromFint_any (neg : Bool) (c : Int) (s m : Nat) (hc : Fi c) (hs : s ≤ 19) (hm : m ≤ 19) (w : World) (he : EnvD w) :
  Calls Tryz.prog 77 #[.bool neg, .int .u64 c, .int .i64 s, .int .i64 m] w (PDec w neg (fromFint c s m)) := by
 have hA := heap_alloc_new w (.cells #[.bool false, .int .i8 0, .int .u64 0] 54)
 have hzl : w.heap.size < (w.alloc (.cells #[.bool false, .int .i8 0, .int .u64 0] 54)).heap.size := by simp
 have HW := hid (fun w1 (h : Chg (fun _ => False) (w.alloc (.cells #[.bool false, .int .i8 0, .int .u64 0] 54)) w1) => (h.keep w.heap.size hzl (fun h => h)).trans hA)
 have hch : Chg (fun _ => False) w (w.alloc (.cells #[.bool false, .int .i8 0, .int .u64 0] 54)) := (Chg.refl _ w).alloc _
 have HCH := hid hch
 have HA := hid hA
 have heA := he.kept hch
 have hend : ∀ (c' : Int) (s' : Nat) (nb : Bool) (w1 : World), (neg && c' != 0) = nb → fromFint c s m = some (c', s') → Chg (fun _ => False) (w.alloc (.cells #[.bool false, .int .i8 0, .int .u64 0] 54)) w1 →
   PDec w neg (fromFint c s m) (.returned (.tuple #[.agg #[.bool nb, .int .i8 s', .int .u64 c'], .nilIface])) (((w1.setCell ⟨w.heap.size, 0, none⟩ (.bool nb)).setCell ⟨w.heap.size, 1, none⟩ (.int .i8 s')).setCell ⟨w.heap.size, 2, none⟩ (.int .u64 c')) := by
  intro c' s' nb w1 h1 h2 h3
  rw [h2]
  refine ⟨chg3 (hch.trans h3 sb_) (Nat.le_refl _) _ _ _, ?_⟩
  show _ = Ending.returned (.tuple #[decV (neg && c' != 0) c' s', .nilIface])
  rw [h1]; rfl
 have HEND := hid hend
 clear hend hA hzl hch
 by_cases h1 : s < m
 ·have hlt : (s : Int) < (m : Int) := by omega
  have hsub : IntKind.i64.wrap ((m : Int) - (s : Int)) = ((m - s : Nat) : Int) := by rw [show (m : Int) - (s : Int) = ((m - s : Nat) : Int) by omega]; exact IntWalk.i64_in _ (by omega)
  have hl := fint_lsh c (m - s) hc (by omega) (w.alloc (.cells #[.bool false, .int .i8 0, .int .u64 0] 54)) heA.env.tab
  have hp := Int.mul_nonneg hc.1 (Int.le_of_lt (p10_pos (m - s)))
  by_cases h2 : c * 10 ^ (m - s) ≤ 9999999999999999999
  ·rw [if_pos h2, decide_eq_true h2] at hl
   have hf : fromFint c s m = some (c * 10 ^ (m - s), m) := by unfold fromFint; rw [if_pos h1, if_pos h2]
   have hFi : Fi (c * 10 ^ (m - s)) := ⟨hp, h2⟩
   generalize c * 10 ^ (m - s) = C at *
   obtain ⟨nb, hnb⟩ : ∃ nb, (neg && C != 0) = nb := ⟨_, rfl⟩
   have hns := fun w => newSafe_flat neg nb C m hFi hm hnb w
   have HL := hid hl; have HNS := hid hns
   have HE2 := hid (fun w1 h => HEND.out C m nb w1 hnb hf h)
   clear hl hns hf h2
   obtain ⟨hC0, hC1⟩ := hFi
   generalize m - s = d at *
   go_enter Tryz.func77, Tryz.ntmps77
   go_wp2_with (first | (go_at_call 74; refine HL.out.mono ?_; intro e w' h; obtain ⟨he1, he2⟩ := h; subst he1; subst he2) | (go_at_call 66; refine (HNS.out _).mono ?_; intro e w1 h; obtain ⟨he3, hc1⟩ := h; subst he3; obtain ⟨k0, k1, k2, f0, f1, f2⟩ := cell3 (HW.out w1 hc1)))
   refine bodyPost_ret (v := .tuple #[.agg #[.bool nb, .int .i8 m, .int .u64 C], .nilIface]) (dec_result rfl _ _ w.heap.size _ _ _ _ _ rfl rfl (store3 (HW.out w1 hc1) _ _ _)) rfl (HE2.out _ hc1)
  ·rw [if_neg h2, decide_eq_false h2] at hl
   have hf : fromFint c s m = none := by unfold fromFint; rw [if_pos h1, if_neg h2]
   rw [hf]
   obtain ⟨t, v, hov⟩ := heA.ovf
   have HL := hid hl
   clear hl h2 hp
   generalize m - s = d at *
   go_enter Tryz.func77, Tryz.ntmps77
   go_wp2_with (go_at_call 74; refine HL.out.mono ?_; intro e w' h; obtain ⟨he1, he2⟩ := h; subst he1; subst he2)
   go_region
   all_goals (go_wp2_with fail; refine bodyPost_ret (v := .tuple #[.agg #[.bool false, .int .i8 0, .int .u64 0], .iface t v]) (dec_result rfl _ _ w.heap.size _ _ _ _ 54 rfl rfl (by exact HA.out)) rfl ⟨HCH.out.drew, t, v, rfl⟩)
 ·have hlt : ¬ (s : Int) < (m : Int) := by omega
  have h19 : ¬ (19 : Int) < (s : Int) := by omega
  have hf : fromFint c s m = some (c, s) := by unfold fromFint; rw [if_neg h1]
  obtain ⟨nb, hnb⟩ : ∃ nb, (neg && c != 0) = nb := ⟨_, rfl⟩
  have hns := fun w => newSafe_flat neg nb c s hc hs hnb w
  have HNS := hid hns
  have HE2 := hid (fun w1 h => HEND.out c s nb w1 hnb hf h)
  clear hns hf
  obtain ⟨hC0, hC1⟩ := hc
  go_enter Tryz.func77, Tryz.ntmps77
  go_wp2_with (go_at_call 66; refine (HNS.out _).mono ?_; intro e w1 h; obtain ⟨he3, hc1⟩ := h; subst he3; obtain ⟨k0, k1, k2, f0, f1, f2⟩ := cell3 (HW.out w1 hc1))
  refine bodyPost_ret (v := .tuple #[.agg #[.bool nb, .int .i8 s, .int .u64 c], .nilIface]) (dec_result rfl _ _ w.heap.size _ _ _ _ _ rfl rfl (store3 (HW.out w1 hc1) _ _ _)) rfl (HE2.out _ hc1)
theorem wrap_i64_nat {s : Nat} (hs : s ≤ 19) : IntKind.i64.wrap (s : Int) = (s : Int) := IntWalk.i64_in _ (by omega)
theorem Scale_any (neg : Bool) (c : Int) (s : Nat) (hs : s ≤ 19) (w : World) :
  Calls Tryz.prog 48 #[.agg #[.bool neg, .int .i8 s, .int .u64 c]] w (fun e w' => e = .returned (.int .i64 s) ∧ Chg (fun _ => False) w w') := by
 have hw := wrap_i64_nat hs
 go_enter Tryz.func48, Tryz.ntmps48
 go_wp2_with fail
 go_ret
 exact ⟨rfl, (Chg.refl _ _).alloc _⟩
theorem IsNeg_any (neg : Bool) (c : Int) (s : Nat) (w : World) :
  Calls Tryz.prog 46 #[.agg #[.bool neg, .int .i8 s, .int .u64 c]] w (fun e w' => e = .returned (.bool neg) ∧ Chg (fun _ => False) w w') := by
 go_enter Tryz.func46, Tryz.ntmps46
 go_wp2_with fail
 go_ret
 exact ⟨rfl, (Chg.refl _ _).alloc _⟩
theorem newUnsafe_flat (neg nb : Bool) (c : Int) (s : Nat) (hc : Fi c) (hs : s ≤ 19) (hnb : (neg && c != 0) = nb) (w : World) :
  Calls Tryz.prog 69 #[.bool neg, .int .u64 c, .int .i64 s] w (fun e w' => e = .returned (.agg #[.bool nb, .int .i8 s, .int .u64 c]) ∧ Chg (fun _ => False) w w') :=
 (newUnsafe_any neg c s hc hs w).mono (fun e w' h => ⟨by have := h.1; rw [← hnb]; exact this, h.2⟩)
end Go.Proofs.YthdkandofddohaaGreatDoor
namespace Go.Proofs.YthdkandofddohaaGreatDoor
open Go.RowKit Go.Proofs.YthdkandofddohaaGreatDoorW.PrintWords Go.Proofs.YthdkandofddohaaGreatDoorW.PrintLast Go.Proofs.YthdkandofddohaaGreatDoorW.PrintMore PFnFixSubExact
set_option linter.unusedVariables false
set_option linter.unusedSimpArgs false
set_option maxRecDepth 20000
theorem whole_size : (Tryz.prog.info? 32).map (·.size) = some 2 := by kernel_rfl
theorem frac_size : (Tryz.prog.info? 34).map (·.size) = some 3 := by kernel_rfl
theorem sdec_size : (Tryz.prog.info? 42).map (·.size) = some 3 := by kernel_rfl
theorem store2 {w1 : World} {z : Nat} {x0 x1 : Value} {T : TypeId} (hh : w1.heap[z]? = some (.cells #[x0, x1] T (0, 0))) (a b : Value) :
  ((w1.setCell ⟨z, 0, none⟩ a).setCell ⟨z, 1, none⟩ b).heap[z]? = some (.cells #[a, b] T (0, 0)) := by
 simp [World.setCell, Array.getElem?_modify, hh]
theorem chg2 {w w1 : World} {z : Nat} (hc : Chg (fun _ => False) w w1) (hz : w.heap.size ≤ z) (a b : Value) : Chg (fun _ => False) w ((w1.setCell ⟨z, 0, none⟩ a).setCell ⟨z, 1, none⟩ b) :=
 Chg.setCell (p := ⟨z, 1, none⟩) (Chg.setCell (p := ⟨z, 0, none⟩) hc (fun h => by simp only at h; omega) a) (fun h => by simp only at h; omega) b
theorem cell2 {w1 : World} {z : Nat} {x0 x1 : Value} {T : TypeId} (hh : w1.heap[z]? = some (.cells #[x0, x1] T (0, 0))) :
  w1.cell? ⟨z, 0, none⟩ = some x0 ∧ w1.cell? ⟨z, 1, none⟩ = some x1 ∧ w1.frozen? ⟨z, 0, none⟩ = false ∧ w1.frozen? ⟨z, 1, none⟩ = false := by
 refine ⟨?_, ?_, ?_, ?_⟩ <;> simp [World.cell?, World.frozen?, hh]
theorem kept_heap {w w' : World} {k : Nat} {o : Obj} (h : Chg (fun _ => False) w w') (e : w.heap[k]? = some o) : w'.heap[k]? = some o :=
 (h.keep k (Array.getElem?_eq_some_iff.1 e).1 (fun h => h)).trans e
def PV (w : World) (v : Value) (e : Ending) (w' : World) : Prop := e = .returned v ∧ Chg (fun _ => False) w w'
theorem wholeOf_any (neg : Bool) (A : Option Addr) (n c : Nat) (b : Bool) (hb : (neg && n != 0) = b) (w : World) :
  Calls Tryz.prog 32 #[.bool neg, .slice A n c] w (PV w (.agg #[.bool b, .slice A n c])) := by
 subst hb
 cases neg with
 | false =>
  rw [Bool.false_and]
  go_enter Tryz.func32, Tryz.ntmps32
  go_wp2_with fail
  refine bodyPost_ret (v := .agg #[.bool false, .slice A n c]) (by rw [results_cell_row rfl _ _ w.heap.size _ _ _ _ rfl (show (w.alloc (.cells #[.bool false, .slice A n c] 32)).heap[w.heap.size]? = some (.cells #[.bool false, .slice A n c] 32 (0, 0)) from heap_alloc_new _ _) Tryz.underlying32 rfl whole_size]) rfl ⟨rfl, (Chg.refl _ _).alloc _⟩
 | true =>
  rw [Bool.true_and]
  obtain ⟨b, hb⟩ : ∃ b, (n != 0) = b := ⟨_, rfl⟩
  have hd : decide (0 < n) = b := by rw [← hb]; cases n <;> simp
  rw [hb]
  clear hb
  go_enter Tryz.func32, Tryz.ntmps32
  go_wp2_with fail
  refine bodyPost_ret (v := .agg #[.bool b, .slice A n c]) (by rw [results_cell_row rfl _ _ w.heap.size _ _ _ _ rfl (show (w.alloc (.cells #[.bool b, .slice A n c] 32)).heap[w.heap.size]? = some (.cells #[.bool b, .slice A n c] 32 (0, 0)) from heap_alloc_new _ _) Tryz.underlying32 rfl whole_size]) rfl ⟨rfl, (Chg.refl _ _).alloc _⟩
theorem WholeMinus_any (neg : Bool) (A : Option Addr) (n c : Nat) (b : Bool) (hb : (!neg && n != 0) = b) (w : World) :
  Calls Tryz.prog 50 #[.agg #[.bool neg, .slice A n c]] w (PV w (.agg #[.bool b, .slice A n c])) := by
 have HW := hid (fun w => wholeOf_any (!neg) A n c b hb w)
 clear hb
 have hz : ((w.alloc (.cells #[.bool neg, .slice A n c] 32)).alloc (.cells #[.bool false, .slice none 0 0] 32)).heap[w.heap.size + 1]? = some (.cells #[.bool false, .slice none 0 0] 32 (0, 0)) := heap_alloc2_new _ _ _
 have HZ := hid hz
 have HC := hid (((Chg.refl (fun _ => False) w).alloc (.cells #[.bool neg, .slice A n c] 32)).alloc (.cells #[.bool false, .slice none 0 0] 32))
 clear hz
 go_enter Tryz.func50, Tryz.ntmps50
 go_wp2_with (go_at_call 32; refine (HW.out _).mono ?_; intro e w1 h; obtain ⟨he1, hk⟩ := h; subst he1; have HK := hid hk; clear hk; obtain ⟨k0, k1, f0, f1⟩ := cell2 (kept_heap HK.out HZ.out))
 refine bodyPost_ret (v := .agg #[.bool b, .slice A n c]) (by rw [results_cell_row rfl _ _ (w.heap.size + 1) _ _ _ _ rfl (store2 (kept_heap HK.out HZ.out) _ _) Tryz.underlying32 rfl whole_size]) rfl ⟨rfl, chg2 (HC.out.trans HK.out sb_) (by omega) _ _⟩
theorem far_cell {w1 : World} {z y i j : Nat} {a : Value} (h : y ≠ z) : (w1.setCell ⟨z, j, none⟩ a).cell? ⟨y, i, none⟩ = w1.cell? ⟨y, i, none⟩ := by
 unfold World.cell?
 rw [Below.heap_setCell _ _ _ _ (by simpa using h)]
theorem SN.far {w w' : World} {A : Option Addr} {n c a z : Nat} {cs : Array Value} {T : TypeId} (h : SN w A n c a) (hz : w.heap[z]? = some (.cells cs T (0, 0))) (hcs : ∀ x, Value.int .u32 x ∉ cs) (hc : Chg (fun k => k = z) w w') : SN w' A n c a := by
 obtain ⟨xs, h1, h2, h3, h4⟩ := h
 refine ⟨xs, h1, h2, Kd.C_keep (0 : Int) h3 ⟨hc.size, fun i hi hne _ => hc.keep i hi hne⟩ ?_, h4⟩
 rintro ad rfl hn rfl
 obtain ⟨hl, _, hr⟩ := Kd.reads_of_C (d := (0 : Int)) h3
 obtain ⟨ad', e, hc'⟩ := hr hn
 cases e
 have := hc' 0 hn
 obtain ⟨bl, off, part⟩ := ad
 simp only [World.cell?, Addr.add, if_true] at this
 simp only [hz] at this
 split at this
 ·exact absurd this (by simp)
 ·exact hcs _ (Array.mem_of_getElem? this)
theorem sn_end2 {w : World} {A : Option Addr} {n c a z : Nat} {b0 : Bool} {x0 : Option Addr} {y0 z0 : Nat} {T : TypeId} (h : SN w A n c a) (hz : w.heap[z]? = some (.cells #[.bool b0, .slice x0 y0 z0] T (0, 0))) (u v : Value) :
  SN ((w.setCell ⟨z, 0, none⟩ u).setCell ⟨z, 1, none⟩ v) A n c a :=
 h.far hz (by simp) (Chg.setCell (p := ⟨z, 1, none⟩) (Chg.setCell (p := ⟨z, 0, none⟩) (Chg.refl (fun k => k = z) w) (fun _ => rfl) u) (fun _ => rfl) v)
theorem sn_end3 {w : World} {A : Option Addr} {n c a z : Nat} {b0 : Bool} {x0 : Option Addr} {y0 z0 : Nat} {r : Value} {T : TypeId} (h : SN w A n c a) (hz : w.heap[z]? = some (.cells #[.bool b0, .slice x0 y0 z0, r] T (0, 0))) (hr : ∀ x, Value.int .u32 x ≠ r) (u v t : Value) :
  SN (((w.setCell ⟨z, 0, none⟩ u).setCell ⟨z, 1, none⟩ v).setCell ⟨z, 2, none⟩ t) A n c a :=
 h.far hz (by simpa using hr) (Chg.setCell (p := ⟨z, 2, none⟩) (Chg.setCell (p := ⟨z, 1, none⟩) (Chg.setCell (p := ⟨z, 0, none⟩) (Chg.refl (fun k => k = z) w) (fun _ => rfl) u) (fun _ => rfl) v) (fun _ => rfl) t)
end Go.Proofs.YthdkandofddohaaGreatDoor
namespace Go.Proofs.YthdkandofddohaaGreatDoor
open Go.RowKit
set_option linter.unusedVariables false
set_option linter.unusedSimpArgs false
theorem alloc_old {W : World} {k : Nat} {o x : Obj} (h : W.heap[k]? = some o) : (W.alloc x).heap[k]? = some o := by
 rw [Below.heap_alloc _ _ _ (Array.getElem?_eq_some_iff.1 h).1]; exact h
theorem alloc_last {W : World} {k : Nat} {x : Obj} (h : W.heap.size = k) : (W.alloc x).heap[k]? = some x := by
 rw [← h]; exact heap_alloc_new _ _
theorem far3 {w1 : World} {b i z : Nat} {v x0 x1 x2 : Value} (h : w1.cell? ⟨b, i, none⟩ = some v) (hne : b ≠ z) : (((w1.setCell ⟨z, 0, none⟩ x0).setCell ⟨z, 1, none⟩ x1).setCell ⟨z, 2, none⟩ x2).cell? ⟨b, i, none⟩ = some v := by
 rw [far_cell hne, far_cell hne, far_cell hne]; exact h
theorem fr_ {w1 : World} {b i : Nat} {v : Value} (z : Nat) (x0 x1 x2 : Value) (h : w1.cell? ⟨b, i, none⟩ = some v) (hne : b ≠ z := by omega) : (((w1.setCell ⟨z, 0, none⟩ x0).setCell ⟨z, 1, none⟩ x1).setCell ⟨z, 2, none⟩ x2).cell? ⟨b, i, none⟩ = some v := far3 h hne
theorem far2 {w1 : World} {b i z : Nat} {v x0 x1 : Value} (h : w1.cell? ⟨b, i, none⟩ = some v) (hne : b ≠ z) : ((w1.setCell ⟨z, 0, none⟩ x0).setCell ⟨z, 1, none⟩ x1).cell? ⟨b, i, none⟩ = some v := by
 rw [far_cell hne, far_cell hne]; exact h
theorem box1 (w : World) (c0 : Array Value) (t0 : TypeId) : Hid (Chg (fun _ => False) w (w.alloc (.cells c0 t0))) ∧ Hid (Chg (fun _ => False) (w.alloc (.cells c0 t0)) (World.drew (w.alloc (.cells c0 t0)))) ∧ (w.alloc (.cells c0 t0)).heap[w.heap.size]? = some (.cells c0 t0 (0, 0)) := by
 refine ⟨((Chg.refl (fun _ => False) w).alloc _), (Chg.refl (fun _ => False) _).drew, ?_⟩
 ·exact alloc_last (by first | rfl | simp)
theorem box2 (w : World) (c0 : Array Value) (t0 : TypeId) (c1 : Array Value) (t1 : TypeId) : Hid (Chg (fun _ => False) w ((w.alloc (.cells c0 t0)).alloc (.cells c1 t1))) ∧ Hid (Chg (fun _ => False) ((w.alloc (.cells c0 t0)).alloc (.cells c1 t1)) (World.drew ((w.alloc (.cells c0 t0)).alloc (.cells c1 t1)))) ∧ ((w.alloc (.cells c0 t0)).alloc (.cells c1 t1)).heap[w.heap.size]? = some (.cells c0 t0 (0, 0)) ∧ ((w.alloc (.cells c0 t0)).alloc (.cells c1 t1)).heap[w.heap.size + 1]? = some (.cells c1 t1 (0, 0)) := by
 refine ⟨(((Chg.refl (fun _ => False) w).alloc _).alloc _), (Chg.refl (fun _ => False) _).drew, ?_, ?_⟩
 ·exact alloc_old (alloc_last (by first | rfl | simp))
 ·exact alloc_last (by first | rfl | simp)
theorem box3 (w : World) (c0 : Array Value) (t0 : TypeId) (c1 : Array Value) (t1 : TypeId) (c2 : Array Value) (t2 : TypeId) : Hid (Chg (fun _ => False) w (((w.alloc (.cells c0 t0)).alloc (.cells c1 t1)).alloc (.cells c2 t2))) ∧ Hid (Chg (fun _ => False) (((w.alloc (.cells c0 t0)).alloc (.cells c1 t1)).alloc (.cells c2 t2)) (World.drew (((w.alloc (.cells c0 t0)).alloc (.cells c1 t1)).alloc (.cells c2 t2)))) ∧ (((w.alloc (.cells c0 t0)).alloc (.cells c1 t1)).alloc (.cells c2 t2)).heap[w.heap.size]? = some (.cells c0 t0 (0, 0)) ∧ (((w.alloc (.cells c0 t0)).alloc (.cells c1 t1)).alloc (.cells c2 t2)).heap[w.heap.size + 1]? = some (.cells c1 t1 (0, 0)) ∧ (((w.alloc (.cells c0 t0)).alloc (.cells c1 t1)).alloc (.cells c2 t2)).heap[w.heap.size + 1 + 1]? = some (.cells c2 t2 (0, 0)) := by
 refine ⟨((((Chg.refl (fun _ => False) w).alloc _).alloc _).alloc _), (Chg.refl (fun _ => False) _).drew, ?_, ?_, ?_⟩
 ·exact alloc_old (alloc_old (alloc_last (by first | rfl | simp)))
 ·exact alloc_old (alloc_last (by first | rfl | simp))
 ·exact alloc_last (by first | rfl | simp)
end Go.Proofs.YthdkandofddohaaGreatDoor
namespace Go.Proofs.YthdkandofddohaaGreatDoor
open Go.RowKit
set_option linter.unusedVariables false
set_option linter.unusedSimpArgs false
set_option maxRecDepth 20000
def PWN (w : World) (sb : Bool) (a : Nat) (e : Ending) (w' : World) : Prop := ∃ (E : Option Addr) (k l : Nat), e = .returned (.agg #[.bool sb, .slice E k l]) ∧ SN w' E k l a ∧ Chg (fun _ => False) w w'
theorem sgn_len {w : World} {E : Option Addr} {k l a : Nat} (h : SN w E k l a) : (k != 0) = (a != 0) := by
 have := h.zero
 by_cases hk : k = 0
 ·have h2 := this.1 hk
  rw [hk, h2]
 ·have h2 : a ≠ 0 := fun h => hk (this.2 h)
  rw [bne_iff_ne.2 hk, bne_iff_ne.2 h2]
theorem wholeOf_sn {w : World} {E : Option Addr} {k l a : Nat} (s sb : Bool) (h : SN w E k l a) (hs : (s && a != 0) = sb) : Calls Tryz.prog 32 #[.bool s, .slice E k l] w (PV w (.agg #[.bool sb, .slice E k l])) :=
 wholeOf_any s E k l sb (by rw [sgn_len h]; exact hs) w
set_option maxHeartbeats 1000000 in
theorem WholeMul_any {w : World} {A B : Option Addr} {n c m d a b : Nat} (n1 n2 sb : Bool) (ha : SN w A n c a) (hb : SN w B m d b) (ha1 : a < tn 1797) (hb1 : b < tn 1797)  (hsb : ((n1 != n2) && a * b != 0) = sb) :
  Calls Tryz.prog 36 #[.agg #[.bool n1, .slice A n c], .agg #[.bool n2, .slice B m d]] w (PWN w sb (a * b)) := by
 have ha2 : a < tn 1800 := up_tn ha1 (by omega)
 have hb2 : b < tn 1800 := up_tn hb1 (by omega)
 have HM := hid (fun w1 (h : Chg (fun _ => False) w w1) => NatMul_any (ha.kept h) (hb.kept h) ha2 hb2)
 obtain ⟨p, hp⟩ : ∃ p, a * b = p := ⟨_, rfl⟩
 rw [hp] at HM hsb ⊢
 clear hp
 obtain ⟨s, hs⟩ : ∃ s, (!(n1 == n2)) = s := ⟨_, rfl⟩
 rw [show (n1 != n2) = s from hs] at hsb
 have HSB := hid hsb
 clear hsb ha hb ha1 hb1 ha2 hb2
 obtain ⟨HC0, HD, hB0, hB1, hB2⟩ := box3 w #[.bool n1, .slice A n c] 32 #[.bool n2, .slice B m d] 32 #[.bool false, .slice none 0 0] 32
 have HZ := hid hB2
 have HSS := hid (fun (w1 : World) h => And.intro ((cell2 (kept_heap (w' := w1) h hB0)).1) (And.intro ((cell2 (kept_heap (w' := w1) h hB0)).2.1) (And.intro ((cell2 (kept_heap (w' := w1) h hB1)).1) ((cell2 (kept_heap (w' := w1) h hB1)).2.1))))
 have HST := hid (fun w1 x0 x1 h => And.intro (far2 (z := w.heap.size + 1 + 1) (x0 := x0) (x1 := x1) (HSS.out w1 h).1 (by omega)) (And.intro (far2 (z := w.heap.size + 1 + 1) (x0 := x0) (x1 := x1) (HSS.out w1 h).2.1 (by omega)) (And.intro (far2 (z := w.heap.size + 1 + 1) (x0 := x0) (x1 := x1) (HSS.out w1 h).2.2.1 (by omega)) (far2 (z := w.heap.size + 1 + 1) (x0 := x0) (x1 := x1) (HSS.out w1 h).2.2.2 (by omega)))))
 clear hB0 hB1 hB2
 have hk := HD.out
 go_enter Tryz.func36, Tryz.ntmps36
 go_wp2_with fail
 first | (go_region_held3 (fun w' => w'.cell? ⟨w.heap.size, 0, none⟩ = some (.bool n1) ∧ w'.cell? ⟨w.heap.size, 1, none⟩ = some (.slice A n c) ∧ w'.cell? ⟨w.heap.size + 1, 0, none⟩ = some (.bool n2) ∧ w'.cell? ⟨w.heap.size + 1, 1, none⟩ = some (.slice B m d)) (first | with_reducible exact HSS.out _ hk | with_reducible exact HST.out _ _ _ hk | go_keep) (first | (go_at_call 33; refine (HM.out _ (HC0.out.trans hk sb_)).mono ?_; intro e w1 h; obtain ⟨E, k, l, he, hsn, hc⟩ := h; subst he; replace hk := hk.trans hc sb_; skip; have HSN := hid hsn; clear hsn; clear hc; obtain ⟨k0, k1, f0, f1⟩ := cell2 (kept_heap hk HZ.out)) | (go_at_call 32; refine (wholeOf_sn s sb HSN.out HSB.out).mono ?_; intro e w1 h; obtain ⟨he, hc⟩ := h; subst he; replace hk := hk.trans hc sb_; (try replace HSN := hid (HSN.out.kept hc)); clear hc; obtain ⟨k0, k1, f0, f1⟩ := cell2 (kept_heap hk HZ.out)))) | fail
 all_goals (go_wp2_with fail; refine bodyPost_ret (v := .agg #[.bool sb, .slice E k l]) (by rw [results_cell_row rfl _ _ (w.heap.size + 1 + 1) _ _ _ _ rfl (store2 (kept_heap hk HZ.out) _ _) Tryz.underlying32 rfl whole_size]) rfl ⟨E, k, l, rfl, sn_end2 HSN.out (kept_heap hk HZ.out) _ _, chg2 (HC0.out.trans hk sb_) (by omega) _ _⟩)
set_option maxHeartbeats 1000000 in
theorem WholeAdd_same {w : World} {A B : Option Addr} {n c m d a b : Nat} (n1 n2 sb : Bool) (ha : SN w A n c a) (hb : SN w B m d b) (ha1 : a < tn 1797) (hb1 : b < tn 1797) (hs : n1 = n2) (hsb : (n1 && (a + b) != 0) = sb) :
  Calls Tryz.prog 38 #[.agg #[.bool n1, .slice A n c], .agg #[.bool n2, .slice B m d]] w (PWN w sb ((a + b))) := by
 have ha2 : a < tn 1800 := up_tn ha1 (by omega)
 have hb2 : b < tn 1800 := up_tn hb1 (by omega)
 have HM := hid (fun w1 (h : Chg (fun _ => False) w w1) => NatAdd_any (ha.kept h) (hb.kept h) ha2 hb2)
 obtain ⟨p, hp⟩ : ∃ p, a + b = p := ⟨_, rfl⟩
 rw [hp] at HM hsb ⊢
 clear hp
 subst hs
 obtain ⟨s, hs⟩ : ∃ s, n1 = s := ⟨_, rfl⟩
 subst hs
 have HSB := hid hsb
 clear hsb ha hb ha1 hb1 ha2 hb2
 obtain ⟨HC0, HD, hB0, hB1, hB2⟩ := box3 w #[.bool n1, .slice A n c] 32 #[.bool n1, .slice B m d] 32 #[.bool false, .slice none 0 0] 32
 have HZ := hid hB2
 have HSS := hid (fun (w1 : World) h => And.intro ((cell2 (kept_heap (w' := w1) h hB0)).1) (And.intro ((cell2 (kept_heap (w' := w1) h hB0)).2.1) (And.intro ((cell2 (kept_heap (w' := w1) h hB1)).1) ((cell2 (kept_heap (w' := w1) h hB1)).2.1))))
 have HST := hid (fun w1 x0 x1 h => And.intro (far2 (z := w.heap.size + 1 + 1) (x0 := x0) (x1 := x1) (HSS.out w1 h).1 (by omega)) (And.intro (far2 (z := w.heap.size + 1 + 1) (x0 := x0) (x1 := x1) (HSS.out w1 h).2.1 (by omega)) (And.intro (far2 (z := w.heap.size + 1 + 1) (x0 := x0) (x1 := x1) (HSS.out w1 h).2.2.1 (by omega)) (far2 (z := w.heap.size + 1 + 1) (x0 := x0) (x1 := x1) (HSS.out w1 h).2.2.2 (by omega)))))
 clear hB0 hB1 hB2
 have hk := HD.out
 obtain ⟨d0, d1, d2, d3⟩ := HSS.out _ (Chg.refl _ _)
 go_enter Tryz.func38, Tryz.ntmps38
 go_wp2_with fail
 first | (go_region_held3 (fun w' => w'.cell? ⟨w.heap.size, 0, none⟩ = some (.bool n1) ∧ w'.cell? ⟨w.heap.size, 1, none⟩ = some (.slice A n c) ∧ w'.cell? ⟨w.heap.size + 1, 0, none⟩ = some (.bool n1) ∧ w'.cell? ⟨w.heap.size + 1, 1, none⟩ = some (.slice B m d)) (first | with_reducible exact HSS.out _ hk | with_reducible exact HST.out _ _ _ hk | go_keep) (first | (go_at_call 61; refine (HM.out _ (HC0.out.trans hk sb_)).mono ?_; intro e w1 h; obtain ⟨E, k, l, he, hsn, hc⟩ := h; subst he; replace hk := hk.trans hc sb_; skip; have HSN := hid hsn; clear hsn; clear hc; obtain ⟨k0, k1, f0, f1⟩ := cell2 (kept_heap hk HZ.out)) | (go_at_call 32; refine (wholeOf_sn n1 sb HSN.out HSB.out).mono ?_; intro e w1 h; obtain ⟨he, hc⟩ := h; subst he; replace hk := hk.trans hc sb_; (try replace HSN := hid (HSN.out.kept hc)); clear hc; obtain ⟨k0, k1, f0, f1⟩ := cell2 (kept_heap hk HZ.out)))) | fail
 all_goals (go_wp2_with fail; refine bodyPost_ret (v := .agg #[.bool sb, .slice E k l]) (by rw [results_cell_row rfl _ _ (w.heap.size + 1 + 1) _ _ _ _ rfl (store2 (kept_heap hk HZ.out) _ _) Tryz.underlying32 rfl whole_size]) rfl ⟨E, k, l, rfl, sn_end2 HSN.out (kept_heap hk HZ.out) _ _, chg2 (HC0.out.trans hk sb_) (by omega) _ _⟩)
set_option maxHeartbeats 1000000 in
theorem WholeAdd_ge {w : World} {A B : Option Addr} {n c m d a b : Nat} (n1 n2 sb : Bool) (ha : SN w A n c a) (hb : SN w B m d b) (ha1 : a < tn 1797) (hb1 : b < tn 1797) (hs : (n1 == n2) = false) (hle : b ≤ a) (hsb : (n1 && (a - b) != 0) = sb) :
  Calls Tryz.prog 38 #[.agg #[.bool n1, .slice A n c], .agg #[.bool n2, .slice B m d]] w (PWN w sb ((a - b))) := by
 have ha2 : a < tn 1800 := up_tn ha1 (by omega)
 have hb2 : b < tn 1800 := up_tn hb1 (by omega)
 have HM := hid (fun w1 (h : Chg (fun _ => False) w w1) => NatSub_any (ha.kept h) (hb.kept h) ha2 (by omega))
 have HCM := hid (fun w1 (h : Chg (fun _ => False) w w1) => NatCmp_any (ha.kept h) (hb.kept h) ha2 hb2)
 obtain ⟨p, hp⟩ : ∃ p, a - b = p := ⟨_, rfl⟩
 rw [hp] at HM hsb ⊢
 clear hp
 have hcm : (0 : Int) ≤ cmpN a b := by unfold cmpN; rw [if_neg (by omega)]; split <;> omega
 generalize cmpN a b = q at *
 have HSB := hid hsb
 clear hle hsb ha hb ha1 hb1 ha2 hb2
 obtain ⟨HC0, HD, hB0, hB1, hB2⟩ := box3 w #[.bool n1, .slice A n c] 32 #[.bool n2, .slice B m d] 32 #[.bool false, .slice none 0 0] 32
 have HZ := hid hB2
 have HSS := hid (fun (w1 : World) h => And.intro ((cell2 (kept_heap (w' := w1) h hB0)).1) (And.intro ((cell2 (kept_heap (w' := w1) h hB0)).2.1) (And.intro ((cell2 (kept_heap (w' := w1) h hB1)).1) ((cell2 (kept_heap (w' := w1) h hB1)).2.1))))
 have HST := hid (fun w1 x0 x1 h => And.intro (far2 (z := w.heap.size + 1 + 1) (x0 := x0) (x1 := x1) (HSS.out w1 h).1 (by omega)) (And.intro (far2 (z := w.heap.size + 1 + 1) (x0 := x0) (x1 := x1) (HSS.out w1 h).2.1 (by omega)) (And.intro (far2 (z := w.heap.size + 1 + 1) (x0 := x0) (x1 := x1) (HSS.out w1 h).2.2.1 (by omega)) (far2 (z := w.heap.size + 1 + 1) (x0 := x0) (x1 := x1) (HSS.out w1 h).2.2.2 (by omega)))))
 clear hB0 hB1 hB2
 have hk := HD.out
 obtain ⟨d0, d1, d2, d3⟩ := HSS.out _ (Chg.refl _ _)
 go_enter Tryz.func38, Tryz.ntmps38
 go_wp2_with (go_at_call 60; refine (HCM.out _ HC0.out).mono ?_; intro e w1 h; obtain ⟨he, hc⟩ := h; subst he; replace hk := hc; clear hc d0 d1 d2 d3; obtain ⟨d0, d1, d2, d3⟩ := HSS.out _ hk)
 have hk := hk.drew
 first | (go_region_held3 (fun w' => w'.cell? ⟨w.heap.size, 0, none⟩ = some (.bool n1) ∧ w'.cell? ⟨w.heap.size, 1, none⟩ = some (.slice A n c) ∧ w'.cell? ⟨w.heap.size + 1, 0, none⟩ = some (.bool n2) ∧ w'.cell? ⟨w.heap.size + 1, 1, none⟩ = some (.slice B m d)) (first | with_reducible exact HSS.out _ hk | with_reducible exact HST.out _ _ _ hk | go_keep) (first | (go_at_call 62; refine (HM.out _ (HC0.out.trans hk sb_)).mono ?_; intro e w1 h; obtain ⟨E, k, l, he, hsn, hc⟩ := h; subst he; replace hk := hk.trans hc sb_; skip; have HSN := hid hsn; clear hsn; clear hc; obtain ⟨k0, k1, f0, f1⟩ := cell2 (kept_heap hk HZ.out)) | (go_at_call 32; refine (wholeOf_sn n1 sb HSN.out HSB.out).mono ?_; intro e w1 h; obtain ⟨he, hc⟩ := h; subst he; replace hk := hk.trans hc sb_; (try replace HSN := hid (HSN.out.kept hc)); clear hc; obtain ⟨k0, k1, f0, f1⟩ := cell2 (kept_heap hk HZ.out)))) | fail
 all_goals (go_wp2_with fail; refine bodyPost_ret (v := .agg #[.bool sb, .slice E k l]) (by rw [results_cell_row rfl _ _ (w.heap.size + 1 + 1) _ _ _ _ rfl (store2 (kept_heap hk HZ.out) _ _) Tryz.underlying32 rfl whole_size]) rfl ⟨E, k, l, rfl, sn_end2 HSN.out (kept_heap hk HZ.out) _ _, chg2 (HC0.out.trans hk sb_) (by omega) _ _⟩)
set_option maxHeartbeats 1000000 in
theorem WholeAdd_lt {w : World} {A B : Option Addr} {n c m d a b : Nat} (n1 n2 sb : Bool) (ha : SN w A n c a) (hb : SN w B m d b) (ha1 : a < tn 1797) (hb1 : b < tn 1797) (hs : (n1 == n2) = false) (hle : a < b) (hsb : (n2 && (b - a) != 0) = sb) :
  Calls Tryz.prog 38 #[.agg #[.bool n1, .slice A n c], .agg #[.bool n2, .slice B m d]] w (PWN w sb ((b - a))) := by
 have ha2 : a < tn 1800 := up_tn ha1 (by omega)
 have hb2 : b < tn 1800 := up_tn hb1 (by omega)
 have HM := hid (fun w1 (h : Chg (fun _ => False) w w1) => NatSub_any (hb.kept h) (ha.kept h) hb2 (by omega))
 have HCM := hid (fun w1 (h : Chg (fun _ => False) w w1) => NatCmp_any (ha.kept h) (hb.kept h) ha2 hb2)
 obtain ⟨p, hp⟩ : ∃ p, b - a = p := ⟨_, rfl⟩
 rw [hp] at HM hsb ⊢
 clear hp
 have hcm : ¬ (0 : Int) ≤ cmpN a b := by unfold cmpN; rw [if_pos hle]; omega
 generalize cmpN a b = q at *
 have HSB := hid hsb
 clear hle hsb ha hb ha1 hb1 ha2 hb2
 obtain ⟨HC0, HD, hB0, hB1, hB2⟩ := box3 w #[.bool n1, .slice A n c] 32 #[.bool n2, .slice B m d] 32 #[.bool false, .slice none 0 0] 32
 have HZ := hid hB2
 have HSS := hid (fun (w1 : World) h => And.intro ((cell2 (kept_heap (w' := w1) h hB0)).1) (And.intro ((cell2 (kept_heap (w' := w1) h hB0)).2.1) (And.intro ((cell2 (kept_heap (w' := w1) h hB1)).1) ((cell2 (kept_heap (w' := w1) h hB1)).2.1))))
 have HST := hid (fun w1 x0 x1 h => And.intro (far2 (z := w.heap.size + 1 + 1) (x0 := x0) (x1 := x1) (HSS.out w1 h).1 (by omega)) (And.intro (far2 (z := w.heap.size + 1 + 1) (x0 := x0) (x1 := x1) (HSS.out w1 h).2.1 (by omega)) (And.intro (far2 (z := w.heap.size + 1 + 1) (x0 := x0) (x1 := x1) (HSS.out w1 h).2.2.1 (by omega)) (far2 (z := w.heap.size + 1 + 1) (x0 := x0) (x1 := x1) (HSS.out w1 h).2.2.2 (by omega)))))
 clear hB0 hB1 hB2
 have hk := HD.out
 obtain ⟨d0, d1, d2, d3⟩ := HSS.out _ (Chg.refl _ _)
 go_enter Tryz.func38, Tryz.ntmps38
 go_wp2_with (go_at_call 60; refine (HCM.out _ HC0.out).mono ?_; intro e w1 h; obtain ⟨he, hc⟩ := h; subst he; replace hk := hc; clear hc d0 d1 d2 d3; obtain ⟨d0, d1, d2, d3⟩ := HSS.out _ hk)
 have hk := hk.drew
 first | (go_region_held3 (fun w' => w'.cell? ⟨w.heap.size, 0, none⟩ = some (.bool n1) ∧ w'.cell? ⟨w.heap.size, 1, none⟩ = some (.slice A n c) ∧ w'.cell? ⟨w.heap.size + 1, 0, none⟩ = some (.bool n2) ∧ w'.cell? ⟨w.heap.size + 1, 1, none⟩ = some (.slice B m d)) (first | with_reducible exact HSS.out _ hk | with_reducible exact HST.out _ _ _ hk | go_keep) (first | (go_at_call 62; refine (HM.out _ (HC0.out.trans hk sb_)).mono ?_; intro e w1 h; obtain ⟨E, k, l, he, hsn, hc⟩ := h; subst he; replace hk := hk.trans hc sb_; skip; have HSN := hid hsn; clear hsn; clear hc; obtain ⟨k0, k1, f0, f1⟩ := cell2 (kept_heap hk HZ.out)) | (go_at_call 32; refine (wholeOf_sn n2 sb HSN.out HSB.out).mono ?_; intro e w1 h; obtain ⟨he, hc⟩ := h; subst he; replace hk := hk.trans hc sb_; (try replace HSN := hid (HSN.out.kept hc)); clear hc; obtain ⟨k0, k1, f0, f1⟩ := cell2 (kept_heap hk HZ.out)))) | fail
 all_goals (go_wp2_with fail; refine bodyPost_ret (v := .agg #[.bool sb, .slice E k l]) (by rw [results_cell_row rfl _ _ (w.heap.size + 1 + 1) _ _ _ _ rfl (store2 (kept_heap hk HZ.out) _ _) Tryz.underlying32 rfl whole_size]) rfl ⟨E, k, l, rfl, sn_end2 HSN.out (kept_heap hk HZ.out) _ _, chg2 (HC0.out.trans hk sb_) (by omega) _ _⟩)
end Go.Proofs.YthdkandofddohaaGreatDoor
namespace Go.Proofs.YthdkandofddohaaGreatDoor
open Go.RowKit
set_option linter.unusedVariables false
set_option linter.unusedSimpArgs false
theorem div_scaled {X Y P q u : Int} (hP : 0 < P) (hY : 0 < Y) (h : u + Y * P * q = X * P) (h0 : 0 ≤ u) (h1 : u < Y * P) : q = X / Y ∧ u / P = X % Y := by
 have e : u = (X - Y * q) * P := by rw [Int.sub_mul, ← h, Int.mul_right_comm]; omega
 have t0 : 0 ≤ X - Y * q := by
  by_cases k : 0 ≤ X - Y * q
  ·exact k
  ·have := Int.mul_neg_of_neg_of_pos (show X - Y * q < 0 by omega) hP
   omega
 have t1 : X - Y * q < Y := by
  rw [e] at h1
  exact Int.lt_of_mul_lt_mul_right h1 (Int.le_of_lt hP)
 have := (Int.ediv_emod_unique (a := X) (b := Y) (q := q) (r := X - Y * q) hY).2 ⟨by omega, t0, t1⟩
 refine ⟨this.1.symm, ?_⟩
 rw [e, Int.mul_ediv_cancel _ (by omega), this.2]
theorem scale_top {ys : List Int} {n s : Nat} {a : Int} (hw : Wds ys) (hl : ys.length = n) (hn : 1 ≤ n) (hs : s ≤ 63) (ha : ys.getD (n - 1) 0 = a)
  (h1 : 9223372036854775808 ≤ a * 2 ^ s) (h2 : a * 2 ^ s < 18446744073709551616) :
  mulC ys (2 ^ s) 0 = 0 ∧ val (mulD ys (2 ^ s) 0) = val ys * 2 ^ s ∧ 9223372036854775808 ≤ (mulD ys (2 ^ s) 0).getD (n - 1) 0 := by
 obtain ⟨m, rfl⟩ : ∃ m, n = m + 1 := ⟨n - 1, by omega⟩
 simp only [Nat.add_sub_cancel] at ha ⊢
 have hsp : ys = ys.take m ++ [a] := by
  have := seg_all ys
  rw [hl, seg_succ (by omega), Nat.zero_add, seg_take, ha] at this
  exact this.symm
 have htl : (ys.take m).length = m := by simp; omega
 obtain ⟨c0, c1, _⟩ := mulC_shl (ys.take m) (s := s) (by omega) (hw.take m)
 have hp := pow_pos' s
 have hm : a * 2 ^ s + mulC (ys.take m) (2 ^ s) 0 < 18446744073709551616 := by
  obtain ⟨d, hd⟩ : ∃ d : Int, (18446744073709551616 : Int) = d * 2 ^ s := ⟨2 ^ (64 - s), by rw [Int.mul_comm]; exact (pow_split (by omega)).symm⟩
  have hlt : a < d := by rw [hd] at h2; exact Int.lt_of_mul_lt_mul_right h2 (Int.le_of_lt hp)
  have h3 := Int.mul_le_mul_of_nonneg_right (show a + 1 ≤ d by omega) (Int.le_of_lt hp)
  rw [Int.add_mul, Int.one_mul, ← hd] at h3
  omega
 have e1 : mulC ys (2 ^ s) 0 = 0 := by
  rw [hsp, mulC_snoc]
  omega
 refine ⟨e1, ?_, ?_⟩
 ·have := mulD_val ys (2 ^ s) 0
  rw [e1] at this
  omega
 ·rw [hsp, mulD_snoc]
  have hl2 : (mulD (ys.take m) (2 ^ s) 0).length = m := by rw [mulD_length]; exact htl
  rw [List.getD_eq_getElem?_getD, List.getElem?_append_right (by omega), hl2]
  simp
  omega
end Go.Proofs.YthdkandofddohaaGreatDoor
namespace Go.Proofs.YthdkandofddohaaGreatDoor
open Go.RowKit
set_option linter.unusedVariables false
set_option linter.unusedSimpArgs false
set_option maxRecDepth 20000
def PDiv (w : World) (bz b2 : Option Nat) (X Y : Int) (e : Ending) (w' : World) : Prop :=
 ∃ (vq vr : Value) (bq br : Option Nat) (qd rd : List Int), e = .returned (.tuple #[vq, vr]) ∧ NatAt w' vq bq qd ∧ Nrm qd ∧ val qd = X / Y ∧ (bq = bz ∨ ∃ b, bq = some b ∧ w.heap.size ≤ b) ∧
  NatAt w' vr br rd ∧ Nrm rd ∧ val rd = X % Y ∧ (br = b2 ∨ ∃ b, br = some b ∧ w.heap.size ≤ b) ∧ (∀ b, bq = some b → br ≠ some b) ∧ Chg (fun k => bz = some k ∨ b2 = some k) w w'
theorem StkAt.ne {w : World} {s b : Nat} {xs : List Int} (h : StkAt w s) (k : Row w b xs) (hx : 1 ≤ xs.length) : s ≠ b := by
 rintro rfl
 have h1 := h.1
 have h2 := k.cell (i := 0) (by omega)
 rw [h1] at h2
 cases h2
def Scaled (w2 : World) (g bu cg cu n L s : Nat) (X Y : Int) (wx : World) : Prop :=
 ∃ us vs usp gsp : List Int, Row wx bu (us ++ usp) ∧ Row wx g (vs ++ gsp) ∧ us.length = L + 1 ∧ vs.length = n ∧ (us ++ usp).length = cu ∧ (vs ++ gsp).length = cg ∧ val us = X * 2 ^ s ∧ val vs = Y * 2 ^ s ∧
  9223372036854775808 ≤ vs.getD (n - 1) 0 ∧ us.getD L 0 < vs.getD (n - 1) 0 ∧ Chg (fun k => k = g ∨ k = bu) w2 wx
theorem split_put {rs ds : List Int} {n : Nat} (hd : ds.length = n) (h : n ≤ rs.length) : put rs 0 ds = ds ++ rs.drop n := by
 unfold put; rw [hd]; simp
theorem scaled_pos {w2 w3 w4 : World} {g bu n L s : Nat} {gs us xs ys : List Int} (hn : 1 ≤ n) (hs : s ≤ 63) (hxl : xs.length = L) (hyl : ys.length = n) (hwx : Wds xs) (hwy : Wds ys) (hgl : n ≤ gs.length) (hul : L + 1 ≤ us.length)
  (htop : 9223372036854775808 ≤ ys.getD (n - 1) 0 * 2 ^ s) (htop2 : ys.getD (n - 1) 0 * 2 ^ s < 18446744073709551616) (hgu : g ≠ bu)
  (r3 : Row w3 g (put gs 0 (mulD ys (2 ^ s) 0))) (c3 : Chg (· = g) w2 w3) (r4 : Row w4 bu (put us 0 (mulD xs (2 ^ s) 0))) (c4 : Chg (· = bu) w3 w4) :
  Scaled w2 g bu gs.length us.length n L s (val xs) (val ys) (w4.setCell ⟨bu, L, none⟩ (.int .u64 (mulC xs (2 ^ s) 0))) := by
 obtain ⟨e1, e2, e3⟩ := scale_top hwy hyl hn hs rfl htop htop2
 obtain ⟨k0, k1, _⟩ := mulC_shl xs (s := s) (by omega) hwx
 have hp : (2 : Int) ^ s ≤ 9223372036854775808 := by
  obtain ⟨d, hd⟩ : ∃ d, 63 = s + d := ⟨63 - s, by omega⟩
  have h2 : (2 : Int) ^ s * 2 ^ d = 9223372036854775808 := by rw [← Int.pow_add, ← hd]; rfl
  have h3 : (1 : Int) ≤ 2 ^ d := by have := pow_pos' d; omega
  have := Int.mul_le_mul_of_nonneg_left h3 (Int.le_of_lt (pow_pos' s))
  omega
 have hcw : Wd (mulC xs (2 ^ s) 0) := ⟨k0, by omega⟩
 have hml : (mulD xs (2 ^ s) 0).length = L := by rw [mulD_length]; exact hxl
 have hset := r4.set L hcw
 have hsn := put_snoc (xs := us) (i := 0) (ds := mulD xs (2 ^ s) 0) (mulC xs (2 ^ s) 0) (by omega)
 rw [hml, Nat.zero_add] at hsn
 rw [hsn, split_put (n := L + 1) (by simp [hml]) (by omega)] at hset
 have hg := (r3.kept c4 hgu).set_ne hgu L (.int .u64 (mulC xs (2 ^ s) 0))
 rw [split_put (n := n) (by rw [mulD_length]; exact hyl) hgl] at hg
 refine ⟨_, _, _, _, hset, hg, by simp [hml], by rw [mulD_length]; exact hyl, ?_, ?_, ?_, e2, e3, ?_, ?_⟩
 ·simp [hml]; omega
 ·simp [mulD_length, hyl]; omega
 ·have := mulD_val xs (2 ^ s) 0
  rw [val_snoc, mulD_length]; omega
 ·have : (mulD xs (2 ^ s) 0 ++ [mulC xs (2 ^ s) 0]).getD L 0 = mulC xs (2 ^ s) 0 := by
   rw [List.getD_eq_getElem?_getD, List.getElem?_append_right (by omega), hml]; simp
  rw [this]; omega
 ·exact ((c3.mono (fun _ h => .inl h)).trans (c4.mono (fun _ h => .inr h)) (fun _ _ h => h)).setCell (fun _ => .inr rfl) _
theorem scaled_of {w2 wx : World} {g bu n L s : Nat} {gs us U V : List Int} {X Y : Int} (hU : U.length = L + 1) (hV : V.length = n) (hgl : n ≤ gs.length) (hul : L + 1 ≤ us.length)
  (ru : Row wx bu (put us 0 U)) (rg : Row wx g (put gs 0 V)) (h1 : val U = X * 2 ^ s) (h2 : val V = Y * 2 ^ s) (h3 : 9223372036854775808 ≤ V.getD (n - 1) 0) (h4 : U.getD L 0 < V.getD (n - 1) 0)
  (hc : Chg (fun k => k = g ∨ k = bu) w2 wx) : Scaled w2 g bu gs.length us.length n L s X Y wx := by
 rw [split_put hU (by omega)] at ru
 rw [split_put hV (by omega)] at rg
 exact ⟨_, _, _, _, ru, rg, hU, hV, by simp [hU]; omega, by simp [hV]; omega, h1, h2, h3, h4, hc⟩
theorem scaled_zero {w2 : World} {g bu n L : Nat} {gs us xs ys : List Int} (hn : 1 ≤ n) (hxl : xs.length = L) (hyl : ys.length = n) (hwx : Wds xs) (hwy : Wds ys) (hgl : n ≤ gs.length) (hul : L + 1 ≤ us.length)
  (htop : 9223372036854775808 ≤ ys.getD (n - 1) 0) (hgu : g ≠ bu) (hg : Row w2 g gs) (hu : Row w2 bu us) :
  Scaled w2 g bu gs.length us.length n L 0 (val xs) (val ys) (((w2.setRow g ((put gs 0 ys).map (Value.int .u64)).toArray).setRow bu ((put us 0 xs).map (Value.int .u64)).toArray).setCell ⟨bu, L, none⟩ (.int .u64 0)) := by
 have c3 : Chg (· = g) w2 (w2.setRow g ((put gs 0 ys).map (Value.int .u64)).toArray) := (Chg.refl (· = g) w2).setRow (fun _ => rfl) _
 have r3 := hg.setRow (put_wds hg.2 hwy 0)
 have hu3 := hu.kept c3 (fun h => hgu h.symm)
 have c4 : Chg (· = bu) (w2.setRow g ((put gs 0 ys).map (Value.int .u64)).toArray) ((w2.setRow g ((put gs 0 ys).map (Value.int .u64)).toArray).setRow bu ((put us 0 xs).map (Value.int .u64)).toArray) := (Chg.refl (· = bu) _).setRow (fun _ => rfl) _
 have r4 := hu3.setRow (put_wds hu.2 hwx 0)
 have hset := r4.set L wd0
 have hsn := put_snoc (xs := us) (i := 0) (ds := xs) 0 (by omega)
 rw [hxl, Nat.zero_add] at hsn
 have hg' := (r3.kept c4 hgu).set_ne hgu L (.int .u64 0)
 have hset' : Row (((w2.setRow g ((put gs 0 ys).map (Value.int .u64)).toArray).setRow bu ((put us 0 xs).map (Value.int .u64)).toArray).setCell ⟨bu, L, none⟩ (.int .u64 0)) bu (put us 0 (xs ++ [0])) := by rw [← hsn]; exact hset
 refine scaled_of (by simp [hxl]) hyl hgl hul hset' hg' (by rw [val_snoc]; simp) (by simp) htop ?_ ?_
 ·have : (xs ++ [(0 : Int)]).getD L 0 = 0 := by
   rw [List.getD_eq_getElem?_getD, List.getElem?_append_right (by omega), hxl]; simp
  rw [this]; omega
 ·exact ((c3.mono (fun _ h => .inl h)).trans (c4.mono (fun _ h => .inr h)) (fun _ _ h => h)).setCell (fun _ => .inr rfl) _
theorem scaled_back {X Y : Int} {us vs qd : List Int} {s : Nat} (hs : s ≤ 63) (hw : Wds us) (hY : 0 < Y) (hu : val us + val vs * val qd = X * 2 ^ s) (hlt : val us < val vs) (hv : val vs = Y * 2 ^ s) :
  val qd = X / Y ∧ val us / 2 ^ s = X % Y := by
 rw [hv] at hu hlt
 exact div_scaled (pow_pos' s) hY hu (val_nonneg hw) hlt
end Go.Proofs.YthdkandofddohaaGreatDoor
