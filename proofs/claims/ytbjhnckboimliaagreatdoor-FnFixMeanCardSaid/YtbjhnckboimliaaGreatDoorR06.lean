/- Part 6 of the rest of the proof. -/
import Derived.Test.YtbjhnckboimliaaGreatDoorProg
import Derived.Lib.Mul64
import Derived.WalkKit
import Derived.KernelRfl
import Derived.Deep.QuietTactic
import Derived.BigQuiet
import Derived.LaidEqlPtr
import Derived.Laws.IdiomCopy
import Derived.RegionTactic
import Derived.BigRegion
import Derived.StillTailTactics
import Derived.Deep.RegionWith
import Derived.Shelf.Small.Bits
import Derived.Shelf.Strconv.Itoa0
import Derived.Shelf.Bits.Mul64
import Derived.Deep.CutBlock
import Derived.Deep.DeepCutAuto
import Derived.Lib.AppendZeros
import Derived.Laws.AppendOwn
import Derived.OwnWalk
import Derived.Deep.CutRange
import Derived.Below
import Derived.Deep.Draws
import Derived.Deep.AppendLies
import Derived.Maps.AppendAt
import Derived.Laws.BytesArg
import Derived.Laws.MakeOwn
import Derived.Laws.OwnMore
import Derived.Deep.OwnRows
import Derived.Tactics
import Derived.Lib.ConvBytes
import Derived.Laws.Slices
import Derived.RowKit3
import Derived.Deep.LoopGhost
import Derived.WideLaws
import Derived.Deep.RegionHeld3
import Derived.Laws.Rows
import Derived.Lib.AppendStr
import Derived.ArgAppend
import Derived.OrdersHeld
import Derived.Laws.BitsLemmas
import Derived.RowKit
import Derived.Laws.StructEq
import Derived.Test.YtbjhnckboimliaaGreatDoorQ00
import Derived.Test.YtbjhnckboimliaaGreatDoorQ01
import Derived.Test.YtbjhnckboimliaaGreatDoorQ02
import Derived.Test.YtbjhnckboimliaaGreatDoorQ03
import Derived.Test.YtbjhnckboimliaaGreatDoorQ04
import Derived.Test.YtbjhnckboimliaaGreatDoorQ05
import Derived.Test.YtbjhnckboimliaaGreatDoorQ06
import Derived.Test.YtbjhnckboimliaaGreatDoorQ07
import Derived.Test.YtbjhnckboimliaaGreatDoorQ08
import Derived.Test.YtbjhnckboimliaaGreatDoorQ09
import Derived.Test.YtbjhnckboimliaaGreatDoorQ10
import Derived.Test.YtbjhnckboimliaaGreatDoorQ11
import Derived.Test.YtbjhnckboimliaaGreatDoorQ12
import Derived.Test.YtbjhnckboimliaaGreatDoorQ13
import Derived.Test.YtbjhnckboimliaaGreatDoorQ14
import Derived.Test.YtbjhnckboimliaaGreatDoorQ15
import Derived.Test.YtbjhnckboimliaaGreatDoorQ16
import Derived.Test.YtbjhnckboimliaaGreatDoorQ17
import Derived.Test.YtbjhnckboimliaaGreatDoorQ19
import Derived.Test.YtbjhnckboimliaaGreatDoorQ22
import Derived.Test.YtbjhnckboimliaaGreatDoorR00
namespace Go.Proofs.YtbjhnckboimliaaGreatDoor
open Go.RowKit
set_option linter.unusedVariables false
set_option linter.unusedSimpArgs false
set_option maxRecDepth 20000
set_option maxHeartbeats 1000000 in
theorem fint_prec (x : Int) (hx : Fi x) (w : World) (ht : Tab w) :
  Calls Tryz.prog 113 #[.int .u64 x] w (fun e w' => e = .returned (.int .i64 (digs x.toNat)) ∧ w = w') := by
 obtain ⟨hx0, hx1⟩ := hx
 have hkey : ∀ k, x < 10 ^ k ↔ digs x.toNat ≤ k := fun k => pow_lt_digs hx0
 have e19 : (10 : Int) ^ 19 = 10000000000000000000 := by decide
 have hD : digs x.toNat ≤ 19 := (hkey 19).1 (by omega)
 generalize digs x.toNat = D at *
 have HKEY := hid hkey; have HT := hid ht
 clear hkey ht e19
 go_enter Tryz.func113, Tryz.ntmps113
 go_wp2_with fail
 go_loopw [3, 4] (fun l r wr => ∃ L R : Nat, l = .int .i64 L ∧ r = .int .i64 R ∧ L ≤ D ∧ D ≤ R ∧ R ≤ 20 ∧ w = wr) (fun l r _ => (intOf r - intOf l).toNat)
 case atStart => exact ⟨0, 20, rfl, rfl, by omega, by omega, by omega, rfl⟩
 case round =>
  obtain ⟨L, R, rfl, rfl, h1, h2, h3, rfl⟩ := hrel
  by_cases hlr : L < R
  ·have hlt : (L : Int) < (R : Int) := by omega
   have hsum : IntKind.i64.wrap ((L : Int) + (R : Int)) = (L : Int) + (R : Int) := IntWalk.i64_in _ (by omega)
   obtain ⟨M, hM⟩ : ∃ M : Nat, M = (L + R) / 2 := ⟨_, rfl⟩
   have hquo : ((L : Int) + (R : Int)) / 2 = (M : Int) := by omega
   have hM1 : L ≤ M := by omega
   have hM2 : M < R := by omega
   clear hM
   have hcell := HT.out M (by omega)
   have hk := HKEY.out M
   have hm0 : (0 : Int) ≤ (M : Int) := by omega
   have hm20 : (M : Int) < 20 := by omega
   generalize (10 : Int) ^ M = T at *
   by_cases hc : x < T
   ·have hDM : D ≤ M := hk.1 hc
    have hd : decide (x < T) = true := decide_eq_true hc
    clear hk
    go_wp2_with fail
    go_roundw
    case rel => exact ⟨L, M, rfl, (by first | rfl | rw [hquo]), h1, hDM, by omega, (by first | rfl | trivial)⟩
    case measure => simp [intOf]; omega
   ·have hDM : ¬ D ≤ M := fun h => hc (hk.2 h)
    have hd : decide (x < T) = false := decide_eq_false hc
    have hinc : IntKind.i64.wrap ((M : Int) + 1) = (M : Int) + 1 := IntWalk.i64_in _ (by omega)
    clear hk
    go_wp2_with fail
    go_roundw
    case rel => exact ⟨M + 1, R, by rw [show ((M + 1 : Nat) : Int) = (M : Int) + 1 by omega], (by first | rfl | rw [hquo]), by omega, h2, h3, (by first | rfl | trivial)⟩
    case measure => simp [intOf]; omega
  ·have hge : ¬ (L : Int) < (R : Int) := by omega
   obtain rfl : L = D := by omega
   go_wp2_with fail
   go_ret
   exact ⟨rfl, rfl⟩
set_option maxHeartbeats 1000000 in
theorem fint_ntz (x : Int) (hx : Fi x) (w : World) (ht : Tab w) :
  Calls Tryz.prog 138 #[.int .u64 x] w (fun e w' => ∃ z : Nat, e = .returned (.int .i64 z) ∧ z ≤ 18 ∧ x % 10 ^ z = 0 ∧ w = w') := by
 have hD : digs x.toNat ≤ 19 := digs_le.2 (by have h1 := hx.2; have h0 := hx.1; have e : (10 : Nat) ^ 19 = 10000000000000000000 := (by decide); omega)
 have HP := hid (fint_prec x hx w ht)
 obtain ⟨hx0, hx1⟩ := hx
 generalize digs x.toNat = D at *
 have HT := hid ht
 have h10 : x % 10 ^ 0 = 0 := by rw [Int.pow_zero]; exact Int.emod_one x
 clear ht
 go_enter Tryz.func138, Tryz.ntmps138
 go_wp2_with (go_at_call 113; refine HP.out.mono ?_; intro e w' h; obtain ⟨he1, he2⟩ := h; subst he1; subst he2)
 go_loopw [3, 4] (fun l r wr => ∃ z R : Nat, l = .int .i64 ((z : Int) + 1) ∧ r = .int .i64 R ∧ z ≤ 18 ∧ R ≤ 19 ∧ x % 10 ^ z = 0 ∧ w = wr) (fun l r _ => (intOf r - intOf l).toNat)
 case atStart => exact ⟨0, D, rfl, rfl, by omega, by omega, h10, rfl⟩
 case round =>
  obtain ⟨z, R, rfl, rfl, h1, h2, h3, rfl⟩ := hrel
  by_cases hlr : z + 1 < R
  ·have hlt : (z : Int) + 1 < (R : Int) := by omega
   have hsum : IntKind.i64.wrap ((z : Int) + 1 + (R : Int)) = (z : Int) + 1 + (R : Int) := IntWalk.i64_in _ (by omega)
   obtain ⟨M, hM⟩ : ∃ M : Nat, M = (z + 1 + R) / 2 := ⟨_, rfl⟩
   have hquo : ((z : Int) + 1 + (R : Int)) / 2 = (M : Int) := by omega
   have hM1 : z + 1 ≤ M := by omega
   have hM2 : M < R := by omega
   clear hM
   have hcell := HT.out M (by omega)
   have hp := p10_pos M
   have hwp := p10_wd (k := M) (by omega)
   have hm0 : (0 : Int) ≤ (M : Int) := by omega
   have hm20 : (M : Int) < 20 := by omega
   obtain ⟨T, hT⟩ : ∃ T, (10 : Int) ^ M = T := ⟨_, rfl⟩
   rw [hT] at hcell hp hwp
   have hTne : T ≠ 0 := by omega
   by_cases hc : x % T = 0
   ·have hd : (x % T == 0) = true := by rw [hc]; rfl
    have hinc : IntKind.i64.wrap ((M : Int) + 1) = (M : Int) + 1 := IntWalk.i64_in _ (by omega)
    rw [← hT] at hc
    have HC := hid hc
    clear hc hT h3
    go_wp2_with fail
    go_roundw
    case rel => exact ⟨M, R, (by first | rfl | rw [hquo]), rfl, by omega, h2, HC.out, (by first | rfl | trivial)⟩
    case measure => simp [intOf]; omega
   ·have hd : (x % T == 0) = false := beq_eq_false_iff_ne.2 hc
    have HC := hid h3
    clear hT h3
    go_wp2_with fail
    go_roundw
    case rel => exact ⟨z, M, rfl, (by first | rfl | rw [hquo]), h1, by omega, HC.out, (by first | rfl | trivial)⟩
    case measure => simp [intOf]; omega
  ·have hge : ¬ (z : Int) + 1 < (R : Int) := by omega
   have hsub : IntKind.i64.wrap ((z : Int) + 1 - 1) = (z : Int) := by rw [show (z : Int) + 1 - 1 = (z : Int) by omega]; exact IntWalk.i64_in _ (by omega)
   have HC := hid h3
   clear h3
   go_wp2_with fail
   go_ret
   exact ⟨z, rfl, h1, HC.out, rfl⟩
theorem fint_rshDown (x : Int) (n : Nat) (hx : Fi x) (hx1 : x ≠ 0) (hn1 : 1 ≤ n) (hn : n ≤ 19) (w : World) (ht : Tab w) :
  Calls Tryz.prog 139 #[.int .u64 x, .int .i64 n] w (fun e w' => e = .returned (.int .u64 (x / 10 ^ n)) ∧ w = w') := by
 have hcell := ht n (by omega)
 have hY := p10_pos n
 obtain ⟨hY0, hY1⟩ := p10_wd (k := n) (by omega)
 generalize (10 : Int) ^ n = Y at *
 obtain ⟨hx0, hxm⟩ := hx
 have hb0 : (x == 0) = false := beq_eq_false_iff_ne.2 hx1
 have hle : ¬ (n : Int) ≤ 0 := by omega
 have hlt20 : (n : Int) < 20 := by omega
 have hge0 : (0 : Int) ≤ (n : Int) := by omega
 have hnge : ¬ (20 : Int) ≤ (n : Int) := by omega
 have hYne : Y ≠ 0 := by omega
 go_enter Tryz.func139, Tryz.ntmps139
 go_wp2_with fail
 first | (go_quiet (fail); go_wp2_with fail) | skip
 go_ret
 exact ⟨rfl, rfl⟩
theorem fint_quo (x y : Int) (hx : Fi x) (hy : Fi y) (hy1 : y ≠ 0) (w : World) :
  Calls Tryz.prog 114 #[.int .u64 x, .int .u64 y] w (fun e w' => e = .returned (.tuple #[.int .u64 (if x % y = 0 then x / y else 0), .bool (decide (x % y = 0))]) ∧ w = w') := by
 obtain ⟨hx0, hxm⟩ := hx
 obtain ⟨hy0, hym⟩ := hy
 have hb0 : (y == 0) = false := beq_eq_false_iff_ne.2 hy1
 have hdm := Int.mul_ediv_add_emod x y
 have hr0 : 0 ≤ x % y := Int.emod_nonneg _ hy1
 obtain ⟨q, hq⟩ : ∃ q, x / y = q := ⟨_, rfl⟩
 obtain ⟨r, hr⟩ : ∃ r, x % y = r := ⟨_, rfl⟩
 have hq0 : 0 ≤ q := by rw [← hq]; exact Int.ediv_nonneg hx0 hy0
 rw [hq, hr] at hdm
 rw [hr] at hr0
 have hqy : q * y = x - r := by rw [Int.mul_comm]; omega
 have hqp : 0 ≤ x - r := by rw [← hqy]; exact Int.mul_nonneg hq0 hy0
 have hw1 : IntKind.u64.wrap (q * y) = x - r := by rw [IntKind.wrap_u64, hqy]; omega
 rw [hr]
 by_cases hc : r = 0
 ·have hb1 : (x - r == x) = true := by rw [hc, Int.sub_zero]; exact beq_self_eq_true x
  rw [if_pos hc, decide_eq_true hc, hq]
  clear hdm hqy hr hc
  go_enter Tryz.func114, Tryz.ntmps114
  go_wp2_with fail
  go_ret2
  exact ⟨by rw [← hq]; rfl, rfl⟩
 ·have hb1 : (x - r == x) = false := beq_eq_false_iff_ne.2 (by omega)
  rw [if_neg hc, decide_eq_false hc]
  clear hdm hqy hr hc
  go_enter Tryz.func114, Tryz.ntmps114
  go_wp2_with fail
  go_ret2
  exact ⟨rfl, rfl⟩
end Go.Proofs.YtbjhnckboimliaaGreatDoor
