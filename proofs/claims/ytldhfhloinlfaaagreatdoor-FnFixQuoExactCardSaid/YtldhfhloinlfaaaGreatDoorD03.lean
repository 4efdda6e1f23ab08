/- Part 3 of the rest of the proof. -/
import Derived.Test.YtldhfhloinlfaaaGreatDoorProg
import Derived.Below
import Derived.Deep.Draws
import Derived.Deep.AppendLies
import Derived.Maps.AppendAt
import Derived.OwnWalk
import Derived.Laws.BytesArg
import Derived.Laws.MakeOwn
import Derived.Laws.OwnMore
import Derived.Deep.OwnRows
import Derived.Tactics
import Derived.Lib.ConvBytes
import Derived.Laws.Slices
import Derived.WalkKit
import Derived.KernelRfl
import Derived.RowKit3
import Derived.Deep.LoopGhost
import Derived.Deep.QuietTactic
import Derived.BigQuiet
import Derived.WideLaws
import Derived.Deep.DeepCutAuto
import Derived.Deep.CutBlock
import Derived.Deep.RegionHeld3
import Derived.Laws.Rows
import Derived.Lib.AppendStr
import Derived.ArgAppend
import Derived.Laws.IdiomCopy
import Derived.OrdersHeld
import Derived.Laws.BitsLemmas
import Derived.RowKit
import Derived.Laws.StructEq
import Derived.Lib.Mul64
import Derived.LaidEqlPtr
import Derived.RegionTactic
import Derived.BigRegion
import Derived.StillTailTactics
import Derived.Deep.RegionWith
import Derived.Shelf.Small.Bits
import Derived.Shelf.Strconv.Itoa0
import Derived.Shelf.Bits.Mul64
import Derived.Lib.AppendZeros
import Derived.Laws.AppendOwn
import Derived.Deep.CutRange
import Derived.Recover
import Derived.Test.YtldhfhloinlfaaaGreatDoorC00
import Derived.Test.YtldhfhloinlfaaaGreatDoorC01
import Derived.Test.YtldhfhloinlfaaaGreatDoorC02
import Derived.Test.YtldhfhloinlfaaaGreatDoorC03
import Derived.Test.YtldhfhloinlfaaaGreatDoorC04
import Derived.Test.YtldhfhloinlfaaaGreatDoorC05
import Derived.Test.YtldhfhloinlfaaaGreatDoorC06
import Derived.Test.YtldhfhloinlfaaaGreatDoorC07
import Derived.Test.YtldhfhloinlfaaaGreatDoorC08
import Derived.Test.YtldhfhloinlfaaaGreatDoorC09
import Derived.Test.YtldhfhloinlfaaaGreatDoorC10
import Derived.Test.YtldhfhloinlfaaaGreatDoorC11
import Derived.Test.YtldhfhloinlfaaaGreatDoorC12
import Derived.Test.YtldhfhloinlfaaaGreatDoorC13
import Derived.Test.YtldhfhloinlfaaaGreatDoorC14
import Derived.Test.YtldhfhloinlfaaaGreatDoorC15
import Derived.Test.YtldhfhloinlfaaaGreatDoorC16
import Derived.Test.YtldhfhloinlfaaaGreatDoorC17
import Derived.Test.YtldhfhloinlfaaaGreatDoorC18
import Derived.Test.YtldhfhloinlfaaaGreatDoorC20
import Derived.Test.YtldhfhloinlfaaaGreatDoorC21
import Derived.Test.YtldhfhloinlfaaaGreatDoorC22
import Derived.Test.YtldhfhloinlfaaaGreatDoorC23
import Derived.Test.YtldhfhloinlfaaaGreatDoorC27
import Derived.Test.YtldhfhloinlfaaaGreatDoorC30
import Derived.Test.YtldhfhloinlfaaaGreatDoorD00
namespace Go.Proofs.YtldhfhloinlfaaaGreatDoor
set_option linter.unusedVariables false
theorem quo_rnd {dc ec ds es n : Nat} (hec : 0 < ec) (hec1 : ec < 10 ^ 19) (hds : ds ≤ 19) (hes : es ≤ 19) (hn : n ≤ 19) :
  rnd (dc * 10 ^ (41 + es - ds) / ec) 41 n = rhe (dc * 10 ^ es * 10 ^ n) (10 ^ ds * ec) := by
 rw [rnd_cut (by omega)]
 have e41 : (10 : Nat) ^ (41 - n) = 2 * (5 * 10 ^ (40 - n)) := by
  rw [show 41 - n = (40 - n) + 1 by omega, Nat.pow_succ]
  omega
 have hp := pow10_pos
 have hb : (10 : Nat) ^ 19 * 10 ^ 19 ≤ 5 * 10 ^ 40 := by decide
 obtain ⟨Q, hQ⟩ : ∃ Q, dc * 10 ^ (41 + es - ds) / ec = Q := ⟨_, rfl⟩
 have hdm := Nat.div_add_mod (dc * 10 ^ (41 + es - ds)) ec
 have hml := Nat.mod_lt (dc * 10 ^ (41 + es - ds)) hec
 rw [hQ] at hdm ⊢
 generalize dc * 10 ^ (41 + es - ds) % ec = r at *
 rw [e41]
 by_cases hc : ds ≤ es + n
 ·
  have e1 : dc * 10 ^ es * 10 ^ n = dc * 10 ^ (es + n - ds) * 10 ^ ds := by
   rw [Nat.mul_assoc, Nat.mul_assoc, ← Nat.pow_add, ← Nat.pow_add]; congr 2; omega
  rw [e1, Nat.mul_comm (10 ^ ds) ec, rhe_scale hec (hp _)]
  symm
  have e2 : dc * 10 ^ (es + n - ds) * (2 * (5 * 10 ^ (40 - n))) = dc * 10 ^ (41 + es - ds) := by
   rw [← e41, Nat.mul_assoc, ← Nat.pow_add]; congr 2; omega
  have hH : ec ≤ 5 * 10 ^ (40 - n) := by
   have : (10 : Nat) ^ 19 ≤ 10 ^ (40 - n) := pow_le' (by omega)
   omega
  refine rhe_near hec hH ?_ ?_
  ·rw [e2, ← hdm, Nat.mul_comm Q ec]; omega
  ·rw [e2, ← hdm, Nat.mul_comm Q ec]; omega
 ·
  obtain ⟨j, hj⟩ : ∃ j, ds = es + n + j := ⟨ds - (es + n), by omega⟩
  have e1 : 10 ^ ds * ec = (ec * 10 ^ j) * (10 ^ (es + n)) := by
   rw [hj, Nat.pow_add, Nat.mul_assoc, Nat.mul_comm (10 ^ (es + n)), Nat.mul_comm (10 ^ j) ec]
  have e1b : dc * 10 ^ es * 10 ^ n = dc * 10 ^ (es + n) := by rw [Nat.mul_assoc, ← Nat.pow_add]
  rw [e1, e1b, rhe_scale (Nat.mul_pos hec (hp _)) (hp _)]
  symm
  have e2 : dc * (2 * (5 * 10 ^ (40 - n))) = dc * 10 ^ (41 + es - ds) * 10 ^ j := by
   rw [← e41, Nat.mul_assoc, ← Nat.pow_add]; congr 2; omega
  have hj19 : j ≤ 19 := by omega
  have hH : ec * 10 ^ j ≤ 5 * 10 ^ (40 - n) := by
   have h1 : ec * 10 ^ j ≤ 10 ^ 19 * 10 ^ j := Nat.mul_le_mul_right _ (Nat.le_of_lt hec1)
   have h2 : (10 : Nat) ^ 19 * 10 ^ j ≤ 10 ^ (40 - n) := by rw [← Nat.pow_add]; exact pow_le' (by omega)
   omega
  have hpj := hp j
  have e3 : Q * (ec * 10 ^ j) = ec * Q * 10 ^ j := by rw [← Nat.mul_assoc, Nat.mul_comm Q ec]
  have e4 : r * 10 ^ j < ec * 10 ^ j := Nat.mul_lt_mul_of_pos_right hml hpj
  refine rhe_near (Nat.mul_pos hec hpj) hH ?_ ?_
  ·rw [e2, ← hdm, e3, Nat.add_mul]; omega
  ·rw [e2, ← hdm, e3, Nat.add_mul]; omega
end Go.Proofs.YtldhfhloinlfaaaGreatDoor
namespace Go.Proofs.YtldhfhloinlfaaaGreatDoor
open Go.RowKit
set_option linter.unusedVariables false
set_option linter.unusedSimpArgs false
set_option maxRecDepth 20000
set_option maxHeartbeats 2000000 in
theorem gvBig_any {w : World} (x0 x1 x2 y0 y1 y2 : Value) (f : Int) (m : Int)
  (hE : ¬ (m < 0 ∨ 19 < m) → ∀ w1, Chg (fun _ => False) w w1 → Calls Tryz.prog 14 #[.agg #[x0, x1, x2], .int .i64 f, .agg #[y0, y1, y2], .int .i64 m] w1 (PV w1 (.bool true))) :
  Calls Tryz.prog 19 #[.agg #[x0, x1, x2], .int .i64 f, .agg #[y0, y1, y2], .int .i64 m] w (PV w (.bool true)) := by
 obtain ⟨HC0, HD, hB0, hB1⟩ := box2 w #[x0, x1, x2] 24 #[y0, y1, y2] 34
 obtain ⟨d0, d1, d2, _, _, _⟩ := cell3 hB0
 obtain ⟨e0, e1, e2, _, _, _⟩ := cell3 hB1
 by_cases h0 : m < 0
 ·have hb1 : decide (m < 0) = true := decide_eq_true h0
  clear hE h0
  go_enter Tryz.func19, Tryz.ntmps19
  go_wp2_with fail
  go_ret
  exact ⟨rfl, HC0.out⟩
 ·have hb1 : decide (m < 0) = false := decide_eq_false h0
  by_cases h1 : 19 < m
  ·have hb2 : decide (19 < m) = true := decide_eq_true h1
   clear hE h0 h1
   go_enter Tryz.func19, Tryz.ntmps19
   go_wp2_with fail
   go_ret
   exact ⟨rfl, HC0.out⟩
  ·have hb2 : decide (19 < m) = false := decide_eq_false h1
   have HX := hid (hE (by omega))
   clear hE h0 h1 hB0 hB1
   go_enter Tryz.func19, Tryz.ntmps19
   go_wp2_with (go_at_call 14; refine (HX.out _ HC0.out).mono ?_; intro e w1 h; obtain ⟨he, hc⟩ := h; subst he; have HCC := hid hc; clear hc)
   go_ret
   exact ⟨rfl, HC0.out.trans HCC.out sb_⟩
def mulOut (n : Bool) (C S : Nat) (m : Int) : Value := if m < 0 ∨ 19 < m then .tuple #[.agg #[.bool false, .int .u64 0, .int .i64 0], .int .i64 3] else fixOut n (from19 (10 ^ 19) 2 C S m.toNat)
theorem mulOut_op (n : Bool) (C S : Nat) (m : Int) : ∃ (b0 : Bool) (c0 s0 f0 : Int), mulOut n C S m = .tuple #[.agg #[.bool b0, .int .u64 c0, .int .i64 s0], .int .i64 f0] := by
 unfold mulOut
 split
 ·exact ⟨_, _, _, _, rfl⟩
 ·exact fixOut_op _ _
end Go.Proofs.YtldhfhloinlfaaaGreatDoor
