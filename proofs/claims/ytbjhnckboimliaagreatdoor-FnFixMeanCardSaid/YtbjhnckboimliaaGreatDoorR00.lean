/- Part 0 of the rest of the proof. -/
import Derived.Test.YtbjhnckboimliaaGreatDoorProg
import Derived.Lib.Mul64
import Derived.WalkKit
import Derived.KernelRfl
import Derived.Deep.QuietTactic
import Derived.BigQuiet
import Derived.LaidEqlPtr
import Derived.Laws.IdiomCopy
import Derived.RegionTactic
import Derived.BigRegion
import Derived.StillTailTactics
import Derived.Deep.RegionWith
import Derived.Shelf.Small.Bits
import Derived.Shelf.Strconv.Itoa0
import Derived.Shelf.Bits.Mul64
import Derived.Deep.CutBlock
import Derived.Deep.DeepCutAuto
import Derived.Lib.AppendZeros
import Derived.Laws.AppendOwn
import Derived.OwnWalk
import Derived.Deep.CutRange
import Derived.Below
import Derived.Deep.Draws
import Derived.Deep.AppendLies
import Derived.Maps.AppendAt
import Derived.Laws.BytesArg
import Derived.Laws.MakeOwn
import Derived.Laws.OwnMore
import Derived.Deep.OwnRows
import Derived.Tactics
import Derived.Lib.ConvBytes
import Derived.Laws.Slices
import Derived.RowKit3
import Derived.Deep.LoopGhost
import Derived.WideLaws
import Derived.Deep.RegionHeld3
import Derived.Laws.Rows
import Derived.Lib.AppendStr
import Derived.ArgAppend
import Derived.OrdersHeld
import Derived.Laws.BitsLemmas
import Derived.RowKit
import Derived.Laws.StructEq
import Derived.Recover
import Derived.Test.YtbjhnckboimliaaGreatDoorQ00
import Derived.Test.YtbjhnckboimliaaGreatDoorQ01
import Derived.Test.YtbjhnckboimliaaGreatDoorQ02
import Derived.Test.YtbjhnckboimliaaGreatDoorQ03
import Derived.Test.YtbjhnckboimliaaGreatDoorQ04
import Derived.Test.YtbjhnckboimliaaGreatDoorQ05
import Derived.Test.YtbjhnckboimliaaGreatDoorQ06
import Derived.Test.YtbjhnckboimliaaGreatDoorQ07
import Derived.Test.YtbjhnckboimliaaGreatDoorQ08
import Derived.Test.YtbjhnckboimliaaGreatDoorQ09
import Derived.Test.YtbjhnckboimliaaGreatDoorQ10
import Derived.Test.YtbjhnckboimliaaGreatDoorQ11
import Derived.Test.YtbjhnckboimliaaGreatDoorQ12
import Derived.Test.YtbjhnckboimliaaGreatDoorQ13
import Derived.Test.YtbjhnckboimliaaGreatDoorQ14
import Derived.Test.YtbjhnckboimliaaGreatDoorQ15
import Derived.Test.YtbjhnckboimliaaGreatDoorQ16
import Derived.Test.YtbjhnckboimliaaGreatDoorQ17
import Derived.Test.YtbjhnckboimliaaGreatDoorQ18
import Derived.Test.YtbjhnckboimliaaGreatDoorQ19
import Derived.Test.YtbjhnckboimliaaGreatDoorQ20
import Derived.Test.YtbjhnckboimliaaGreatDoorQ21
namespace Go.Proofs.YtbjhnckboimliaaGreatDoor
open Go.RowKit
set_option linter.unusedVariables false
set_option linter.unusedSimpArgs false
set_option maxRecDepth 20000
theorem newUnsafe_flat (neg nb : Bool) (c : Int) (s : Nat) (hc : Fi c) (hs : s ≤ 19) (hnb : (neg && c != 0) = nb) (w : World) :
  Calls Tryz.prog 88 #[.bool neg, .int .u64 c, .int .i64 s] w (fun e w' => e = .returned (.agg #[.bool nb, .int .i8 s, .int .u64 c]) ∧ Chg (fun _ => False) w w') :=
 (newUnsafe_any neg c s hc hs w).mono (fun e w' h => ⟨by have := h.1; rw [← hnb]; exact this, h.2⟩)
end Go.Proofs.YtbjhnckboimliaaGreatDoor
namespace Go.Proofs.YtbjhnckboimliaaGreatDoor
set_option linter.unusedVariables false
theorem rhe_near {N X C H : Nat} (hX : 0 < X) (hH : X ≤ H) (h1 : N * (2 * H) < C * X + X) (h2 : C * X < N * (2 * H) + X) : rhe N X = rhe C (2 * H) := by
 obtain ⟨q, hq⟩ : ∃ q, rhe C (2 * H) = q := ⟨_, rfl⟩
 obtain ⟨k1, k2, k3, k4⟩ := (rhe_iff (by omega)).1 hq
 rw [hq, rhe_iff hX]
 have e0 : 2 * H * q = H * (2 * q) := by rw [Nat.mul_comm 2 H, Nat.mul_assoc]
 rw [e0] at k1 k2 k3 k4
 have e1 : X * (H * (2 * q)) = H * (2 * (X * q)) := by rw [Nat.mul_left_comm, Nat.mul_left_comm X 2 q]
 have e2 : N * (2 * H) = H * (2 * N) := by rw [← Nat.mul_assoc, Nat.mul_comm N 2, Nat.mul_comm]
 rw [e2] at h1 h2
 generalize hP : H * (2 * q) = P at *
 have a1 : C * X ≤ (P + H) * X := Nat.mul_le_mul_right _ (by omega)
 have a2 : P * X ≤ (C + H) * X := Nat.mul_le_mul_right _ (by omega)
 rw [Nat.add_mul] at a1 a2
 have e3 : P * X = H * (2 * (X * q)) := by rw [Nat.mul_comm, e1]
 have e4 : H * X = X * H := Nat.mul_comm _ _
 refine ⟨?_, ?_, ?_, ?_⟩
 ·apply Nat.le_of_not_lt
  intro hlt
  have m1 : H * (2 * (X * q) + X + 1) ≤ H * (2 * N) := Nat.mul_le_mul_left _ (by omega)
  rw [Nat.mul_add, Nat.mul_add, Nat.mul_one] at m1
  omega
 ·apply Nat.le_of_not_lt
  intro hlt
  have m1 : H * (2 * N + X + 1) ≤ H * (2 * (X * q)) := Nat.mul_le_mul_left _ (by omega)
  rw [Nat.mul_add, Nat.mul_add, Nat.mul_one] at m1
  omega
 ·intro e
  have m1 : H * (2 * N) = H * (2 * (X * q) + X) := by rw [e]
  rw [Nat.mul_add] at m1
  have hd : P + H < C + 1 := by
   apply Nat.lt_of_mul_lt_mul_right (a := X)
   rw [Nat.add_mul, Nat.add_mul, Nat.one_mul]
   omega
  exact k3 (by omega)
 ·intro e
  have m1 : H * (2 * (X * q)) = H * (2 * N + X) := by rw [e]
  rw [Nat.mul_add] at m1
  have hd : C + H < P + 1 := by
   apply Nat.lt_of_mul_lt_mul_right (a := X)
   rw [Nat.add_mul, Nat.add_mul, Nat.one_mul]
   omega
  exact k4 (by omega)
end Go.Proofs.YtbjhnckboimliaaGreatDoor
namespace Go.Proofs.YtbjhnckboimliaaGreatDoor
set_option linter.unusedVariables false
set_option linter.unusedSimpArgs false
theorem near_rnd {a C M fc n : Nat} (hf : 0 < fc) (hf1 : fc < 10 ^ 19) (hM : M ≤ 19) (hn : n ≤ 19) (h1 : a * 10 ^ 41 < C * (10 ^ M * fc) + 10 ^ M * fc) (h2 : C * (10 ^ M * fc) < a * 10 ^ 41 + 10 ^ M * fc) :
  rhe (a * 10 ^ n) (10 ^ M * fc) = rnd C 41 n := by
 rw [rnd_cut (by omega)]
 have hp := pow10_pos
 have e41 : (10 : Nat) ^ (41 - n) = 2 * (5 * 10 ^ (40 - n)) := by
  rw [show 41 - n = (40 - n) + 1 by omega, Nat.pow_succ]
  omega
 rw [e41]
 by_cases hc : M ≤ n
 ·obtain ⟨j, rfl⟩ : ∃ j, n = M + j := ⟨n - M, by omega⟩
  have e1 : a * 10 ^ (M + j) = a * 10 ^ j * 10 ^ M := by rw [Nat.mul_assoc, ← Nat.pow_add, Nat.add_comm]
  rw [e1, Nat.mul_comm (10 ^ M) fc, rhe_scale hf (hp _)]
  have hH : fc ≤ 5 * 10 ^ (40 - (M + j)) := by
   have : (10 : Nat) ^ 19 ≤ 10 ^ (40 - (M + j)) := pow_le' (by omega)
   omega
  have e2 : a * 10 ^ 41 = a * 10 ^ j * (2 * (5 * 10 ^ (40 - (M + j)))) * 10 ^ M := by
   rw [← e41, Nat.mul_assoc, Nat.mul_assoc, ← Nat.pow_add, ← Nat.pow_add]; congr 2; omega
  have e3 : C * (10 ^ M * fc) = C * fc * 10 ^ M := by rw [Nat.mul_comm (10 ^ M), Nat.mul_assoc]
  rw [e2, e3, Nat.mul_comm (10 ^ M) fc] at h1 h2
  rw [← Nat.add_mul] at h1 h2
  exact rhe_near hf hH (Nat.lt_of_mul_lt_mul_right h1) (Nat.lt_of_mul_lt_mul_right h2)
 ·obtain ⟨j, hj⟩ : ∃ j, M = n + j := ⟨M - n, by omega⟩
  have e1 : 10 ^ M * fc = 10 ^ j * fc * 10 ^ n := by rw [hj, Nat.pow_add, Nat.mul_assoc, Nat.mul_comm]
  rw [e1] at h1 h2 ⊢
  rw [rhe_scale (Nat.mul_pos (hp _) hf) (hp _)]
  have hH : 10 ^ j * fc ≤ 5 * 10 ^ (40 - n) := by
   have h3 : 10 ^ j * fc ≤ 10 ^ j * 10 ^ 19 := Nat.mul_le_mul_left _ (Nat.le_of_lt hf1)
   have h4 : (10 : Nat) ^ j * 10 ^ 19 ≤ 10 ^ (40 - n) := by rw [← Nat.pow_add]; exact pow_le' (by omega)
   omega
  have e2 : a * 10 ^ 41 = a * (2 * (5 * 10 ^ (40 - n))) * 10 ^ n := by
   rw [← e41, Nat.mul_assoc, ← Nat.pow_add]; congr 2; omega
  rw [e2, ← Nat.mul_assoc C, ← Nat.add_mul] at h1 h2
  exact rhe_near (Nat.mul_pos (hp _) hf) hH (Nat.lt_of_mul_lt_mul_right h1) (Nat.lt_of_mul_lt_mul_right h2)
theorem rhe_cross {a x b y : Nat} (hx : 0 < x) (hy : 0 < y) (h : a * y = b * x) : rhe a x = rhe b y := by
 rw [← rhe_scale hx hy (a := a), ← rhe_scale hy hx (a := b), h, Nat.mul_comm x y]
end Go.Proofs.YtbjhnckboimliaaGreatDoor
namespace Go.Proofs.YtbjhnckboimliaaGreatDoor
open Go.RowKit
set_option linter.unusedVariables false
set_option linter.unusedSimpArgs false
set_option maxRecDepth 20000
def EnvI (w : World) : Prop := EnvD w ∧ ∃ t v, w.cell? ⟨1, 0, none⟩ = some (.iface t v)
theorem EnvI.kept {w w' : World} (h : EnvI w) (hc : Chg (fun _ => False) w w') : EnvI w' := ⟨h.1.kept hc, by obtain ⟨t, v, e⟩ := h.2; exact ⟨t, v, cell_kept e hc (fun h => h)⟩⟩
theorem Good.trim {n1 sg : Bool} {a x m k t k' t' : Nat} (h : Good n1 a x m sg (some (k, t))) (h1 : m ≤ t') (h2 : t' ≤ t) (h3 : k = k' * 10 ^ (t - t')) : Good n1 a x m sg (some (k', t')) := by
 obtain ⟨C, S, g1, g2, g3⟩ := h
 refine ⟨C, S, g1, g2, ?_⟩
 rcases g3 with ⟨_, g⟩ | ⟨k0, t0, k1, t1, e1, e2, e3, e4, e5⟩
 ·cases g
 ·cases e2
  refine .inr ⟨k0, t0, k', t', e1, rfl, h1, Nat.le_trans h2 e4, ?_⟩
  rw [e5, h3, Nat.mul_assoc, ← Nat.pow_add, show t - t' + (t0 - t) = t0 - t' by omega]
end Go.Proofs.YtbjhnckboimliaaGreatDoor
