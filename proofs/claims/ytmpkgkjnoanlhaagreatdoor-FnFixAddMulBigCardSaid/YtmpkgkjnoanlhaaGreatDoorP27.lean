/- Part 27 of the proof. -/
import Derived.Test.YtmpkgkjnoanlhaaGreatDoorP25
import Derived.Test.YtmpkgkjnoanlhaaGreatDoorP26
namespace Go.Proofs.YtmpkgkjnoanlhaaGreatDoor
open Go.RowKit
set_option linter.unusedVariables false
set_option linter.unusedSimpArgs false
set_option maxRecDepth 20000
def mulOut (n : Bool) (C S : Nat) (m : Int) : Value := if m < 0 ∨ 19 < m then .tuple #[.agg #[.bool false, .int .u64 0, .int .i64 0], .int .i64 3] else fixOut n (from19 (10 ^ 19) 2 C S m.toNat)
theorem mulOut_op (n : Bool) (C S : Nat) (m : Int) : ∃ (b0 : Bool) (c0 s0 f0 : Int), mulOut n C S m = .tuple #[.agg #[.bool b0, .int .u64 c0, .int .i64 s0], .int .i64 f0] := by
 unfold mulOut
 split
 ·exact ⟨_, _, _, _, rfl⟩
 ·exact fixOut_op _ _
theorem FixAddMulBig_any (n1 n2 n3 d1 d2 d3 xn : Bool) (dc ec fc ds es fs : Nat) (m : Int) (hdc : dc < 10 ^ 19) (hec : ec < 10 ^ 19) (hfc : fc < 10 ^ 19) (hds : ds ≤ 19) (hes : es ≤ 19) (hfs : fs ≤ 19) (hd1 : (n1 && (dc : Int) != 0) = d1) (hd2 : (n2 && (ec : Int) != 0) = d2) (hd3 : (n3 && (fc : Int) != 0) = d3) (hx : (!(d2 == d3)) = xn) (w : World) (he : EnvD w) :
  Calls Tryz.prog 13 #[.agg #[.bool n1, .int .u64 (dc : Int), .int .i64 (ds : Int)], .agg #[.bool n2, .int .u64 (ec : Int), .int .i64 (es : Int)], .agg #[.bool n3, .int .u64 (fc : Int), .int .i64 (fs : Int)], .int .i64 m] w
   (PV w (mulOut (sumD d1 dc ds xn (ec * fc) (es + fs)).1 (sumD d1 dc ds xn (ec * fc) (es + fs)).2 (mxp ds (es + fs)) m)) := by
 unfold mulOut
 by_cases hm : m < 0 ∨ 19 < m
 ·rw [if_pos hm]
  exact mulBig_out n1 n2 n3 d1 d2 d3 dc ec fc ds es fs m hdc hec hfc hds hes hfs hd1 hd2 hd3 hm w he
 ·rw [if_neg hm]
  obtain ⟨k, rfl⟩ : ∃ k : Nat, m = k := ⟨m.toNat, by omega⟩
  have hS := fun w1 (he1 : EnvD w1) => ZzAddMulBig_any d1 d2 d3 _ (dc : Int) (ec : Int) (fc : Int) (k : Int) ds es fs _ w1 he1 (fun w2 he2 => addMulBint_any d1 d2 d3 xn dc ec fc ds es fs k hdc hec hfc hds hes hfs (by omega) hx w2 he2)
  rw [Int.toNat_natCast]
  cases h19 : from19 (10 ^ 19) 2 (sumD d1 dc ds xn (ec * fc) (es + fs)).2 (mxp ds (es + fs)) k with
  | none =>
   rw [h19] at hS
   exact mulBig_err n1 n2 n3 d1 d2 d3 dc ec fc ds es fs k hdc hec hfc hds hes hfs hd1 hd2 hd3 hm w he (fun w1 he1 => (hS w1 he1).mono (fun e w' h => ⟨h.1, h.2⟩))
  | some kt =>
   obtain ⟨q, t⟩ := kt
   obtain ⟨b1, b2, b3⟩ := from19_bd (by omega) h19
   rw [h19] at hS
   exact mulBig_ok n1 n2 n3 d1 d2 d3 dc ec fc ds es fs k hdc hec hfc hds hes hfs hd1 hd2 hd3 hm w he _ (q : Int) t b1 (fun w1 he1 => (hS w1 he1).mono (fun e w' h => ⟨h.2, h.1⟩))
theorem gvBig_all {w : World} {A D1 : Option Addr} {n c p1 q1 : Nat} (sg : Bool) (C S t : Nat) (m : Int) (hS : S ≤ 38) (hC : C < 10 ^ 60) (ht : t ≤ 19) (b0 : Bool) (c0 s0 f0 : Int)
  (ha : SN w A n c (C * 10 ^ t)) (hx : SN w D1 p1 q1 (10 ^ S * 10 ^ t)) (hv : mulOut sg C S m = .tuple #[.agg #[.bool b0, .int .u64 c0, .int .i64 s0], .int .i64 f0]) :
  Calls Tryz.prog 14 #[.agg #[.bool b0, .int .u64 c0, .int .i64 s0], .int .i64 f0, .agg #[.bool (sg && C * 10 ^ t != 0), .slice A n c, .slice D1 p1 q1], .int .i64 m] w (PV w (.bool true)) := by
 refine gvBig_any _ _ _ _ _ _ f0 m (fun hm w1 h => ?_)
 unfold mulOut at hv
 rw [if_neg hm] at hv
 exact gvExact_all sg C S t m hS hC ht _ _ _ (ha.kept h) (hx.kept h) (by rw [if_neg hm]) hv
end Go.Proofs.YtmpkgkjnoanlhaaGreatDoor
