/- For every two decimals and every number of places, the law FnFixQuoSmall answers true, and its arguments read as they did. No condition beyond the row's own: the package's variables hold what the program's text lays (tied). -/
import Derived.Test.YtldhfhloinlfaaaGreatDoorProg
import Derived.Below
import Derived.Deep.Draws
import Derived.Deep.AppendLies
import Derived.Maps.AppendAt
import Derived.OwnWalk
import Derived.Laws.BytesArg
import Derived.Laws.MakeOwn
import Derived.Laws.OwnMore
import Derived.Deep.OwnRows
import Derived.Tactics
import Derived.Lib.ConvBytes
import Derived.Laws.Slices
import Derived.WalkKit
import Derived.KernelRfl
import Derived.RowKit3
import Derived.Deep.LoopGhost
import Derived.Deep.QuietTactic
import Derived.BigQuiet
import Derived.WideLaws
import Derived.Deep.DeepCutAuto
import Derived.Deep.CutBlock
import Derived.Deep.RegionHeld3
import Derived.Laws.Rows
import Derived.Lib.AppendStr
import Derived.ArgAppend
import Derived.Laws.IdiomCopy
import Derived.OrdersHeld
import Derived.Laws.BitsLemmas
import Derived.RowKit
import Derived.Laws.StructEq
import Derived.Lib.Mul64
import Derived.LaidEqlPtr
import Derived.RegionTactic
import Derived.BigRegion
import Derived.StillTailTactics
import Derived.Deep.RegionWith
import Derived.Shelf.Small.Bits
import Derived.Shelf.Strconv.Itoa0
import Derived.Shelf.Bits.Mul64
import Derived.Lib.AppendZeros
import Derived.Laws.AppendOwn
import Derived.Deep.CutRange
import Derived.Recover
import Derived.Lib.SmallJoins
import Derived.OpenVars
import Derived.ChangeVars
import Derived.Test.YtldhfhloinlfaaaGreatDoorTie
import Derived.Test.YtldhfhloinlfaaaGreatDoorCards
import Derived.SevenTiedAt
import Derived.Carry
import Derived.Test.YtldhfhloinlfaaaGreatDoorC00
import Derived.Test.YtldhfhloinlfaaaGreatDoorC01
import Derived.Test.YtldhfhloinlfaaaGreatDoorC02
import Derived.Test.YtldhfhloinlfaaaGreatDoorC03
import Derived.Test.YtldhfhloinlfaaaGreatDoorC04
import Derived.Test.YtldhfhloinlfaaaGreatDoorC05
import Derived.Test.YtldhfhloinlfaaaGreatDoorC06
import Derived.Test.YtldhfhloinlfaaaGreatDoorC07
import Derived.Test.YtldhfhloinlfaaaGreatDoorC08
import Derived.Test.YtldhfhloinlfaaaGreatDoorC09
import Derived.Test.YtldhfhloinlfaaaGreatDoorC10
import Derived.Test.YtldhfhloinlfaaaGreatDoorC11
import Derived.Test.YtldhfhloinlfaaaGreatDoorC12
import Derived.Test.YtldhfhloinlfaaaGreatDoorC13
import Derived.Test.YtldhfhloinlfaaaGreatDoorC14
import Derived.Test.YtldhfhloinlfaaaGreatDoorC15
import Derived.Test.YtldhfhloinlfaaaGreatDoorC16
import Derived.Test.YtldhfhloinlfaaaGreatDoorC17
import Derived.Test.YtldhfhloinlfaaaGreatDoorC18
import Derived.Test.YtldhfhloinlfaaaGreatDoorC19
import Derived.Test.YtldhfhloinlfaaaGreatDoorC20
import Derived.Test.YtldhfhloinlfaaaGreatDoorC21
import Derived.Test.YtldhfhloinlfaaaGreatDoorC22
import Derived.Test.YtldhfhloinlfaaaGreatDoorC23
import Derived.Test.YtldhfhloinlfaaaGreatDoorC24
import Derived.Test.YtldhfhloinlfaaaGreatDoorC28
import Derived.Test.YtldhfhloinlfaaaGreatDoorC30
import Derived.Test.YtldhfhloinlfaaaGreatDoorC43
import Derived.Test.YtldhfhloinlfaaaGreatDoorD00
import Derived.Test.YtldhfhloinlfaaaGreatDoorD03
import Derived.Test.YtldhfhloinlfaaaGreatDoorD07
import Derived.Test.YtldhfhloinlfaaaGreatDoorD08
import Derived.Test.YtldhfhloinlfaaaGreatDoorD09
import Derived.Test.YtldhfhloinlfaaaGreatDoorD11
import Derived.Test.YtldhfhloinlfaaaGreatDoorD12
namespace Go.Proofs.YtldhfhloinlfaaaGreatDoor
open Go.RowKit
set_option linter.unusedVariables false
set_option linter.unusedSimpArgs false
set_option maxRecDepth 20000
set_option maxHeartbeats 1000000 in
theorem gvSmall_any (x0 x1 x2 y0 y1 y2 : Value) (f m : Int) {w : World} (hE : ¬ (m < 0 ∨ 19 < m) → f ≠ 1 → ∀ w1, Chg (fun _ => False) w w1 → Calls Tryz.prog 14 #[.agg #[x0, x1, x2], .int .i64 f, .agg #[y0, y1, y2], .int .i64 m] w1 (PV w1 (.bool true))) :
  Calls Tryz.prog 24 #[.agg #[x0, x1, x2], .int .i64 f, .agg #[y0, y1, y2], .int .i64 m] w (PV w (.bool true)) := by
 obtain ⟨HC0, HD, hB0, hB1⟩ := box2 w #[x0, x1, x2] 24 #[y0, y1, y2] 34
 obtain ⟨d0, d1, d2, _, _, _⟩ := cell3 hB0
 obtain ⟨e0, e1, e2, _, _, _⟩ := cell3 hB1
 by_cases h0 : m < 0
 ·have hb1 : decide (m < 0) = true := decide_eq_true h0
  clear hE h0
  go_enter Tryz.func24, Tryz.ntmps24
  go_wp2_with fail
  go_ret
  exact ⟨rfl, HC0.out⟩
 ·have hb1 : decide (m < 0) = false := decide_eq_false h0
  by_cases h1 : 19 < m
  ·have hb2 : decide (19 < m) = true := decide_eq_true h1
   clear hE h0 h1
   go_enter Tryz.func24, Tryz.ntmps24
   go_wp2_with fail
   go_ret
   exact ⟨rfl, HC0.out⟩
  ·have hb2 : decide (19 < m) = false := decide_eq_false h1
   by_cases h2 : f = 1
   ·have hb3 : (f == 1) = true := by rw [h2]; rfl
    clear hE h0 h1 h2
    go_enter Tryz.func24, Tryz.ntmps24
    go_wp2_with fail
    go_ret
    exact ⟨rfl, HC0.out⟩
   ·have hb3 : (f == 1) = false := beq_eq_false_iff_ne.2 h2
    have HX := hid (hE (by omega) h2)
    clear hE h0 h1 h2 hB0 hB1
    go_enter Tryz.func24, Tryz.ntmps24
    go_wp2_with (go_at_call 14; refine (HX.out _ HC0.out).mono ?_; intro e w1 h; obtain ⟨he, hc⟩ := h; subst he; have HCC := hid hc; clear hc)
    go_ret
    exact ⟨rfl, HC0.out.trans HCC.out sb_⟩
def SmallOk (n1 : Bool) (a x : Nat) (m : Int) (b0 : Bool) (c0 s0 f0 : Int) : Prop :=
 (m < 0 ∨ 19 < m) ∨ f0 = 1 ∨ ∃ sg o, Good n1 a x m.toNat sg o ∧ fixOut sg o = .tuple #[.agg #[.bool b0, .int .u64 c0, .int .i64 s0], .int .i64 f0]
theorem gvSmall_good {w : World} {A D1 : Option Addr} {n c p1 q1 a x : Nat} (n1 : Bool) (m : Int) (b0 : Bool) (c0 s0 f0 : Int)
  (ha : SN w A n c a) (hx : SN w D1 p1 q1 x) (ha1 : a < 10 ^ 100) (hx1 : x < 10 ^ 100) (hx0 : 0 < x) (h : SmallOk n1 a x m b0 c0 s0 f0) :
  Calls Tryz.prog 24 #[.agg #[.bool b0, .int .u64 c0, .int .i64 s0], .int .i64 f0, .agg #[.bool n1, .slice A n c, .slice D1 p1 q1], .int .i64 m] w (PV w (.bool true)) := by
 refine gvSmall_any _ _ _ _ _ _ f0 m (fun hm hf w1 hc => ?_)
 rcases h with h | h | ⟨sg, o, h1, h2⟩
 ·exact absurd h hm
 ·exact absurd h hf
 ·exact gvExact_good n1 sg m o _ _ (ha.kept hc) (hx.kept hc) ha1 hx1 hx0 (by rw [if_neg hm]; exact h1) h2
theorem fixOut_any (n : Bool) (o : Option (Nat × Nat)) : ∃ (b0 : Bool) (c0 s0 f0 : Int), fixOut n o = .tuple #[.agg #[.bool b0, .int .u64 c0, .int .i64 s0], .int .i64 f0] := by
 cases o with
 | none => exact ⟨_, _, _, _, rfl⟩
 | some kt => exact ⟨_, _, _, _, rfl⟩
theorem FixQuoSmall_in (n1 n2 : Bool) (dc ec ds es : Nat) (m : Int) (hdc : dc < 10 ^ 19) (hec : ec < 10 ^ 19) (hds : ds ≤ 19) (hes : es ≤ 19) (hec0 : 0 < ec) (w : World) (he : EnvI w) :
  Calls Tryz.prog 23 #[.agg #[.bool n1, .int .u64 (dc : Int), .int .i64 (ds : Int)], .agg #[.bool n2, .int .u64 (ec : Int), .int .i64 (es : Int)], .int .i64 m] w
   (fun e w' => ∃ b0 c0 s0 f0, SmallOk (((n1 && dc != 0) != (n2 && ec != 0)) && dc * 10 ^ es != 0) (dc * 10 ^ es) (10 ^ ds * ec) m b0 c0 s0 f0 ∧ e = .returned (.tuple #[.agg #[.bool b0, .int .u64 c0, .int .i64 s0], .int .i64 f0]) ∧ Chg (fun _ => False) w w') := by
 by_cases hm : m < 0 ∨ 19 < m
 ·exact (quoSm_out n1 n2 (n1 && dc != 0) (n2 && ec != 0) dc ec ds es m hdc hec hds hes (by rw [nat_bne]) (by rw [nat_bne]) hm w).mono (fun e w' h => ⟨_, _, _, _, .inl hm, h.1, h.2⟩)
 ·obtain ⟨k, rfl⟩ : ∃ k : Nat, m = k := ⟨m.toNat, by omega⟩
  refine (quoSm_gen n1 n2 (n1 && dc != 0) (n2 && ec != 0) dc ec ds es k hdc hec hds hes (by rw [nat_bne]) (by rw [nat_bne]) hm hec0 (fun sg o => o = none ∨ Good (((n1 && dc != 0) != (n2 && ec != 0)) && dc * 10 ^ es != 0) (dc * 10 ^ es) (10 ^ ds * ec) k sg o) (fun sg a t h => ((h.resolve_left (by simp)).bd (by omega)).1) w he
   (fun w1 he1 => ZzQuoSmall_gen _ _ _ _ _ _ _ _ w1 he1 (fun w2 he2 => quoFint_good _ _ dc ec ds es k hdc hec hec0 hds hes (by omega) w2 he2))).mono (fun e w' h => ?_)
  obtain ⟨sg, o, h1, h2, h3⟩ := h
  obtain ⟨b0, c0, s0, f0, hfo⟩ := fixOut_any sg o
  rw [hfo] at h2
  refine ⟨b0, c0, s0, f0, .inr ?_, h2, h3⟩
  rcases h1 with h1 | h1
  ·subst h1
   have h4 := (fixOut_none rfl hfo).2
   exact .inl (by simpa using h4)
  ·exact .inr ⟨sg, o, by rw [Int.toNat_natCast]; exact h1, hfo⟩
theorem quoSmall_lives (w : World) (he : EnvI w) :
  Calls Tryz.prog 23 #[.agg #[.bool false, .int .u64 12, .int .i64 0], .agg #[.bool false, .int .u64 12, .int .i64 0], .int .i64 0] w
   (fun e w' => ∃ b c s, e = .returned (.tuple #[.agg #[.bool b, .int .u64 c, .int .i64 s], .int .i64 0]) ∧ Chg (fun _ => False) w w') := by
 have hd12 : digs 12 = 2 := by
  have h1 : digs 12 ≤ 2 := digs_le.2 (by decide)
  have h2 : ¬ digs 12 ≤ 1 := fun h => absurd (digs_le.1 h) (by decide)
  omega
 refine (quoSm_gen false false false false 12 12 0 0 ((0 : Nat) : Int) (by decide) (by decide) (by omega) (by omega) rfl rfl (by omega) (by omega) (fun sg o => ∃ k t, o = some (k, t) ∧ t ≤ 19) (fun sg a t h => by obtain ⟨k, t, h, h2⟩ := h; cases h; exact h2) w he
  (fun w1 he1 => ZzQuoSmall_gen _ _ _ _ _ _ _ _ w1 he1 (fun w2 he2 => quoFint_gen false false false 12 12 0 0 0 (by decide) (by decide) (by omega) (by omega) (by omega) (by omega) rfl _ w2 he2 ?_ ?_))).mono (fun e w' h => ?_)
 ·intro z hz1 hz2 hx w3 he3
  have h0 : z = 0 := by
   by_cases h : z = 0
   ·exact h
   ·exfalso
    have h1 : 12 % 10 ^ 1 = 0 := dvd_less (show 1 ≤ z by omega) hz2
    exact absurd h1 (by decide)
  subst h0
  rw [hd12]
  have h1 : (12 * 10 ^ (19 - 2) / (12 / 10 ^ 0) : Nat) = 100000000000000000 := by decide
  rw [h1]
  have h2 : ((0 : Nat) : Int) + ((19 - 2 : Nat) : Int) + ((0 : Nat) : Int) - ((0 : Nat) : Int) = ((17 : Nat) : Int) := by decide
  rw [h2]
  refine (newFromFint_all false ((100000000000000000 : Nat) : Int) 17 0 ⟨by decide, by decide⟩ (by omega) (by omega) w3 he3).mono (fun e w' h => ?_)
  have h3 : fromFint2 ((100000000000000000 : Nat) : Int) 17 0 = some (((100000000000000000 : Nat) : Int), 17) := by decide
  rw [h3] at h
  exact ⟨false, some (100000000000000000, 17), ⟨_, _, rfl, by omega⟩, h.1, h.2⟩
 ·intro z hz1 hz2 hx
  exfalso
  have h0 : z = 0 := by
   by_cases h : z = 0
   ·exact h
   ·exfalso
    have h1 : 12 % 10 ^ 1 = 0 := dvd_less (show 1 ≤ z by omega) hz2
    exact absurd h1 (by decide)
  subst h0
  rw [hd12] at hx
  exact hx (by decide)
 ·obtain ⟨sg, o, ⟨k, t, rfl, _⟩, h2, h3⟩ := h
  exact ⟨_, _, _, h2, h3⟩
set_option maxHeartbeats 2000000 in
theorem lawQuoSm_out (n1 n2 : Bool) (v1 s1 v2 s2 m : Int) (hok : (okFix v1 s1 && okFix v2 s2) = false) (w : World) :
  Calls Tryz.prog 5 #[.agg #[.bool n1, .int .u64 v1, .int .i64 s1], .agg #[.bool n2, .int .u64 v2, .int .i64 s2], .int .i64 m] w (PV w (.bool true)) := by
 obtain ⟨HC0, HD, hB0, hB1⟩ := box2 w #[.bool n1, .int .u64 v1, .int .i64 s1] 24 #[.bool n2, .int .u64 v2, .int .i64 s2] 24
 have HSS := hid (fun (w1 : World) h => And.intro ((cell3 (kept_heap (w' := w1) h hB0)).1) (And.intro ((cell3 (kept_heap (w' := w1) h hB0)).2.1) (And.intro ((cell3 (kept_heap (w' := w1) h hB0)).2.2.1) (And.intro ((cell3 (kept_heap (w' := w1) h hB1)).1) (And.intro ((cell3 (kept_heap (w' := w1) h hB1)).2.1) ((cell3 (kept_heap (w' := w1) h hB1)).2.2.1))))))
 have HSL := hid (alloc_last (W := ((w.alloc (.cells #[.bool n1, .int .u64 v1, .int .i64 s1] 24)).alloc (.cells #[.bool n2, .int .u64 v2, .int .i64 s2] 24))) (x := (.cells #[.bool n1, .int .u64 v1, .int .i64 s1, .bool n2, .int .u64 v2, .int .i64 s2] 24)) (k := w.heap.size + 1 + 1) (by simp))
 have HFA := hid (FixAll_two n1 n2 v1 s1 v2 s2 HSL.out)
 rw [hok] at HFA
 clear hok hB0 hB1 HD
 have hk := (Chg.refl (fun _ => False) ((w.alloc (.cells #[.bool n1, .int .u64 v1, .int .i64 s1] 24)).alloc (.cells #[.bool n2, .int .u64 v2, .int .i64 s2] 24))).alloc (.cells #[.bool n1, .int .u64 v1, .int .i64 s1, .bool n2, .int .u64 v2, .int .i64 s2] 24)
 obtain ⟨d00_, d01_, d02_, d10_, d11_, d12_⟩ := HSS.out _ (Chg.refl _ _)
 go_enter Tryz.func5, Tryz.ntmps5
 go_wp2_with (go_at_call 12; refine HFA.out.mono ?_; intro e w1 h; obtain ⟨he, hc⟩ := h; subst he; replace hk := hk.trans hc sb_; clear hc; skip)
 go_ret
 exact ⟨rfl, HC0.out.trans hk sb_⟩
set_option maxHeartbeats 2000000 in
theorem lawQuoSm_zero (n1 n2 : Bool) (v1 s1 v2 s2 m : Int) (hok : (okFix v1 s1 && okFix v2 s2) = true) (hb5 : (v2 == 0) = true) (w : World) :
  Calls Tryz.prog 5 #[.agg #[.bool n1, .int .u64 v1, .int .i64 s1], .agg #[.bool n2, .int .u64 v2, .int .i64 s2], .int .i64 m] w (PV w (.bool true)) := by
 obtain ⟨HC0, HD, hB0, hB1⟩ := box2 w #[.bool n1, .int .u64 v1, .int .i64 s1] 24 #[.bool n2, .int .u64 v2, .int .i64 s2] 24
 have HSS := hid (fun (w1 : World) h => And.intro ((cell3 (kept_heap (w' := w1) h hB0)).1) (And.intro ((cell3 (kept_heap (w' := w1) h hB0)).2.1) (And.intro ((cell3 (kept_heap (w' := w1) h hB0)).2.2.1) (And.intro ((cell3 (kept_heap (w' := w1) h hB1)).1) (And.intro ((cell3 (kept_heap (w' := w1) h hB1)).2.1) ((cell3 (kept_heap (w' := w1) h hB1)).2.2.1))))))
 have HSL := hid (alloc_last (W := ((w.alloc (.cells #[.bool n1, .int .u64 v1, .int .i64 s1] 24)).alloc (.cells #[.bool n2, .int .u64 v2, .int .i64 s2] 24))) (x := (.cells #[.bool n1, .int .u64 v1, .int .i64 s1, .bool n2, .int .u64 v2, .int .i64 s2] 24)) (k := w.heap.size + 1 + 1) (by simp))
 have HFA := hid (FixAll_two n1 n2 v1 s1 v2 s2 HSL.out)
 rw [hok] at HFA
 clear hok hB0 hB1 HD
 have hk := (Chg.refl (fun _ => False) ((w.alloc (.cells #[.bool n1, .int .u64 v1, .int .i64 s1] 24)).alloc (.cells #[.bool n2, .int .u64 v2, .int .i64 s2] 24))).alloc (.cells #[.bool n1, .int .u64 v1, .int .i64 s1, .bool n2, .int .u64 v2, .int .i64 s2] 24)
 obtain ⟨d00_, d01_, d02_, d10_, d11_, d12_⟩ := HSS.out _ (Chg.refl _ _)
 go_enter Tryz.func5, Tryz.ntmps5
 go_wp2_with (go_at_call 12; refine HFA.out.mono ?_; intro e w1 h; obtain ⟨he, hc⟩ := h; subst he; replace hk := hk.trans hc sb_; clear hc; clear d00_ d01_ d02_ d10_ d11_ d12_; obtain ⟨d00_, d01_, d02_, d10_, d11_, d12_⟩ := HSS.out _ hk)
 go_ret
 exact ⟨rfl, HC0.out.trans hk sb_⟩
set_option maxHeartbeats 4000000 in
theorem lawQuoSm_in (n1 n2 d1 d2 sb : Bool) (dc ec ds es : Nat) (v1 s1 v2 s2 m : Int) (hdc : dc < 10 ^ 19) (hds : ds ≤ 19) (hd1 : (n1 && dc != 0) = d1) (hec : ec < 10 ^ 19) (hes : es ≤ 19) (hd2 : (n2 && ec != 0) = d2) (NN XX : Nat) (QS : Bool → Int → Int → Int → Prop)
  (hv1 : (dc : Int) = v1) (hs1 : (ds : Int) = s1) (hv2 : (ec : Int) = v2) (hs2 : (es : Int) = s2) (hok : (okFix v1 s1 && okFix v2 s2) = true) (hb5 : (v2 == 0) = false) (w : World) (he : EnvI w)
  (HS : ∀ w1, EnvI w1 → Calls Tryz.prog 23 #[.agg #[.bool n1, .int .u64 v1, .int .i64 s1], .agg #[.bool n2, .int .u64 v2, .int .i64 s2], .int .i64 m] w1 (fun e w1' => ∃ b0 c0 s0 f0, QS b0 c0 s0 f0 ∧ e = .returned (.tuple #[.agg #[.bool b0, .int .u64 c0, .int .i64 s0], .int .i64 f0]) ∧ Chg (fun _ => False) w1 w1')) (hsg : ((d1 != d2) && dc * 10 ^ es != 0) = sb) (hNN : dc * 10 ^ es = NN) (hXX : 10 ^ ds * ec = XX)
  (HGX : ∀ b0 c0 s0 f0, QS b0 c0 s0 f0 → ∀ (w1 : World) (A X : Option Addr) (n c k l : Nat), SN w1 A n c NN → SN w1 X k l XX → Calls Tryz.prog 24 #[.agg #[.bool b0, .int .u64 c0, .int .i64 s0], .int .i64 f0, .agg #[.bool sb, .slice A n c, .slice X k l], .int .i64 m] w1 (PV w1 (.bool true))) :
  Calls Tryz.prog 5 #[.agg #[.bool n1, .int .u64 v1, .int .i64 s1], .agg #[.bool n2, .int .u64 v2, .int .i64 s2], .int .i64 m] w (PV w (.bool true)) := by
 have up : ∀ {k : Nat}, k < 10 ^ 19 → k < 10 ^ 100 := fun h => Nat.lt_of_lt_of_le h (Nat.pow_le_pow_right (by omega) (by omega))
 have hp : ∀ {k : Nat}, k ≤ 19 → (10 : Nat) ^ k < 10 ^ 100 := fun h => Nat.pow_lt_pow_right (by omega) (by omega)
 have HN1 := hid (fun w1 => FixNum_any (w := w1) n1 d1 dc ds hdc hds hd1)
 rw [hv1, hs1] at HN1
 have HN2 := hid (fun w1 => FixNum_any (w := w1) n2 d2 ec es hec hes hd2)
 rw [hv2, hs2] at HN2
 have HIN := hid (fun (w1 : World) (A X : Option Addr) (n c k l : Nat) (h2 : SN w1 X k l (10 ^ es)) => FracInv_sn (A := A) (n := n) (c := c) d2 d2 h2 (by rw [bne_iff_ne.2 (Nat.ne_of_gt (pow10_pos es)), Bool.and_true]))
 have HML := hid (fun (w1 : World) (A B X Y : Option Addr) (n c k l p q i j : Nat) (h1 : SN w1 A n c dc) (h2 : SN w1 X k l (10 ^ ds)) (h3 : SN w1 B p q (10 ^ es)) (h4 : SN w1 Y i j ec) =>
  FracMul_any d1 d2 sb h1 h2 h3 h4 (up hdc) (hp hes) (hp hds) (up hec) hsg)
 rw [hNN, hXX] at HML
 have HFS := hid HS
 have HGV := hid HGX
 have HLV := hid (fun w1 he1 => gvLives_any2 w1 he1)
 have HLQ := hid (fun w1 he1 => quoSmall_lives w1 he1)
 have HE := hid he
 generalize 10 ^ ds = T1 at *
 generalize 10 ^ es = T2 at *
 clear HS HGX he hdc hds hd1 hec hes hd2 hv1 hv2 hs1 hs2 hsg up hp hNN hXX
 obtain ⟨HC0, HD, hB0, hB1⟩ := box2 w #[.bool n1, .int .u64 v1, .int .i64 s1] 24 #[.bool n2, .int .u64 v2, .int .i64 s2] 24
 have HSS := hid (fun (w1 : World) h => And.intro ((cell3 (kept_heap (w' := w1) h hB0)).1) (And.intro ((cell3 (kept_heap (w' := w1) h hB0)).2.1) (And.intro ((cell3 (kept_heap (w' := w1) h hB0)).2.2.1) (And.intro ((cell3 (kept_heap (w' := w1) h hB1)).1) (And.intro ((cell3 (kept_heap (w' := w1) h hB1)).2.1) ((cell3 (kept_heap (w' := w1) h hB1)).2.2.1))))))
 have HSL := hid (alloc_last (W := ((w.alloc (.cells #[.bool n1, .int .u64 v1, .int .i64 s1] 24)).alloc (.cells #[.bool n2, .int .u64 v2, .int .i64 s2] 24))) (x := (.cells #[.bool n1, .int .u64 v1, .int .i64 s1, .bool n2, .int .u64 v2, .int .i64 s2] 24)) (k := w.heap.size + 1 + 1) (by simp))
 have HFA := hid (FixAll_two n1 n2 v1 s1 v2 s2 HSL.out)
 rw [hok] at HFA
 clear hok hB0 hB1 HD
 have hk := (Chg.refl (fun _ => False) ((w.alloc (.cells #[.bool n1, .int .u64 v1, .int .i64 s1] 24)).alloc (.cells #[.bool n2, .int .u64 v2, .int .i64 s2] 24))).alloc (.cells #[.bool n1, .int .u64 v1, .int .i64 s1, .bool n2, .int .u64 v2, .int .i64 s2] 24)
 obtain ⟨d00_, d01_, d02_, d10_, d11_, d12_⟩ := HSS.out _ (Chg.refl _ _)
 go_enter Tryz.func5, Tryz.ntmps5
 go_wp2_with (go_at_call 12; refine HFA.out.mono ?_; intro e w1 h; obtain ⟨he, hc⟩ := h; subst he; replace hk := hk.trans hc sb_; clear hc; clear d00_ d01_ d02_ d10_ d11_ d12_; obtain ⟨d00_, d01_, d02_, d10_, d11_, d12_⟩ := HSS.out _ hk)
 go_at_call 23
 refine (HFS.out _ (HE.out.kept (HC0.out.trans hk sb_))).mono ?_
 intro e w2 h
 obtain ⟨b0, c0, s0, f0, hp, he, hc⟩ := h
 subst he
 have HGE := hid (HGV.out b0 c0 s0 f0 hp)
 replace hk := (hk.trans hc sb_).alloc (.cells #[.bool b0, .int .u64 c0, .int .i64 s0] 24)
 obtain ⟨g, hg⟩ : ∃ g, w2.heap.size = g := ⟨_, rfl⟩
 have hG := heap_alloc_new w2 (.cells #[.bool b0, .int .u64 c0, .int .i64 s0] 24)
 rw [hg] at hG
 have HG := hid hG
 clear hc hG hp
 clear d00_ d01_ d02_ d10_ d11_ d12_
 obtain ⟨d00_, d01_, d02_, d10_, d11_, d12_⟩ := HSS.out _ hk
 obtain ⟨j0, j1, j2, _, _, _⟩ := cell3 HG.out
 go_wp2_with fail
 go_at_call 23
 refine (HLQ.out _ (HE.out.kept (HC0.out.trans (hk.alloc _) sb_))).mono ?_
 intro e w5 h
 obtain ⟨b9, c9, s9, he, hc⟩ := h
 subst he
 have hk5 := ((((Chg.refl (fun _ => False) (w2.alloc (.cells #[.bool b0, .int .u64 c0, .int .i64 s0] 24))).alloc _).trans hc sb_).alloc (.cells #[.bool b9, .int .u64 c9, .int .i64 s9] 24))
 replace hk := ((hk.alloc _).trans hc sb_).alloc (.cells #[.bool b9, .int .u64 c9, .int .i64 s9] 24)
 clear hc d00_ d01_ d02_ d10_ d11_ d12_ j0 j1 j2
 obtain ⟨d00_, d01_, d02_, d10_, d11_, d12_⟩ := HSS.out _ hk
 obtain ⟨j0, j1, j2, _, _, _⟩ := cell3 (kept_heap hk5 HG.out)
 go_wp2_with fail
 have hw6 := hk5.drew
 have hk := hk.drew
 have HS6 := hid (fun (w3 : World) h1 (h2 : Chg (fun _ => False) (w2.alloc (.cells #[.bool b0, .int .u64 c0, .int .i64 s0] 24)) w3) => And.intro ((HSS.out w3 h1).1) (And.intro ((HSS.out w3 h1).2.1) (And.intro ((HSS.out w3 h1).2.2.1) (And.intro ((HSS.out w3 h1).2.2.2.1) (And.intro ((HSS.out w3 h1).2.2.2.2.1) (And.intro ((HSS.out w3 h1).2.2.2.2.2) (And.intro ((cell3 (kept_heap h2 HG.out)).1) (And.intro ((cell3 (kept_heap h2 HG.out)).2.1) ((cell3 (kept_heap h2 HG.out)).2.2.1)))))))))
 first | (go_region_held3 (fun w' => w'.cell? ⟨w.heap.size, 0, none⟩ = some (.bool n1) ∧ w'.cell? ⟨w.heap.size, 1, none⟩ = some (.int .u64 v1) ∧ w'.cell? ⟨w.heap.size, 2, none⟩ = some (.int .i64 s1) ∧ w'.cell? ⟨w.heap.size + 1, 0, none⟩ = some (.bool n2) ∧ w'.cell? ⟨w.heap.size + 1, 1, none⟩ = some (.int .u64 v2) ∧ w'.cell? ⟨w.heap.size + 1, 2, none⟩ = some (.int .i64 s2) ∧ w'.cell? ⟨g, 0, none⟩ = some (.bool b0) ∧ w'.cell? ⟨g, 1, none⟩ = some (.int .u64 c0) ∧ w'.cell? ⟨g, 2, none⟩ = some (.int .i64 s0)) (first | with_reducible exact HS6.out _ hk hw6) (first | (go_at_call_of 15 (Value.agg #[Value.bool n1, Value.int .u64 v1, Value.int .i64 s1]); refine (HN1.out _).mono ?_; intro e w3 h; obtain ⟨A1, A1_, A2_, A2, A3_, A4_, he, hq1, hq2, hc⟩ := h; subst he; replace hk := hk.trans hc sb_; replace hw6 := hw6.trans hc sb_; (try replace HA1 := hid (HA1.out.kept hc)); (try replace HA2 := hid (HA2.out.kept hc)); (try replace HB1 := hid (HB1.out.kept hc)); (try replace HB2 := hid (HB2.out.kept hc)); (try replace HC1 := hid (HC1.out.kept hc)); (try replace HC2 := hid (HC2.out.kept hc)); have HA1 := hid hq1; have HA2 := hid hq2; clear hq1 hq2; clear hc) | (go_at_call_of 15 (Value.agg #[Value.bool n2, Value.int .u64 v2, Value.int .i64 s2]); refine (HN2.out _).mono ?_; intro e w3 h; obtain ⟨B1, B1_, B2_, B2, B3_, B4_, he, hq1, hq2, hc⟩ := h; subst he; replace hk := hk.trans hc sb_; replace hw6 := hw6.trans hc sb_; (try replace HA1 := hid (HA1.out.kept hc)); (try replace HA2 := hid (HA2.out.kept hc)); (try replace HB1 := hid (HB1.out.kept hc)); (try replace HB2 := hid (HB2.out.kept hc)); (try replace HC1 := hid (HC1.out.kept hc)); (try replace HC2 := hid (HC2.out.kept hc)); have HB1 := hid hq1; have HB2 := hid hq2; clear hq1 hq2; clear hc) | (go_at_call 22; refine (HIN.out _ _ _ _ _ _ _ HB2.out).mono ?_; intro e w3 h; obtain ⟨he, hc⟩ := h; subst he; replace hk := hk.trans hc sb_; replace hw6 := hw6.trans hc sb_; (try replace HA1 := hid (HA1.out.kept hc)); (try replace HA2 := hid (HA2.out.kept hc)); (try replace HB1 := hid (HB1.out.kept hc)); (try replace HB2 := hid (HB2.out.kept hc)); (try replace HC1 := hid (HC1.out.kept hc)); (try replace HC2 := hid (HC2.out.kept hc)); skip; clear hc) | (go_at_call 21; refine (HML.out _ _ _ _ _ _ _ _ _ _ _ _ _ HA1.out HA2.out HB2.out HB1.out).mono ?_; intro e w3 h; obtain ⟨C1, c1_, c2_, C2, c3_, c4_, he, hq1, hq2, hc⟩ := h; subst he; replace hk := hk.trans hc sb_; replace hw6 := hw6.trans hc sb_; (try replace HA1 := hid (HA1.out.kept hc)); (try replace HA2 := hid (HA2.out.kept hc)); (try replace HB1 := hid (HB1.out.kept hc)); (try replace HB2 := hid (HB2.out.kept hc)); (try replace HC1 := hid (HC1.out.kept hc)); (try replace HC2 := hid (HC2.out.kept hc)); have HC1 := hid hq1; have HC2 := hid hq2; clear hq1 hq2; clear hc) | (go_at_call 24; refine (HGE.out _ _ _ _ _ _ _ HC1.out HC2.out).mono ?_; intro e w3 h; obtain ⟨he, hc⟩ := h; subst he; replace hk := hk.trans hc sb_; replace hw6 := hw6.trans hc sb_; (try replace HA1 := hid (HA1.out.kept hc)); (try replace HA2 := hid (HA2.out.kept hc)); (try replace HB1 := hid (HB1.out.kept hc)); (try replace HB2 := hid (HB2.out.kept hc)); (try replace HC1 := hid (HC1.out.kept hc)); (try replace HC2 := hid (HC2.out.kept hc)); skip; clear hc) | (go_at_call 17; refine (HLV.out _ (HE.out.kept (HC0.out.trans hk sb_)).1).mono ?_; intro e w3 h; obtain ⟨he, hc⟩ := h; subst he; replace hk := hk.trans hc sb_; replace hw6 := hw6.trans hc sb_; (try replace HA1 := hid (HA1.out.kept hc)); (try replace HA2 := hid (HA2.out.kept hc)); (try replace HB1 := hid (HB1.out.kept hc)); (try replace HB2 := hid (HB2.out.kept hc)); (try replace HC1 := hid (HC1.out.kept hc)); (try replace HC2 := hid (HC2.out.kept hc)); skip; clear hc))) | fail
 all_goals (go_wp2_with fail; go_ret; exact ⟨rfl, HC0.out.trans hk sb_⟩)
theorem lawQuoSm_any (n1 n2 : Bool) (v1 s1 v2 s2 m : Int) (h1 : 0 ≤ v1) (h2 : 0 ≤ v2) (w : World) (he : EnvI w) :
  Calls Tryz.prog 5 #[.agg #[.bool n1, .int .u64 v1, .int .i64 s1], .agg #[.bool n2, .int .u64 v2, .int .i64 s2], .int .i64 m] w (PV w (.bool true)) := by
 cases hok : (okFix v1 s1 && okFix v2 s2) with
 | false => exact lawQuoSm_out n1 n2 v1 s1 v2 s2 m hok w
 | true =>
  have hok' := hok
  rw [Bool.and_eq_true] at hok'
  obtain ⟨k1, k2⟩ := hok'
  obtain ⟨dc, ds, rfl, rfl, a1, a2⟩ := okFix_nat h1 k1
  obtain ⟨ec, es, rfl, rfl, b1, b2⟩ := okFix_nat h2 k2
  by_cases hz : ec = 0
  ·exact lawQuoSm_zero n1 n2 _ _ _ _ m hok (by rw [hz]; rfl) w
  ·have hx0 : 0 < 10 ^ ds * ec := Nat.mul_pos (pow10_pos _) (by omega)
   have hxx : 10 ^ ds * ec < 10 ^ 100 := Nat.lt_of_lt_of_le (mul100 (Nat.pow_lt_pow_right (a := 10) (by omega) (show ds < 20 by omega)) b1) (Nat.pow_le_pow_right (by omega) (by omega))
   have hnn : dc * 10 ^ es < 10 ^ 100 := Nat.lt_of_lt_of_le (mul100 a1 (Nat.pow_lt_pow_right (a := 10) (by omega) (show es < 20 by omega))) (Nat.pow_le_pow_right (by omega) (by omega))
   exact lawQuoSm_in n1 n2 _ _ _ dc ec ds es _ _ _ _ m a1 a2 rfl b1 b2 rfl _ _ _ rfl rfl rfl rfl hok (beq_eq_false_iff_ne.2 (by omega)) w he
    (fun w1 he1 => FixQuoSmall_in n1 n2 dc ec ds es m a1 b1 a2 b2 (by omega) w1 he1) rfl rfl rfl
    (fun b0 c0 s0 f0 hp w1 A X n c k l ha hx => gvSmall_good _ m b0 c0 s0 f0 ha hx hnn hxx hx0 hp)
end Go.Proofs.YtldhfhloinlfaaaGreatDoor
namespace Go.Proofs.YtldhfhloinlfaaaGreatDoor
open Go Go.ChangeShapes Go.WideShapes Go.ChangeAt Go.WideMaps Go.WideElems Go.RowKit
set_option maxRecDepth 100000 in
theorem liftedf (os : Os) (started : os.Started) (H : Type) (enc : TypeId × Value → H) :
  ReturnsInHanded {} Tryz.checked os 5 .any (fun w args => (Rows.fnFixQuoSmallSpec.pre enc Tryz.prog Tryz.f5 [] false w args ∧ laidMetH Tryz.prog Rows.fnFixQuoSmallRow.laid w) ∧ sizedMet enc Tryz.prog Tryz.f5 (OpenSpec.ofChange Rows.fnFixQuoSmallSpec) false w args)
   (Rows.fnFixQuoSmallSpec.post enc Tryz.prog Tryz.f5 false true false false) := by
 refine handed_shaped (C := Tryz.checked) (X := fun w _ => laidMetH Tryz.prog Rows.fnFixQuoSmallRow.laid w) (fun _ _ _ hh h => h.of_heap hh) own0 started kr_ Tryz.func5
  (ChangeSpec.witness_shaped (enc := enc) (C := Tryz.checked) (os := os) (X := fun w _ => laidMetH Tryz.prog Rows.fnFixQuoSmallRow.laid w) false (World.doorLaid Tryz.prog 400 os) #[.agg #[.bool false, .int .u64 0, .int .i64 0], .agg #[.bool false, .int .u64 0, .int .i64 0], .int .i64 0] 8 rfl (wit_shapedf os) (wit_okf os) (wit_pref os H enc) (wit_sizef os H enc) (door_metq os _)) ?_
 intro W base args ds gs before hsh hval0 hW _ hL
 have hval : ∀ (j : Nat) t v, Tryz.f5.params[j]? = some t → args[j]? = some v → Value.okWide Tryz.prog W .any base t v := hval0
 have hW' := hW
 obtain ⟨p, q, hA0, hV, rfl, hfz, hnd⟩ := hW
 have hA : DataW.TrodAll enc Tryz.prog W 0 (fun _ => true) true Tryz.f5.params.toList args.toList ds p := hA0
 rw [Tryz.params5] at hA hval
 obtain ⟨v0, vs0, d0, ds0, p0, q0, hargs, rfl, rfl, h0, r0⟩ := trodAll_cons hA
 obtain ⟨v1, vs1, d1, ds1, p1, q1, rfl, rfl, rfl, h1, r1⟩ := trodAll_cons r0
 obtain ⟨v2, vs2, d2, ds2, p2, q2, rfl, rfl, rfl, h2, r2⟩ := trodAll_cons r1
 obtain ⟨rfl, rfl, rfl⟩ := trodAll_nil r2
 obtain rfl : args = #[v0, v1, v2] := by cases args; simp_all
 have k0 := h0
 have k1 := h1
 have k2 := h2
 obtain ⟨n1, c1, s1, rfl, w1, rfl⟩ := open_fix (hval 0 24 v0 rfl rfl) h0
 obtain ⟨n2, c2, s2, rfl, w2, rfl⟩ := open_fix (hval 1 24 v1 rfl rfl) h1
 obtain ⟨m, rfl, rfl, rfl, _⟩ := open_int Tryz.underlying3 (hval 2 3 v2 rfl rfl) h2
 have hlen : gs.length = 9 := trodVars_length hV
 match gs, hlen, hV, hW' with
 | [g1, g2, g3, g4, g5, g6, g7, g8, g9], _, hV, hW' =>
  refine (lawQuoSm_any n1 n2 c1 s1 c2 s2 m w1 w2 W (of_laidq hsh hL)).mono fun e W' hE => ?_
  obtain ⟨he, hc⟩ := hE
  subst he
  have hB := hc.below
  refine ⟨_, rfl, _, _, _, [], [], q, hW', ?_, ?_, ?_, hB.frame _, fun h => by cases h⟩
  ·exact trodAll_mk1 (shut_bool Tryz.underlying4 _)
  ·exact trodAll_mk3 (Below.trod laidOk kr_ (of_decide_eq_true kr_) k0 hB (fun x hx => by cases hx)) (Below.trod laidOk kr_ (of_decide_eq_true kr_) k1 hB (fun x hx => by cases hx)) (Below.trod laidOk kr_ (of_decide_eq_true kr_) k2 hB (fun x hx => by cases hx))
  ·exact vars_iface hB gScl tScl Tryz.underlying57 (fun _ _ h => vars_iface hB gOvf tOvf Tryz.underlying57 (fun _ _ h => vars_iface hB gInx tInx Tryz.underlying57 (fun _ _ h => Below.trodVars laidOk hB kr_ h) h) h) hV
theorem fnFixQuoSmall_holds : Rows.FnFixQuoSmallSaid :=
 OpenClaim.holds_of_wide 5 Tryz.f5 rfl rfl rfl rfl rfl rfl rfl ⟨rfl, rfl, rfl, rfl, rfl⟩ rfl rfl rfl rfl rfl row_funcf Tryz.func5 row_closedf
  (of_decide_eq_true kr_) (by unfold Func.isWrapper; first | (rw [if_pos (by decide +kernel)]; kernel_rfl) | (rw [if_neg (by decide +kernel)]; exact ⟨rfl, rfl⟩))
  (fun os started H enc _ => liftedf os started H enc)
theorem fnFixQuoSmall_card : Rows.FnFixQuoSmallCardSaid :=
 Claim7.holds_tied_plain_at .later [] [.data, .data, .data, .data, .data, .data, .data, .sentinel, .sentinel, .sentinel, .data] true Rows.fnFixQuoSmallCard.stood.harness false
  fnFixQuoSmall_holds (fun _ h => by cases h) row_wff (fun _ h => by cases h) fnFixQuoSmall_row_tie rfl ⟨rfl, rfl⟩ kr_ rfl
  (fun f fn hf hfn => by
   obtain rfl : f = 5 := Option.some.inj (row_funcf.symm.trans hf) |>.symm
   obtain rfl : fn = Tryz.f5 := (Option.some.inj (Tryz.func5.symm.trans hfn)).symm
   exact ⟨row_looksf, fun j t ht => by
    rw [Tryz.params5] at ht
    have hm : t ∈ [24, 24, 3] := by simpa using Array.mem_of_getElem? ht
    exact (show Tryz.prog.wantsStandIn t = false by simpa using List.all_eq_true.1 row_standf t hm)⟩)
  row_goesf
end Go.Proofs.YtldhfhloinlfaaaGreatDoor
