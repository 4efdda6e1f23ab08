/- For every three decimals the law FnFixSubQuo answers true, and its arguments read as they did. No condition beyond the row's own: the package's variables hold what the program's text lays (tied). -/
import Derived.Test.YtldhfhloinlfaaaGreatDoorTie
import Derived.Test.YtldhfhloinlfaaaGreatDoorCards
import Derived.SevenTiedAt
import Derived.Carry
import Derived.Test.YtldhfhloinlfaaaGreatDoorC52
import Derived.Test.YtldhfhloinlfaaaGreatDoorC53
namespace Go.Proofs.YtldhfhloinlfaaaGreatDoor
open Go Go.ChangeShapes Go.WideShapes Go.ChangeAt Go.WideMaps Go.WideElems Go.RowKit
set_option maxRecDepth 100000 in
theorem liftedk (os : Os) (started : os.Started) (H : Type) (enc : TypeId × Value → H) :
  ReturnsInHanded {} Tryz.checked os 11 .any (fun w args => (Rows.fnFixSubQuoSpec.pre enc Tryz.prog Tryz.f11 [] false w args ∧ laidMetH Tryz.prog Rows.fnFixSubQuoRow.laid w) ∧ sizedMet enc Tryz.prog Tryz.f11 (OpenSpec.ofChange Rows.fnFixSubQuoSpec) false w args)
   (Rows.fnFixSubQuoSpec.post enc Tryz.prog Tryz.f11 false true false false) := by
 refine handed_shaped (C := Tryz.checked) (X := fun w _ => laidMetH Tryz.prog Rows.fnFixSubQuoRow.laid w) (fun _ _ _ hh h => h.of_heap hh) own0 started kr_ Tryz.func11
  (ChangeSpec.witness_shaped (enc := enc) (C := Tryz.checked) (os := os) (X := fun w _ => laidMetH Tryz.prog Rows.fnFixSubQuoRow.laid w) false (World.doorLaid Tryz.prog 400 os) #[.agg #[.bool false, .int .u64 0, .int .i64 0], .agg #[.bool false, .int .u64 0, .int .i64 0], .agg #[.bool false, .int .u64 0, .int .i64 0]] 8 rfl (wit_shapedk os) (wit_okk os) (wit_prek os H enc) (wit_sizek os H enc) (door_metq os _)) ?_
 intro W base args ds gs before hsh hval0 hW _ hL
 have hval : ∀ (j : Nat) t v, Tryz.f11.params[j]? = some t → args[j]? = some v → Value.okWide Tryz.prog W .any base t v := hval0
 have hW' := hW
 obtain ⟨p, q, hA0, hV, rfl, hfz, hnd⟩ := hW
 have hA : DataW.TrodAll enc Tryz.prog W 0 (fun _ => true) true Tryz.f11.params.toList args.toList ds p := hA0
 rw [Tryz.params11] at hA hval
 obtain ⟨v0, vs0, d0, ds0, p0, q0, hargs, rfl, rfl, h0, r0⟩ := trodAll_cons hA
 obtain ⟨v1, vs1, d1, ds1, p1, q1, rfl, rfl, rfl, h1, r1⟩ := trodAll_cons r0
 obtain ⟨v2, vs2, d2, ds2, p2, q2, rfl, rfl, rfl, h2, r2⟩ := trodAll_cons r1
 obtain ⟨rfl, rfl, rfl⟩ := trodAll_nil r2
 obtain rfl : args = #[v0, v1, v2] := by cases args; simp_all
 have k0 := h0
 have k1 := h1
 have k2 := h2
 obtain ⟨n1, c1, s1, rfl, w1, rfl⟩ := open_fix (hval 0 24 v0 rfl rfl) h0
 obtain ⟨n2, c2, s2, rfl, w2, rfl⟩ := open_fix (hval 1 24 v1 rfl rfl) h1
 obtain ⟨n3, c3, s3, rfl, w3, rfl⟩ := open_fix (hval 2 24 v2 rfl rfl) h2
 have hlen : gs.length = 9 := trodVars_length hV
 match gs, hlen, hV, hW' with
 | [g1, g2, g3, g4, g5, g6, g7, g8, g9], _, hV, hW' =>
  refine (lawSuq_any n1 n2 n3 c1 s1 c2 s2 c3 s3 w1 w2 w3 W (of_laidq hsh hL)).mono fun e W' hE => ?_
  obtain ⟨he, hc⟩ := hE
  subst he
  have hB := hc.below
  refine ⟨_, rfl, _, _, _, [], [], q, hW', ?_, ?_, ?_, hB.frame _, fun h => by cases h⟩
  ·exact trodAll_mk1 (shut_bool Tryz.underlying4 _)
  ·exact trodAll_mk3 (Below.trod laidOk kr_ (of_decide_eq_true kr_) k0 hB (fun x hx => by cases hx)) (Below.trod laidOk kr_ (of_decide_eq_true kr_) k1 hB (fun x hx => by cases hx)) (Below.trod laidOk kr_ (of_decide_eq_true kr_) k2 hB (fun x hx => by cases hx))
  ·exact vars_iface hB gScl tScl Tryz.underlying57 (fun _ _ h => vars_iface hB gOvf tOvf Tryz.underlying57 (fun _ _ h => vars_data (fun _ _ h => Below.trodVars laidOk hB kr_ h) (fun _ _ h => vars_iface hB gInx tInx Tryz.underlying57 (fun _ _ h => Below.trodVars laidOk hB kr_ h) h) h) h) hV
theorem fnFixSubQuo_holds : Rows.FnFixSubQuoSaid :=
 OpenClaim.holds_of_wide 11 Tryz.f11 rfl rfl rfl rfl rfl rfl rfl ⟨rfl, rfl, rfl, rfl, rfl⟩ rfl rfl rfl rfl rfl row_funck Tryz.func11 row_closedk
  (of_decide_eq_true kr_) (by unfold Func.isWrapper; first | (rw [if_pos (by decide +kernel)]; kernel_rfl) | (rw [if_neg (by decide +kernel)]; exact ⟨rfl, rfl⟩))
  (fun os started H enc _ => liftedk os started H enc)
theorem fnFixSubQuo_card : Rows.FnFixSubQuoCardSaid :=
 Claim7.holds_tied_plain_at .later [] [.data, .data, .data, .data, .data, .data, .data, .sentinel, .sentinel, .sentinel, .data] true Rows.fnFixSubQuoCard.stood.harness false
  fnFixSubQuo_holds (fun _ h => by cases h) row_wfk (fun _ h => by cases h) fnFixSubQuo_row_tie rfl ⟨rfl, rfl⟩ kr_ rfl
  (fun f fn hf hfn => by
   obtain rfl : f = 11 := Option.some.inj (row_funck.symm.trans hf) |>.symm
   obtain rfl : fn = Tryz.f11 := (Option.some.inj (Tryz.func11.symm.trans hfn)).symm
   exact ⟨row_looksk, fun j t ht => by
    rw [Tryz.params11] at ht
    have hm : t ∈ [24, 24, 24] := by simpa using Array.mem_of_getElem? ht
    exact (show Tryz.prog.wantsStandIn t = false by simpa using List.all_eq_true.1 row_standk t hm)⟩)
  row_goesk
end Go.Proofs.YtldhfhloinlfaaaGreatDoor
