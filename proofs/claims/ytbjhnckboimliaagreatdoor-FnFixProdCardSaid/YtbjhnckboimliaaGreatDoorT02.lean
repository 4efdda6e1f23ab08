/- For every slice of decimals the law FnFixProd answers true, and its arguments read as they did. No condition beyond the row's own: the package's variables hold what the program's text lays (tied). -/
import Derived.Test.YtbjhnckboimliaaGreatDoorRows
import Derived.Test.YtbjhnckboimliaaGreatDoorProg
import Derived.ProofKit
import Derived.LaidMore
import Derived.OpenShut
import Derived.Stop.Joined
import Derived.Handed
import Derived.SizedLaws
import Derived.Below
import Derived.Deep.Draws
import Derived.Deep.AppendLies
import Derived.Maps.AppendAt
import Derived.OwnWalk
import Derived.Laws.BytesArg
import Derived.Laws.MakeOwn
import Derived.Laws.OwnMore
import Derived.Deep.OwnRows
import Derived.Tactics
import Derived.Lib.ConvBytes
import Derived.Laws.Slices
import Derived.WalkKit
import Derived.KernelRfl
import Derived.RowKit3
import Derived.Deep.LoopGhost
import Derived.Deep.QuietTactic
import Derived.BigQuiet
import Derived.WideLaws
import Derived.Deep.DeepCutAuto
import Derived.Deep.CutBlock
import Derived.Deep.RegionHeld3
import Derived.Laws.Rows
import Derived.Lib.AppendStr
import Derived.ArgAppend
import Derived.Laws.IdiomCopy
import Derived.OrdersHeld
import Derived.Laws.BitsLemmas
import Derived.RowKit
import Derived.Laws.StructEq
import Derived.Lib.Mul64
import Derived.LaidEqlPtr
import Derived.RegionTactic
import Derived.BigRegion
import Derived.StillTailTactics
import Derived.Deep.RegionWith
import Derived.Shelf.Small.Bits
import Derived.Shelf.Strconv.Itoa0
import Derived.Shelf.Bits.Mul64
import Derived.Lib.AppendZeros
import Derived.Laws.AppendOwn
import Derived.Deep.CutRange
import Derived.Recover
import Derived.Lib.SmallJoins
import Derived.OpenVars
import Derived.Deep.Slices
import Derived.ChangeOld
import Derived.Test.YtbjhnckboimliaaGreatDoorChecked
import Derived.JoinedOf
import GoSem.ClaimSeven
import GoSem.ClaimGoes
import GoSem.ClaimLaidByText
import Derived.Test.YtbjhnckboimliaaGreatDoorTie
import Derived.Test.YtbjhnckboimliaaGreatDoorCards
import Derived.SevenTiedAt
import Derived.Carry
import Derived.Test.YtbjhnckboimliaaGreatDoorQ00
import Derived.Test.YtbjhnckboimliaaGreatDoorQ01
import Derived.Test.YtbjhnckboimliaaGreatDoorQ02
import Derived.Test.YtbjhnckboimliaaGreatDoorQ03
import Derived.Test.YtbjhnckboimliaaGreatDoorQ04
import Derived.Test.YtbjhnckboimliaaGreatDoorQ05
import Derived.Test.YtbjhnckboimliaaGreatDoorQ06
import Derived.Test.YtbjhnckboimliaaGreatDoorQ07
import Derived.Test.YtbjhnckboimliaaGreatDoorQ08
import Derived.Test.YtbjhnckboimliaaGreatDoorQ09
import Derived.Test.YtbjhnckboimliaaGreatDoorQ10
import Derived.Test.YtbjhnckboimliaaGreatDoorQ11
import Derived.Test.YtbjhnckboimliaaGreatDoorQ12
import Derived.Test.YtbjhnckboimliaaGreatDoorQ13
import Derived.Test.YtbjhnckboimliaaGreatDoorQ14
import Derived.Test.YtbjhnckboimliaaGreatDoorQ15
import Derived.Test.YtbjhnckboimliaaGreatDoorQ16
import Derived.Test.YtbjhnckboimliaaGreatDoorQ17
import Derived.Test.YtbjhnckboimliaaGreatDoorQ18
import Derived.Test.YtbjhnckboimliaaGreatDoorQ19
import Derived.Test.YtbjhnckboimliaaGreatDoorQ20
import Derived.Test.YtbjhnckboimliaaGreatDoorQ21
import Derived.Test.YtbjhnckboimliaaGreatDoorQ91
import Derived.Test.YtbjhnckboimliaaGreatDoorQ92
import Derived.Test.YtbjhnckboimliaaGreatDoorT01
namespace Go.Proofs.YtbjhnckboimliaaGreatDoor
open Go Go.ChangeShapes Go.WideShapes Go.ChangeAt Go.WideMaps Go.WideElems Go.RowKit
set_option maxRecDepth 100000 in
theorem liftedo (os : Os) (started : os.Started) (H : Type) (enc : TypeId × Value → H) :
  ReturnsInHanded {} Tryz.checked os 6 .any (fun w args => (Rows.fnFixProdSpec.pre enc Tryz.prog Tryz.f6 [] false w args ∧ laidMetH Tryz.prog Rows.fnFixProdRow.laid w) ∧ sizedMet enc Tryz.prog Tryz.f6 (OpenSpec.ofChange Rows.fnFixProdSpec) false w args)
   (Rows.fnFixProdSpec.post enc Tryz.prog Tryz.f6 false true false false) := by
 refine handed_shaped (C := Tryz.checked) (X := fun w _ => laidMetH Tryz.prog Rows.fnFixProdRow.laid w) (fun _ _ _ hh h => h.of_heap hh) own0 started kr_ Tryz.func6
  (ChangeSpec.witness_shaped (enc := enc) (C := Tryz.checked) (os := os) (X := fun w _ => laidMetH Tryz.prog Rows.fnFixProdRow.laid w) false (World.doorLaid Tryz.prog 400 os) #[.slice none 0 0] 8 rfl (wit_shapedo os) (wit_oko os) (wit_preo os H enc) (wit_sizeo os H enc) (door_met os _)) ?_
 intro W base args ds gs before hsh hval0 hW _ hL
 have hval : ∀ (j : Nat) t v, Tryz.f6.params[j]? = some t → args[j]? = some v → Value.okWide Tryz.prog W .any base t v := hval0
 have hW' := hW
 obtain ⟨p, q, hA0, hV, rfl, hfz, hnd⟩ := hW
 have hA : DataW.TrodAll enc Tryz.prog W 0 (fun _ => true) true Tryz.f6.params.toList args.toList ds p := hA0
 rw [Tryz.params6] at hA hval
 obtain ⟨v0, vs0, d0, ds0, p0, q0, hargs, rfl, rfl, h0, r0⟩ := trodAll_cons hA
 obtain ⟨rfl, rfl, rfl⟩ := trodAll_nil r0
 obtain rfl : args = #[v0] := by cases args; simp_all
 have k0 := h0
 have hlt0 : ∀ x ∈ p0, x.block < W.heap.size := by
  obtain ⟨n, hn⟩ := h0
  exact DataW.trod_lt n _ _ _ hn
 obtain ⟨A, l, c, rfl, hx, hnn⟩ := open_fixes (hval 0 42 v0 rfl rfl) h0
 have hlen : gs.length = 8 := trodVars_length hV
 match gs, hlen, hV, hW' with
 | [g1, g2, g3, g4, g5, g6, g7, g8], _, hV, hW' =>
  refine (lawProd_any W (of_laid hsh hL) hx hnn).mono fun e W' hE => ?_
  obtain ⟨he, hc⟩ := hE
  subst he
  have hB := hc.below
  refine ⟨_, rfl, _, _, _, [], p0, q, hW', ?_, ?_, ?_, hB.frame _, fun h => by cases h⟩
  ·exact trodAll_mk1 (shut_bool Tryz.underlying4 _)
  ·exact trodAll_mk1 (Below.trod laidOk kr_ (of_decide_eq_true kr_) k0 hB hlt0)
  ·exact vars_iface hB gScl tScl Tryz.underlying59 (fun _ _ h => vars_iface hB gOvf tOvf Tryz.underlying59 (fun _ _ h => Below.trodVars laidOk hB kr_ h) h) hV
theorem fnFixProd_holds : Rows.FnFixProdSaid :=
 OpenClaim.holds_of_wide 6 Tryz.f6 rfl rfl rfl rfl rfl rfl rfl ⟨rfl, rfl, rfl, rfl, rfl⟩ rfl rfl rfl rfl rfl row_funco Tryz.func6 row_closedo
  (of_decide_eq_true kr_) (by unfold Func.isWrapper; first | (rw [if_pos (by decide +kernel)]; kernel_rfl) | (rw [if_neg (by decide +kernel)]; exact ⟨rfl, rfl⟩))
  (fun os started H enc _ => liftedo os started H enc)
theorem fnFixProd_card : Rows.FnFixProdCardSaid :=
 Claim7.holds_tied_plain_at .later [] [.data, .data, .data, .data, .data, .data, .data, .sentinel, .sentinel, .data] true Rows.fnFixProdCard.stood.harness false
  fnFixProd_holds (fun _ h => by cases h) row_wfo (fun _ h => by cases h) fnFixProd_row_tie rfl ⟨rfl, rfl⟩ kr_ rfl
  (fun f fn hf hfn => by
   obtain rfl : f = 6 := Option.some.inj (row_funco.symm.trans hf) |>.symm
   obtain rfl : fn = Tryz.f6 := (Option.some.inj (Tryz.func6.symm.trans hfn)).symm
   exact ⟨row_lookso, fun j t ht => by
    rw [Tryz.params6] at ht
    have hm : t ∈ [42] := by simpa using Array.mem_of_getElem? ht
    exact (show Tryz.prog.wantsStandIn t = false by simpa using List.all_eq_true.1 row_stando t hm)⟩)
  row_goeso
end Go.Proofs.YtbjhnckboimliaaGreatDoor
