/- Part 1 of the rest of the proof. -/
import Derived.Test.YtbjhnckboimliaaGreatDoorProg
import Derived.Lib.Mul64
import Derived.WalkKit
import Derived.KernelRfl
import Derived.Deep.QuietTactic
import Derived.BigQuiet
import Derived.LaidEqlPtr
import Derived.Laws.IdiomCopy
import Derived.RegionTactic
import Derived.BigRegion
import Derived.StillTailTactics
import Derived.Deep.RegionWith
import Derived.Shelf.Small.Bits
import Derived.Shelf.Strconv.Itoa0
import Derived.Shelf.Bits.Mul64
import Derived.Deep.CutBlock
import Derived.Deep.DeepCutAuto
import Derived.Lib.AppendZeros
import Derived.Laws.AppendOwn
import Derived.OwnWalk
import Derived.Deep.CutRange
import Derived.Deep.RegionHeld3
import Derived.Below
import Derived.Deep.Draws
import Derived.Deep.AppendLies
import Derived.Maps.AppendAt
import Derived.Laws.BytesArg
import Derived.Laws.MakeOwn
import Derived.Laws.OwnMore
import Derived.Deep.OwnRows
import Derived.Tactics
import Derived.Lib.ConvBytes
import Derived.Laws.Slices
import Derived.RowKit3
import Derived.Deep.LoopGhost
import Derived.WideLaws
import Derived.Laws.Rows
import Derived.Lib.AppendStr
import Derived.ArgAppend
import Derived.OrdersHeld
import Derived.Laws.BitsLemmas
import Derived.RowKit
import Derived.Laws.StructEq
import Derived.Recover
import Derived.Test.YtbjhnckboimliaaGreatDoorQ
import Derived.Test.YtbjhnckboimliaaGreatDoorQ00
import Derived.Test.YtbjhnckboimliaaGreatDoorQ01
import Derived.Test.YtbjhnckboimliaaGreatDoorQ02
import Derived.Test.YtbjhnckboimliaaGreatDoorQ03
import Derived.Test.YtbjhnckboimliaaGreatDoorQ04
import Derived.Test.YtbjhnckboimliaaGreatDoorQ05
import Derived.Test.YtbjhnckboimliaaGreatDoorQ06
import Derived.Test.YtbjhnckboimliaaGreatDoorQ07
import Derived.Test.YtbjhnckboimliaaGreatDoorQ08
import Derived.Test.YtbjhnckboimliaaGreatDoorQ09
import Derived.Test.YtbjhnckboimliaaGreatDoorQ10
import Derived.Test.YtbjhnckboimliaaGreatDoorQ11
import Derived.Test.YtbjhnckboimliaaGreatDoorQ12
import Derived.Test.YtbjhnckboimliaaGreatDoorQ13
import Derived.Test.YtbjhnckboimliaaGreatDoorQ14
import Derived.Test.YtbjhnckboimliaaGreatDoorQ15
import Derived.Test.YtbjhnckboimliaaGreatDoorQ16
import Derived.Test.YtbjhnckboimliaaGreatDoorQ17
import Derived.Test.YtbjhnckboimliaaGreatDoorQ18
import Derived.Test.YtbjhnckboimliaaGreatDoorQ19
import Derived.Test.YtbjhnckboimliaaGreatDoorQ20
import Derived.Test.YtbjhnckboimliaaGreatDoorQ21
import Derived.Test.YtbjhnckboimliaaGreatDoorQ22
import Derived.Test.YtbjhnckboimliaaGreatDoorQ23
import Derived.Test.YtbjhnckboimliaaGreatDoorQ93
import Derived.Test.YtbjhnckboimliaaGreatDoorQ94
import Derived.Test.YtbjhnckboimliaaGreatDoorQ95
import Derived.Test.YtbjhnckboimliaaGreatDoorQ96
import Derived.Test.YtbjhnckboimliaaGreatDoorQ97
import Derived.Test.YtbjhnckboimliaaGreatDoorT00
namespace Go.Proofs.YtbjhnckboimliaaGreatDoor
open Go.RowKit
set_option linter.unusedVariables false
set_option linter.unusedSimpArgs false
set_option maxRecDepth 20000
set_option maxHeartbeats 4000000 in
theorem lawProd_out {A : Option Addr} {l : List (Bool × Int × Int)} {c : Nat} (w : World) (hx : FX w A l) (hno : 40 < l.length ∨ (l.all fun f => okFix f.2.1 f.2.2) = false) :
  Calls Tryz.prog 6 #[.slice A l.length c] w (PV w (.bool true)) := by
 by_cases h1 : 2147483647 < l.length
 ·have hgt : (2147483647 : Int) < (l.length : Int) := by omega
  generalize l.length = L at *
  clear hx hno h1
  go_enter Tryz.func6, Tryz.ntmps6
  go_wp2_with fail
  go_ret
  exact ⟨rfl, Chg.refl _ _⟩
 ·have hgt : ¬ (2147483647 : Int) < (l.length : Int) := by omega
  by_cases h2 : 40 < l.length
  ·have hg2 : (40 : Int) < (l.length : Int) := by omega
   generalize l.length = L at *
   clear hx hno h1 h2
   go_enter Tryz.func6, Tryz.ntmps6
   go_wp2_with fail
   go_ret
   exact ⟨rfl, Chg.refl _ _⟩
  ·have hg2 : ¬ (40 : Int) < (l.length : Int) := by omega
   have HFA := hid (FixAll_list (c := c) hx (by omega))
   rw [hno.resolve_left h2] at HFA
   generalize l.length = L at *
   clear hx hno h1 h2
   go_enter Tryz.func6, Tryz.ntmps6
   go_wp2_with (go_at_call 8; refine HFA.out.mono ?_; intro e w1 h; obtain ⟨he, hc⟩ := h; subst he; have hk := hc; clear hc)
   go_ret
   exact ⟨rfl, hk⟩
set_option maxHeartbeats 16000000 in
theorem lawProd_in {A : Option Addr} {l : List DT} {c : Nat} (w : World) (he : EnvD w) (hx : FX w A (l.map rawI)) (hr : ∀ f ∈ l, f.2.1 < 10 ^ 19 ∧ f.2.2 ≤ 19) (hl : l.length ≤ 40) (hok : ((l.map rawI).all fun f => okFix f.2.1 f.2.2) = true) :
  Calls Tryz.prog 6 #[.slice A l.length c] w (PV w (.bool true)) := by
 have hgt : ¬ (2147483647 : Int) < (l.length : Int) := by omega
 have hg2 : ¬ (40 : Int) < (l.length : Int) := by omega
 have HFA := hid (FixAll_list (c := c) hx (by rw [List.length_map]; omega))
 rw [hok, List.length_map] at HFA
 have HFS := hid (fun w1 (h : Chg (fun _ => False) w w1) => fxProd_gen (c := c) (PProd (l.map nrm)) (fun _ _ _ h => PProd_places h) w1 (he.kept h) (hx.kept h) hr hl (fun w2 B cp h2 hd => by
  have := Prod_any (c := cp) w2 h2 hd (nrm_ok hr) (by rw [List.length_map]; exact hl)
  rw [List.length_map] at this
  exact this))
 have HLV := hid (fun w1 (h : Chg (fun _ => False) w w1) => gvLives_any2 w1 (he.kept h))
 have HX := hid (fun w1 (k : Chg (fun _ => False) w w1) => hx.kept k)
 have HR := hid hr
 have HIN := hid (fun w1 => Int_nat (w := w1) 1 1 rfl (by omega))
 have hk := Chg.refl (fun _ => False) w
 have hwl : l = [] ∨ l ≠ [] := Decidable.em _
 obtain ⟨L, hL⟩ : ∃ L, l.length = L := ⟨_, rfl⟩
 simp only [hL] at HFA HFS hgt hg2 hl
 rw [hL]
 clear hx hr hok he
 go_enter Tryz.func6, Tryz.ntmps6
 go_wp2_with (first | (go_at_call 8; refine HFA.out.mono ?_; intro e w1 h; obtain ⟨he, hc⟩ := h; subst he; replace hk := hk.trans hc sb_; clear hc) | (go_at_call 24; refine (HIN.out _).mono ?_; intro e w1 h; obtain ⟨E1, e1, e2, G1, g1, g2, he, hs1, hs2, hc⟩ := h; subst he; have HG := hid (heap_alloc_new w1 (.cells #[.bool false, .slice E1 e1 e2, .slice G1 g1 g2] 34)); have HN0 := hid (hs1.kept ((Chg.refl (fun _ => False) w1).alloc (.cells #[.bool false, .slice E1 e1 e2, .slice G1 g1 g2] 34))); have HD0 := hid (hs2.kept ((Chg.refl (fun _ => False) w1).alloc (.cells #[.bool false, .slice E1 e1 e2, .slice G1 g1 g2] 34))); have HK0 := hid ((hk.trans hc sb_).alloc (.cells #[.bool false, .slice E1 e1 e2, .slice G1 g1 g2] 34)); have HGS := hid (show w.heap.size ≤ w1.heap.size from (hk.trans hc sb_).size); clear hs1 hs2 hc))
 go_loopw [4, 5, 24] (fun dg pl i wr => ∃ (k : Nat) (b : Bool) (E : Option Addr) (x1 x2 : Nat) (G : Option Addr) (y1 y2 : Nat), k ≤ L ∧ i = .int .i64 k ∧ dg = .int .i64 ((dgL ((l.take k).map nrm) : Nat) : Int) ∧ pl = .int .i64 (((prodL ((l.take k).map nrm)).2.2 : Nat) : Int) ∧ Hid (wr.heap[w1.heap.size]? = some (.cells #[.bool b, .slice E x1 x2, .slice G y1 y2] 34 (0, 0))) ∧ Hid (SN wr E x1 x2 (prodQ ((l.take k).map nrm)).2.1) ∧ Hid (SN wr G y1 y2 (prodQ ((l.take k).map nrm)).2.2) ∧ Hid (b = (prodQ ((l.take k).map nrm)).1) ∧ Hid (Chg (fun _ => False) w wr)) (fun _ _ i _ => L - (intOf i).toNat)
 case atStart => exact ⟨0, false, E1, e1, e2, G1, g1, g2, Nat.zero_le _, rfl, rfl, rfl, HG, HN0, HD0, hid rfl, HK0⟩
 case round =>
  obtain ⟨k, b, E, x1, x2, G, y1, y2, hkl, he1, he2, he3, HGK, HN, HD, HBB, HK⟩ := hrel
  subst he1 he2 he3
  clear hk
  by_cases hlt : k < L
  ·obtain ⟨⟨m, d, t⟩, hf⟩ : ∃ f, l[k]? = some f := ⟨_, List.getElem?_eq_getElem (by omega)⟩
   have hf2 : (l.map rawI)[k]? = some (m, (d : Int), (t : Int)) := by rw [List.getElem?_map, hf]; rfl
   obtain ⟨a, hA, a0, a1, a2⟩ := HX.out _ HK.out k m d t hf2
   subst hA
   obtain ⟨f1, f2⟩ := HR.out _ (List.mem_of_getElem? hf)
   simp only at f1 f2
   have hnk := nrm_ok (l := l.take k) (fun f hf => HR.out f (List.mem_of_mem_take hf))
   have hlk : ((l.take k).map nrm).length ≤ 40 := by rw [List.length_map, List.length_take]; omega
   obtain ⟨b1, b2, b3⟩ := prodQ_bd hnk hlk
   obtain ⟨p1, _, _⟩ := prodL_ok hnk hlk
   have q1 := dgL_le hnk
   have htk : (l.take (k + 1)).map nrm = (l.take k).map nrm ++ [(m && d != 0, d, t)] := by rw [List.take_add_one, hf, Option.toList_some, List.map_append]; rfl
   have hsn : prodQ ((l.take (k + 1)).map nrm) = stepPQ (prodQ ((l.take k).map nrm)) (m && d != 0, d, t) := by rw [htk]; exact prodQ_snoc _ _
   have hsp : (prodL ((l.take (k + 1)).map nrm)).2.2 = (prodL ((l.take k).map nrm)).2.2 + t := by rw [htk, prodL_snoc]; rfl
   have hsd : dgL ((l.take (k + 1)).map nrm) = dgL ((l.take k).map nrm) + digs d := by rw [htk]; exact dgL_snoc _ _
   have hlt' : (k : Int) < (L : Int) := by omega
   have hinc : IntKind.i64.wrap ((k : Int) + 1) = ((k + 1 : Nat) : Int) := by rw [IntWalk.i64_in _ (by omega)]; omega
   have hdd : digs d ≤ 19 := digs_le.2 f1
   have hbb := HBB.out
   generalize prodQ ((l.take k).map nrm) = st at *
   generalize (prodL ((l.take k).map nrm)).2.2 = PL at *
   generalize dgL ((l.take k).map nrm) = DG at *
   clear hnk htk
   generalize ((l.take k).map nrm).length = lk at *
   obtain ⟨b', a', x'⟩ := st
   simp only [stepPQ] at hsn b1 b2 b3 hbb HN HD
   subst hbb
   obtain ⟨DK, hDK⟩ : ∃ DK, digs d = DK := ⟨_, rfl⟩
   have hdk : DK ≤ 19 := by omega
   have hw5 : IntKind.i64.wrap ((DG : Int) + (DK : Int)) = ((DG + DK : Nat) : Int) := by rw [show (DG : Int) + (DK : Int) = ((DG + DK : Nat) : Int) by omega]; exact IntWalk.i64_in _ (by omega)
   have hw6 : IntKind.i64.wrap ((PL : Int) + (t : Int)) = ((PL + t : Nat) : Int) := by rw [show (PL : Int) + (t : Int) = ((PL + t : Nat) : Int) by omega]; exact IntWalk.i64_in _ (by omega)
   obtain ⟨m', hm⟩ : ∃ m', (m && d != 0) = m' := ⟨_, rfl⟩
   have HFN := hid (fun w1 => FixNum_any (w := w1) m m' d t f1 f2 hm)
   rw [hm] at hsn
   obtain ⟨sb, hsb⟩ : ∃ sb, ((b != m') && a' * d != 0) = sb := ⟨_, rfl⟩
   have HMU := hid (fun (w1 : World) (A B X Y : Option Addr) (n c k l p q i j : Nat) (h1 : SN w1 A n c a') (h2 : SN w1 X k l x') (h3 : SN w1 B p q d) (h4 : SN w1 Y i j (10 ^ t)) =>
    FracMul_any b m' sb h1 h2 h3 h4 (up_tn b1 (by omega)) (lt_tn f1 (by omega)) (up_tn b2 (by omega)) (pow_tn (by omega)) hsb)
   rw [hsb] at hsn
   have HSN := hid hsn
   have HSP := hid hsp
   have HSD := hid hsd
   have hd9 := hid f1
   have hdlt : (d : Int) < 18446744073709551616 := by
    have e : (10 : Nat) ^ 19 = 10000000000000000000 := by decide
    omega
   have HNF := hid (fun w1 => NatFrom_any (w := w1) d hdlt)
   clear hdlt
   have HDK := hid hDK
   clear hsb hm f1 f2 b1 b2 b3 hsn hsp hsd hf hf2 hdd hDK hlk p1 q1
   generalize 10 ^ t = T at *
   have hgl : w1.heap.size < wr.heap.size := (Array.getElem?_eq_some_iff.1 HGK.out).1
   have hw := (Chg.refl (fun _ => False) (wr.alloc (.cells #[.bool m, .int .u64 (d : Int), .int .i64 (t : Int)] 24))).drew
   have HG2 := hid ((Below.heap_alloc wr (.cells #[.bool m, .int .u64 (d : Int), .int .i64 (t : Int)] 24) w1.heap.size hgl).trans HGK.out)
   have HF2 := hid (heap_alloc_new wr (.cells #[.bool m, .int .u64 (d : Int), .int .i64 (t : Int)] 24))
   have HSS := hid (fun w3 (h : Chg (fun _ => False) (wr.alloc (.cells #[.bool m, .int .u64 (d : Int), .int .i64 (t : Int)] 24)) w3) => And.intro ((cell3 (kept_heap h HG2.out)).1) (And.intro ((cell3 (kept_heap h HG2.out)).2.1) (And.intro ((cell3 (kept_heap h HG2.out)).2.2.1) (And.intro ((cell3 (kept_heap h HF2.out)).1) (And.intro ((cell3 (kept_heap h HF2.out)).2.1) ((cell3 (kept_heap h HF2.out)).2.2.1))))))
   have HN := hid (HN.out.kept (((Chg.refl (fun _ => False) wr).alloc (.cells #[.bool m, .int .u64 (d : Int), .int .i64 (t : Int)] 24)).drew))
   have HD := hid (HD.out.kept (((Chg.refl (fun _ => False) wr).alloc (.cells #[.bool m, .int .u64 (d : Int), .int .i64 (t : Int)] 24)).drew))
   have HKW := hid (HK.out.alloc (.cells #[.bool m, .int .u64 (d : Int), .int .i64 (t : Int)] 24))
   go_upto_region 9 with fail
   obtain ⟨z0, z1, z2, v0, v1, v2⟩ := HSS.out _ hw
   obtain ⟨_, _, _, y0, y1_, y2_⟩ := cell3 (kept_heap hw HG2.out)
   first | (go_region_with (first | (go_at_call 11; refine (HFN.out _).mono ?_; intro e w3 h; obtain ⟨A1, A1_, A2_, A2, A3_, A4_, he, hq1, hq2, hc⟩ := h; subst he; replace hw := hw.trans hc sb_; have HA1 := hid hq1; have HA2 := hid hq2; replace HN := hid (HN.out.kept hc); replace HD := hid (HD.out.kept hc); clear hq1 hq2 hc; clear z0 z1 z2 v0 v1 v2 y0 y1_ y2_; obtain ⟨z0, z1, z2, v0, v1, v2⟩ := HSS.out _ hw; obtain ⟨_, _, _, y0, y1_, y2_⟩ := cell3 (kept_heap hw HG2.out)) | (go_at_call 20; refine (HMU.out _ _ _ _ _ _ _ _ _ _ _ _ _ HN.out HD.out HA1.out HA2.out).mono ?_; intro e w3 h; obtain ⟨C1, c1_, c2_, C2, c3_, c4_, he, hq1, hq2, hc⟩ := h; subst he; replace hw := hw.trans hc sb_; have HC1 := hid hq1; have HC2 := hid hq2; clear hq1 hq2 hc; clear z0 z1 z2 v0 v1 v2 y0 y1_ y2_; obtain ⟨z0, z1, z2, v0, v1, v2⟩ := HSS.out _ hw; obtain ⟨_, _, _, y0, y1_, y2_⟩ := cell3 (kept_heap hw HG2.out)))) | fail
   all_goals (
    have hgk := kept_heap hw HG2.out
    have HK2 := hid (chg3 (HKW.out.trans hw sb_) HGS.out (.bool sb) (.slice C1 c1_ c2_) (.slice C2 c3_ c4_))
    have HH2 := hid (store3 hgk (.bool sb) (.slice C1 c1_ c2_) (.slice C2 c3_ c4_))
    have HN2 := hid (sn_end3 HC1.out hgk (by simp) (.bool sb) (.slice C1 c1_ c2_) (.slice C2 c3_ c4_))
    have HD2 := hid (sn_end3 HC2.out hgk (by simp) (.bool sb) (.slice C1 c1_ c2_) (.slice C2 c3_ c4_))
    have HF4 := hid (fix_near (a := .bool sb) (b := .slice C1 c1_ c2_) (c := .slice C2 c3_ c4_) (y := w1.heap.size) (kept_heap hw HF2.out) (by omega))
    obtain ⟨wx, hwx⟩ : ∃ wx, ((w3.setCell ⟨w1.heap.size, 0, none⟩ (.bool sb)).setCell ⟨w1.heap.size, 1, none⟩ (.slice C1 c1_ c2_)).setCell ⟨w1.heap.size, 2, none⟩ (.slice C2 c3_ c4_) = wx := ⟨_, rfl⟩
    rw [hwx] at HK2 HH2 HN2 HD2 HF4 ⊢
    clear hgk hw z0 z1 z2 v0 v1 v2 y0 y1_ y2_ hgl HC1 HC2 HSS HG2 hwx
    have hx7 := (Chg.refl (fun _ => False) wx).drew
    have HS7 := hid (fun w' (h : Chg (fun _ => False) wx w') => And.intro ((cell3 (kept_heap h HF4.out)).2.1) ((cell3 (kept_heap h HF4.out)).2.2.1))
    go_upto_region 10 with fail
    first | (go_region_held3 (fun w' => w'.cell? ⟨wr.heap.size, 1, none⟩ = some (.int .u64 (d : Int)) ∧ w'.cell? ⟨wr.heap.size, 2, none⟩ = some (.int .i64 (t : Int))) (first | with_reducible exact HS7.out _ hx7) (first | (go_at_call 25; refine (HNF.out _).mono ?_; intro e w4 h; obtain ⟨B1, B1_, B2_, he, hq1, hc⟩ := h; subst he; replace hx7 := hx7.trans hc sb_; have HB1 := hid hq1; clear hq1 hc) | (go_at_call 26; refine (Digits_any HB1.out (lt_tn hd9.out (by omega))).mono ?_; intro e w4 h; obtain ⟨he, hc⟩ := h; subst he; replace hx7 := hx7.trans hc sb_; clear hc))) | fail
    all_goals (
     go_wp2_with fail
     go_roundw
     case rel => exact ⟨k + 1, sb, C1, c1_, c2_, C2, c3_, c4_, by omega, rfl, by (rw [HSD.out, HDK.out] <;> first | rfl | rw [hw5]), by (rw [HSP.out] <;> first | rfl | rw [hw6]), hid (kept_heap hx7 HH2.out), by rw [HSN.out]; exact hid (HN2.out.kept hx7), by rw [HSN.out]; exact hid (HD2.out.kept hx7), by rw [HSN.out]; exact hid rfl, hid (HK2.out.trans hx7 sb_)⟩
     case measure => simp [intOf]; omega))
  ·obtain rfl : k = L := by omega
   have hge : ¬ (k : Int) < (k : Int) := by omega
   have ht : l.take k = l := List.take_of_length_le (by omega)
   have hbb := HBB.out
   simp only [ht] at HN HD hbb ⊢
   clear ht HBB
   subst hbb
   have hk := HK.out
   have hnl := nrm_ok HR.out
   have hll : (l.map nrm).length ≤ 40 := by rw [List.length_map]; omega
   obtain ⟨b1, b2, b3⟩ := prodQ_bd hnl hll
   obtain ⟨p1, _, _⟩ := prodL_ok hnl hll
   have q1 := dgL_le hnl
   have HNR0 := hid (fun (hs : SmallP (l.map nrm)) (hne : l ≠ []) (w1 : World) (A X : Option Addr) (n c i j : Nat) (sg : Bool) (o : Option (Nat × Nat)) (out f : Value) (h1 : SN w1 A n c (prodQ (l.map nrm)).2.1) (h2 : SN w1 X i j (prodQ (l.map nrm)).2.2) (hP : PProd (l.map nrm) sg o) (hv : fixOut sg o = .tuple #[out, f]) =>
    gvNear_good (prodQ (l.map nrm)).1 sg o out f h1 h2 (up_tn b1 (by omega)) (up_tn b2 (by omega)) b3 (by
     unfold PProd at hP
     rw [if_neg (fun h => hne (List.map_eq_nil_iff.1 h))] at hP
     obtain ⟨e1, e2⟩ := hP.1 hs
     rw [e1, e2]
     exact good_prod _) hv)
   have HS2 := hid (fun (h : k ≤ 2) => small_two hnl (by rw [List.length_map]; omega))
   have HS3 := hid (fun h1 h2 => small_dg (l := l.map nrm) h1 h2)
   have HNIL := hid (fun sg o (hP : PProd (l.map nrm) sg o) (h : l = []) => (show o = none by unfold PProd at hP; rw [if_pos (by rw [h]; rfl)] at hP; exact hP))
   generalize dgL (l.map nrm) = DG at *
   generalize (prodL (l.map nrm)).2.2 = PL at *
   generalize prodQ (l.map nrm) = q at *
   obtain ⟨qb, qn, qd⟩ := q
   simp only at HNR0 HN HD ⊢
   clear b1 b2 b3 hnl hll
   have HGB := hid HGK.out
   obtain ⟨gg, hgg⟩ : ∃ gg, w1.heap.size = gg := ⟨_, rfl⟩
   rw [hgg] at HGB
   go_wp2_with fail
   go_at_call 27
   refine (HFS.out _ hk).mono ?_
   intro e w2 h
   obtain ⟨sg, o, hp, he2, hc⟩ := h
   rcases hwl with h0 | h0
   ·have ho := HNIL.out _ _ hp h0
    subst ho
    have hz : (k : Int) = 0 := by rw [← hL, h0]; rfl
    have he3 : e = .returned (.tuple #[.agg #[.bool false, .int .u64 0, .int .i64 0], .int .i64 1]) := he2
    clear he2
    subst he3
    replace hk := (hk.trans hc sb_).alloc (.cells #[.bool false, .int .u64 0, .int .i64 0] 24)
    clear hc hp h0 hL hge
    go_wp2_with (go_at_call 13; refine (HLV.out _ hk).mono ?_; intro e w1 h; obtain ⟨he, hc⟩ := h; subst he; replace hk := hk.trans hc sb_; clear hc)
    go_ret
    exact ⟨rfl, hk⟩
   ·have hz : ¬ (k : Int) = 0 := fun h => h0 (List.length_eq_zero_iff.1 (by omega))
    obtain ⟨b0, c0, s0, f0, hfo⟩ := fixOut_op sg o
    rw [hfo] at he2
    subst he2
    have HNR1 := hid (fun hs => HNR0.out hs h0)
    have hca := hc.alloc (.cells #[.bool b0, .int .u64 c0, .int .i64 s0] 24)
    replace hk := (hk.trans hc sb_).alloc (.cells #[.bool b0, .int .u64 c0, .int .i64 s0] 24)
    have HG9 := hid (heap_alloc_new w2 (.cells #[.bool b0, .int .u64 c0, .int .i64 s0] 24))
    have HN4 := hid (HN.out.kept hca)
    have HD4 := hid (HD.out.kept hca)
    obtain ⟨z0, z1, z2, _, _, _⟩ := cell3 (kept_heap hca HGB.out)
    obtain ⟨g, hg⟩ : ∃ g, w2.heap.size = g := ⟨_, rfl⟩
    rw [hg] at HG9
    obtain ⟨j0, j1, j2, _, _, _⟩ := cell3 HG9.out
    clear hc hca h0 HNR0 hge HN HD
    by_cases hL2 : 2 < k
    ·have hl2 : (2 : Int) < (k : Int) := by omega
     by_cases hD : 38 < DG
     ·have hd2 : (38 : Int) < (DG : Int) := by omega
      clear HNR1 HS2 HS3 hp hfo hD hL2 hL
      go_wp2_with fail
      go_ret
      exact ⟨rfl, hk⟩
     ·have hd2 : ¬ (38 : Int) < (DG : Int) := by omega
      by_cases hP : 38 < PL
      ·have hp2 : (38 : Int) < (PL : Int) := by omega
       clear HNR1 HS2 HS3 hp hfo hD hL2 hP hL
       go_wp2_with fail
       go_ret
       exact ⟨rfl, hk⟩
      ·have hp2 : ¬ (38 : Int) < (PL : Int) := by omega
       have HNR := hid (fun (w1 : World) (A X : Option Addr) (n c i j : Nat) (h1 : SN w1 A n c qn) (h2 : SN w1 X i j qd) => HNR1.out (HS3.out (by omega) (by omega)) w1 A X n c i j sg o _ _ h1 h2 hp hfo)
       clear HNR1 HS2 HS3 hp hfo hD hL2 hP hL
       go_wp2_with ((go_at_call 22; refine (HNR.out _ _ _ _ _ _ _ HN4.out HD4.out).mono ?_; intro e w3 h; obtain ⟨he, hc⟩ := h; subst he; replace hk := hk.trans hc sb_; clear hc))
       go_ret
       exact ⟨rfl, hk⟩
    ·have hl2 : ¬ (2 : Int) < (k : Int) := by omega
     have HNR := hid (fun (w1 : World) (A X : Option Addr) (n c i j : Nat) (h1 : SN w1 A n c qn) (h2 : SN w1 X i j qd) => HNR1.out (HS2.out (by omega)) w1 A X n c i j sg o _ _ h1 h2 hp hfo)
     clear HNR1 HS2 HS3 hp hfo hL2 hL
     go_wp2_with ((go_at_call 22; refine (HNR.out _ _ _ _ _ _ _ HN4.out HD4.out).mono ?_; intro e w3 h; obtain ⟨he, hc⟩ := h; subst he; replace hk := hk.trans hc sb_; clear hc))
     go_ret
     exact ⟨rfl, hk⟩
theorem lawProd_any {A : Option Addr} {l : List (Bool × Int × Int)} {c : Nat} (w : World) (he : EnvD w) (hx : FX w A l) (h0 : ∀ f ∈ l, 0 ≤ f.2.1) :
  Calls Tryz.prog 6 #[.slice A l.length c] w (PV w (.bool true)) := by
 by_cases h2 : 40 < l.length
 ·exact lawProd_out w hx (.inl h2)
 ·cases hok : (l.all fun f => okFix f.2.1 f.2.2) with
  | false => exact lawProd_out w hx (.inr hok)
  | true =>
   obtain ⟨r, rfl, hr⟩ := raw_of h0 hok
   rw [List.length_map] at *
   exact lawProd_in w he hx hr (by omega) hok
end Go.Proofs.YtbjhnckboimliaaGreatDoor
