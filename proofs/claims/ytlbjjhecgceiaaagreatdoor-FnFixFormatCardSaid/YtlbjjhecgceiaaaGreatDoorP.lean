/- For every decimal, byte and text, and for every two integers, the law FnFixFormat answers true, and its arguments read as they did. No condition beyond the row's own: the package's variables hold what the program's text lays (tied). -/
import Derived.Laws.Strings
import Derived.ChangeMaps5
import Derived.Test.YtlbjjhecgceiaaaGreatDoorTie
import Derived.Test.YtlbjjhecgceiaaaGreatDoorCards
import Derived.SevenTiedAt
import Derived.Carry
import Derived.Test.YtlbjjhecgceiaaaGreatDoorP10
import Derived.Test.YtlbjjhecgceiaaaGreatDoorP13
import Derived.Test.YtlbjjhecgceiaaaGreatDoorP21
namespace Go.Proofs.YtlbjjhecgceiaaaGreatDoor
open Go.RowKit Go.Lib Go.Proofs.YtlbjjhecgceiaaaGreatDoorW.PrintWords Go.Proofs.YtlbjjhecgceiaaaGreatDoorW.PrintLast Go.Proofs.YtlbjjhecgceiaaaGreatDoorW.PrintMore PFnFixSubExact
set_option linter.unusedVariables false
set_option linter.unusedSimpArgs false
set_option maxRecDepth 20000
set_option maxHeartbeats 4000000 in
theorem Plain_pad {w : World} {A : Option Addr} {n c a : Nat} (neg : Bool) (P : Nat) (hP : 0 < P) (hPP : P ≤ 1000) (ha : SN w A n c a) (ha' : a < tn 1800) (hlt : (dtx a).length ≤ P) :
  Calls Tryz.prog 20 #[.agg #[.bool neg, .slice A n c, .int .i64 (-(P : Int))]] w (fun e w' => e = .returned (.string (strOfNums ((if neg = true then [45] else []) ++ plainT a P))) ∧ Chg (fun _ => False) w w') := by
 obtain ⟨HC0, HD, hB0⟩ := box1 w #[.bool neg, .slice A n c, .int .i64 (-(P : Int))] 43
 have HB := hid (fun w1 (h : Chg (fun _ => False) (w.alloc (.cells #[.bool neg, .slice A n c, .int .i64 (-(P : Int))] 43)) w1) => cell3 (kept_heap h hB0))
 have HN := hid (fun w1 (h : Chg (fun _ => False) (w.alloc (.cells #[.bool neg, .slice A n c, .int .i64 (-(P : Int))] 43)) w1) => NatString_any (ha.kept (HC0.out.trans h sb_)) ha')
 have hk := Chg.refl (fun _ => False) (w.alloc (.cells #[.bool neg, .slice A n c, .int .i64 (-(P : Int))] 43))
 have hsz : (strOfNums (dtx a)).size = (dtx a).length := strOfNums_size _
 have hle := dtx_le ha' (by omega)
 obtain ⟨LD, hLD⟩ : ∃ LD, (dtx a).length = LD := ⟨_, rfl⟩
 rw [hLD] at hsz hle hlt
 have HX := hid (show (strOfNums (List.replicate (P - LD + 1) 48) ++ strOfNums (dtx a)).extract 0 1 ++ (⟨#[46]⟩ : ByteArray) ++ (strOfNums (List.replicate (P - LD + 1) 48) ++ strOfNums (dtx a)).extract 1 (P + 1) = strOfNums (plainT a P) by
  have h0 := plain_cut hP (List.replicate (P - LD + 1) 48 ++ dtx a) (by rw [hLD, show P + 1 - LD = P - LD + 1 by omega])
  have e := h0.2
  have hl : (List.replicate (P - LD + 1) 48 ++ dtx a).length = P + 1 := by simp; omega
  rw [hl, show P + 1 - P = 1 by omega] at e
  have hT : (List.replicate (P - LD + 1) 48 ++ dtx a).take (P + 1) = List.replicate (P - LD + 1) 48 ++ dtx a := List.take_of_length_le (by omega)
  rw [← son_app, son_cut, son_cut, show (⟨#[46]⟩ : ByteArray) = strOfNums [46] from rfl, ← son_app, ← son_app, ← e, hT]
  simp)
 have hsz0 : (strOfNums (List.replicate (P - LD + 1) 48)).size = P - LD + 1 := by rw [strOfNums_size, List.length_replicate]
 have HZ := hid (fun w => zeros_any (P - LD + 1) (by omega) w)
 have hDp : 0 < LD := by
  rw [← hLD, dtx_len]; split
  ·omega
  ·rename_i h; rw [db_pos h]; simp
 generalize strOfNums (dtx a) = S at *
 generalize strOfNums (List.replicate (P - LD + 1) 48) = Z at *
 have hsz2 : (Z ++ S).size = P + 1 := by rw [ByteArray.size_append]; omega
 have hzs : Z.size + S.size ≤ 9223372036854775807 := by omega
 have hneg : (-(P : Int)) < 0 := by omega
 have hnp : ¬ (0 : Int) < -(P : Int) := by omega
 have hw1 : IntKind.i64.wrap (-(-(P : Int))) = (P : Int) := by rw [Int.neg_neg]; exact IntWalk.i64_in _ (by omega)
 have hw2 : IntKind.i64.wrap (((P + 1 : Nat) : Int) + -(P : Int)) = 1 := by rw [IntWalk.i64_in _ (by omega)]; omega
 have hw3 : IntKind.i64.wrap ((P : Int) - (LD : Int)) = ((P - LD : Nat) : Int) := by rw [IntWalk.i64_in _ (by omega)]; omega
 have hw4 : IntKind.i64.wrap (((P - LD : Nat) : Int) + 1) = ((P - LD + 1 : Nat) : Int) := by rw [IntWalk.i64_in _ (by omega)]; omega
 have hnle : (LD : Int) ≤ (P : Int) := by omega
 obtain ⟨d0, d1, d2, f0, f1, f2⟩ := HB.out _ hk
 clear ha ha' hB0 HD
 go_enter Tryz.func20, Tryz.ntmps20
 go_wp2_with (first | (go_at_call 51; refine (HZ.out _).mono ?_; intro e w1 h; obtain ⟨he1, hc1⟩ := h; subst he1; replace hk := hk.trans hc1 sb_; clear hc1 d0 d1 d2 f0 f1 f2; obtain ⟨d0, d1, d2, f0, f1, f2⟩ := HB.out _ hk) | (go_at_call 50; refine (HN.out _ hk).mono ?_; intro e w1 h; obtain ⟨he1, hc1⟩ := h; subst he1; replace hk := hk.trans hc1 sb_; clear hc1 d0 d1 d2 f0 f1 f2; obtain ⟨d0, d1, d2, f0, f1, f2⟩ := HB.out _ hk))
 go_quiet (fail)
 replace hk := hk.drewN nq
 clear d0 d1 d2 f0 f1 f2
 obtain ⟨d0, d1, d2, f0, f1, f2⟩ := HB.out _ hk
 have e1 : ((P : Int) + 1 + -(P : Int)).toNat = 1 := by omega
 rw [e1]
 have hxs : ((Z ++ S).extract 0 1 ++ { data := #[46] } ++ (Z ++ S).extract 1 (P + 1)).size = P + 2 := by
  rw [ByteArray.size_append, ByteArray.size_append, ByteArray.size_extract, ByteArray.size_extract, hsz2]
  show min 1 (P + 1) - 0 + 1 + (min (P + 1) (P + 1) - 1) = P + 2
  omega
 generalize ((Z ++ S).extract 0 1 ++ { data := #[46] } ++ (Z ++ S).extract 1 (P + 1)) = X at *
 have hs1 : 1 + X.size ≤ 9223372036854775807 := by omega
 have HE := hid (show (⟨#[45]⟩ : ByteArray) ++ X = strOfNums ([45] ++ plainT a P) by rw [HX.out, son_app]; rfl)
 cases neg with
 | false =>
  go_wp2_with fail
  go_ret
  exact ⟨by exact congrArg (fun s => Ending.returned (Value.string s)) HX.out, HC0.out.trans hk sb_⟩
 | true =>
  go_wp2_with fail
  go_ret
  exact ⟨by show Ending.returned (Value.string ((⟨#[45]⟩ : ByteArray) ++ X)) = _; rw [HE.out]; rfl, HC0.out.trans hk sb_⟩
theorem Plain_any {w : World} {A : Option Addr} {n c a : Nat} (neg : Bool) (P : Nat) (hPP : P ≤ 1000) (ha : SN w A n c a) (ha' : a < tn 1800) :
  Calls Tryz.prog 20 #[.agg #[.bool neg, .slice A n c, .int .i64 (-(P : Int))]] w (fun e w' => e = .returned (.string (strOfNums ((if neg = true then [45] else []) ++ plainT a P))) ∧ Chg (fun _ => False) w w') := by
 by_cases h0 : P = 0
 ·subst h0
  have e : plainT a 0 = dtx a := by unfold plainT; rw [if_pos rfl, Nat.pow_zero, Nat.div_one, List.append_nil]
  rw [e]
  exact Plain_none neg ha ha'
 ·by_cases h1 : P < (dtx a).length
  ·exact Plain_cut neg P (by omega) hPP ha ha' h1
  ·exact Plain_pad neg P (by omega) hPP ha ha' (by omega)
end Go.Proofs.YtlbjjhecgceiaaaGreatDoor
namespace Go.Proofs.YtlbjjhecgceiaaaGreatDoor
open Go.RowKit Go.Lib Go.Proofs.YtlbjjhecgceiaaaGreatDoorW.PrintWords Go.Proofs.YtlbjjhecgceiaaaGreatDoorW.PrintLast Go.Proofs.YtlbjjhecgceiaaaGreatDoorW.PrintMore
open PFnFixSubExact
set_option linter.unusedVariables false
set_option linter.unusedSimpArgs false
theorem bt_head {x : Int} (Y : List Int) (h0 : 0 ≤ x) (h1 : x < 256) : bt (strOfNums (x :: Y)) 0 = x := by
 unfold bt
 have hs : (0 : Int).toNat < (strOfNums (x :: Y)).size := by rw [strOfNums_size]; simp
 rw [dif_pos hs]
 have h2 := son_get (xs := x :: Y) (i := 0) (by simp)
 have h3 : (strOfNums (x :: Y))[0]? = some ((strOfNums (x :: Y))[(0 : Int).toNat]'hs) := getElem?_pos (strOfNums (x :: Y)) 0 hs
 rw [h3] at h2
 rw [Option.some.inj h2]
 exact son_byte h0 h1
theorem son_nonempty (x : Int) (Y : List Int) : ¬ (strOfNums (x :: Y)).toList = ([] : List UInt8) := by
 rw [ByteArray.toList_eq]
 simp [strOfNums]
theorem flag_law {fl : List Int} (hf : Bys fl) (hl : fl.length ≤ 10000) (wd : Int) (hw : wd ≤ 1000) (neg : Bool) (X : List Int) (hX : X.length ≤ 1000) (hx : ∃ x Y, X = x :: Y ∧ 48 ≤ x ∧ x ≤ 57) :
  ∃ K, spec_Flagged.f K (strOfNums ((if neg = true then [45] else []) ++ X)) (strOfNums fl) wd = some (strOfNums (fillT fl wd (sgT fl neg) X)) := by
 have hL : ∀ sg : List Int, sg.length ≤ 1 → ∀ d, (wd - (sg.length + X.length : Nat)).toNat = d → spec_Flagged.l0 (1000 + fl.length + 1 + d + d + 4) (strOfNums X) (strOfNums fl) wd (strOfNums sg) = some (strOfNums (fillT fl wd sg X)) := by
  intro sg hsg d hd
  rw [flag_l0 hf hl wd hw sg hsg d X 1000 hX hd _ rfl]
  unfold fillT
  rw [hd]
 obtain ⟨x, Y, rfl, hx0, hx1⟩ := hx
 cases neg with
 | true =>
  obtain ⟨d, hd⟩ : ∃ d, (wd - (([45] : List Int).length + (x :: Y).length : Nat)).toNat = d := ⟨_, rfl⟩
  obtain ⟨K0, hK0⟩ : ∃ K0, 1000 + fl.length + 1 + d + d + 4 = K0 := ⟨_, rfl⟩
  refine ⟨K0 + 1 + 1, ?_⟩
  have hb : (bt (strOfNums (45 :: x :: Y)) 0 == 45) = true := by rw [bt_head _ (by omega) (by omega)]; rfl
  have hsz : (0 : Int) < ((strOfNums (45 :: x :: Y)).size : Int) := by rw [strOfNums_size]; simp only [List.length_cons]; omega
  have hsz2 : (1 : Int) ≤ ((strOfNums (45 :: x :: Y)).size : Int) := by rw [strOfNums_size]; simp only [List.length_cons]; omega
  have hex : (strOfNums (45 :: x :: Y)).extract 1 (strOfNums (45 :: x :: Y)).size = strOfNums (x :: Y) := by
   rw [son_cut, strOfNums_size, List.take_length]; rfl
  show spec_Flagged.f _ (strOfNums (45 :: x :: Y)) _ _ = _
  unfold spec_Flagged.f
  rw [if_neg (son_nonempty _ _), if_pos hsz, hb, spec_Flagged.j0, if_pos rfl, if_pos hsz2, hex, spec_Flagged.j1]
  have hfin := hL [45] (by simp) d hd
  rw [hK0] at hfin
  exact hfin
 | false =>
  obtain ⟨d, hd⟩ : ∃ d, (wd - ((sgT fl false).length + (x :: Y).length : Nat)).toNat = d := ⟨_, rfl⟩
  have hsl : (sgT fl false).length ≤ 1 := by unfold sgT; rw [if_neg (by simp)]; split <;> (try split) <;> simp
  obtain ⟨K0, hK0⟩ : ∃ K0, 1000 + fl.length + 1 + d + d + 4 = K0 := ⟨_, rfl⟩
  refine ⟨K0 + 1 + 1, ?_⟩
  have hb : (bt (strOfNums (x :: Y)) 0 == 45) = false := by rw [bt_head _ (by omega) (by omega)]; exact beq_eq_false_iff_ne.2 (by omega)
  have hsz : (0 : Int) < ((strOfNums (x :: Y)).size : Int) := by rw [strOfNums_size]; simp only [List.length_cons]; omega
  have h43 := has_law hf hl 43 (k := K0 + 1) (by omega)
  have h32 := has_law hf hl 32 (k := K0 + 1) (by omega)
  have hfin := hL (sgT fl false) hsl d hd
  rw [hK0] at hfin
  show spec_Flagged.f _ (strOfNums (x :: Y)) _ _ = _
  unfold spec_Flagged.f
  rw [if_neg (son_nonempty _ _), if_pos hsz, hb, spec_Flagged.j0, if_neg (by simp), h43]
  show (if decide ((43 : Int) ∈ fl) = true then _ else _) = _
  unfold sgT at hfin ⊢
  rw [if_neg (show ¬ (false = true) by simp)] at hfin ⊢
  by_cases g43 : (43 : Int) ∈ fl
  ·rw [if_pos (decide_eq_true g43), spec_Flagged.j1]
   rw [if_pos g43] at hfin ⊢
   exact hfin
  ·rw [if_neg (fun h => g43 (of_decide_eq_true h)), h32]
   show (if decide ((32 : Int) ∈ fl) = true then _ else _) = _
   rw [if_neg g43] at hfin ⊢
   by_cases g32 : (32 : Int) ∈ fl
   ·rw [if_pos (decide_eq_true g32), spec_Flagged.j1]
    rw [if_pos g32] at hfin ⊢
    exact hfin
   ·rw [if_neg (fun h => g32 (of_decide_eq_true h)), spec_Flagged.j1]
    rw [if_neg g32] at hfin ⊢
    exact hfin
theorem Flagged_any {fl : List Int} (hf : Bys fl) (hl : fl.length ≤ 10000) (wd : Int) (hw : wd ≤ 1000) (neg : Bool) (X : List Int) (hX : X.length ≤ 1000) (hx : ∃ x Y, X = x :: Y ∧ 48 ≤ x ∧ x ≤ 57) (w : World) :
  Calls Tryz.prog 19 #[.string (strOfNums ((if neg = true then [45] else []) ++ X)), .string (strOfNums fl), .int .i64 wd] w (PV w (.string (strOfNums (fillT fl wd (sgT fl neg) X)))) := by
 obtain ⟨K, hK⟩ := flag_law hf hl wd hw neg X hX hx
 exact (spec_Flagged.calls K _ _ _ _ w hK).mono (fun e w' h => ⟨h.1, by obtain ⟨n, e⟩ := h.2.out; rw [e]; exact (Chg.refl _ _).drewN n⟩)
theorem Has_any {fl : List Int} (hf : Bys fl) (hl : fl.length ≤ 10000) (c : Int) (w : World) : Calls Tryz.prog 22 #[.string (strOfNums fl), .int .u8 c] w (PV w (.bool (decide (c ∈ fl)))) :=
 (spec_Has.calls (fl.length + 1) _ c _ w (has_law hf hl c (Nat.lt_succ_self _))).mono (fun e w' h => ⟨h.1, by obtain ⟨n, e⟩ := h.2.out; rw [e]; exact (Chg.refl _ _).drewN n⟩)
theorem bys_of (S : ByteArray) : ∃ xs, Bys xs ∧ strOfNums xs = S := by
 refine ⟨S.data.toList.map (fun b => (b.toNat : Int)), ?_, ?_⟩
 ·intro x hx
  obtain ⟨b, _, rfl⟩ := List.mem_map.1 hx
  have := b.toNat_lt
  exact ⟨by omega, by omega⟩
 ·unfold strOfNums
  rw [List.map_map]
  have e : ((fun n : Int => UInt8.ofNat n.toNat) ∘ fun b : UInt8 => (b.toNat : Int)) = id := by
   funext b
   simp
  rw [e, List.map_id]
theorem te_l0 {xs : List Int} (hx : Bys xs) : ∀ (d i k : Nat) (ys : List Int), ys.length ≤ i → i + d = min 8 xs.length →
  ∃ zs : List Int, (∀ z ∈ zs, z ∈ ys ∨ z ∈ xs) ∧ zs.length ≤ i + d ∧ laws_teFlags.l0 (k + 2 * d + 8) (strOfNums xs) (strOfNums ys) (i : Int) = some (strOfNums zs) := by
 intro d
 induction d with
 | zero =>
  intro i k ys hy h
  refine ⟨ys, fun z h => Or.inl h, by omega, ?_⟩
  rw [show k + 2 * 0 + 8 = (k + 6) + 1 + 1 by omega, laws_teFlags.l0, strOfNums_size]
  by_cases hi : (i : Int) < (xs.length : Int)
  ·rw [if_pos hi, show decide ((i : Int) < 8) = false from decide_eq_false (by omega), laws_teFlags.j1, if_neg (by simp)]
  ·rw [if_neg hi, laws_teFlags.j1, if_neg (by simp)]
 | succ d ih =>
  intro i k ys hy h
  have hi : i < xs.length := by omega
  have h1 : (i : Int) < (xs.length : Int) := by omega
  have h2 : (0 : Int) ≤ (i : Int) := by omega
  have e4 : (⟨#[43, 45, 48, 32]⟩ : ByteArray) = strOfNums [43, 45, 48, 32] := rfl
  have hb4 : Bys [43, 45, 48, 32] := by intro x hx; simp at hx; omega
  have hh := has_law hb4 (by simp) (xs.getD i 0) (k := k + 2 * d + 8) (by simp only [List.length_cons, List.length_nil]; omega)
  rw [show k + 2 * (d + 1) + 8 = (k + 2 * d + 8) + 1 + 1 by omega, laws_teFlags.l0, strOfNums_size, if_pos h1, show decide ((i : Int) < 8) = true from decide_eq_true (by omega), laws_teFlags.j1, if_pos rfl, if_pos h2,
   strOfNums_size, if_pos h1, e4, bt_son hx hi, hh]
  have hw : wrap64 ((i : Int) + 1) = ((i + 1 : Nat) : Int) := by unfold wrap64; omega
  by_cases hm : xs.getD i 0 ∈ ([43, 45, 48, 32] : List Int)
  ·obtain ⟨zs, hz, hzl, e⟩ := ih (i + 1) k (ys ++ [xs.getD i 0]) (by simp; omega) (by omega)
   refine ⟨zs, fun z h => ?_, by omega, ?_⟩
   ·rcases hz z h with h | h
    ·rcases List.mem_append.1 h with h | h
     ·exact Or.inl h
     ·refine Or.inr ?_
      rw [List.mem_singleton.1 h, List.getD_eq_getElem?_getD, List.getElem?_eq_getElem hi]
      exact List.getElem_mem _
    ·exact Or.inr h
   ·show (if decide (xs.getD i 0 ∈ ([43, 45, 48, 32] : List Int)) = true then _ else _) = _
    have hcut : (strOfNums xs).extract ((i : Int)).toNat (wrap64 ((i : Int) + 1)).toNat = strOfNums [xs.getD i 0] := by
     rw [hw, Int.toNat_natCast, Int.toNat_natCast, son_cut]
     congr 1
     rw [List.take_add_one, List.drop_append_of_le_length (by simp; omega), List.drop_of_length_le (by rw [List.length_take]; omega), List.getElem?_eq_getElem hi, List.getD_eq_getElem?_getD, List.getElem?_eq_getElem hi]
     rfl
    have hsz : (strOfNums ys).size + (strOfNums [xs.getD i 0]).size ≤ 9223372036854775807 := by rw [strOfNums_size, strOfNums_size, List.length_singleton]; omega
    have hw1 : (i : Int) ≤ wrap64 ((i : Int) + 1) := by rw [hw]; omega
    have hw2 : wrap64 ((i : Int) + 1) ≤ (xs.length : Int) := by rw [hw]; omega
    rw [if_pos (decide_eq_true hm), if_pos hw1, if_pos hw2, hcut, if_pos hsz, ← son_app, hw]
    exact e
  ·obtain ⟨zs, hz, hzl, e⟩ := ih (i + 1) k ys (by omega) (by omega)
   refine ⟨zs, hz, by omega, ?_⟩
   show (if decide (xs.getD i 0 ∈ ([43, 45, 48, 32] : List Int)) = true then _ else _) = _
   rw [if_neg (fun h => hm (of_decide_eq_true h)), hw]
   exact e
theorem teFlags_any (S : ByteArray) : ∃ fl : List Int, Bys fl ∧ fl.length ≤ 8 ∧ ∀ w : World, Calls Tryz.prog 14 #[.string S] w (PV w (.string (strOfNums fl))) := by
 obtain ⟨xs, hx, rfl⟩ := bys_of S
 obtain ⟨zs, hz, hl, e⟩ := te_l0 hx (min 8 xs.length) 0 0 [] (by simp) (by omega)
 refine ⟨zs, fun z h => ?_, by omega, fun w => ?_⟩
 ·rcases hz z h with h | h
  ·cases h
  ·exact hx z h
 ·exact (laws_teFlags.calls _ _ _ w e).mono (fun e w' h => ⟨h.1, by obtain ⟨n, e⟩ := h.2.out; rw [e]; exact (Chg.refl _ _).drewN n⟩)
end Go.Proofs.YtlbjjhecgceiaaaGreatDoor
namespace Go.Proofs.YtlbjjhecgceiaaaGreatDoor
open Go.RowKit
set_option linter.unusedVariables false
set_option linter.unusedSimpArgs false
set_option maxRecDepth 20000
structure LX (w : World) (n1 : Bool) (c s : Int) (sb : Bool) (a : Nat) (e0 : Int) (g : Nat) (E : Option Addr) (k l : Nat) (wx : World) : Prop where
 box : wx.heap[w.heap.size]? = some (.cells #[.bool n1, .int .u64 c, .int .i64 s] 24 (0, 0))
 dec : wx.heap[g]? = some (.cells #[.bool sb, .slice E k l, .int .i64 e0] 43 (0, 0))
 sn : SN wx E k l a
 chg : Chg (fun _ => False) w wx
theorem LX.same {w wx wy : World} {n1 sb : Bool} {c s e0 : Int} {a g k l : Nat} {E : Option Addr} (h : LX w n1 c s sb a e0 g E k l wx) (hc : Chg (fun _ => False) wx wy) : LX w n1 c s sb a e0 g E k l wy :=
 ⟨kept_heap hc h.box, kept_heap hc h.dec, h.sn.kept hc, h.chg.trans hc sb_⟩
theorem LX.cells {w wx : World} {n1 sb : Bool} {c s e0 : Int} {a g k l : Nat} {E : Option Addr} (h : LX w n1 c s sb a e0 g E k l wx) :
  (wx.cell? ⟨w.heap.size, 0, none⟩ = some (.bool n1) ∧ wx.cell? ⟨w.heap.size, 1, none⟩ = some (.int .u64 c) ∧ wx.cell? ⟨w.heap.size, 2, none⟩ = some (.int .i64 s)) ∧ (wx.cell? ⟨g, 0, none⟩ = some (.bool sb) ∧ wx.cell? ⟨g, 1, none⟩ = some (.slice E k l) ∧ wx.cell? ⟨g, 2, none⟩ = some (.int .i64 e0)) := by
 obtain ⟨a0, a1, a2, _, _, _⟩ := cell3 h.box
 obtain ⟨b0, b1, b2, _, _, _⟩ := cell3 h.dec
 exact ⟨⟨a0, a1, a2⟩, ⟨b0, b1, b2⟩⟩
theorem LX.new {w w1 : World} {n1 sb : Bool} {c s e0 : Int} {a k l : Nat} {E : Option Addr} (hb : w1.heap[w.heap.size]? = some (.cells #[.bool n1, .int .u64 c, .int .i64 s] 24 (0, 0))) (hs : SN w1 E k l a) (hc : Chg (fun _ => False) w w1) :
  LX w n1 c s sb a e0 w1.heap.size E k l (w1.alloc (.cells #[.bool sb, .slice E k l, .int .i64 e0] 43)) :=
 ⟨kept_heap ((Chg.refl _ _).alloc _) hb, heap_alloc_new _ _, hs.kept ((Chg.refl _ _).alloc _), hc.alloc _⟩
theorem LX.store {w wx : World} {n1 sb sg : Bool} {c s e0 e1 : Int} {a A g k l k2 l2 : Nat} {E E2 : Option Addr} (h : LX w n1 c s sb a e0 g E k l wx) (hs : SN wx E2 k2 l2 A) (hg : w.heap.size < g) :
  LX w n1 c s sg A e1 g E2 k2 l2 (((wx.setCell ⟨g, 0, none⟩ (.bool sg)).setCell ⟨g, 1, none⟩ (.slice E2 k2 l2)).setCell ⟨g, 2, none⟩ (.int .i64 e1)) :=
 ⟨fix_near h.box (by omega), store3 h.dec _ _ _, sn_end3 hs h.dec (by simp) _ _ _, chg3 h.chg (by omega) _ _ _⟩
theorem fm_bne (k : Nat) : ((k : Int) != 0) = (k != 0) := by
 by_cases h : k = 0
 ·subst h; rfl
 ·rw [bne_iff_ne.2 h, bne_iff_ne.2 (by omega : (k : Int) ≠ 0)]
theorem fillT_max (fl : List Int) (b : Int) (sg X : List Int) : fillT fl (max b (-1)) sg X = fillT fl b sg X := by
 by_cases h : -1 ≤ b
 ·rw [show max b (-1) = b by omega]
 ·have e : ∀ n : Nat, (b - (n : Int)).toNat = 0 := fun n => by omega
  have e2 : ∀ n : Nat, ((-1 : Int) - (n : Int)).toNat = 0 := fun n => by omega
  rw [show max b (-1) = -1 by omega]
  unfold fillT
  simp only [e, e2]
theorem fm_bound {c s : Nat} (hc : c < 10 ^ 19) (hs : s ≤ 19) {o : Option Nat} (ho : ∀ p, o = some p → p ≤ 60) : (fmA c s o).1 < tn 100 ∧ (fmA c s o).2 ≤ 60 := by
 cases o with
 | none => exact ⟨lt_tn hc (by omega), by show s ≤ 60; omega⟩
 | some p =>
  have hp := ho p rfl
  refine ⟨?_, hp⟩
  show rhe (c * 10 ^ p) (10 ^ s) < tn 100
  have h1 : rhe (c * 10 ^ p) (10 ^ s) ≤ c * 10 ^ p / 10 ^ s + 1 := rhe_le1
  have h2 : c * 10 ^ p / 10 ^ s ≤ c * 10 ^ p := Nat.div_le_self _ _
  have h3 : c * 10 ^ p + 1 ≤ 10 ^ 19 * 10 ^ p := Nat.mul_lt_mul_of_pos_right hc (Nat.pow_pos (by omega))
  have h4 : 10 ^ 19 * 10 ^ p < tn 100 := by rw [← Nat.pow_add]; exact pow_tn (by omega)
  exact Nat.lt_of_le_of_lt (by omega : rhe (c * 10 ^ p) (10 ^ s) ≤ 10 ^ 19 * 10 ^ p) h4
theorem plain_len {A P : Nat} (hA : A < tn 100) (hP : P ≤ 60) : (plainT A P).length ≤ 1000 := by
 have h1 : A / 10 ^ P < tn 100 := Nat.lt_of_le_of_lt (Nat.div_le_self _ _) hA
 have h2 := dtx_le h1 (by omega)
 unfold plainT
 rw [List.length_append]
 split
 ·rw [List.length_nil]; omega
 ·rw [List.length_cons, List.length_reverse, dk_len]; omega
set_option maxHeartbeats 8000000 in
theorem lawFmt_ok (n1 : Bool) (c s : Nat) (hc : c < 10 ^ 19) (hs : s ≤ 19) (vb : Int) (hvb0 : 0 ≤ vb) (hvb1 : vb ≤ 255) (FS : ByteArray) (hFS : FS.size ≤ 2147483647) (a b : Int) (ha : a ≤ 60) (hb : b ≤ 60) (w : World) (he : EnvD w) :
    Calls Tryz.prog 5 #[.agg #[.bool n1, .int .u64 (c : Int), .int .i64 (s : Int)], .int .u8 vb, .string FS, .int .i64 a, .int .i64 b] w (PV w (.bool true)) := by
  obtain ⟨fl, hf, hl, hTE⟩ := teFlags_any FS
  obtain ⟨sb, hsb⟩ : ∃ x, (n1 && c != 0) = x := ⟨_, rfl⟩
  have hnn : (sb && c != 0) = sb := by rw [← hsb]; cases n1 <;> simp
  have hsz : ¬ (2147483647 : Int) < (FS.size : Int) := by omega
  obtain ⟨wh, F, r, hr, hwF, hwr, hvF⟩ : ∃ (wh : Int) (F : Bool) (r : Nat), vb.tmod 3 = (r : Int) ∧ (wh != 102) = !F ∧ ((r = 0 ∧ wh = 102) ∨ (r = 1 ∧ wh = 115) ∨ (r = 2 ∧ wh = 118)) ∧ ((wh = 102 ∧ F = true) ∨ ((wh = 115 ∨ wh = 118) ∧ F = false)) := by
    have e : vb.tmod 3 = vb % 3 := Int.tmod_eq_emod_of_nonneg hvb0
    have h : vb % 3 = 0 ∨ vb % 3 = 1 ∨ vb % 3 = 2 := by omega
    rcases h with h | h | h
    · exact ⟨102, true, 0, by rw [e, h]; rfl, rfl, Or.inl ⟨rfl, rfl⟩, Or.inl ⟨rfl, rfl⟩⟩
    · exact ⟨115, false, 1, by rw [e, h]; rfl, rfl, Or.inr (Or.inl ⟨rfl, rfl⟩), Or.inr ⟨Or.inl rfl, rfl⟩⟩
    · exact ⟨118, false, 2, by rw [e, h]; rfl, rfl, Or.inr (Or.inr ⟨rfl, rfl⟩), Or.inr ⟨Or.inr rfl, rfl⟩⟩
  obtain ⟨p1, hp1⟩ : ∃ x : Int, (if F = true then a else -1) = x := ⟨_, rfl⟩
  have hp60 : p1 ≤ 60 := by rw [← hp1]; split <;> omega
  obtain ⟨o, ho⟩ : ∃ x : Option Nat, (if 0 ≤ p1 then some p1.toNat else none) = x := ⟨_, rfl⟩
  have ho60 : ∀ p, o = some p → p ≤ 60 := by
    intro p h
    rw [← ho] at h
    split at h
    · have := Option.some.inj h; omega
    · cases h
  obtain ⟨A, hA⟩ : ∃ x, (fmA c s o).1 = x := ⟨_, rfl⟩
  obtain ⟨P, hP⟩ : ∃ x, (fmA c s o).2 = x := ⟨_, rfl⟩
  obtain ⟨hA1, hP1⟩ := fm_bound hc hs ho60
  rw [hA] at hA1
  rw [hP] at hP1
  obtain ⟨sg, hsg⟩ : ∃ x : Bool, (sb && A != 0) = x := ⟨_, rfl⟩
  obtain ⟨S, hS⟩ : ∃ x : ByteArray, strOfNums (fillT fl b (sgT fl sg) (plainT A P)) = x := ⟨_, rfl⟩
  obtain ⟨pm, hpm⟩ : ∃ x : Int, max p1 (-1) = x := ⟨_, rfl⟩
  obtain ⟨bm, hbm⟩ : ∃ x : Int, max b (-1) = x := ⟨_, rfl⟩
  obtain ⟨FL, hFL⟩ : ∃ x : ByteArray, strOfNums fl = x := ⟨_, rfl⟩
  have HFF := hid (fun (hno : ¬ ((43 : Int) ∈ fl ∧ (32 : Int) ∈ fl)) w1 (he1 : EnvD w1) => FixFormat_ok n1 sb c s hc hs (by rw [fm_bne]; exact hsb) wh pm bm (by omega) (by omega) FL S w1 he1 (fun w2 he2 => by
    have h := ZzFormat_any sb c s hc hs hnn wh F hvF fl hf (by omega) hno pm bm (by omega) (by omega) o (by
      rw [← ho, ← hpm]
      by_cases h0 : 0 ≤ p1
      · have hF : F = true := by
          cases F with
          | true => rfl
          | false => rw [if_neg (by simp)] at hp1; omega
        rw [if_pos h0, if_pos ⟨hF, by omega⟩, show max p1 (-1) = p1 by omega]
      · rw [if_neg h0, if_neg (fun h => by omega)]) _ rfl w2 he2
    rw [hFL, hA, hP, hsg, ← hbm, fillT_max, hS] at h
    rw [← hbm]
    exact h))
  have HOF := hid (fun w1 => OfFix_ok (w := w1) n1 sb c s hc hs hsb)
  have HPL := hid (fun w1 (E : Option Addr) (k l : Nat) (h : SN w1 E k l A) => Plain_any sg P (by omega) h (up_tn hA1 (by omega)))
  have HFG := hid (fun w1 => Flagged_any hf (by omega) b (by omega) sg (plainT A P) (plain_len hA1 hP1) (plain_head A P) w1)
  have HH := hid (fun (ch : Int) w1 => Has_any hf (by omega) ch w1)
  rw [hFL] at hTE HFG HH
  rw [hS] at HFG
  obtain ⟨X, hX⟩ : ∃ x : ByteArray, strOfNums ((if sg = true then [45] else []) ++ plainT A P) = x := ⟨_, rfl⟩
  rw [hX] at HPL HFG
  have HTF := hid hTE
  obtain ⟨a43, h43⟩ : ∃ x : Bool, decide ((43 : Int) ∈ fl) = x := ⟨_, rfl⟩
  obtain ⟨a32, h32⟩ : ∃ x : Bool, decide ((32 : Int) ∈ fl) = x := ⟨_, rfl⟩
  have HH43 := hid (HH.out 43)
  have HH32 := hid (HH.out 32)
  rw [h43] at HH43
  rw [h32] at HH32
  obtain ⟨ab, hab⟩ : ∃ x : Bool, (a43 && a32) = x := ⟨_, rfl⟩
  have HNO := hid (show ab = false → ¬ ((43 : Int) ∈ fl ∧ (32 : Int) ∈ fl) by
    intro h ⟨g1, g2⟩
    rw [← hab, ← h43, ← h32, decide_eq_true g1, decide_eq_true g2] at h
    cases h)
  have HAB := hid hab
  have HFR := hid (fun w1 (E : Option Addr) (k l : Nat) (h : SN w1 E k l c) => DecFrac_any sb (-(s : Int)) s h (lt_tn hc (by omega)) (by omega) hnn rfl)
  have HRO := hid (fun (h0 : 0 ≤ p1) w1 (E : Option Addr) (k l : Nat) (G : Option Addr) (i j : Nat) (h : SN w1 E k l c) (h2 : SN w1 G i j (10 ^ s)) => show Calls Tryz.prog 17 #[.agg #[.bool sb, .slice E k l, .slice G i j], .int .i64 p1, .int .i64 5] w1 (PDN w1 sg A (-(P : Int))) by
    have ho2 : o = some p1.toNat := by rw [← ho, if_pos h0]
    have eA : A = rhe (c * 10 ^ p1.toNat) (10 ^ s) := by rw [← hA, ho2]; rfl
    have eP : P = p1.toNat := by rw [← hP, ho2]; rfl
    have h3 := Round_any sb sg p1.toNat h h2 (lt_tn hc (by omega)) (pow_tn (by omega)) (Nat.pow_pos (by omega)) (by omega) (by rw [← eA]; exact hsg)
    rw [← eA, ← eP] at h3
    rw [eP, show ((p1.toNat : Nat) : Int) = p1 by omega] at h3
    rw [eP, show ((p1.toNat : Nat) : Int) = p1 by omega]
    exact h3)
  have HAC := hid (show ¬ 0 ≤ p1 → A = c ∧ P = s ∧ sg = sb by
    intro h0
    have ho2 : o = none := by rw [← ho, if_neg h0]
    have eA : A = c := by rw [← hA, ho2]; rfl
    exact ⟨eA, by rw [← hP, ho2]; rfl, by rw [← hsg, eA]; exact hnn⟩)
  have HE := hid he
  have HWR := hid hwr
  have HP1 := hid hp1
  have hpa : ¬ 60 < a := by omega
  have hpb : ¬ 60 < b := by omega
  have hu8 : IntKind.u8.wrap (vb.tmod 3) = (r : Int) := by rw [hr, wraps_u8 _ (by omega) (by have : r ≤ 2 := by omega
                                                                                             omega)]
  obtain ⟨e0, he0⟩ : ∃ x : Int, -(s : Int) = x := ⟨_, rfl⟩
  obtain ⟨e1, he1⟩ : ∃ x : Int, -(P : Int) = x := ⟨_, rfl⟩
  rw [he0] at HOF HFR
  rw [he1] at HPL HRO
  have HE01 := hid (show ¬ 0 ≤ p1 → e1 = e0 by intro h0; rw [← he0, ← he1, (HAC.out h0).2.1])
  obtain ⟨CI, hCI⟩ : ∃ x : Int, (c : Int) = x := ⟨_, rfl⟩
  obtain ⟨SI, hSI⟩ : ∃ x : Int, (s : Int) = x := ⟨_, rfl⟩
  rw [hCI, hSI] at HOF HFF ⊢
  have HWF := hid hwF
  clear hwF hTE hf hl hsb hnn hwr hvF hp1 ho ho60 hA hP hA1 hP1 hsg hS hFL hX h43 h32 hab HH he hc hs ha hb hvb0 hvb1 hFS he0 he1 hCI hSI hp60
  obtain ⟨HC0, HD, hB0⟩ := box1 w #[.bool n1, .int .u64 CI, .int .i64 SI] 24
  have HBX := hid (fun w1 (h : Chg (fun _ => False) (w.alloc (.cells #[.bool n1, .int .u64 CI, .int .i64 SI] 24)) w1) => kept_heap h hB0)
  have hk := Chg.refl (fun _ => False) (w.alloc (.cells #[.bool n1, .int .u64 CI, .int .i64 SI] 24))
  obtain ⟨d0, d1, d2, _, _, _⟩ := cell3 hB0
  clear hB0 HD
  go_enter Tryz.func5, Tryz.ntmps5
  go_upto_region 7 with (first | (go_at_call 21; refine (HOF.out _).mono ?_; intro e w1 h; obtain ⟨E, k, l, he1, hsn, hc1⟩ := h; subst he1; replace hk := hk.trans hc1 sb_; have hL := LX.new (sb := sb) (e0 := e0) (HBX.out _ hk) hsn (HC0.out.trans hk sb_); clear hc1 hsn hk d0 d1 d2; have HL := hid hL; obtain ⟨⟨d0, d1, d2⟩, ⟨x0, x1, x2⟩⟩ := hL.cells; clear hL) | (go_at_call 14; refine (HTF.out _).mono ?_; intro e w2 h; obtain ⟨he1, hc1⟩ := h; subst he1; replace HL := hid (HL.out.same hc1); clear hc1 d0 d1 d2 x0 x1 x2))
  go_cut [42] from 17 to 41 (fun q wx => q = .bool ab ∧ Hid (LX w n1 CI SI sb c e0 w1.heap.size E k l wx))
  case first =>
    cases a43 with
    | false =>
      go_wp2_with (go_at_call_of 22 (Value.int .u8 43); refine (HH43.out _).mono ?_; intro e w3 h; obtain ⟨he1, hc1⟩ := h; subst he1; replace HL := hid (HL.out.same hc1); clear hc1)
      go_meet
      exact ⟨by rw [← HAB.out]; rfl, HL.out⟩
    | true =>
      go_wp2_with (first | (go_at_call_of 22 (Value.int .u8 43); refine (HH43.out _).mono ?_; intro e w3 h; obtain ⟨he1, hc1⟩ := h; subst he1; replace HL := hid (HL.out.same hc1); clear hc1) | (go_at_call_of 22 (Value.int .u8 32); refine (HH32.out _).mono ?_; intro e w3 h; obtain ⟨he1, hc1⟩ := h; subst he1; replace HL := hid (HL.out.same hc1); clear hc1))
      go_meet
      exact ⟨by rw [← HAB.out, Bool.true_and], HL.out⟩
  obtain ⟨hq, hL1⟩ := hcut
  subst hq
  clear HL
  have HL := hL1
  clear hL1
  cases ab with
  | true =>
    go_wp2_with fail
    go_ret
    exact ⟨rfl, HL.out.chg⟩
  | false =>
    have HFX := hid (HFF.out (HNO.out rfl))
    clear HFF HNO HAB HH43 HH32 HTF HOF
    go_upto_region 9 with fail
    go_cut [13] from 42 to 47 (fun q wx => q = .int .i32 wh ∧ Hid (LX w n1 CI SI sb c e0 w1.heap.size E k l wx))
    case first =>
      rcases HWR.out with ⟨rfl, rfl⟩ | ⟨rfl, rfl⟩ | ⟨rfl, rfl⟩
      all_goals
        go_wp2_with fail
        go_meet
        exact ⟨rfl, HL.out.same ((Chg.refl _ _).alloc _)⟩
    obtain ⟨hq, hL1⟩ := hcut
    subst hq
    clear HL
    have HL := hL1
    clear hL1
    go_upto_region 10 with fail
    go_cut [49] from 48 to 48 (fun q wx => q = .bool (!F) ∧ Hid (LX w n1 CI SI sb c e0 w1.heap.size E k l wx))
    case first =>
      rcases HWR.out with ⟨rfl, rfl⟩ | ⟨rfl, rfl⟩ | ⟨rfl, rfl⟩
      all_goals
        go_wp2_with fail
        go_meet
        exact ⟨by rw [← HWF.out]; rfl, HL.out⟩
    obtain ⟨hq, hL1⟩ := hcut
    subst hq
    clear HL
    have HL := hL1
    clear hL1
    go_step
    go_cut [3] from 49 to 49 (fun q wx => q = .int .i64 p1 ∧ Hid (LX w n1 CI SI sb c e0 w1.heap.size E k l wx))
    case first =>
      cases F with
      | true => go_wp2_with fail; go_meet; exact ⟨by rw [← HP1.out]; rfl, HL.out⟩
      | false => go_wp2_with fail; go_meet; exact ⟨by rw [← HP1.out]; rfl, HL.out⟩
    obtain ⟨hq, hL1⟩ := hcut
    subst hq
    clear HL
    have HL := hL1
    clear hL1
    obtain ⟨⟨d0, d1, d2⟩, ⟨x0, x1, x2⟩⟩ := HL.out.cells
    have HLW := hid (LX.new (sb := sb) (e0 := e0) HL.out.box HL.out.sn HL.out.chg)
    have HGT := hid (Array.getElem?_eq_some_iff.1 HL.out.box).1
    have HL2 := hid (HL.out.same ((Chg.refl _ _).alloc (.cells #[.bool sb, .slice E k l, .int .i64 e0] 43)))
    go_upto_if 52 with fail
    go_cut [52] from 50 to 56 (fun q wx => ∃ (E2 : Option Addr) (k2 l2 : Nat), Hid (LX w n1 CI SI sg A e1 wc.heap.size E2 k2 l2 wx))
    case first =>
      by_cases h0 : 0 ≤ p1
      · obtain ⟨⟨d0, d1, d2⟩, ⟨x0, x1, x2⟩⟩ := HL2.out.cells
        have HRP := hid (HRO.out h0)
        go_wp2_with (first | (go_at_call 16; refine (HFR.out _ E k l HLW.out.sn).mono ?_; intro e w3 h; obtain ⟨E1, k1, l1, G, i, j, he1, hs1, hs2, hc1⟩ := h; subst he1; have HLV := hid (HLW.out.same hc1); have HN1 := hid hs1; have HN2 := hid hs2; clear hs1 hs2 hc1 d0 d1 d2 x0 x1 x2) | (go_at_call 17; refine (HRP.out _ _ _ _ _ _ _ HN1.out HN2.out).mono ?_; intro e w4 h; obtain ⟨E2, k2, l2, he1, hs3, hc2⟩ := h; subst he1; replace HLV := hid (HLV.out.same hc2); have HN3 := hid hs3; clear hs3 hc2; obtain ⟨v0, v1, v2, f0, f1, f2⟩ := cell3 HLV.out.dec))
        go_meet
        exact ⟨E2, k2, l2, hid (HLV.out.store HN3.out HGT.out)⟩
      · have HQ := hid (HAC.out (by omega))
        have HQ1 := hid (HE01.out (by omega))
        go_wp2_with fail
        go_meet
        exact ⟨E, k, l, hid (by rw [HQ.out.1, HQ.out.2.2, HQ1.out]; exact HLW.out)⟩
    obtain ⟨E2, k2, l2, hL1⟩ := hcut
    clear HL HL2 HLW HGT d0 d1 d2 x0 x1 x2 HFR HRO HAC HE01 HWR HWF HP1
    have HL := hL1
    clear hL1
    obtain ⟨⟨d0, d1, d2⟩, ⟨x0, x1, x2⟩⟩ := HL.out.cells
    go_wp2_with (first | (go_at_call 23; refine (HFX.out _ (HE.out.kept HL.out.chg)).mono ?_; intro e w5 h; obtain ⟨he1, hc1⟩ := h; subst he1; replace HL := hid (HL.out.same hc1); clear hc1 d0 d1 d2 x0 x1 x2; obtain ⟨⟨d0, d1, d2⟩, ⟨x0, x1, x2⟩⟩ := HL.out.cells) | (go_at_call 20; refine (HPL.out _ _ _ _ HL.out.sn).mono ?_; intro e w6 h; obtain ⟨he1, hc1⟩ := h; subst he1; replace HL := hid (HL.out.same hc1); clear hc1) | (go_at_call 19; refine (HFG.out _).mono ?_; intro e w7 h; obtain ⟨he1, hc1⟩ := h; subst he1; replace HL := hid (HL.out.same hc1); clear hc1))
    go_ret
    exact ⟨rfl, HL.out.chg⟩
end Go.Proofs.YtlbjjhecgceiaaaGreatDoor
namespace Go.Proofs.YtlbjjhecgceiaaaGreatDoor
open Go.RowKit Go.Lib Go.Proofs.YtlbjjhecgceiaaaGreatDoorW.PrintWords Go.Proofs.YtlbjjhecgceiaaaGreatDoorW.PrintLast Go.Proofs.YtlbjjhecgceiaaaGreatDoorW.PrintMore PFnFixSubExact
set_option linter.unusedVariables false
set_option linter.unusedSimpArgs false
theorem u64_20 {a : Nat} (h : a < 18446744073709551616) : a < 10 ^ 20 := by
 have : (10 : Nat) ^ 20 = 100000000000000000000 := by decide
 omega
def PNo (w : World) (e : Ending) (w' : World) : Prop := ∃ (sb : Bool) (E : Option Addr) (k l : Nat) (e0 : Int), e = .returned (.tuple #[.agg #[.bool sb, .slice E k l, .int .i64 e0], .bool false]) ∧ Chg (fun _ => False) w w'
theorem OfFix_bad {w : World} (n1 : Bool) (a : Nat) (s0 : Int) (ha : a < 18446744073709551616) (hbad : ¬ (a < 10 ^ 19 ∧ 0 ≤ s0 ∧ s0 ≤ 19)) :
  Calls Tryz.prog 21 #[.agg #[.bool n1, .int .u64 (a : Int), .int .i64 s0]] w (PNo w) := by
 obtain ⟨K1, r, r1, r2⟩ := natFrom_law (a := a) (by omega)
 obtain ⟨K2, hK2⟩ := digits_law r1 (lt_tn (j := 20) (u64_20 ha) (by omega))
 obtain ⟨B, hB⟩ : ∃ B, spec_wholeOf.f n1 r = some (B, r) := by
  unfold spec_wholeOf.f
  split
  ·exact ⟨_, rfl⟩
  ·exact ⟨_, rfl⟩
 have e : spec_OfFix.f (K1 + K2) n1 (a : Int) s0 = some (B, r, wrap64 (-s0), false) := by
  unfold spec_OfFix.f
  rw [r2 _ (by omega)]
  show (spec_wholeOf.f n1 r).bind _ = _
  rw [hB]
  show (spec_Nat_Digits.f (K1 + K2) r).bind _ = _
  rw [hK2 _ (by omega)]
  show (if ((digs a : Nat) : Int) ≤ 19 then (if s0 ≥ 0 then some (B, r, wrap64 (-s0), decide (s0 ≤ 19)) else some (B, r, wrap64 (-s0), false)) else some (B, r, wrap64 (-s0), false)) = _
  by_cases h1 : ((digs a : Nat) : Int) ≤ 19
  ·rw [if_pos h1]
   by_cases h2 : s0 ≥ 0
   ·rw [if_pos h2, decide_eq_false (fun h3 => hbad ⟨digs_le.1 (by omega), h2, h3⟩)]
   ·rw [if_neg h2]
  ·rw [if_neg h1]
 refine (spec_OfFix.calls _ _ _ _ _ _ _ _ w e).mono (fun e w' h => ?_)
 obtain ⟨v, rfl, h1, h2⟩ := h
 obtain ⟨A, c, rfl, k1, k2⟩ := Kd.R_reads h1
 exact ⟨B, A, r.length, c, _, rfl, chg_of_below h2⟩
end Go.Proofs.YtlbjjhecgceiaaaGreatDoor
namespace Go.Proofs.YtlbjjhecgceiaaaGreatDoor
open Go.RowKit
set_option linter.unusedVariables false
set_option linter.unusedSimpArgs false
set_option maxRecDepth 20000
set_option maxHeartbeats 2000000 in
theorem lawFmt_size (n1 : Bool) (c s : Int) (vb : Int) (FS : ByteArray) (hFS : ¬ FS.size ≤ 2147483647) (a b : Int) (w : World) :
  Calls Tryz.prog 5 #[.agg #[.bool n1, .int .u64 c, .int .i64 s], .int .u8 vb, .string FS, .int .i64 a, .int .i64 b] w (PV w (.bool true)) := by
 have hsz : (2147483647 : Int) < (FS.size : Int) := by omega
 clear hFS
 obtain ⟨HC0, HD, hB0⟩ := box1 w #[.bool n1, .int .u64 c, .int .i64 s] 24
 clear HD hB0
 go_enter Tryz.func5, Tryz.ntmps5
 go_wp2_with fail
 go_ret
 exact ⟨rfl, HC0.out⟩
set_option maxHeartbeats 4000000 in
theorem lawFmt_no (n1 : Bool) (c s : Int) (vb : Int) (FS : ByteArray) (hFS : FS.size ≤ 2147483647) (a b : Int) (ok : Bool) (w : World) (hno : ok = true → 60 < a ∨ 60 < b)
  (HOB : ∀ w1, Calls Tryz.prog 21 #[.agg #[.bool n1, .int .u64 c, .int .i64 s]] w1 (fun e w' => ∃ (sb : Bool) (E : Option Addr) (k l : Nat) (e0 : Int), e = .returned (.tuple #[.agg #[.bool sb, .slice E k l, .int .i64 e0], .bool ok]) ∧ Chg (fun _ => False) w1 w')) :
  Calls Tryz.prog 5 #[.agg #[.bool n1, .int .u64 c, .int .i64 s], .int .u8 vb, .string FS, .int .i64 a, .int .i64 b] w (PV w (.bool true)) := by
 have hsz : ¬ (2147483647 : Int) < (FS.size : Int) := by omega
 have HOX := hid HOB
 have HNO := hid hno
 clear hFS HOB hno
 obtain ⟨HC0, HD, hB0⟩ := box1 w #[.bool n1, .int .u64 c, .int .i64 s] 24
 have hk := Chg.refl (fun _ => False) (w.alloc (.cells #[.bool n1, .int .u64 c, .int .i64 s] 24))
 obtain ⟨d0, d1, d2, _, _, _⟩ := cell3 hB0
 clear hB0 HD
 cases ok with
 | false =>
  go_enter Tryz.func5, Tryz.ntmps5
  go_wp2_with (go_at_call 21; refine (HOX.out _).mono ?_; intro e w1 h; obtain ⟨sb, E, k, l, e0, he1, hc1⟩ := h; subst he1; replace hk := (hk.trans hc1 sb_).alloc (.cells #[.bool sb, .slice E k l, .int .i64 e0] 43); clear hc1)
  go_ret
  exact ⟨rfl, HC0.out.trans hk sb_⟩
 | true =>
  by_cases ha : 60 < a
  ·go_enter Tryz.func5, Tryz.ntmps5
   go_wp2_with (go_at_call 21; refine (HOX.out _).mono ?_; intro e w1 h; obtain ⟨sb, E, k, l, e0, he1, hc1⟩ := h; subst he1; replace hk := (hk.trans hc1 sb_).alloc (.cells #[.bool sb, .slice E k l, .int .i64 e0] 43); clear hc1)
   go_ret
   exact ⟨rfl, HC0.out.trans hk sb_⟩
  ·have hb : 60 < b := (HNO.out rfl).elim (fun h => absurd h ha) (fun h => h)
   go_enter Tryz.func5, Tryz.ntmps5
   go_wp2_with (go_at_call 21; refine (HOX.out _).mono ?_; intro e w1 h; obtain ⟨sb, E, k, l, e0, he1, hc1⟩ := h; subst he1; replace hk := (hk.trans hc1 sb_).alloc (.cells #[.bool sb, .slice E k l, .int .i64 e0] 43); clear hc1)
   go_ret
   exact ⟨rfl, HC0.out.trans hk sb_⟩
theorem lawFmt_any (n1 : Bool) (c s : Int) (vb : Int) (FS : ByteArray) (a b : Int) (h0 : 0 ≤ c) (h1 : c < 18446744073709551616) (hvb0 : 0 ≤ vb) (hvb1 : vb ≤ 255) (w : World) (he : EnvD w) :
  Calls Tryz.prog 5 #[.agg #[.bool n1, .int .u64 c, .int .i64 s], .int .u8 vb, .string FS, .int .i64 a, .int .i64 b] w (PV w (.bool true)) := by
 by_cases hFS : FS.size ≤ 2147483647
 ·obtain ⟨C, rfl⟩ : ∃ C : Nat, c = (C : Int) := ⟨c.toNat, by omega⟩
  by_cases hok : C < 10 ^ 19 ∧ 0 ≤ s ∧ s ≤ 19
  ·obtain ⟨hc, hs0, hs1⟩ := hok
   obtain ⟨t, rfl⟩ : ∃ t : Nat, s = (t : Int) := ⟨s.toNat, by omega⟩
   by_cases hab : a ≤ 60 ∧ b ≤ 60
   ·exact lawFmt_ok n1 C t hc (by omega) vb hvb0 hvb1 FS hFS a b hab.1 hab.2 w he
   ·refine lawFmt_no n1 _ _ vb FS hFS a b true w (fun _ => by omega) (fun w1 => (OfFix_ok n1 _ C t hc (by omega) rfl).mono (fun e w' h => ?_))
    obtain ⟨E, k, l, he1, _, hc1⟩ := h
    exact ⟨_, E, k, l, _, he1, hc1⟩
  ·exact lawFmt_no n1 _ _ vb FS hFS a b false w (fun h => by cases h) (fun w1 => OfFix_bad n1 C s (by omega) hok)
 ·exact lawFmt_size n1 c s vb FS hFS a b w
end Go.Proofs.YtlbjjhecgceiaaaGreatDoor
namespace Go.Proofs.YtlbjjhecgceiaaaGreatDoor
open Go Go.ChangeShapes Go.WideShapes Go.ChangeAt Go.WideMaps Go.WideElems Go.RowKit
set_option maxRecDepth 100000 in
theorem open_fixw {H : Type} {enc : TypeId × Value → H} {W : World} {base b0 : Nat} {sp : Nat → Bool} {held : Bool} {v : Value} {d : DataW H} {p : List MemPlace} (hv : Value.okWide Tryz.prog W .any b0 24 v) (h : DataW.Trod enc Tryz.prog W base sp held 24 v d p) :
  ∃ (n : Bool) (c s : Int), v = .agg #[.bool n, .int .u64 c, .int .i64 s] ∧ 0 ≤ c ∧ c < 18446744073709551616 ∧ p = [] := by
 obtain ⟨c0, c1, c2, y0, y1, y2, m, rfl, rfl, rfl, hy0, hy1, hy2⟩ := Joins.open_agg3 Tryz.underlying24 kr_ fixCells hv h
 obtain ⟨x, e0, rfl⟩ := DataW.trod_bool Tryz.underlying4 hy0
 obtain ⟨y, e1, rfl, wy⟩ := DataW.trod_int Tryz.underlying22 hy1
 obtain ⟨f, e2, rfl, wf⟩ := DataW.trod_int Tryz.underlying3 hy2
 simp at e0 e1 e2
 subst e0 e1 e2
 simp [Lit.wf] at wy
 have hmin : IntKind.u64.min = 0 := by decide
 have hmax : IntKind.u64.max = 18446744073709551615 := by decide
 exact ⟨x, y, f, rfl, by omega, by omega, rfl⟩
set_option maxRecDepth 100000 in
theorem liftedq (os : Os) (started : os.Started) (H : Type) (enc : TypeId × Value → H) :
  ReturnsInHanded {} Tryz.checked os 5 .any (fun w args => (Rows.fnFixFormatSpec.pre enc Tryz.prog Tryz.f5 [] false w args ∧ laidMetH Tryz.prog Rows.fnFixFormatRow.laid w) ∧ sizedMet enc Tryz.prog Tryz.f5 (OpenSpec.ofChange Rows.fnFixFormatSpec) false w args)
   (Rows.fnFixFormatSpec.post enc Tryz.prog Tryz.f5 false true false false) := by
 refine handed_shaped (C := Tryz.checked) (X := fun w _ => laidMetH Tryz.prog Rows.fnFixFormatRow.laid w) (fun _ _ _ hh h => h.of_heap hh) own0 started kr_ Tryz.func5
  (ChangeSpec.witness_shaped (enc := enc) (C := Tryz.checked) (os := os) (X := fun w _ => laidMetH Tryz.prog Rows.fnFixFormatRow.laid w) false (World.doorLaid Tryz.prog 400 os) #[.agg #[.bool false, .int .u64 0, .int .i64 0], .int .u8 0, .string ⟨#[]⟩, .int .i64 0, .int .i64 0] 8 rfl (wit_shapedq os) (wit_okq os) (wit_preq os H enc) (wit_sizeq os H enc) (door_met os _)) ?_
 intro W base args ds gs before hsh hval0 hW _ hL
 have hval : ∀ (j : Nat) t v, Tryz.f5.params[j]? = some t → args[j]? = some v → Value.okWide Tryz.prog W .any base t v := hval0
 have hW' := hW
 obtain ⟨p, q, hA0, hV, rfl, hfz, hnd⟩ := hW
 have hA : DataW.TrodAll enc Tryz.prog W 0 (fun _ => true) true Tryz.f5.params.toList args.toList ds p := hA0
 rw [Tryz.params5] at hA hval
 obtain ⟨v0, vs0, d0, ds0, p0, q0, hargs, rfl, rfl, h0, r0⟩ := trodAll_cons hA
 obtain ⟨v1, vs1, d1, ds1, p1, q1, rfl, rfl, rfl, h1, r1⟩ := trodAll_cons r0
 obtain ⟨v2, vs2, d2, ds2, p2, q2, rfl, rfl, rfl, h2, r2⟩ := trodAll_cons r1
 obtain ⟨v3, vs3, d3, ds3, p3, q3, rfl, rfl, rfl, h3, r3⟩ := trodAll_cons r2
 obtain ⟨v4, vs4, d4, ds4, p4, q4, rfl, rfl, rfl, h4, r4⟩ := trodAll_cons r3
 obtain ⟨rfl, rfl, rfl⟩ := trodAll_nil r4
 obtain rfl : args = #[v0, v1, v2, v3, v4] := by cases args; simp_all
 have k0 := h0
 have k1 := h1
 have k2 := h2
 have k3 := h3
 have k4 := h4
 obtain ⟨n1, c1, s1, rfl, wa, wa2, rfl⟩ := open_fixw (hval 0 24 v0 rfl rfl) h0
 obtain ⟨vb, rfl, rfl, rfl, wb⟩ := open_int Tryz.underlying5 (hval 1 5 v1 rfl rfl) h1
 obtain ⟨fs, rfl, rfl, rfl, ws⟩ := ChangeMaps.open_string Tryz.underlying9 (hval 2 9 v2 rfl rfl) h2
 obtain ⟨a, rfl, rfl, rfl, wp⟩ := open_int Tryz.underlying3 (hval 3 3 v3 rfl rfl) h3
 obtain ⟨b, rfl, rfl, rfl, wd⟩ := open_int Tryz.underlying3 (hval 4 3 v4 rfl rfl) h4
 simp [Lit.wf] at wb wp wd
 have hmin : IntKind.i64.min = -9223372036854775808 := by decide
 have hmin2 : IntKind.u8.min = 0 := by decide
 have hmax2 : IntKind.u8.max = 255 := by decide
 have hlen : gs.length = 8 := trodVars_length hV
 match gs, hlen, hV, hW' with
 | [g1, g2, g3, g4, g5, g6, g7, g8], _, hV, hW' =>
  refine (lawFmt_any n1 c1 s1 vb fs a b wa wa2 (by omega) (by omega) W (of_laid hsh hL)).mono fun e W' hE => ?_
  obtain ⟨he, hc⟩ := hE
  subst he
  have hB := hc.below
  refine ⟨_, rfl, _, _, _, [], [], q, hW', ?_, ?_, ?_, hB.frame _, fun h => by cases h⟩
  ·exact trodAll_mk1 (shut_bool Tryz.underlying4 _)
  ·exact ⟨_, _, (Below.trod laidOk kr_ (of_decide_eq_true kr_) k0 hB (fun x hx => by cases hx)), trodAll_mk4 (Below.trod laidOk kr_ (of_decide_eq_true kr_) k1 hB (fun x hx => by cases hx)) (Below.trod laidOk kr_ (of_decide_eq_true kr_) k2 hB (fun x hx => by cases hx)) (Below.trod laidOk kr_ (of_decide_eq_true kr_) k3 hB (fun x hx => by cases hx)) (Below.trod laidOk kr_ (of_decide_eq_true kr_) k4 hB (fun x hx => by cases hx)), rfl⟩
  ·exact vars_iface hB gScl tScl Tryz.underlying69 (fun _ _ h => vars_iface hB gOvf tOvf Tryz.underlying69 (fun _ _ h => Below.trodVars laidOk hB kr_ h) h) hV
theorem fnFixFormat_holds : Rows.FnFixFormatSaid :=
 OpenClaim.holds_of_wide 5 Tryz.f5 rfl rfl rfl rfl rfl rfl rfl ⟨rfl, rfl, rfl, rfl, rfl⟩ rfl rfl rfl rfl rfl row_funcq Tryz.func5 row_closedq
  (of_decide_eq_true kr_) (by unfold Func.isWrapper; first | (rw [if_pos (by decide +kernel)]; kernel_rfl) | (rw [if_neg (by decide +kernel)]; exact ⟨rfl, rfl⟩))
  (fun os started H enc _ => liftedq os started H enc)
theorem fnFixFormat_card : Rows.FnFixFormatCardSaid :=
 Claim7.holds_tied_plain_at .later [] [.data, .data, .data, .data, .data, .data, .data, .sentinel, .sentinel, .data] true Rows.fnFixFormatCard.stood.harness false
  fnFixFormat_holds (fun _ h => by cases h) row_wfq (fun _ h => by cases h) fnFixFormat_row_tie rfl ⟨rfl, rfl⟩ kr_ rfl
  (fun f fn hf hfn => by
   obtain rfl : f = 5 := Option.some.inj (row_funcq.symm.trans hf) |>.symm
   obtain rfl : fn = Tryz.f5 := (Option.some.inj (Tryz.func5.symm.trans hfn)).symm
   exact ⟨row_looksq, fun j t ht => by
    rw [Tryz.params5] at ht
    have hm : t ∈ [24, 5, 9, 3, 3] := by simpa using Array.mem_of_getElem? ht
    exact (show Tryz.prog.wantsStandIn t = false by simpa using List.all_eq_true.1 row_standq t hm)⟩)
  row_goesq
end Go.Proofs.YtlbjjhecgceiaaaGreatDoor
