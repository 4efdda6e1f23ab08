/- Part 20 of the proof. -/
import Derived.Lib.SmallJoins
import Derived.OpenVars
import Derived.Lib.MinMax
import Derived.Test.YtlbjjhecgceiaaaGreatDoorP12
import Derived.Test.YtlbjjhecgceiaaaGreatDoorP18
import Derived.Test.YtlbjjhecgceiaaaGreatDoorP19
namespace Go.Proofs.YtlbjjhecgceiaaaGreatDoor
open Go.ChangeShapes Go.WideShapes Go.ChangeAt Go.WideMaps Go.WideElems Go.RowKit
theorem gDiv : Tryz.prog.globalNamed "given.example/pub-alexandrine/pub/bigall.divRecursiveThreshold" = some 6 := by kernel_rfl
theorem gKar : Tryz.prog.globalNamed "given.example/pub-alexandrine/pub/bigall.karatsubaThreshold" = some 10 := by kernel_rfl
theorem gOvf : Tryz.prog.globalNamed "given.example/pub-alexandrine/pub/govalues.errDecimalOverflow" = some 2 := by kernel_rfl
theorem gPow : Tryz.prog.globalNamed "given.example/pub-alexandrine/pub/govalues.pow10" = some 3 := by kernel_rfl
theorem tDiv : (Tryz.prog.globals[6]?).map (·.type) = some 3 := by kernel_rfl
theorem tKar : (Tryz.prog.globals[10]?).map (·.type) = some 3 := by kernel_rfl
theorem tOvf : (Tryz.prog.globals[2]?).map (·.type) = some 69 := by kernel_rfl
theorem tPow : (Tryz.prog.globals[3]?).map (·.type) = some 175 := by kernel_rfl
theorem of_laid {W : World} (hsh : W.ShapedOpen Tryz.prog) (h : laidMetH Tryz.prog Rows.fnFixSubExactRow.laid W) : EnvD W := by
 rw [MakeChecks.laidMetH_plain _ _ _ kr_] at h
 obtain ⟨ps, ⟨_, _, _, _, _, _, _, _, _, _, ⟨_, _, _, _, _, _, _, _, _, _, ⟨_, _, _, _, _, _, _, _, _, _, ⟨g3, t3, cs3, f3, p3, q3, hg3, ht3, hv3, hd3, ⟨g4, t4, cs4, f4, p4, q4, hg4, ht4, hv4, hd4, ⟨_, _, _, _, _, _, _, _, _, _, ⟨_, _, _, _, _, _, _, _, _, _, ⟨g7, t7, cs7, f7, p7, q7, hg7, ht7, hv7, hd7, ⟨_, _, _, _, _, _, _, _, _, _, ⟨g9, t9, cs9, f9, p9, q9, hg9, ht9, hv9, hd9, hrest, _⟩, _⟩, _⟩, _⟩, _⟩, _⟩, _⟩, _⟩, _⟩, _⟩, hps, _⟩ := h
 obtain rfl := Option.some.inj (gDiv.symm.trans hg3)
 obtain rfl := Option.some.inj (gKar.symm.trans hg4)
 obtain rfl := Option.some.inj (gOvf.symm.trans hg7)
 obtain rfl := Option.some.inj (gPow.symm.trans hg9)
 obtain rfl := Option.some.inj (tDiv.symm.trans ht3)
 obtain rfl := Option.some.inj (tKar.symm.trans ht4)
 have hdiv : W.cell? ⟨6, 0, none⟩ = some (.int .i64 40) := by
  obtain ⟨k, e1, e2, _⟩ := DataW.trod_int Tryz.underlying3 hd3
  have hk : k = 40 := by
   have := congrArg Prod.fst e2
   simpa [Rows.laid_given_example_pub_alexandrine_pub_bigall_divRecursiveThreshold] using this.symm
  subst hk
  have := World.var?_cell hg3 hv3 0
  obtain ⟨l1⟩ := cs3
  simp at e1
  subst e1
  simpa using this
 have hkar : W.cell? ⟨10, 0, none⟩ = some (.int .i64 40) := by
  obtain ⟨k, e1, e2, _⟩ := DataW.trod_int Tryz.underlying3 hd4
  have hk : k = 40 := by
   have := congrArg Prod.fst e2
   simpa [Rows.laid_given_example_pub_alexandrine_pub_bigall_karatsubaThreshold] using this.symm
  subst hk
  have := World.var?_cell hg4 hv4 0
  obtain ⟨l1⟩ := cs4
  simp at e1
  subst e1
  simpa using this
 have htab : Tab W := by
  obtain rfl := Option.some.inj (tPow.symm.trans ht9)
  obtain ⟨xs, m, _, hx, hlen, hn, hel⟩ := DataW.trod_array Tryz.underlying175 hd9
  have c1 : Tryz.prog.cellsOf 63 = 1 := by kernel_rfl
  rw [c1] at hel
  have hxs := congrArg Prod.fst hx
  simp only [Rows.laid_given_example_pub_alexandrine_pub_govalues_pow10, DataW.agg.injEq] at hxs
  intro k hk
  have hk' := hel k hk
  have hxk : (xs.map (·.1))[k]? = some (.lit (.int .u64 (10 ^ k))) := by
   rw [← hxs]
   have : ∀ j : Fin 20, ([DataW.lit (.int .u64 1), .lit (.int .u64 10), .lit (.int .u64 100), .lit (.int .u64 1000), .lit (.int .u64 10000), .lit (.int .u64 100000), .lit (.int .u64 1000000), .lit (.int .u64 10000000), .lit (.int .u64 100000000), .lit (.int .u64 1000000000), .lit (.int .u64 10000000000), .lit (.int .u64 100000000000), .lit (.int .u64 1000000000000), .lit (.int .u64 10000000000000), .lit (.int .u64 100000000000000), .lit (.int .u64 1000000000000000), .lit (.int .u64 10000000000000000), .lit (.int .u64 100000000000000000), .lit (.int .u64 1000000000000000000), .lit (.int .u64 10000000000000000000)] : List (DataW Unit))[(j : Nat)]? = some (.lit (.int .u64 (10 ^ (j : Nat)))) := by
    rintro ⟨j, hj⟩
    rcases (show j = 0 ∨ j = 1 ∨ j = 2 ∨ j = 3 ∨ j = 4 ∨ j = 5 ∨ j = 6 ∨ j = 7 ∨ j = 8 ∨ j = 9 ∨ j = 10 ∨ j = 11 ∨ j = 12 ∨ j = 13 ∨ j = 14 ∨ j = 15 ∨ j = 16 ∨ j = 17 ∨ j = 18 ∨ j = 19 by omega) with rfl | rfl | rfl | rfl | rfl | rfl | rfl | rfl | rfl | rfl | rfl | rfl | rfl | rfl | rfl | rfl | rfl | rfl | rfl | rfl <;> rfl
   exact this ⟨k, hk⟩
  rw [List.getElem?_map] at hxk
  cases hy : xs[k]? with
  | none => rw [hy] at hxk; cases hxk
  | some y =>
   rw [hy] at hxk
   simp only [Option.map_some, Option.some.injEq] at hxk
   rw [hy] at hk'
   obtain ⟨z, e1, e2, _⟩ := DataW.trod_int Tryz.underlying63 hk'
   have hz : z = 10 ^ k := by
    have := congrArg Prod.fst e2
    rw [hxk] at this
    simpa using this.symm
   subst hz
   have := World.var?_cell hg9 hv9 k
   rw [this]
   rw [Nat.mul_one] at e1
   have h3 : (cs9.toList.drop k)[0]? = some (.int .u64 (10 ^ k)) := by
    have := congrArg (fun l => l[0]?) e1
    simpa using this
   simpa using h3
 have hovf : ∃ u y, W.cell? ⟨2, 0, none⟩ = some (.iface u y) := by
  obtain rfl := Option.some.inj (tOvf.symm.trans ht7)
  obtain ⟨_, u, y, e1, _, _⟩ := iface_of_trod Tryz.underlying69 hd7
  have := World.var?_cell hg7 hv7 0
  obtain ⟨l1⟩ := cs7
  simp at e1
  subst e1
  exact ⟨u, y, by simpa using this⟩
 refine ⟨⟨htab, hkar, hdiv, fun xs hr => ?_⟩, hovf⟩
 obtain ⟨cs, t, k1, k2⟩ := pow_typed hsh
 have := hr.1.symm.trans k1
 simp only [Option.some.injEq, Obj.cells.injEq] at this
 exact k2 this.2.1.symm
end Go.Proofs.YtlbjjhecgceiaaaGreatDoor
namespace Go.Proofs.YtlbjjhecgceiaaaGreatDoor
open Go Go.ChangeShapes Go.WideShapes Go.ChangeAt Go.WideMaps Go.WideElems Go.RowKit Go.Joins
theorem trod_iface {H : Type} {enc : TypeId × Value → H} {P : Program} {W W' : World} {ti : TypeId} {ms : Array (String × TypeId)} {fuel : Nat} {cs : List Value} {x : DataW H × List MemPlace} {sp sp' : Nat → Bool}
  (hi : P.underlying ti = some (.interface ms)) (h : DataW.trod enc P W 0 sp true fuel ti cs = some x) : DataW.trod enc P W' 0 sp' true fuel ti cs = some x := by
 cases fuel with
 | zero => simp [DataW.trod] at h
 | succ f =>
  match cs, h with
  | [], h => simp [DataW.trod, hi] at h
  | _ :: _ :: _, h => simp [DataW.trod, hi] at h
  | [c], h => cases c <;> simp_all [DataW.trod]
theorem vars_iface {H : Type} {enc : TypeId × Value → H} {P : Program} {W W' : World} (hb : Below W.heap.size W W') {n : String} {ns : List String} {g : Nat} {ti : TypeId} {ms : Array (String × TypeId)} {sp sp' : Nat → Bool}
  (hn : P.globalNamed n = some g) (ht : (P.globals[g]?).map (·.type) = some ti) (hi : P.underlying ti = some (.interface ms))
  (hr : ∀ (gs : List (DataW H)) (q : List MemPlace), DataW.TrodVars enc P W sp ns gs q → DataW.TrodVars enc P W' sp' ns gs q) {gs : List (DataW H)} {ps : List MemPlace} (h : DataW.TrodVars enc P W sp (n :: ns) gs ps) :
  DataW.TrodVars enc P W' sp' (n :: ns) gs ps := by
 cases gs with
 | nil => exact h.elim
 | cons d ds =>
  obtain ⟨g0, t, cs, fuel, p, q, h1, h2, h3, h4, hs, e⟩ := h
  obtain rfl := Option.some.inj (hn.symm.trans h1)
  obtain rfl := Option.some.inj (ht.symm.trans h2)
  refine ⟨g, ti, cs, fuel, p, q, h1, h2, ?_, trod_iface hi h4, hr _ _ hs, e⟩
  unfold World.var? at h3 ⊢
  rw [h1] at h3 ⊢
  simp only [Option.bind_some] at h3 ⊢
  have hg : g < W.heap.size := by
   cases hh : W.heap[g]? with
   | none => rw [hh] at h3; cases h3
   | some o => exact (Array.getElem?_eq_some_iff.1 hh).1
  rw [hb.block g hg]; exact h3
theorem trodVars_length {H : Type} {enc : TypeId × Value → H} {P : Program} {W : World} {sp : Nat → Bool} : ∀ {ns : List String} {gs : List (DataW H)} {ps : List MemPlace}, DataW.TrodVars enc P W sp ns gs ps → gs.length = ns.length
 | [], [], _, _ => rfl
 | [], _ :: _, _, h => h.elim
 | _ :: _, [], _, h => h.elim
 | _ :: ns, _ :: ds, _, h => by
  obtain ⟨_, _, _, _, _, _, _, _, _, _, hs, _⟩ := h
  simp [trodVars_length hs]
theorem gScl : Tryz.prog.globalNamed "given.example/pub-alexandrine/pub/govalues.errScaleRange" = some 1 := by kernel_rfl
theorem tScl : (Tryz.prog.globals[1]?).map (·.type) = some 69 := by kernel_rfl
theorem laidOk : laidOutB Tryz.prog = true := by kernel_rfl
theorem fixCells : Tryz.prog.cellsOf 24 = 3 := by kernel_rfl
end Go.Proofs.YtlbjjhecgceiaaaGreatDoor
namespace Go.Proofs.YtlbjjhecgceiaaaGreatDoor
open Go.RowKit
set_option linter.unusedVariables false
set_option linter.unusedSimpArgs false
set_option maxRecDepth 20000
set_option maxHeartbeats 1000000 in
theorem DRound_less (nb : Bool) (c s t : Nat) (hc : c < 10 ^ 19) (hs : s ≤ 19) (ht : t < s) (w : World) (he : EnvD w) :
  Calls Tryz.prog 94 #[.agg #[.bool nb, .int .i8 s, .int .u64 (c : Int)], .int .i64 t] w (fun e w' => e = .returned (.agg #[.bool (nb && rheI c (10 ^ (s - t)) != 0), .int .i8 t, .int .u64 (rheI c (10 ^ (s - t)))]) ∧ Chg (fun _ => False) w w') := by
 have HS := hid (fun w => Scale_any nb (c : Int) s hs w)
 have HN := hid (fun w => IsNeg_any nb (c : Int) s w)
 have HR := hid (fun w ht1 => fint_rsh_any (c : Int) (s - t) (fiN hc) (by omega) (by omega) w ht1)
 have hq : Fi (rheI (c : Int) (10 ^ (s - t))) := rheI_fi (fiN hc) (by omega)
 have HU := hid (fun w => newUnsafe_flat nb (nb && rheI c (10 ^ (s - t)) != 0) (rheI c (10 ^ (s - t))) t hq (by omega) rfl w)
 have hw : IntKind.i64.wrap ((s : Int) - (t : Int)) = ((s - t : Nat) : Int) := by rw [show (s : Int) - (t : Int) = ((s - t : Nat) : Int) by omega]; exact IntWalk.i64_in _ (by omega)
 have hmx : max (t : Int) 0 = (t : Int) := by omega
 have c1 : ¬ (s : Int) ≤ (t : Int) := by omega
 generalize rheI (c : Int) (10 ^ (s - t)) = Q at *
 obtain ⟨nq, hnq⟩ : ∃ nq, (nb && Q != 0) = nq := ⟨_, rfl⟩
 rw [hnq] at HU ⊢
 generalize s - t = j at *
 obtain ⟨HC0, HD, hB0, hB1⟩ := box2 w #[.bool nb, .int .i8 s, .int .u64 (c : Int)] 65 #[.bool false, .int .i8 0, .int .u64 0] 65
 have HBX := hid (fun w1 h => kept_heap (w' := w1) h hB1)
 have HB := hid (fun w1 h => And.intro (cell3 (kept_heap (w' := w1) h hB0)) (cell3 (kept_heap (w' := w1) h hB1)))
 have HE := hid he
 have hk := Chg.refl (fun _ => False) ((w.alloc (.cells #[.bool nb, .int .i8 s, .int .u64 (c : Int)] 65)).alloc (.cells #[.bool false, .int .i8 0, .int .u64 0] 65))
 clear hB0 hB1 HD he hc hs ht hq hnq
 obtain ⟨⟨d0, d1, d2, _, _, _⟩, ⟨r0, r1, r2, q0, q1, q2⟩⟩ := HB.out _ hk
 go_enter Tryz.func94, Tryz.ntmps94
 go_wp2_with (first | (go_at_call 60; refine (HS.out _).mono ?_; intro e w1 h; obtain ⟨he1, hc1⟩ := h; subst he1; replace hk := hk.trans hc1 sb_; clear hc1 d0 d1 d2 r0 r1 r2 q0 q1 q2; obtain ⟨⟨d0, d1, d2, _, _, _⟩, ⟨r0, r1, r2, q0, q1, q2⟩⟩ := HB.out _ hk) | (go_at_call 58; refine (HN.out _).mono ?_; intro e w1 h; obtain ⟨he1, hc1⟩ := h; subst he1; replace hk := hk.trans hc1 sb_; clear hc1 d0 d1 d2 r0 r1 r2 q0 q1 q2; obtain ⟨⟨d0, d1, d2, _, _, _⟩, ⟨r0, r1, r2, q0, q1, q2⟩⟩ := HB.out _ hk) | (go_at_call 128; refine (HR.out _ (HE.out.kept (HC0.out.trans hk sb_)).env.tab).mono ?_; intro e w2 h; obtain ⟨he1, he2⟩ := h; subst he1; subst he2) | (go_at_call 81; refine (HU.out _).mono ?_; intro e w1 h; obtain ⟨he1, hc1⟩ := h; subst he1; replace hk := hk.trans hc1 sb_; clear hc1 d0 d1 d2 r0 r1 r2 q0 q1 q2; obtain ⟨⟨d0, d1, d2, _, _, _⟩, ⟨r0, r1, r2, q0, q1, q2⟩⟩ := HB.out _ hk))
 exact bodyPost_ret (v := .agg #[.bool nq, .int .i8 t, .int .u64 Q]) (by rw [results_cell_row rfl _ _ (w.heap.size + 1) _ _ _ _ rfl (store3 (HBX.out _ hk) _ _ _) Tryz.underlying65 rfl dec_size]) rfl ⟨rfl, chg3 (HC0.out.trans hk sb_) (by omega) _ _ _⟩
theorem Prec_any (neg : Bool) (c s : Nat) (hc : c < 10 ^ 19) (w : World) (he : EnvD w) :
  Calls Tryz.prog 95 #[.agg #[.bool neg, .int .i8 s, .int .u64 (c : Int)]] w (fun e w' => e = .returned (.int .i64 (digs c : Nat)) ∧ Chg (fun _ => False) w w') := by
 have hpr := fun w ht => fint_prec (c : Int) (fiN hc) w ht
 rw [Int.toNat_natCast] at hpr
 have HPR := hid hpr
 clear hpr
 generalize digs c = D at *
 obtain ⟨K, hK⟩ : ∃ v : Int, (c : Int) = v := ⟨_, rfl⟩
 rw [hK] at HPR ⊢
 have hc0 := hid ((Chg.refl (fun _ => False) w).alloc (.cells #[.bool neg, .int .i8 s, .int .u64 K] 65))
 have HE := hid he
 clear hc hK he
 go_enter Tryz.func95, Tryz.ntmps95
 go_wp2_with (go_at_call 129; refine (HPR.out _ (HE.out.kept hc0.out).env.tab).mono ?_; intro e w2 h; obtain ⟨he1, he2⟩ := h; subst he1; subst he2)
 go_ret
 exact ⟨rfl, hc0.out⟩
set_option maxHeartbeats 1000000 in
theorem WithinOne_any (neg : Bool) (c : Int) (s : Nat) (hs : s ≤ 19) (w : World) (he : EnvD w) : Calls Tryz.prog 96 #[.agg #[.bool neg, .int .i8 s, .int .u64 c]] w (PV w (.bool (decide (c < 10 ^ s)))) := by
 have HS := hid (fun w => Scale_any neg c s hs w)
 obtain ⟨HC0, HD, hB0⟩ := box1 w #[.bool neg, .int .i8 s, .int .u64 c] 65
 have HB := hid (fun w1 (h : Chg (fun _ => False) (w.alloc (.cells #[.bool neg, .int .i8 s, .int .u64 c] 65)) w1) => cell3 (kept_heap h hB0))
 have HT := hid (fun w1 (h : Chg (fun _ => False) (w.alloc (.cells #[.bool neg, .int .i8 s, .int .u64 c] 65)) w1) => (he.kept (HC0.out.trans h sb_)).env.tab s (by omega))
 have hk := Chg.refl (fun _ => False) (w.alloc (.cells #[.bool neg, .int .i8 s, .int .u64 c] 65))
 have hs0 : (0 : Int) ≤ (s : Int) := by omega
 have hs20 : (s : Int) < 20 := by omega
 obtain ⟨T, hT⟩ : ∃ T : Int, (10 : Int) ^ s = T := ⟨_, rfl⟩
 rw [hT] at HT ⊢
 obtain ⟨b, hb⟩ : ∃ b, decide (c < T) = b := ⟨_, rfl⟩
 have HBB := hid hb
 clear hB0 HD he hs hT hb
 obtain ⟨d0, d1, d2, _, _, _⟩ := HB.out _ hk
 have hcell := HT.out _ hk
 go_enter Tryz.func96, Tryz.ntmps96
 go_wp2_with fail
 have HSS := hid (fun w1 (h : Chg (fun _ => False) (w.alloc (.cells #[.bool neg, .int .i8 s, .int .u64 c] 65)) w1) => And.intro (HB.out w1 h).1 (And.intro (HB.out w1 h).2.1 (And.intro (HB.out w1 h).2.2.1 (HT.out w1 h))))
 have hk := hk.drew
 clear d0 d1 d2 hcell
 first | (go_region_held3 (fun w' => w'.cell? ⟨w.heap.size, 0, none⟩ = some (.bool neg) ∧ w'.cell? ⟨w.heap.size, 1, none⟩ = some (.int .i8 s) ∧ w'.cell? ⟨w.heap.size, 2, none⟩ = some (.int .u64 c) ∧ w'.cell? ⟨3, s, none⟩ = some (.int .u64 T)) (first | with_reducible exact HSS.out _ hk) (first | (go_at_call 60; refine (HS.out _).mono ?_; intro e w1 h; obtain ⟨he1, hc1⟩ := h; subst he1; replace hk := hk.trans hc1 sb_; clear hc1))) | fail
 all_goals (go_wp2_with fail; go_ret; exact ⟨rfl, HC0.out.trans hk sb_⟩)
def RowB (w : World) (b : Nat) (xs : List Int) : Prop := w.heap[b]? = some (.cells (xs.map (Value.int .u8)).toArray 5 (0, 0))
theorem RowB.cell {w : World} {b : Nat} {xs : List Int} (h : RowB w b xs) {i : Nat} (hi : i < xs.length) : w.cell? ⟨b, i, none⟩ = some (.int .u8 (xs.getD i 0)) := by
 unfold RowB at h
 simp [World.cell?, h, hi]
theorem RowB.free {w : World} {b : Nat} {xs : List Int} (h : RowB w b xs) (i : Nat) : w.frozen? ⟨b, i, none⟩ = false := by
 unfold RowB at h
 simp [World.frozen?, h]
theorem RowB.lt {w : World} {b : Nat} {xs : List Int} (h : RowB w b xs) : b < w.heap.size := (Array.getElem?_eq_some_iff.1 h).1
theorem RowB.kept {S : Nat → Prop} {w w' : World} {b : Nat} {xs : List Int} (h : RowB w b xs) (hc : Chg S w w') (hb : ¬ S b) : RowB w' b xs := (hc.keep b h.lt hb).trans h
theorem RowB.set {w : World} {b : Nat} {xs : List Int} (h : RowB w b xs) (i : Nat) (v : Int) : RowB (w.setCell ⟨b, i, none⟩ (.int .u8 v)) b (xs.set i v) := by
 unfold RowB at h ⊢
 simp [World.setCell, Array.getElem?_modify, h, List.map_set]
theorem RowB.put {w : World} {b : Nat} {A S : List Int} {x : Int} (h : RowB w b (A ++ x :: S)) (v : Int) : RowB (w.setCell ⟨b, A.length, none⟩ (.int .u8 v)) b (A ++ v :: S) := by
 have := h.set A.length v
 rwa [show (A ++ x :: S).set A.length v = A ++ v :: S by simp] at this
end Go.Proofs.YtlbjjhecgceiaaaGreatDoor
namespace Go.Proofs.YtlbjjhecgceiaaaGreatDoor
open Go.RowKit Go.Lib
set_option linter.unusedVariables false
set_option linter.unusedSimpArgs false
set_option maxRecDepth 20000
theorem cell6 {w1 : World} {z : Nat} {x0 x1 x2 x3 x4 x5 : Value} {T : TypeId} (hh : w1.heap[z]? = some (.cells #[x0, x1, x2, x3, x4, x5] T (0, 0))) :
  w1.cell? ⟨z, 0, none⟩ = some x0 ∧ w1.cell? ⟨z, 1, none⟩ = some x1 ∧ w1.cell? ⟨z, 2, none⟩ = some x2 ∧ w1.cell? ⟨z, 3, none⟩ = some x3 ∧ w1.cell? ⟨z, 4, none⟩ = some x4 ∧ w1.cell? ⟨z, 5, none⟩ = some x5 := by
 refine ⟨?_, ?_, ?_, ?_, ?_, ?_⟩ <;> simp [World.cell?, hh]
def Zz (w : World) (b : Nat) (hp hw : Bool) (p wd : Int) (fl : List Int) (out : Value) : Prop :=
 w.heap[b]? = some (.cells #[.bool hp, .bool hw, .int .i64 p, .int .i64 wd, .string (strOfNums fl), out] 123 (0, 0))
theorem Precision_any {w : World} {b : Nat} {hp hw : Bool} {p wd : Int} {fl : List Int} {out : Value} (h : Zz w b hp hw p wd fl out) :
  Calls Tryz.prog 93 #[.pointer (some ⟨b, 0, none⟩)] w (fun e w' => e = .returned (.tuple #[.int .i64 p, .bool hp]) ∧ Chg (fun _ => False) w w') := by
 obtain ⟨c0, c1, c2, c3, c4, c5⟩ := cell6 h
 clear h
 have HC : Hid (Chg (fun _ => False) w w.drew) := (Chg.refl _ _).drew
 go_enter Tryz.func93, Tryz.ntmps93
 go_wp2_with fail
 go_region
 all_goals (go_wp2_with fail; go_ret2; exact ⟨rfl, HC.out⟩)
theorem Width_any {w : World} {b : Nat} {hp hw : Bool} {p wd : Int} {fl : List Int} {out : Value} (h : Zz w b hp hw p wd fl out) :
  Calls Tryz.prog 98 #[.pointer (some ⟨b, 0, none⟩)] w (fun e w' => e = .returned (.tuple #[.int .i64 wd, .bool hw]) ∧ Chg (fun _ => False) w w') := by
 obtain ⟨c0, c1, c2, c3, c4, c5⟩ := cell6 h
 clear h
 have HC : Hid (Chg (fun _ => False) w w.drew) := (Chg.refl _ _).drew
 go_enter Tryz.func98, Tryz.ntmps98
 go_wp2_with fail
 go_region
 all_goals (go_wp2_with fail; go_ret2; exact ⟨rfl, HC.out⟩)
theorem son_nth {fl : List Int} (hf : Bys fl) {k : Nat} (hk : k < (strOfNums fl).size) : (((strOfNums fl)[k]'hk).toNat : Int) = fl.getD k 0 := by
 have hl : k < fl.length := by rwa [strOfNums_size] at hk
 have h1 := son_get hl
 rw [getElem?_pos (strOfNums fl) k hk] at h1
 rw [Option.some.inj h1, son_byte]
 ·have := hf (fl.getD k 0) (by rw [List.getD_eq_getElem?_getD, List.getElem?_eq_getElem hl]; exact List.getElem_mem _); exact this.1
 ·have := hf (fl.getD k 0) (by rw [List.getD_eq_getElem?_getD, List.getElem?_eq_getElem hl]; exact List.getElem_mem _); exact this.2
theorem Flag_any {w : World} {b : Nat} {hp hw : Bool} {p wd : Int} {fl : List Int} {out : Value} (h : Zz w b hp hw p wd fl out) (hf : Bys fl) (hl : fl.length < 4611686018427387904) (c : Int) :
  Calls Tryz.prog 97 #[.pointer (some ⟨b, 0, none⟩), .int .i64 c] w (fun e w' => e = .returned (.bool (decide (c ∈ fl))) ∧ w = w') := by
 obtain ⟨c0, c1, c2, c3, c4, c5⟩ := cell6 h
 clear h c0 c1 c2 c3 c5
 obtain ⟨L, hL⟩ : ∃ L, fl.length = L := ⟨_, rfl⟩
 have hsz : (strOfNums fl).size = L := by rw [strOfNums_size, hL]
 have HN := hid (fun k (hk : k < (strOfNums fl).size) => son_nth hf hk)
 generalize strOfNums fl = s at *
 have HL := hid hL
 have hgo : goInt s.size = .int .i64 L := by rw [hsz]; rfl
 rw [hL] at hl
 clear hL hf
 go_enter Tryz.func97, Tryz.ntmps97
 go_wp2_with fail
 go_loopw [5] (fun i wr => ∃ k : Nat, k ≤ L ∧ i = .int .i64 k ∧ Hid (c ∉ fl.take k) ∧ w = wr) (fun i _ => L - (RowKit.intOf i).toNat)
 case atStart => exact ⟨0, Nat.zero_le _, rfl, by simp [Hid], rfl⟩
 case round =>
  obtain ⟨k, hk, rfl, hno, rfl⟩ := hrel
  by_cases hlt : k < L
  ·have h1 : (k : Int) < (L : Int) := by omega
   have h0 : (0 : Int) ≤ (k : Int) := by omega
   have h2 : (k : Int) < (s.size : Int) := by omega
   have hn : k < s.size := by omega
   have hy := HN.out k hn
   have hinc : IntKind.i64.wrap ((k : Int) + 1) = (k : Int) + 1 := IntWalk.i64_in _ (by omega)
   have HT := hid (show fl.take (k + 1) = fl.take k ++ [fl.getD k 0] by
    have : k < fl.length := by rw [HL.out]; exact hlt
    rw [List.take_add_one, List.getD_eq_getElem?_getD, List.getElem?_eq_getElem this]; rfl)
   have HM := hid (show fl.getD k 0 ∈ fl by
    have : k < fl.length := by rw [HL.out]; exact hlt
    rw [List.getD_eq_getElem?_getD, List.getElem?_eq_getElem this]; exact List.getElem_mem _)
   generalize fl.getD k 0 = y at *
   have hwy : IntKind.i64.wrap y = y := by rw [← hy]; exact IntWalk.i64_in _ (by have := (s[k]'hn).toNat_lt; omega)
   by_cases hc : y = c
   ·have hb : (y == y) = true := beq_self_eq_true _
    subst hc
    have HR := hid (show decide (y ∈ fl) = true from decide_eq_true HM.out)
    go_wp2_with fail
    go_ret
    exact ⟨by rw [HR.out]; rfl, rfl⟩
   ·have hb : (y == c) = false := beq_eq_false_iff_ne.2 hc
    have HQ : Hid (¬ c = y) := fun e => hc e.symm
    clear hc
    go_wp2_with fail
    go_roundw
    case rel =>
     refine ⟨k + 1, hlt, by rw [show ((k + 1 : Nat) : Int) = (k : Int) + 1 by omega], ?_, (by first | rfl | trivial)⟩
     show c ∉ fl.take (k + 1)
     rw [HT.out, List.mem_append, List.mem_singleton]
     exact fun e => e.elim hno HQ.out
    case measure => simp [RowKit.intOf]; omega
  ·have hge : ¬ (k : Int) < (L : Int) := by omega
   have HR := hid (show decide (c ∈ fl) = false from decide_eq_false (by
    have e : fl.take k = fl := List.take_of_length_le (by rw [HL.out]; omega)
    have := hno.out
    rwa [e] at this))
   go_wp2_with fail
   go_ret
   exact ⟨by rw [HR.out]; rfl, rfl⟩
theorem byte_info : (Tryz.prog.info? 5).map (fun i => (i.zero, i.size, i.bytes)) = some (some (.int .u8 0), 1, 1) := by kernel_rfl
theorem Zz.put {w : World} {b : Nat} {hp hw : Bool} {p wd : Int} {fl : List Int} {out : Value} (h : Zz w b hp hw p wd fl out) (v : Value) : Zz (w.setCell ⟨b, 5, none⟩ v) b hp hw p wd fl v := by
 unfold Zz at h ⊢
 simp [World.setCell, Array.getElem?_modify, h]
theorem Zz.kept {w w1 : World} {b : Nat} {hp hw : Bool} {p wd : Int} {fl : List Int} {out : Value} {S : Nat → Prop} (h : Zz w b hp hw p wd fl out) (hc : Chg S w w1) (hb : ¬ S b) : Zz w1 b hp hw p wd fl out :=
 (hc.keep b (Array.getElem?_eq_some_iff.1 h).1 hb).trans h
theorem owns_set {w : World} {base : Nat} {e : TypeId} {v : Value} {n : Nat} {xs : List Value} (h : w.ownsRow base e 1 v n xs) {b : Nat} (hb : b < base) (i : Nat) (u : Value) : (w.setCell ⟨b, i, none⟩ u).ownsRow base e 1 v n xs :=
 h.kept (row := some b) ⟨rfl, rfl, rfl, by simp [World.setCell], fun k hk hn => Below.heap_setCell _ _ _ _ (by simpa using fun e => hn (by rw [e]))⟩ (by
  by_cases hv : v.ownBlock = none
  ·exact Or.inl hv
  ·refine Or.inr fun e => ?_
   have := (h.lt b e).1
   omega)
theorem owns_slice {w : World} {base : Nat} {e : TypeId} {size : Nat} {v : Value} {n : Nat} {xs : List Value} (h : w.ownsRow base e size v n xs) : ∃ D cap, v = Value.slice D n cap := by
 rcases h.2 with ⟨rfl, h0⟩ | ⟨g, cap, cur, rfl, _⟩
 ·exact ⟨none, 0, by rw [h0]⟩
 ·exact ⟨_, _, rfl⟩
set_option maxHeartbeats 1000000 in
theorem Write_any {w : World} {b : Nat} {hp hw : Bool} {p wd : Int} {fl : List Int} {B m c : Nat} {xs : List Int} (h : Zz w b hp hw p wd fl (.slice none 0 0)) (hB : RowB w B xs) (hm : xs.length = m) (hm2 : m ≤ 1000000) :
  Calls Tryz.prog 99 #[.pointer (some ⟨b, 0, none⟩), .slice (some ⟨B, 0, none⟩) m c] w (fun e w' => (∃ v, e = .returned v) ∧ ∃ v', w'.ownsRow w.heap.size 5 1 v' m (xs.map (Value.int .u8)) ∧ Zz w' b hp hw p wd fl v' ∧ Chg (· = b) w w') := by
 obtain ⟨c0, c1, c2, c3, c4, c5⟩ := cell6 h
 have HZ := hid h
 have hlt : b < w.heap.size := (Array.getElem?_eq_some_iff.1 h).1
 have HC := hid (fun j u (hj : (xs.map (Value.int .u8))[j]? = some u) => show w.cell? ((⟨B, 0, none⟩ : Addr).add j) = some u by
  rw [show (⟨B, 0, none⟩ : Addr).add j = ⟨B, j, none⟩ by unfold Addr.add; split <;> simp_all]
  rw [List.getElem?_map] at hj
  have hl : j < xs.length := by
   rcases Nat.lt_or_ge j xs.length with h | h
   ·exact h
   ·rw [List.getElem?_eq_none h] at hj; simp at hj
  rw [List.getElem?_eq_getElem hl] at hj
  simp only [Option.map_some, Option.some.injEq] at hj
  subst hj
  have := hB.cell hl
  rw [List.getD_eq_getElem?_getD, List.getElem?_eq_getElem hl] at this
  exact this)
 obtain ⟨i0, hi0, hz0, hz1, hz2⟩ := info_parts byte_info
 have HL := hid (show (xs.map (Value.int .u8)).length = m * 1 by simp [hm])
 clear h hB hm c0 c1 c2 c3 c4
 go_enter Tryz.func99, Tryz.ntmps99
 go_wp2_with (first | (at_builtin; refine wpList_append_own _ rfl _ _ 117 rfl w.heap.size 5 i0 (.int .u8 0) 1 1 Tryz.underlying117 hi0 hz0 hz1 hz2 rfl (by decide) (.slice none 0 0) 0 [] rfl (World.ownsRow_nil _ _ _ _) ⟨B, 0, none⟩ m c (xs.map (Value.int .u8)) rfl HL.out HC.out (fun x hx => by obtain ⟨y, _, rfl⟩ := List.mem_map.1 hx; rfl) (by unfold maxLen; omega) (by omega) (Nat.le_refl _) ?_; intro v' w3 hown hgrow hnil; obtain ⟨D, cap, hv⟩ := owns_slice hown; subst hv; have hz3 := (hgrow.block b hlt (by simp [Value.ownBlock])).trans HZ.out; obtain ⟨c0, c1, c2, c3, c4, c5⟩ := cell6 hz3; have hfz : w3.frozen? ⟨b, 5, none⟩ = false := (by simp [World.frozen?, hz3]); have X := hid (And.intro hown (And.intro hz3 (show Chg (fun _ => False) w w3 from ⟨hgrow.os, hgrow.tape, hgrow.output, hgrow.size, fun k hk _ => hgrow.block k hk (by simp [Value.ownBlock])⟩))); clear hown hgrow hnil hz3 c0 c1 c2 c3 c4))
 go_ret2
 obtain ⟨ho, hz, hc⟩ := X.out
 have hc2 : Chg (· = b) w w3 := ⟨hc.os, hc.tape, hc.output, hc.size, fun k hk hn => hc.keep k hk (fun h => h)⟩
 refine ⟨⟨_, rfl⟩, _, ?_, Zz.put hz _, hc2.setCell (fun _ => rfl) _⟩
 have := ho
 simp only [Nat.zero_add, List.nil_append] at this
 exact owns_set this hlt _ _
end Go.Proofs.YtlbjjhecgceiaaaGreatDoor
namespace Go.Proofs.YtlbjjhecgceiaaaGreatDoor
set_option linter.unusedVariables false
set_option linter.unusedSimpArgs false
theorem db_digs (c : Nat) : (db c).length = digs c := by
 have h1 : (db c).length ≤ digs c := (db_length _ _).2 (digs_le.1 (Nat.le_refl _))
 have h2 : digs c ≤ (db c).length := digs_le.2 ((db_length _ _).1 (Nat.le_refl _))
 omega
theorem dk_zero : ∀ n : Nat, dk n 0 = List.replicate n 48
 | 0 => rfl
 | n + 1 => by show (48 + (0 % 10 : Nat) : Int) :: dk n (0 / 10) = _; rw [show 0 / 10 = 0 from rfl, dk_zero n]; rfl
theorem dk_pad : ∀ (n c : Nat), c < 10 ^ n → dk n c = db c ++ List.replicate (n - (db c).length) 48
 | 0, c, h => by
  obtain rfl : c = 0 := by simpa using h
  rw [db_zero]; rfl
 | n + 1, c, h => by
  by_cases h0 : c = 0
  ·subst h0; rw [db_zero, dk_zero]; rfl
  ·have e := dk_pad n (c / 10) (by rw [Nat.pow_succ] at h; omega)
   rw [db_pos h0]
   show (48 + (c % 10 : Nat) : Int) :: dk n (c / 10) = _
   rw [e, List.length_cons, show n + 1 - ((db (c / 10)).length + 1) = n - (db (c / 10)).length by omega]
   rfl
theorem dk_db {c : Nat} : dk (db c).length c = db c := by
 rw [dk_pad _ _ ((db_length c _).1 (Nat.le_refl _)), Nat.sub_self]
 simp
theorem dk_app : ∀ (a b c : Nat), dk (a + b) c = dk a c ++ dk b (c / 10 ^ a)
 | 0, b, c => by rw [Nat.zero_add, Nat.pow_zero, Nat.div_one]; rfl
 | a + 1, b, c => by
  rw [show a + 1 + b = (a + b) + 1 by omega]
  show (48 + (c % 10 : Nat) : Int) :: dk (a + b) (c / 10) = (48 + (c % 10 : Nat) : Int) :: (dk a (c / 10) ++ dk b (c / 10 ^ (a + 1)))
  rw [dk_app a b, Nat.div_div_eq_div_mul, Nat.mul_comm 10, ← Nat.pow_succ]
theorem dk_low : ∀ (z c : Nat), dk z (c * 10 ^ z) = List.replicate z 48
 | 0, c => rfl
 | z + 1, c => by
  show (48 + (c * 10 ^ (z + 1) % 10 : Nat) : Int) :: dk z (c * 10 ^ (z + 1) / 10) = _
  rw [Nat.pow_succ, ← Nat.mul_assoc, Nat.mul_mod_left, Nat.mul_div_cancel _ (by omega : 0 < 10), dk_low z c]
  rfl
def plainT (C P : Nat) : List Int := dtx (C / 10 ^ P) ++ (if P = 0 then [] else 46 :: (dk P C).reverse)
theorem dtx_len (c : Nat) : (dtx c).length = if c = 0 then 1 else (db c).length := by unfold dtx; split <;> simp
theorem plain_pad {C P : Nat} (hP : 0 < P) :
  (List.replicate (P + 1 - (dtx C).length) 48 ++ dtx C : List Int) = dtx (C / 10 ^ P) ++ (dk P C).reverse := by
 by_cases hq : C / 10 ^ P = 0
 ·have hlt : C < 10 ^ P := by
   rcases Nat.lt_or_ge C (10 ^ P) with h | h
   ·exact h
   ·have := Nat.div_pos h (Nat.pow_pos (by omega)); omega
  rw [hq]
  show _ = [48] ++ (dk P C).reverse
  by_cases h0 : C = 0
  ·subst h0
   rw [dk_zero, List.reverse_replicate]
   show List.replicate (P + 1 - 1) 48 ++ [48] = [48] ++ List.replicate P 48
   rw [Nat.add_sub_cancel, ← List.replicate_succ', List.replicate_succ]
   rfl
  ·have hl : (db C).length ≤ P := (db_length _ _).2 hlt
   have hd : (dtx C).length = (db C).length := by rw [dtx_len, if_neg h0]
   rw [hd, dk_pad P C hlt, List.reverse_append, List.reverse_replicate]
   unfold dtx
   rw [if_neg h0, show P + 1 - (db C).length = (P - (db C).length) + 1 by omega, List.replicate_succ]
   simp
 ·have h0 : C ≠ 0 := fun e => hq (by rw [e, Nat.zero_div])
  have e := db_split P C hq
  have hl : P < (db C).length := by
   have h1 := congrArg List.length e
   rw [List.length_append, dk_len] at h1
   have h2 : 0 < (db (C / 10 ^ P)).length := by rw [db_pos hq]; simp
   omega
  have hd : (dtx C).length = (db C).length := by rw [dtx_len, if_neg h0]
  rw [hd, show P + 1 - (db C).length = 0 by omega, List.replicate_zero, List.nil_append]
  unfold dtx
  rw [if_neg h0, if_neg hq, e, List.reverse_append]
theorem plain_cut {C P : Nat} (hP : 0 < P) (D : List Int) (hD : D = List.replicate (P + 1 - (dtx C).length) 48 ++ dtx C) :
  P < D.length ∧ D.take (D.length - P) ++ 46 :: D.drop (D.length - P) = plainT C P := by
 rw [plain_pad hP] at hD
 have hl : D.length = (dtx (C / 10 ^ P)).length + P := by rw [hD, List.length_append, List.length_reverse, dk_len]
 have h1 : 0 < (dtx (C / 10 ^ P)).length := by
  rw [dtx_len]
  split
  ·omega
  ·next h => rw [db_pos h]; simp
 refine ⟨by omega, ?_⟩
 rw [hl, Nat.add_sub_cancel, hD, List.take_left, List.drop_left]
 unfold plainT
 rw [if_neg (by omega)]
theorem plain_pkg (c s z : Nat) :
  plainT (c * 10 ^ z) (s + z) = (dk (if s < digs c then digs c - s else 1) (c / 10 ^ s)).reverse ++ (if s + z = 0 then [] else 46 :: ((dk s c).reverse ++ List.replicate z 48)) := by
 have e1 : c * 10 ^ z / 10 ^ (s + z) = c / 10 ^ s := by
  rw [Nat.pow_add, Nat.mul_div_mul_right _ _ (Nat.pow_pos (by omega))]
 have e2 : dk (s + z) (c * 10 ^ z) = List.replicate z 48 ++ dk s c := by
  rw [Nat.add_comm s z, dk_app, dk_low, Nat.mul_div_cancel _ (Nat.pow_pos (by omega))]
 have e3 : dtx (c / 10 ^ s) = (dk (if s < digs c then digs c - s else 1) (c / 10 ^ s)).reverse := by
  by_cases h : s < digs c
  ·have hq : c / 10 ^ s ≠ 0 := by
    have := digs_lt.1 h
    have := Nat.div_pos this (Nat.pow_pos (by omega : 0 < 10))
    omega
   have hl : digs c - s = (db (c / 10 ^ s)).length := by
    have h1 := congrArg List.length (db_split s c hq)
    rw [List.length_append, dk_len, db_digs] at h1
    omega
   rw [if_pos h, hl, dk_db]
   unfold dtx
   rw [if_neg hq]
  ·have hq : c / 10 ^ s = 0 := Nat.div_eq_of_lt (digs_le.1 (by omega))
   rw [if_neg h, hq]
   rfl
 unfold plainT
 rw [e1, e2, e3, List.reverse_append, List.reverse_replicate]
def sgT (fl : List Int) (neg : Bool) : List Int := if neg = true then [45] else if (43 : Int) ∈ fl then [43] else if (32 : Int) ∈ fl then [32] else []
def fillT (fl : List Int) (wd : Int) (sg X : List Int) : List Int :=
 let Z := if (48 : Int) ∈ fl ∧ (45 : Int) ∉ fl then List.replicate (wd - (sg.length + X.length : Nat)).toNat 48 else []
 if (45 : Int) ∈ fl then sg ++ Z ++ X ++ List.replicate (wd - (sg ++ Z ++ X).length).toNat 32 else List.replicate (wd - (sg ++ Z ++ X).length).toNat 32 ++ (sg ++ Z ++ X)
def FillR (fl : List Int) (hw : Bool) (wd : Int) (n tsp lz lsp : Nat) : Prop :=
 if hw = true ∧ (n : Int) < wd then
  (if (45 : Int) ∈ fl then (n + tsp : Nat) = wd ∧ lz = 0 ∧ lsp = 0 else if (48 : Int) ∈ fl then tsp = 0 ∧ (n + lz : Nat) = wd ∧ lsp = 0 else tsp = 0 ∧ lz = 0 ∧ (n + lsp : Nat) = wd)
 else tsp = 0 ∧ lz = 0 ∧ lsp = 0
theorem fill_eq {fl : List Int} {hw : Bool} {wd : Int} {sg X : List Int} {tsp lz lsp : Nat} (h0 : hw = true ∨ wd ≤ 0) (h : FillR fl hw wd (sg.length + X.length) tsp lz lsp) :
  List.replicate lsp 32 ++ (sg ++ (List.replicate lz 48 ++ (X ++ List.replicate tsp 32))) = fillT fl wd sg X := by
 unfold FillR at h
 unfold fillT
 by_cases hc : hw = true ∧ ((sg.length + X.length : Nat) : Int) < wd
 ·rw [if_pos hc] at h
  obtain ⟨-, hc⟩ := hc
  by_cases h45 : (45 : Int) ∈ fl
  ·rw [if_pos h45] at h
   obtain ⟨h1, rfl, rfl⟩ := h
   have e : (wd - (sg.length + X.length : Nat)).toNat = tsp := by omega
   simp [h45, ← h1]
   congr 1
   omega
  ·rw [if_neg h45] at h
   by_cases h48 : (48 : Int) ∈ fl
   ·rw [if_pos h48] at h
    obtain ⟨rfl, h1, rfl⟩ := h
    have e : (wd - (sg.length + X.length : Nat)).toNat = lz := by omega
    simp only [h45, h48, e, not_false_eq_true, and_self, if_true, if_false]
    have e2 : (wd - (sg ++ List.replicate lz 48 ++ X).length).toNat = 0 := by simp only [List.length_append, List.length_replicate]; omega
    rw [e2]
    simp
   ·rw [if_neg h48] at h
    obtain ⟨rfl, rfl, h1⟩ := h
    have e : (wd - (sg ++ [] ++ X).length).toNat = lsp := by simp only [List.length_append, List.length_nil]; omega
    simp only [h45, h48, e, false_and, if_false]
    simp
 ·rw [if_neg hc] at h
  obtain ⟨rfl, rfl, rfl⟩ := h
  have hle : wd ≤ ((sg.length + X.length : Nat) : Int) := by
   rcases h0 with h0 | h0
   ·by_cases h1 : ((sg.length + X.length : Nat) : Int) < wd
    ·exact absurd ⟨h0, h1⟩ hc
    ·omega
   ·omega
  have e : (wd - (sg.length + X.length : Nat)).toNat = 0 := by omega
  rw [e]
  simp only [List.replicate_zero, ite_self]
  have e2 : (wd - (sg ++ [] ++ X).length).toNat = 0 := by simp only [List.length_append, List.length_nil]; omega
  rw [e2]
  simp
def fmA (c s : Nat) : Option Nat → Nat × Nat
 | none => (c, s)
 | some p => (rhe (c * 10 ^ p) (10 ^ s), p)
def FmtR (nb : Bool) (c s : Nat) (o : Option Nat) (n2 : Bool) (c2 s2 tz : Nat) : Prop :=
 s2 ≤ 19 ∧ c2 < 10 ^ 19 ∧ tz ≤ 400 ∧ c2 * 10 ^ tz = (fmA c s o).1 ∧ s2 + tz = (fmA c s o).2 ∧ n2 = (nb && (fmA c s o).1 != 0)
theorem fmR_none {nb : Bool} {c s : Nat} (hc : c < 10 ^ 19) (hs : s ≤ 19) (hn : (nb && c != 0) = nb) : FmtR nb c s none nb c s 0 :=
 ⟨hs, hc, by omega, by rw [Nat.pow_zero, Nat.mul_one]; rfl, rfl, hn.symm⟩
theorem fm_pow (k : Nat) : 0 < 10 ^ k := Nat.pow_pos (by omega)
theorem fmR_less {nb : Bool} {c s p : Nat} (hc : c < 10 ^ 19) (hs : s ≤ 19) (hp : p < s) : FmtR nb c s (some p) (nb && rhe c (10 ^ (s - p)) != 0) (rhe c (10 ^ (s - p))) p 0 := by
 have e : rhe c (10 ^ (s - p)) = rhe (c * 10 ^ p) (10 ^ s) := by
  rw [show (10 : Nat) ^ s = 10 ^ (s - p) * 10 ^ p by rw [← Nat.pow_add]; congr 1; omega]
  exact (rhe_scale (fm_pow _) (fm_pow _)).symm
 refine ⟨by omega, ?_, by omega, by rw [Nat.pow_zero, Nat.mul_one]; exact e, rfl, by rw [e]; rfl⟩
 have h1 : rhe c (10 ^ (s - p)) ≤ c / 10 ^ (s - p) + 1 := by unfold rhe; split <;> omega
 have h2 : c / 10 ^ (s - p) ≤ c / 10 := by
  obtain ⟨j, hj⟩ : ∃ j, s - p = j + 1 := ⟨s - p - 1, by omega⟩
  rw [hj, Nat.pow_succ, Nat.mul_comm, ← Nat.div_div_eq_div_mul]
  exact Nat.div_le_self _ _
 have : (10 : Nat) ^ 19 = 10000000000000000000 := by decide
 omega
theorem fmR_more {nb : Bool} {c s p : Nat} (hc : c < 10 ^ 19) (hs : s ≤ 19) (hn : (nb && c != 0) = nb) (hp : s ≤ p) (hp4 : p ≤ 400) : FmtR nb c s (some p) nb c s (p - s) := by
 have e : c * 10 ^ (p - s) = rhe (c * 10 ^ p) (10 ^ s) := by
  rw [show (10 : Nat) ^ p = 10 ^ (p - s) * 10 ^ s by rw [← Nat.pow_add]; congr 1; omega, ← Nat.mul_assoc]
  exact (rhe_exact (fm_pow _)).symm
 refine ⟨hs, hc, by omega, e, by show s + (p - s) = p; omega, ?_⟩
 show nb = (nb && rhe (c * 10 ^ p) (10 ^ s) != 0)
 rw [← e]
 cases nb with
 | false => rfl
 | true =>
  rw [Bool.true_and] at hn ⊢
  have h0 : c ≠ 0 := bne_iff_ne.1 hn
  exact (bne_iff_ne.2 (Nat.mul_ne_zero h0 (Nat.ne_of_gt (fm_pow _)))).symm
def idg (c s : Nat) : Nat := if s < digs c then digs c - s else 1
def bodyT (c2 s2 tz : Nat) : List Int := (dk (idg c2 s2) (c2 / 10 ^ s2)).reverse ++ (if s2 + tz = 0 then [] else 46 :: ((dk s2 c2).reverse ++ List.replicate tz 48))
theorem body_eq {nb n2 : Bool} {c s c2 s2 tz : Nat} {o : Option Nat} (h : FmtR nb c s o n2 c2 s2 tz) : bodyT c2 s2 tz = plainT (fmA c s o).1 (fmA c s o).2 := by
 obtain ⟨_, _, _, h1, h2, _⟩ := h
 rw [← h1, ← h2, plain_pkg]
 rfl
theorem idg_le {c s : Nat} (hc : c < 10 ^ 19) : idg c s ≤ 19 ∧ 1 ≤ idg c s := by
 have := digs_le.2 hc
 unfold idg
 split <;> omega
theorem body_len {c2 s2 tz : Nat} : (bodyT c2 s2 tz).length = idg c2 s2 + (if s2 + tz = 0 then 0 else 1) + s2 + tz := by
 unfold bodyT
 rw [List.length_append, List.length_reverse, dk_len]
 split
 ·rw [List.length_nil]; omega
 ·rw [List.length_cons, List.length_append, List.length_reverse, dk_len, List.length_replicate]; omega
theorem fm_final {nb n2 : Bool} {c s c2 s2 tz tsp lz lsp RS IG DP : Nat} {o : Option Nat} {fl sg T : List Int} {hw : Bool} {wd : Int} (hR : FmtR nb c s o n2 c2 s2 tz) (hsg : sgT fl n2 = sg) (hRS : sg.length = RS) (hIG : idg c2 s2 = IG) (hDP : (if s2 + tz = 0 then 0 else 1) = DP)
  (hww : hw = true ∨ wd ≤ 0) (hFi : FillR fl hw wd (RS + IG + DP + s2 + tz) tsp lz lsp) (hT : fillT fl wd (sgT fl (nb && (fmA c s o).1 != 0)) (plainT (fmA c s o).1 (fmA c s o).2) = T) :
  List.replicate lsp 32 ++ (sg ++ (List.replicate lz 48 ++ ((dk IG (c2 / 10 ^ s2)).reverse ++ (List.replicate DP 46 ++ ((dk s2 c2).reverse ++ (List.replicate tz 48 ++ (List.replicate tsp 32 ++ []))))))) = T := by
 have hb := body_eq hR
 have hn : n2 = (nb && (fmA c s o).1 != 0) := hR.2.2.2.2.2
 rw [← hb, ← hn, hsg] at hT
 rw [← hT, ← fill_eq (tsp := tsp) (lz := lz) (lsp := lsp) hww (by rw [body_len, hRS, hIG, hDP, show RS + (IG + DP + s2 + tz) = RS + IG + DP + s2 + tz by omega]; exact hFi)]
 congr 3
 unfold bodyT
 rw [hIG, ← hDP]
 by_cases h0 : s2 + tz = 0
 ·have e1 : s2 = 0 := by omega
  have e2 : tz = 0 := by omega
  subst e1 e2
  simp [dk]
 ·rw [if_neg h0, if_neg h0]
  simp [List.replicate_succ]
theorem plain_head (C P : Nat) : ∃ x X, plainT C P = x :: X ∧ 48 ≤ x ∧ x ≤ 57 := by
 have hb := dtx_bytes (C / 10 ^ P)
 have hd : ∃ x X, dtx (C / 10 ^ P) = x :: X ∧ 48 ≤ x ∧ x ≤ 57 := by
  cases hr : dtx (C / 10 ^ P) with
  | nil =>
   have := congrArg List.length hr
   rw [dtx_len] at this
   split at this
   ·simp at this
   ·next h => rw [db_pos h] at this; simp at this
  | cons x X => exact ⟨x, X, rfl, hb x (by rw [hr]; exact List.mem_cons_self)⟩
 obtain ⟨x, X, e, h⟩ := hd
 exact ⟨x, X ++ (if P = 0 then [] else 46 :: (dk P C).reverse), by unfold plainT; rw [e]; rfl, h⟩
end Go.Proofs.YtlbjjhecgceiaaaGreatDoor
namespace Go.Proofs.YtlbjjhecgceiaaaGreatDoor
open Go.RowKit
set_option linter.unusedVariables false
set_option linter.unusedSimpArgs false
set_option maxRecDepth 20000
def Fm0 (w : World) (n2 : Bool) (c2 s2 : Nat) (wx : World) : Prop :=
 wx.heap[w.heap.size]? = some (.cells #[.bool n2, .int .i8 (s2 : Int), .int .u64 (c2 : Int)] 65 (0, 0)) ∧ Chg (fun _ => False) w wx
theorem Fm0.same {w wx wy : World} {n2 : Bool} {c2 s2 : Nat} (h : Fm0 w n2 c2 s2 wx) (hc : Chg (fun _ => False) wx wy) : Fm0 w n2 c2 s2 wy := ⟨kept_heap hc h.1, h.2.trans hc sb_⟩
theorem Fm0.cells {w wx : World} {n2 : Bool} {c2 s2 : Nat} (h : Fm0 w n2 c2 s2 wx) : wx.cell? ⟨w.heap.size, 0, none⟩ = some (.bool n2) ∧ wx.cell? ⟨w.heap.size, 1, none⟩ = some (.int .i8 (s2 : Int)) ∧ wx.cell? ⟨w.heap.size, 2, none⟩ = some (.int .u64 (c2 : Int)) ∧
  wx.frozen? ⟨w.heap.size, 0, none⟩ = false ∧ wx.frozen? ⟨w.heap.size, 1, none⟩ = false ∧ wx.frozen? ⟨w.heap.size, 2, none⟩ = false := cell3 h.1
theorem Fm0.store {w wx : World} {n2 n3 : Bool} {c2 s2 c3 s3 : Nat} (h : Fm0 w n2 c2 s2 wx) :
  Fm0 w n3 c3 s3 (((wx.setCell ⟨w.heap.size, 0, none⟩ (.bool n3)).setCell ⟨w.heap.size, 1, none⟩ (.int .i8 (s3 : Int))).setCell ⟨w.heap.size, 2, none⟩ (.int .u64 (c3 : Int))) :=
 ⟨store3 h.1 _ _ _, chg3 h.2 (Nat.le_refl _) _ _ _⟩
structure FmB (w : World) (n2 : Bool) (c2 s2 B q : Nat) (S : List Int) (wx : World) : Prop where
 row : RowB wx B (List.replicate q 0 ++ S)
 old : Fm0 w n2 c2 s2 wx
 new : w.heap.size < B
theorem FmB.put {w wx : World} {n2 : Bool} {c2 s2 B q : Nat} {S : List Int} (h : FmB w n2 c2 s2 B (q + 1) S wx) (v : Int) : FmB w n2 c2 s2 B q (v :: S) (wx.setCell ⟨B, q, none⟩ (.int .u8 v)) := by
 have hr := h.row
 rw [List.replicate_succ', List.append_assoc] at hr
 have := RowB.put (A := List.replicate q 0) (S := S) (x := 0) hr v
 rw [List.length_replicate] at this
 have hn := h.new
 refine ⟨this, ⟨?_, h.old.2.setCell (fun e => by simp only at e; omega) _⟩, hn⟩
 rw [Below.heap_setCell _ _ _ _ (by simp only; omega)]
 exact h.old.1
theorem FmB.cell {w wx : World} {n2 : Bool} {c2 s2 B q : Nat} {S : List Int} (h : FmB w n2 c2 s2 B (q + 1) S wx) : wx.cell? ⟨B, q, none⟩ = some (.int .u8 0) ∧ wx.frozen? ⟨B, q, none⟩ = false := by
 refine ⟨?_, h.row.free q⟩
 have := h.row.cell (i := q) (by simp; omega)
 rw [this, List.getD_eq_getElem?_getD, List.getElem?_append_left (by simp)]
 simp
theorem FmB.same {w wr w1 : World} {n2 : Bool} {c2 s2 B q : Nat} {S : List Int} (h : FmB w n2 c2 s2 B q S wr) (hc : Chg (fun _ => False) wr w1) : FmB w n2 c2 s2 B q S w1 :=
 ⟨h.row.kept hc (fun h => h), h.old.same hc, h.new⟩
theorem FmB.start {w wx : World} {n2 : Bool} {c2 s2 : Nat} (h : Fm0 w n2 c2 s2 wx) (n : Nat) : FmB w n2 c2 s2 wx.heap.size n [] (wx.alloc (.cells (Array.replicate n (Value.int .u8 0)) 5)) := by
 have hlt := (Array.getElem?_eq_some_iff.1 h.1).1
 refine ⟨?_, h.same ((Chg.refl _ _).alloc _), hlt⟩
 unfold RowB
 rw [heap_alloc_new, List.append_nil, List.map_replicate, List.toArray_replicate]
theorem run_make_bytes (w : World) (n : Nat) (hn : n ≤ 1000000) :
  (Instr.makeSlice 117 (.int .i64 n) (.int .i64 n)).run Tryz.prog w = .ok (.slice (some ⟨w.heap.size, 0, none⟩) n n) (w.alloc (.cells (Array.replicate n (Value.int .u8 0)) 5)) := by
 obtain ⟨i0, hi0, hz0, hz1, hz2⟩ := info_parts byte_info
 have h := run_make (P := Tryz.prog) w 117 5 i0 (.int .u8 0) Tryz.underlying117 hi0 hz0 .i64 .i64 n n (by omega) (by omega) (by rw [hz2]; omega) (by omega)
 rw [h, hz1]
 have e : madeCells (Value.int .u8 0).cells n = Array.replicate n (Value.int .u8 0) := by
  apply Array.toList_inj.1
  rw [show (Value.int .u8 0).cells = #[Value.int .u8 0] from rfl, toList_madeCells_one, Array.toList_replicate]
 simp [e]
theorem DRound_nat (nb : Bool) (c s t : Nat) (hc : c < 10 ^ 19) (hs : s ≤ 19) (ht : t < s) (w : World) (he : EnvD w) :
  Calls Tryz.prog 94 #[.agg #[.bool nb, .int .i8 s, .int .u64 (c : Int)], .int .i64 t] w (PV w (.agg #[.bool (nb && rhe c (10 ^ (s - t)) != 0), .int .i8 (t : Int), .int .u64 ((rhe c (10 ^ (s - t)) : Nat) : Int)])) := by
 have h := DRound_less nb c s t hc hs ht w he
 have e1 : (10 : Int) ^ (s - t) = ((10 ^ (s - t) : Nat) : Int) := by rw [Int.natCast_pow]; rfl
 have e2 : (((rhe c (10 ^ (s - t)) : Nat) : Int) != 0) = (rhe c (10 ^ (s - t)) != 0) := by
  by_cases h0 : rhe c (10 ^ (s - t)) = 0
  ·rw [h0]; rfl
  ·rw [bne_iff_ne.2 h0, bne_iff_ne.2 (by omega : ((rhe c (10 ^ (s - t)) : Nat) : Int) ≠ 0)]
 rw [e1, rheI_nat, e2] at h
 exact h
theorem Within_nat (n : Bool) (c s : Nat) (hs : s ≤ 19) (w : World) (he : EnvD w) : Calls Tryz.prog 96 #[.agg #[.bool n, .int .i8 s, .int .u64 (c : Int)]] w (PV w (.bool (decide (c < 10 ^ s)))) := by
 have h := WithinOne_any n c s hs w he
 have e : decide ((c : Int) < 10 ^ s) = decide (c < 10 ^ s) := by
  have e1 : (10 : Int) ^ s = ((10 ^ s : Nat) : Int) := by rw [Int.natCast_pow]; rfl
  rw [e1]
  exact decide_eq_decide.2 Int.ofNat_lt
 rw [e] at h
 exact h
def PFm (b : Nat) (T : List Int) (w : World) (e : Ending) (w' : World) : Prop :=
 (∃ v, e = .returned v) ∧ ∃ D cap, w'.cell? ⟨b, 5, none⟩ = some (.slice (some ⟨D, 0, none⟩) T.length cap) ∧ (∀ i, i < T.length → w'.cell? ⟨D, i, none⟩ = some (.int .u8 (T.getD i 0))) ∧ Chg (· = b) w w'
theorem own_cells {w : World} {base m : Nat} {v : Value} {xs : List Int} (h : w.ownsRow base 5 1 v m (xs.map (Value.int .u8))) (h0 : 0 < m) :
  ∃ D cap, v = .slice (some ⟨D, 0, none⟩) m cap ∧ ∀ i, i < m → w.cell? ⟨D, i, none⟩ = some (.int .u8 (xs.getD i 0)) := by
 have hl := h.1
 rw [List.length_map, Nat.mul_one] at hl
 rcases h.2 with ⟨_, hn⟩ | ⟨g, cap, cur, hv, _, hg, _, _, hs, ht⟩
 ·omega
 ·refine ⟨g, cap, hv, fun i hi => ?_⟩
  have h1 : (cur.toList.take (m * 1))[i]? = (xs.map (Value.int .u8))[i]? := by rw [ht]
  rw [Nat.mul_one, List.getElem?_take_of_lt hi, List.getElem?_map, List.getElem?_eq_getElem (by omega : i < xs.length)] at h1
  simp only [Array.getElem?_toList, Option.map_some] at h1
  simp only [World.cell?, hg]
  rw [List.getD_eq_getElem?_getD, List.getElem?_eq_getElem (by omega : i < xs.length)]
  simpa using h1
theorem write_pfm {w w1 w' : World} {b : Nat} {hp hw : Bool} {p wd : Int} {fl T : List Int} {v' : Value} {m base : Nat} (hc : Chg (fun _ => False) w w1) (hm : T.length = m) (h0 : 0 < T.length)
  (ho : w'.ownsRow base 5 1 v' m (T.map (Value.int .u8))) (hz : Zz w' b hp hw p wd fl v') (hc2 : Chg (· = b) w1 w') : ∃ D cap, w'.cell? ⟨b, 5, none⟩ = some (.slice (some ⟨D, 0, none⟩) T.length cap) ∧ (∀ i, i < T.length → w'.cell? ⟨D, i, none⟩ = some (.int .u8 (T.getD i 0))) ∧ Chg (· = b) w w' := by
 subst hm
 obtain ⟨D, cap, hv, h⟩ := own_cells ho h0
 subst hv
 have h1 : Chg (· = b) w w1 := ⟨hc.os, hc.tape, hc.output, hc.size, fun k hk hn => hc.keep k hk (fun h => h)⟩
 exact ⟨D, cap, (cell6 hz).2.2.2.2.2, h, h1.trans hc2 sb_⟩
end Go.Proofs.YtlbjjhecgceiaaaGreatDoor
