/- Part 23 of the proof. -/
import Derived.Lib.SmallJoins
import Derived.OpenVars
import Derived.Test.YtldhfhloinlfaaaGreatDoorC22
namespace Go.Proofs.YtldhfhloinlfaaaGreatDoor
open Go.RowKit
set_option linter.unusedVariables false
set_option linter.unusedSimpArgs false
set_option maxRecDepth 20000
theorem cell1 {w1 : World} {z : Nat} {x0 : Value} {T : TypeId} (hh : w1.heap[z]? = some (.cells #[x0] T (0, 0))) : w1.cell? ⟨z, 0, none⟩ = some x0 ∧ w1.frozen? ⟨z, 0, none⟩ = false := by
 refine ⟨?_, ?_⟩ <;> simp [World.cell?, World.frozen?, hh]
theorem fix_far {w1 : World} {z y : Nat} {o : Obj} {v : Value} (h : w1.heap[z]? = some o) (hne : z ≠ y) : (w1.setCell ⟨y, 0, none⟩ v).heap[z]? = some o := by
 rw [Below.heap_setCell _ _ _ _ (by simpa using hne)]; exact h
theorem fix_far' {w1 : World} {z y i : Nat} {o : Obj} {v : Value} (h : w1.heap[z]? = some o) (hne : z ≠ y) : (w1.setCell ⟨y, i, none⟩ v).heap[z]? = some o := by
 rw [Below.heap_setCell _ _ _ _ (by simpa using hne)]; exact h
theorem fix_near {w1 : World} {z y : Nat} {o : Obj} {a b c : Value} (h : w1.heap[z]? = some o) (hne : z ≠ y) : (((w1.setCell ⟨y, 0, none⟩ a).setCell ⟨y, 1, none⟩ b).setCell ⟨y, 2, none⟩ c).heap[z]? = some o :=
 fix_far' (fix_far' (fix_far' h hne) hne) hne
theorem int_set {w1 : World} {z : Nat} {x v : Value} {T : TypeId} (h : w1.heap[z]? = some (.cells #[x] T (0, 0))) : (w1.setCell ⟨z, 0, none⟩ v).heap[z]? = some (.cells #[v] T (0, 0)) := by
 simp [World.setCell, Array.getElem?_modify, h]
theorem fix_chg {w w1 : World} {z y : Nat} {a b c v : Value} (h : Chg (fun _ => False) w w1) (hz : w.heap.size ≤ z) (hy : w.heap.size ≤ y) : Chg (fun _ => False) w ((((w1.setCell ⟨z, 0, none⟩ a).setCell ⟨z, 1, none⟩ b).setCell ⟨z, 2, none⟩ c).setCell ⟨y, 0, none⟩ v) :=
 Chg.setCell (p := ⟨y, 0, none⟩) (chg3 h hz a b c) (fun h => by simp only at h; omega) v
def fixOut (n : Bool) (o : Option (Nat × Nat)) : Value := match o with
 | some (k, t) => .tuple #[.agg #[.bool (n && (k : Int) != 0), .int .u64 (k : Int), .int .i64 (t : Int)], .int .i64 0]
 | none => .tuple #[.agg #[.bool false, .int .u64 0, .int .i64 0], .int .i64 1]
set_option maxHeartbeats 4000000 in
theorem FixAdd_ok (n1 n2 d1 d2 : Bool) (dc ec ds es : Nat) (hdc : dc < 10 ^ 19) (hec : ec < 10 ^ 19) (hds : ds ≤ 19) (hes : es ≤ 19) (hd1 : (n1 && (dc : Int) != 0) = d1) (hd2 : (n2 && (ec : Int) != 0) = d2) (w : World) (he : EnvD w)
  (nb : Bool) (k : Int) (t : Nat) (ht : t ≤ 19) (HS : ∀ w1, EnvD w1 → Calls Tryz.prog 61 #[.agg #[.bool d1, .int .i8 ds, .int .u64 (dc : Int)], .agg #[.bool d2, .int .i8 es, .int .u64 (ec : Int)]] w1 (fun e w' => e = .returned (.tuple #[.agg #[.bool nb, .int .i8 t, .int .u64 k], .nilIface]) ∧ Chg (fun _ => False) w1 w')) :
  Calls Tryz.prog 30 #[.agg #[.bool n1, .int .u64 (dc : Int), .int .i64 (ds : Int)], .agg #[.bool n2, .int .u64 (ec : Int), .int .i64 (es : Int)]] w (PV w (.tuple #[.agg #[.bool nb, .int .u64 k, .int .i64 t], .int .i64 0])) := by
 have HF1 := hid (fun w => fixed_any n1 d1 (dc : Int) ds (fiN hdc) hds hd1 w)
 have HF2 := hid (fun w => fixed_any n2 d2 (ec : Int) es (fiN hec) hes hd2 w)
 have HE := hid he
 obtain ⟨DC, hDC⟩ : ∃ v : Int, (dc : Int) = v := ⟨_, rfl⟩
 obtain ⟨EC, hEC⟩ : ∃ v : Int, (ec : Int) = v := ⟨_, rfl⟩
 rw [hDC] at HF1
 rw [hEC] at HF2
 rw [hDC, hEC] at HS
 rw [hDC, hEC]
 have HSX := hid HS
 clear HS hdc hec hds hes hd1 hd2 he hDC hEC
 have HFX := hid (fun w => fix_any nb k t ht w)
 clear ht
 have HC0 := hid (((((Chg.refl (fun _ => False) w).alloc (.cells #[.bool n1, .int .u64 DC, .int .i64 ds] 24)).alloc (.cells #[.bool n2, .int .u64 EC, .int .i64 es] 24)).alloc (.cells #[.bool false, .int .u64 0, .int .i64 0] 24)).alloc (.cells #[.int .i64 0] 3))
 have hB1 : ((((w.alloc (.cells #[.bool n1, .int .u64 DC, .int .i64 ds] 24)).alloc (.cells #[.bool n2, .int .u64 EC, .int .i64 es] 24)).alloc (.cells #[.bool false, .int .u64 0, .int .i64 0] 24)).alloc (.cells #[.int .i64 0] 3)).heap[w.heap.size + 1]? = some (.cells #[.bool n2, .int .u64 EC, .int .i64 es] 24 (0, 0)) := by
  rw [Below.heap_alloc _ _ _ (by first | (simp; done) | (simp; omega))]
  rw [Below.heap_alloc _ _ _ (by first | (simp; done) | (simp; omega))]
  have := heap_alloc_new (w.alloc (.cells #[.bool n1, .int .u64 DC, .int .i64 ds] 24)) (.cells #[.bool n2, .int .u64 EC, .int .i64 es] 24)
  simpa using this
 have HB1 := hid hB1
 clear hB1
 have hB2 : ((((w.alloc (.cells #[.bool n1, .int .u64 DC, .int .i64 ds] 24)).alloc (.cells #[.bool n2, .int .u64 EC, .int .i64 es] 24)).alloc (.cells #[.bool false, .int .u64 0, .int .i64 0] 24)).alloc (.cells #[.int .i64 0] 3)).heap[w.heap.size + 1 + 1]? = some (.cells #[.bool false, .int .u64 0, .int .i64 0] 24 (0, 0)) := by
  rw [Below.heap_alloc _ _ _ (by first | (simp; done) | (simp; omega))]
  have := heap_alloc_new ((w.alloc (.cells #[.bool n1, .int .u64 DC, .int .i64 ds] 24)).alloc (.cells #[.bool n2, .int .u64 EC, .int .i64 es] 24)) (.cells #[.bool false, .int .u64 0, .int .i64 0] 24)
  simpa using this
 have HB2 := hid hB2
 clear hB2
 have hB3 : ((((w.alloc (.cells #[.bool n1, .int .u64 DC, .int .i64 ds] 24)).alloc (.cells #[.bool n2, .int .u64 EC, .int .i64 es] 24)).alloc (.cells #[.bool false, .int .u64 0, .int .i64 0] 24)).alloc (.cells #[.int .i64 0] 3)).heap[w.heap.size + 1 + 1 + 1]? = some (.cells #[.int .i64 0] 3 (0, 0)) := by
  have := heap_alloc_new (((w.alloc (.cells #[.bool n1, .int .u64 DC, .int .i64 ds] 24)).alloc (.cells #[.bool n2, .int .u64 EC, .int .i64 es] 24)).alloc (.cells #[.bool false, .int .u64 0, .int .i64 0] 24)) (.cells #[.int .i64 0] 3)
  simpa using this
 have HB3 := hid hB3
 clear hB3
 have hk := Chg.refl (fun _ => False) ((((w.alloc (.cells #[.bool n1, .int .u64 DC, .int .i64 ds] 24)).alloc (.cells #[.bool n2, .int .u64 EC, .int .i64 es] 24)).alloc (.cells #[.bool false, .int .u64 0, .int .i64 0] 24)).alloc (.cells #[.int .i64 0] 3))
 have hmf : ∀ (fn : Fn) (first cap : Array Value) (w : World), (Instr.makeFunc fn first cap).run Tryz.prog w = .ok (.func fn first cap) w := fun _ _ _ _ => rfl
 go_enter_defers Tryz.func30, Tryz.ntmps30
 go_wp2_with (first | (go_at_call_of 38 (Value.agg #[Value.bool n1, Value.int .u64 DC, Value.int .i64 (ds : Int)]); refine (HF1.out _).mono ?_; intro e w1 h; obtain ⟨he, hc⟩ := h; subst he; replace hk := (hk.trans hc sb_).alloc (.cells #[.bool d1, .int .i8 ds, .int .u64 DC] 53); have HG1 := hid (heap_alloc_new w1 (.cells #[.bool d1, .int .i8 ds, .int .u64 DC] 53)); clear hc; obtain ⟨e0, e1, e2, _, _, _⟩ := cell3 (kept_heap hk HB1.out)) | (go_at_call_of 38 (Value.agg #[Value.bool n2, Value.int .u64 EC, Value.int .i64 (es : Int)]); refine (HF2.out _).mono ?_; intro e w2 h; obtain ⟨he, hc⟩ := h; subst he; replace hk := (hk.trans hc sb_).alloc (.cells #[.bool d2, .int .i8 es, .int .u64 EC] 53); replace HG1 := hid (kept_heap (hc.alloc (.cells #[.bool d2, .int .i8 es, .int .u64 EC] 53)) HG1.out); have HG2 := hid (heap_alloc_new w2 (.cells #[.bool d2, .int .i8 es, .int .u64 EC] 53)); clear hc e0 e1 e2; obtain ⟨g0, g1, g2, _, _, _⟩ := cell3 HG1.out; obtain ⟨j0, j1, j2, _, _, _⟩ := cell3 HG2.out) | (go_at_call 61; refine (HSX.out _ (HE.out.kept (HC0.out.trans hk sb_))).mono ?_; intro e w3 h; obtain ⟨he, hc⟩ := h; subst he; replace hk := (hk.trans hc sb_).alloc (.cells #[.bool nb, .int .i8 t, .int .u64 k] 53); clear hc g0 g1 g2 j0 j1 j2) | (go_at_call 40; refine (HFX.out _).mono ?_; intro e w4 h; obtain ⟨he, hc⟩ := h; subst he; replace hk := hk.trans hc sb_; clear hc; obtain ⟨r0, r1, r2, q0, q1, q2⟩ := cell3 (kept_heap hk HB2.out); obtain ⟨i0, i1⟩ := cell1 (kept_heap hk HB3.out)))
 refine leaves_cons (f := 60) (args := #[.pointer (some ⟨w.heap.size + 1 + 1, 0, none⟩), .pointer (some ⟨w.heap.size + 1 + 1 + 1, 0, none⟩)]) (by simp) (by simp [go_sem]) ?_
 refine (addIdle _ _ _).mono ?_
 rintro e u' w'' ⟨rfl, rfl, rfl⟩
 exact ⟨.tuple #[.agg #[.bool nb, .int .u64 k, .int .i64 t], .int .i64 0], fix_result rfl _ _ (w.heap.size + 1 + 1) (w.heap.size + 1 + 1 + 1) _ _ _ _ _ _ rfl rfl (fix_far (store3 (kept_heap hk HB2.out) _ _ _) (by omega)) (int_set (fix_near (kept_heap hk HB3.out) (by omega))), rfl, fix_chg (HC0.out.trans hk sb_) (by omega) (by omega)⟩
theorem FixHas_any {w : World} {B D2 : Option Addr} {m d p2 q2 a b s y : Nat} (N1 n2 : Bool) (ha : a < 10 ^ 19) (hs : s ≤ 19) (hN : (N1 && a != 0) = N1) (hb : SN w B m d b) (hy : SN w D2 p2 q2 y) (hb1 : b < 10 ^ 100) (hy1 : y < 10 ^ 100)
  (hcmp : (N1 && a * y != 0) = (n2 && b * 10 ^ s != 0) ∧ a * y = b * 10 ^ s) :
  Calls Tryz.prog 69 #[.agg #[.bool N1, .int .u64 (a : Int), .int .i64 (s : Int)], .agg #[.bool n2, .slice B m d, .slice D2 p2 q2]] w (PV w (.bool true)) := by
 cases N1 with
 | true => exact FixHas_neg n2 ha hs (by rw [Bool.true_and] at hN; exact bne_iff_ne.1 hN) hb hy hb1 hy1 hcmp
 | false => exact FixHas_pos n2 ha hs hb hy hb1 hy1 hcmp
set_option maxHeartbeats 4000000 in
theorem gvNear_none {w : World} {A D1 : Option Addr} {n c p1 q1 a x : Nat} (n1 : Bool) (ha : SN w A n c a) (hx : SN w D1 p1 q1 x) (ha1 : a < 10 ^ 100) (hx1 : x < 10 ^ 100) (hpl : Places a x) (N1 : Bool) (v s0 : Int) (hR : room (10 ^ 19) (atP a x) 19 = none) :
  Calls Tryz.prog 34 #[.agg #[.bool N1, .int .u64 v, .int .i64 s0], .int .i64 1, .agg #[.bool n1, .slice A n c, .slice D1 p1 q1]] w (PV w (.bool true)) := by
 have HFX := hid (fun w1 (h : Chg (fun _ => False) w w1) => Fixed_any n1 (ha.kept h) (hx.kept h) ha1 hx1 hpl _ hR)
 clear ha hx ha1 hx1 hpl hR
 obtain ⟨HC0, HD, hB0, hB1⟩ := box2 w #[.bool N1, .int .u64 v, .int .i64 s0] 24 #[.bool n1, .slice A n c, .slice D1 p1 q1] 34
 have HSS := hid (fun (w1 : World) h => And.intro ((cell3 (kept_heap (w' := w1) h hB0)).1) (And.intro ((cell3 (kept_heap (w' := w1) h hB0)).2.1) (And.intro ((cell3 (kept_heap (w' := w1) h hB0)).2.2.1) (And.intro ((cell3 (kept_heap (w' := w1) h hB1)).1) (And.intro ((cell3 (kept_heap (w' := w1) h hB1)).2.1) ((cell3 (kept_heap (w' := w1) h hB1)).2.2.1))))))
 clear hB0 hB1
 have hk := Chg.refl (fun _ => False) ((w.alloc (.cells #[.bool N1, .int .u64 v, .int .i64 s0] 24)).alloc (.cells #[.bool n1, .slice A n c, .slice D1 p1 q1] 34))
 obtain ⟨d0, d1, d2, e0_, e1, e2⟩ := HSS.out _ hk
 go_enter Tryz.func34, Tryz.ntmps34
 go_wp2_with (go_at_call 68; refine (HFX.out _ HC0.out).mono ?_; intro e w1 h; obtain ⟨hc, he⟩ := h; subst he; replace hk := hk.trans hc sb_; clear hc d0 d1 d2 e0_ e1 e2)
 go_ret
 exact ⟨rfl, (HC0.out.trans hk sb_).alloc _⟩
set_option maxHeartbeats 4000000 in
theorem gvNear_some {w : World} {A D1 : Option Addr} {n c p1 q1 a x : Nat} (n1 : Bool) (ha : SN w A n c a) (hx : SN w D1 p1 q1 x) (ha1 : a < 10 ^ 100) (hx1 : x < 10 ^ 100) (hpl : Places a x) (N1 : Bool) (k t R : Nat) (hk1 : k < 10 ^ 19) (ht : t ≤ 19) (hN : (N1 && k != 0) = N1) (hR : room (10 ^ 19) (atP a x) 19 = some R) (hR19 : R ≤ 19) (hq : atP a x R < 10 ^ 19) (hcmp : (N1 && k * 10 ^ R != 0) = ((n1 && atP a x R != 0) && atP a x R * 10 ^ t != 0) ∧ k * 10 ^ R = atP a x R * 10 ^ t) :
  Calls Tryz.prog 34 #[.agg #[.bool N1, .int .u64 (k : Int), .int .i64 (t : Int)], .int .i64 0, .agg #[.bool n1, .slice A n c, .slice D1 p1 q1]] w (PV w (.bool true)) := by
 have HFX := hid (fun w1 (h : Chg (fun _ => False) w w1) => Fixed_any n1 (ha.kept h) (hx.kept h) ha1 hx1 hpl _ hR)
 have h100 : (10 : Nat) ^ R < 10 ^ 100 := Nat.pow_lt_pow_right (by omega) (by omega)
 have hq100 : atP a x R < 10 ^ 100 := Nat.lt_of_lt_of_le hq (Nat.pow_le_pow_right (by omega) (by omega))
 have HDF := hid (fun w1 (sb : Bool) (E : Option Addr) (k l : Nat) (hsb : (n1 && atP a x R != 0) = sb) (h : SN w1 E k l (atP a x R)) => DecFrac_any sb (-(R : Int)) R h (up240 hq100 (by omega)) (by omega) (by rw [← hsb]; cases n1 <;> simp) rfl)
 have HFH := hid (fun w1 (sb : Bool) (hsb : (n1 && atP a x R != 0) = sb) (E : Option Addr) (k1 l : Nat) (G : Option Addr) (i j : Nat) (h1 : SN w1 E k1 l (atP a x R)) (h2 : SN w1 G i j (10 ^ R)) => FixHas_any N1 sb hk1 ht hN h1 h2 hq100 h100 (by rw [← hsb]; exact hcmp))
 obtain ⟨v, hv⟩ : ∃ v : Int, (k : Int) = v := ⟨_, rfl⟩
 obtain ⟨s0, hs0⟩ : ∃ s0 : Int, (t : Int) = s0 := ⟨_, rfl⟩
 obtain ⟨e0, he0⟩ : ∃ e0 : Int, -(R : Int) = e0 := ⟨_, rfl⟩
 rw [hv, hs0] at HFH
 rw [hv, hs0]
 rw [he0] at HDF
 have HE0 := hid he0
 clear ha hx ha1 hx1 hpl hk1 ht hN hR hR19 hq hcmp h100 hq100 hv hs0 he0
 obtain ⟨HC0, HD, hB0, hB1⟩ := box2 w #[.bool N1, .int .u64 v, .int .i64 s0] 24 #[.bool n1, .slice A n c, .slice D1 p1 q1] 34
 have HSS := hid (fun (w1 : World) h => And.intro ((cell3 (kept_heap (w' := w1) h hB0)).1) (And.intro ((cell3 (kept_heap (w' := w1) h hB0)).2.1) (And.intro ((cell3 (kept_heap (w' := w1) h hB0)).2.2.1) (And.intro ((cell3 (kept_heap (w' := w1) h hB1)).1) (And.intro ((cell3 (kept_heap (w' := w1) h hB1)).2.1) ((cell3 (kept_heap (w' := w1) h hB1)).2.2.1))))))
 clear hB0 hB1
 have hk := Chg.refl (fun _ => False) ((w.alloc (.cells #[.bool N1, .int .u64 v, .int .i64 s0] 24)).alloc (.cells #[.bool n1, .slice A n c, .slice D1 p1 q1] 34))
 obtain ⟨d0, d1, d2, e0_, e1, e2⟩ := HSS.out _ hk
 go_enter Tryz.func34, Tryz.ntmps34
 go_wp2_with fail
 go_at_call 68
 refine (HFX.out _ HC0.out).mono ?_
 intro e w1 h
 obtain ⟨hc, sb, E, kk, l, he, hsn, hsb⟩ := h
 rw [HE0.out] at he
 subst he
 replace hk := (hk.trans hc sb_).alloc (.cells #[.bool sb, .slice E kk l, .int .i64 e0] 62)
 have HN1 := hid (hsn.kept ((Chg.refl (fun _ => False) w1).alloc (.cells #[.bool sb, .slice E kk l, .int .i64 e0] 62)))
 have HSB := hid hsb
 obtain ⟨g, hg⟩ : ∃ g, w1.heap.size = g := ⟨_, rfl⟩
 have hG := heap_alloc_new w1 (.cells #[.bool sb, .slice E kk l, .int .i64 e0] 62)
 rw [hg] at hG
 have HG := hid hG
 clear hc d0 d1 d2 e0_ e1 e2 hsn hsb hG
 obtain ⟨d0, d1, d2, e0_, e1, e2⟩ := HSS.out _ hk
 obtain ⟨j0, j1, j2, _, _, _⟩ := cell3 HG.out
 go_wp2_with fail
 have HW := hid (Chg.refl (fun _ => False) (w1.alloc (.cells #[.bool sb, .slice E kk l, .int .i64 e0] 62))).drew
 have hw6 := HW.out
 have hk := hk.drew
 replace HN1 := hid (HN1.out.kept HW.out)
 have HS6 := hid (fun w2 (h1 : Chg (fun _ => False) ((w.alloc (.cells #[.bool N1, .int .u64 v, .int .i64 s0] 24)).alloc (.cells #[.bool n1, .slice A n c, .slice D1 p1 q1] 34)) w2) (h2 : Chg (fun _ => False) (w1.alloc (.cells #[.bool sb, .slice E kk l, .int .i64 e0] 62)) w2) => (show w2.cell? ⟨w.heap.size, 0, none⟩ = some (.bool N1) ∧ w2.cell? ⟨w.heap.size, 1, none⟩ = some (.int .u64 v) ∧ w2.cell? ⟨w.heap.size, 2, none⟩ = some (.int .i64 s0) ∧ w2.cell? ⟨g, 0, none⟩ = some (.bool sb) ∧ w2.cell? ⟨g, 1, none⟩ = some (.slice E kk l) ∧ w2.cell? ⟨g, 2, none⟩ = some (.int .i64 e0) from ⟨(HSS.out _ h1).1, (HSS.out _ h1).2.1, (HSS.out _ h1).2.2.1, (cell3 (kept_heap h2 HG.out)).1, (cell3 (kept_heap h2 HG.out)).2.1, (cell3 (kept_heap h2 HG.out)).2.2.1⟩))
 first | (go_region_held3 (fun w' => w'.cell? ⟨w.heap.size, 0, none⟩ = some (.bool N1) ∧ w'.cell? ⟨w.heap.size, 1, none⟩ = some (.int .u64 v) ∧ w'.cell? ⟨w.heap.size, 2, none⟩ = some (.int .i64 s0) ∧ w'.cell? ⟨g, 0, none⟩ = some (.bool sb) ∧ w'.cell? ⟨g, 1, none⟩ = some (.slice E kk l) ∧ w'.cell? ⟨g, 2, none⟩ = some (.int .i64 e0)) (first | with_reducible exact HS6.out _ hk hw6) (first | (go_at_call 42; refine (HDF.out _ sb _ _ _ HSB.out HN1.out).mono ?_; intro e w3 h; obtain ⟨E2, k2_, l2_, E3, k3_, l3_, he, hs1, hs2, hc⟩ := h; subst he; have HN2 := hid hs1; have HN3 := hid hs2; clear hs1 hs2; replace hk := hk.trans hc sb_; replace hw6 := hw6.trans hc sb_; clear hc) | (go_at_call 69; refine (HFH.out _ sb HSB.out _ _ _ _ _ _ HN2.out HN3.out).mono ?_; intro e w3 h; obtain ⟨he, hc⟩ := h; subst he; replace hk := hk.trans hc sb_; replace hw6 := hw6.trans hc sb_; clear hc))) | fail
 all_goals (go_wp2_with fail; go_ret; exact ⟨rfl, HC0.out.trans hk sb_⟩)
set_option maxHeartbeats 2000000 in
theorem gvExact_places {w : World} {A D1 : Option Addr} {n c p1 q1 a x : Nat} (n1 : Bool) (N1 : Bool) (v s0 : Int) (m : Int) (hm : m < 0 ∨ 19 < m) :
  Calls Tryz.prog 14 #[.agg #[.bool N1, .int .u64 v, .int .i64 s0], .int .i64 1, .agg #[.bool n1, .slice A n c, .slice D1 p1 q1], .int .i64 m] w (PV w (.bool true)) := by
 obtain ⟨HC0, HD, hB0, hB1⟩ := box2 w #[.bool N1, .int .u64 v, .int .i64 s0] 24 #[.bool n1, .slice A n c, .slice D1 p1 q1] 34
 have HSS := hid (fun (w1 : World) h => And.intro ((cell3 (kept_heap (w' := w1) h hB0)).1) (And.intro ((cell3 (kept_heap (w' := w1) h hB0)).2.1) (And.intro ((cell3 (kept_heap (w' := w1) h hB0)).2.2.1) (And.intro ((cell3 (kept_heap (w' := w1) h hB1)).1) (And.intro ((cell3 (kept_heap (w' := w1) h hB1)).2.1) ((cell3 (kept_heap (w' := w1) h hB1)).2.2.1))))))
 clear hB0 hB1
 have hk := Chg.refl (fun _ => False) ((w.alloc (.cells #[.bool N1, .int .u64 v, .int .i64 s0] 24)).alloc (.cells #[.bool n1, .slice A n c, .slice D1 p1 q1] 34))
 obtain ⟨d0, d1, d2, e0_, e1, e2⟩ := HSS.out _ hk
 by_cases h0 : m < 0
 ·have hb1 : decide (m < 0) = true := decide_eq_true h0
  clear hm
  go_enter Tryz.func14, Tryz.ntmps14
  go_wp2_with fail
  go_ret
  exact ⟨rfl, HC0.out⟩
 ·have hb1 : decide (m < 0) = false := decide_eq_false h0
  have hb2 : decide (19 < m) = true := decide_eq_true (by omega)
  clear hm
  go_enter Tryz.func14, Tryz.ntmps14
  go_wp2_with fail
  go_ret
  exact ⟨rfl, HC0.out⟩
set_option maxHeartbeats 2000000 in
theorem gvExact_small {w : World} {A D1 : Option Addr} {n c p1 q1 a x : Nat} (n1 : Bool) (N1 : Bool) (v s0 : Int) (m : Int) (hm : ¬ (m < 0 ∨ 19 < m)) (hx : SN w D1 p1 q1 x) (ha : SN w A n c a) (ha1 : a < 10 ^ 100) (hx1 : x < 10 ^ 100) (hpl : Places a x) (hr : roomI a x < m) :
  Calls Tryz.prog 14 #[.agg #[.bool N1, .int .u64 v, .int .i64 s0], .int .i64 1, .agg #[.bool n1, .slice A n c, .slice D1 p1 q1], .int .i64 m] w (PV w (.bool true)) := by
 have HRM := hid (fun w1 (h : Chg (fun _ => False) w w1) => Room_any n1 (ha.kept h) (hx.kept h) ha1 hx1 hpl)
 generalize roomI a x = rm at *
 have hb1 : decide (m < 0) = false := decide_eq_false (by omega)
 have hb2 : decide (19 < m) = false := decide_eq_false (by omega)
 have hb3 : decide (rm < m) = true := decide_eq_true hr
 clear ha hx ha1 hx1 hpl hr hm
 obtain ⟨HC0, HD, hB0, hB1⟩ := box2 w #[.bool N1, .int .u64 v, .int .i64 s0] 24 #[.bool n1, .slice A n c, .slice D1 p1 q1] 34
 have HSS := hid (fun (w1 : World) h => And.intro ((cell3 (kept_heap (w' := w1) h hB0)).1) (And.intro ((cell3 (kept_heap (w' := w1) h hB0)).2.1) (And.intro ((cell3 (kept_heap (w' := w1) h hB0)).2.2.1) (And.intro ((cell3 (kept_heap (w' := w1) h hB1)).1) (And.intro ((cell3 (kept_heap (w' := w1) h hB1)).2.1) ((cell3 (kept_heap (w' := w1) h hB1)).2.2.1))))))
 clear hB0 hB1
 have hk := Chg.refl (fun _ => False) ((w.alloc (.cells #[.bool N1, .int .u64 v, .int .i64 s0] 24)).alloc (.cells #[.bool n1, .slice A n c, .slice D1 p1 q1] 34))
 obtain ⟨d0, d1, d2, e0_, e1, e2⟩ := HSS.out _ hk
 go_enter Tryz.func14, Tryz.ntmps14
 go_wp2_with (first | (go_at_call 29; refine (HRM.out _ HC0.out).mono ?_; intro e w1 h; obtain ⟨he, hc⟩ := h; subst he; replace hk := hk.trans hc sb_; clear hc d0 d1 d2 e0_ e1 e2; obtain ⟨d0, d1, d2, e0_, e1, e2⟩ := HSS.out _ hk))
 go_ret
 exact ⟨rfl, HC0.out.trans hk sb_⟩
set_option maxHeartbeats 2000000 in
theorem gvExact_ok {w : World} {A D1 : Option Addr} {n c p1 q1 a x : Nat} (n1 : Bool) (m : Int) (hm : ¬ (m < 0 ∨ 19 < m)) (hx : SN w D1 p1 q1 x) (ha : SN w A n c a) (ha1 : a < 10 ^ 100) (hx1 : x < 10 ^ 100) (hpl : Places a x) (hr : ¬ roomI a x < m) (N1 : Bool) (k t R : Nat) (hk1 : k < 10 ^ 19) (ht : t ≤ 19) (hN : (N1 && k != 0) = N1) (hR : room (10 ^ 19) (atP a x) 19 = some R) (hR19 : R ≤ 19) (hq : atP a x R < 10 ^ 19) (hcmp : (N1 && k * 10 ^ R != 0) = ((n1 && atP a x R != 0) && atP a x R * 10 ^ t != 0) ∧ k * 10 ^ R = atP a x R * 10 ^ t) (hmt : m ≤ (t : Int)) :
  Calls Tryz.prog 14 #[.agg #[.bool N1, .int .u64 (k : Int), .int .i64 (t : Int)], .int .i64 0, .agg #[.bool n1, .slice A n c, .slice D1 p1 q1], .int .i64 m] w (PV w (.bool true)) := by
 have HRM := hid (fun w1 (h : Chg (fun _ => False) w w1) => Room_any n1 (ha.kept h) (hx.kept h) ha1 hx1 hpl)
 have HNR := hid (fun w1 (h : Chg (fun _ => False) w w1) => gvNear_some n1 (ha.kept h) (hx.kept h) ha1 hx1 hpl N1 k t R hk1 ht hN hR hR19 hq hcmp)
 obtain ⟨v, hv⟩ : ∃ v : Int, (k : Int) = v := ⟨_, rfl⟩
 obtain ⟨s0, hs0⟩ : ∃ s0 : Int, (t : Int) = s0 := ⟨_, rfl⟩
 rw [hv, hs0] at HNR
 rw [hs0] at hmt
 rw [hv, hs0]
 have hmt' : decide (m ≤ s0) = true := decide_eq_true hmt
 generalize roomI a x = rm at *
 have hb1 : decide (m < 0) = false := decide_eq_false (by omega)
 have hb2 : decide (19 < m) = false := decide_eq_false (by omega)
 have hb3 : decide (rm < m) = false := decide_eq_false hr
 clear ha hx ha1 hx1 hpl hr hm hk1 ht hN hR hR19 hq hcmp hv hs0 hmt
 obtain ⟨HC0, HD, hB0, hB1⟩ := box2 w #[.bool N1, .int .u64 v, .int .i64 s0] 24 #[.bool n1, .slice A n c, .slice D1 p1 q1] 34
 have HSS := hid (fun (w1 : World) h => And.intro ((cell3 (kept_heap (w' := w1) h hB0)).1) (And.intro ((cell3 (kept_heap (w' := w1) h hB0)).2.1) (And.intro ((cell3 (kept_heap (w' := w1) h hB0)).2.2.1) (And.intro ((cell3 (kept_heap (w' := w1) h hB1)).1) (And.intro ((cell3 (kept_heap (w' := w1) h hB1)).2.1) ((cell3 (kept_heap (w' := w1) h hB1)).2.2.1))))))
 clear hB0 hB1
 have hk := Chg.refl (fun _ => False) ((w.alloc (.cells #[.bool N1, .int .u64 v, .int .i64 s0] 24)).alloc (.cells #[.bool n1, .slice A n c, .slice D1 p1 q1] 34))
 obtain ⟨d0, d1, d2, e0_, e1, e2⟩ := HSS.out _ hk
 go_enter Tryz.func14, Tryz.ntmps14
 go_wp2_with (first | (go_at_call 29; refine (HRM.out _ HC0.out).mono ?_; intro e w1 h; obtain ⟨he, hc⟩ := h; subst he; replace hk := hk.trans hc sb_; clear hc d0 d1 d2 e0_ e1 e2; obtain ⟨d0, d1, d2, e0_, e1, e2⟩ := HSS.out _ hk) | (go_at_call 34; refine (HNR.out _ (HC0.out.trans hk sb_)).mono ?_; intro e w1 h; obtain ⟨he, hc⟩ := h; subst he; replace hk := hk.trans hc sb_; clear hc))
 go_ret
 exact ⟨rfl, HC0.out.trans hk sb_⟩
def okFix (v s : Int) : Bool := decide (v ≤ 9999999999999999999) && (decide (0 ≤ s) && decide (s ≤ 19))
theorem sumS_scale (p q : Bool) (A B t : Nat) (ht : 0 < t) : sumS p (A * t) q (B * t) = ((sumS p A q B).1, (sumS p A q B).2 * t) := by
 unfold sumS
 by_cases h : p = q
 ·rw [if_pos h, if_pos h, Nat.add_mul]
 ·rw [if_neg h, if_neg h]
  by_cases h2 : A < B
  ·rw [if_pos h2, if_pos (Nat.mul_lt_mul_of_pos_right h2 ht), Nat.sub_mul]
  ·rw [if_neg h2, if_neg (by have := Nat.mul_le_mul_right t (Nat.le_of_not_lt h2); omega), Nat.sub_mul]
def mnp (a b : Nat) : Nat := if a < b then a else b
theorem mxmn (a b : Nat) : mxp a b + mnp a b = a + b := by unfold mxp mnp; split <;> omega
theorem mx_l (a b : Nat) : a ≤ mxp a b := by unfold mxp; split <;> omega
theorem mx_r (a b : Nat) : b ≤ mxp a b := by unfold mxp; split <;> omega
theorem mx_le {a b k : Nat} (ha : a ≤ k) (hb : b ≤ k) : mxp a b ≤ k := by unfold mxp; split <;> omega
theorem bool_nz (b : Bool) (x t : Nat) (ht : 0 < t) (h : (b && x != 0) = b) : (b && x * t != 0) = b := by
 cases b with
 | false => rfl
 | true =>
  rw [Bool.true_and] at *
  have : x ≠ 0 := bne_iff_ne.1 h
  exact bne_iff_ne.2 (Nat.mul_ne_zero this (by omega))
theorem room_R {E : Nat} {f : Nat → Nat} {R : Nat} (h : room E f 19 = some R) : R ≤ 19 ∧ f R < E := room_lt h
theorem fixOut_op (n : Bool) (o : Option (Nat × Nat)) : ∃ (b0 : Bool) (c0 s0 f0 : Int), fixOut n o = .tuple #[.agg #[.bool b0, .int .u64 c0, .int .i64 s0], .int .i64 f0] := by
 cases o with
 | none => exact ⟨_, _, _, _, rfl⟩
 | some kt => exact ⟨_, _, _, _, rfl⟩
theorem okFix_nat {v s : Int} (h0 : 0 ≤ v) (h : okFix v s = true) : ∃ c t : Nat, (c : Int) = v ∧ (t : Int) = s ∧ c < 10 ^ 19 ∧ t ≤ 19 := by
 unfold okFix at h
 simp only [Bool.and_eq_true, decide_eq_true_eq] at h
 obtain ⟨h1, h2, h3⟩ := h
 have e : (10 : Nat) ^ 19 = 10000000000000000000 := by decide
 exact ⟨v.toNat, s.toNat, by omega, by omega, by omega, by omega⟩
end Go.Proofs.YtldhfhloinlfaaaGreatDoor
namespace Go.Proofs.YtldhfhloinlfaaaGreatDoor
open Go.ChangeShapes Go.WideShapes Go.ChangeAt Go.WideMaps Go.WideElems Go.RowKit
theorem gDiv : Tryz.prog.globalNamed "given.example/pub-alexandrine/pub/bigall.divRecursiveThreshold" = some 7 := by kernel_rfl
theorem gKar : Tryz.prog.globalNamed "given.example/pub-alexandrine/pub/bigall.karatsubaThreshold" = some 6 := by kernel_rfl
theorem gOvf : Tryz.prog.globalNamed "given.example/pub-alexandrine/pub/govalues.errDecimalOverflow" = some 0 := by kernel_rfl
theorem gPow : Tryz.prog.globalNamed "given.example/pub-alexandrine/pub/govalues.pow10" = some 3 := by kernel_rfl
theorem tDiv : (Tryz.prog.globals[7]?).map (·.type) = some 3 := by kernel_rfl
theorem tKar : (Tryz.prog.globals[6]?).map (·.type) = some 3 := by kernel_rfl
theorem tOvf : (Tryz.prog.globals[0]?).map (·.type) = some 57 := by kernel_rfl
theorem tPow : (Tryz.prog.globals[3]?).map (·.type) = some 130 := by kernel_rfl
end Go.Proofs.YtldhfhloinlfaaaGreatDoor
namespace Go.Proofs.YtldhfhloinlfaaaGreatDoor
open Go Go.ChangeShapes Go.WideShapes Go.ChangeAt Go.WideMaps Go.WideElems Go.RowKit Go.Joins
theorem trod_iface {H : Type} {enc : TypeId × Value → H} {P : Program} {W W' : World} {ti : TypeId} {ms : Array (String × TypeId)} {fuel : Nat} {cs : List Value} {x : DataW H × List MemPlace} {sp sp' : Nat → Bool}
  (hi : P.underlying ti = some (.interface ms)) (h : DataW.trod enc P W 0 sp true fuel ti cs = some x) : DataW.trod enc P W' 0 sp' true fuel ti cs = some x := by
 cases fuel with
 | zero => simp [DataW.trod] at h
 | succ f =>
  match cs, h with
  | [], h => simp [DataW.trod, hi] at h
  | _ :: _ :: _, h => simp [DataW.trod, hi] at h
  | [c], h => cases c <;> simp_all [DataW.trod]
theorem vars_iface {H : Type} {enc : TypeId × Value → H} {P : Program} {W W' : World} (hb : Below W.heap.size W W') {n : String} {ns : List String} {g : Nat} {ti : TypeId} {ms : Array (String × TypeId)} {sp sp' : Nat → Bool}
  (hn : P.globalNamed n = some g) (ht : (P.globals[g]?).map (·.type) = some ti) (hi : P.underlying ti = some (.interface ms))
  (hr : ∀ (gs : List (DataW H)) (q : List MemPlace), DataW.TrodVars enc P W sp ns gs q → DataW.TrodVars enc P W' sp' ns gs q) {gs : List (DataW H)} {ps : List MemPlace} (h : DataW.TrodVars enc P W sp (n :: ns) gs ps) :
  DataW.TrodVars enc P W' sp' (n :: ns) gs ps := by
 cases gs with
 | nil => exact h.elim
 | cons d ds =>
  obtain ⟨g0, t, cs, fuel, p, q, h1, h2, h3, h4, hs, e⟩ := h
  obtain rfl := Option.some.inj (hn.symm.trans h1)
  obtain rfl := Option.some.inj (ht.symm.trans h2)
  refine ⟨g, ti, cs, fuel, p, q, h1, h2, ?_, trod_iface hi h4, hr _ _ hs, e⟩
  unfold World.var? at h3 ⊢
  rw [h1] at h3 ⊢
  simp only [Option.bind_some] at h3 ⊢
  have hg : g < W.heap.size := by
   cases hh : W.heap[g]? with
   | none => rw [hh] at h3; cases h3
   | some o => exact (Array.getElem?_eq_some_iff.1 hh).1
  rw [hb.block g hg]; exact h3
theorem trodVars_length {H : Type} {enc : TypeId × Value → H} {P : Program} {W : World} {sp : Nat → Bool} : ∀ {ns : List String} {gs : List (DataW H)} {ps : List MemPlace}, DataW.TrodVars enc P W sp ns gs ps → gs.length = ns.length
 | [], [], _, _ => rfl
 | [], _ :: _, _, h => h.elim
 | _ :: _, [], _, h => h.elim
 | _ :: ns, _ :: ds, _, h => by
  obtain ⟨_, _, _, _, _, _, _, _, _, _, hs, _⟩ := h
  simp [trodVars_length hs]
theorem gScl : Tryz.prog.globalNamed "given.example/pub-alexandrine/pub/govalues.errScaleRange" = some 2 := by kernel_rfl
theorem tScl : (Tryz.prog.globals[2]?).map (·.type) = some 57 := by kernel_rfl
theorem laidOk : laidOutB Tryz.prog = true := by kernel_rfl
theorem fixCells : Tryz.prog.cellsOf 24 = 3 := by kernel_rfl
set_option maxRecDepth 100000 in
theorem open_fix {H : Type} {enc : TypeId × Value → H} {W : World} {base b0 : Nat} {sp : Nat → Bool} {held : Bool} {v : Value} {d : DataW H} {p : List MemPlace} (hv : Value.okWide Tryz.prog W .any b0 24 v) (h : DataW.Trod enc Tryz.prog W base sp held 24 v d p) :
  ∃ (n : Bool) (c s : Int), v = .agg #[.bool n, .int .u64 c, .int .i64 s] ∧ 0 ≤ c ∧ p = [] := by
 obtain ⟨c0, c1, c2, y0, y1, y2, m, rfl, rfl, rfl, hy0, hy1, hy2⟩ := open_agg3 Tryz.underlying24 kr_ fixCells hv h
 obtain ⟨x, e0, rfl⟩ := DataW.trod_bool Tryz.underlying4 hy0
 obtain ⟨y, e1, rfl, wy⟩ := DataW.trod_int Tryz.underlying22 hy1
 obtain ⟨f, e2, rfl, wf⟩ := DataW.trod_int Tryz.underlying3 hy2
 simp at e0 e1 e2
 subst e0 e1 e2
 refine ⟨x, y, f, rfl, ?_, rfl⟩
 simp [Lit.wf] at wy
 exact wy.1
end Go.Proofs.YtldhfhloinlfaaaGreatDoor
