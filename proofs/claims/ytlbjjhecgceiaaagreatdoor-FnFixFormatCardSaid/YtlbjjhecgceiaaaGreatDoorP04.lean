/- Part 4 of the proof. -/
import Derived.Test.YtlbjjhecgceiaaaGreatDoorProg
import Derived.Laws.StructEq
import Derived.Test.YtlbjjhecgceiaaaGreatDoorP03
namespace Go.Proofs.YtlbjjhecgceiaaaGreatDoor
theorem rr_ {P Q : Prop} (h : Q) (g : Q → P := by (intro h_; (with_reducible repeat (first | apply Kd.R_alloc | apply Kd.R_drewN | apply Kd.R_drew)); exact h_)) : P := g h
theorem vr_ {P Q : Prop} (h : Q) (g : Q → P := by (intro h_; (with_reducible repeat (first | apply Kd.V_alloc | apply Kd.V_drewN | apply Kd.V_drew)); exact h_)) : P := g h
theorem cr_ {P Q : Prop} (h : Q) (g : Q → P := by (intro h_; repeat (first | exact h_ | (with_reducible refine Kd.C_alloc ?_ _) | (with_reducible refine Kd.C_drewN ?_ _) | (with_reducible refine Kd.C_drew ?_)))) : P := g h
theorem lm_ {P : Prop} (h : P := by ((try simp only [List.map_toArray, List.map_cons, List.map_nil]); first | done | rfl | (simp only [List.length_drop, List.length_take]; rfl))) : P := h
theorem sd_ {P : Prop} (h : P := by (first | rfl | (simp; done) | (simp [*]; done))) : P := h
theorem fo_ {P Q : Prop} {α : Type} {a b : α} (e : a = b) (h : Q) (g : a = b → Q → P := by (intro e_ H; first | (rw [e_]; with_reducible exact H) | (have H2_ := (Option.bind_some _ _).symm.trans H; rw [e_]; with_reducible exact H2_) | (have H2_ := (Option.bind_some _ _).symm.trans H; with_reducible exact H2_) | with_reducible exact H | (rw [e_]; exact H) | exact H)) : P := g e h
theorem hw_ {P : Prop} (h : P := by (intro w hSw; (try dsimp only at hSw); (try simp only [List.getElem_toArray, List.getElem_cons_succ, List.getElem_cons_zero]); go_simp; first | done | with_reducible rfl)) : P := h
theorem kr_ {P : Prop} (h : P := by kernel_rfl) : P := h
theorem c3_ {a b c d : Prop} (h : a ∧ b ∧ c ∧ d) : a ∧ b ∧ c := ⟨h.1, h.2.1, h.2.2.1⟩
theorem d3_ {a b c d e : Prop} (h : a ∧ b ∧ c ∧ d) (g : e) : a ∧ b ∧ c ∧ e := ⟨h.1, h.2.1, h.2.2.1, g⟩
end Go.Proofs.YtlbjjhecgceiaaaGreatDoor
namespace Go.Proofs.YtlbjjhecgceiaaaGreatDoor.PFnFixSubExact
open Go.RowKit Go.Proofs.YtlbjjhecgceiaaaGreatDoorW.PrintWords Go.Proofs.YtlbjjhecgceiaaaGreatDoorW.PrintLast Go.Proofs.YtlbjjhecgceiaaaGreatDoorW.PrintMore
attribute [local go_sem] max2_int min2_int max_two min_two max_three min_three max_four min_four
set_option linter.unusedVariables false
set_option linter.unusedSimpArgs false
def errW : Option Int → Value
 | none => .nilIface
 | some c => .iface 0 (.int .i64 c)
theorem errW_none : errW none = .nilIface := rfl
theorem errW_some (c : Int) : errW (some c) = .iface 0 (.int .i64 c) := rfl
theorem info5 : (Tryz.prog.info? 5).map (fun i => (i.zero, i.size, i.bytes)) = some (some (.int .u8 0), 1, 1) := by kernel_rfl
theorem info80 : (Tryz.prog.info? 80).map (fun i => (i.zero, i.size, i.bytes)) = some (some (.int .u32 0), 1, 4) := by kernel_rfl
end Go.Proofs.YtlbjjhecgceiaaaGreatDoor.PFnFixSubExact
namespace Go.Proofs.YtlbjjhecgceiaaaGreatDoor
open Go.RowKit
set_option linter.unusedVariables false
set_option linter.unusedSimpArgs false
def v9 : List Int → Int
 | [] => 0
 | x :: r => x + 1000000000 * v9 r
def Lms (xs : List Int) : Prop := ∀ x ∈ xs, 0 ≤ x ∧ x < 1000000000
def Trm (xs : List Int) : Prop := ∀ y ys, xs = ys ++ [y] → y ≠ 0
def p9 (n : Nat) : Int := 1000000000 ^ n
theorem p9_succ (n : Nat) : p9 (n + 1) = 1000000000 * p9 n := by unfold p9; rw [Int.pow_succ, Int.mul_comm]
theorem p9_pos (n : Nat) : 0 < p9 n := Int.pow_pos (by omega)
theorem p9_add (m n : Nat) : p9 (m + n) = p9 m * p9 n := by unfold p9; rw [Int.pow_add]
theorem Lms.nil : Lms [] := by intro x h; cases h
theorem Lms.cons {x : Int} {xs : List Int} (h0 : 0 ≤ x) (h1 : x < 1000000000) (h : Lms xs) : Lms (x :: xs) := by
 intro y hy
 rcases List.mem_cons.1 hy with rfl | hy
 ·exact ⟨h0, h1⟩
 ·exact h y hy
theorem Lms.head {x : Int} {xs : List Int} (h : Lms (x :: xs)) : 0 ≤ x ∧ x < 1000000000 := h x (by simp)
theorem Lms.tail {x : Int} {xs : List Int} (h : Lms (x :: xs)) : Lms xs := fun y hy => h y (by simp [hy])
theorem Lms.app {xs ys : List Int} (h : Lms xs) (k : Lms ys) : Lms (xs ++ ys) := fun y hy => (List.mem_append.1 hy).elim (h y) (k y)
theorem Lms.take {xs : List Int} (h : Lms xs) (n : Nat) : Lms (xs.take n) := fun y hy => h y (List.mem_of_mem_take hy)
theorem Lms.set {xs : List Int} (h : Lms xs) (i : Nat) {v : Int} (h0 : 0 ≤ v) (h1 : v < 1000000000) : Lms (xs.set i v) := fun y hy => by
 rcases List.mem_or_eq_of_mem_set hy with hy | rfl
 ·exact h y hy
 ·exact ⟨h0, h1⟩
theorem Lms.rep (n : Nat) : Lms (List.replicate n 0) := fun y hy => by
 have := List.eq_of_mem_replicate hy
 omega
theorem Lms.getD {xs : List Int} (h : Lms xs) (i : Nat) : 0 ≤ xs.getD i 0 ∧ xs.getD i 0 < 1000000000 := by
 by_cases hi : i < xs.length
 ·rw [List.getD_eq_getElem?_getD, List.getElem?_eq_getElem hi]; exact h _ (List.getElem_mem hi)
 ·rw [List.getD_eq_getElem?_getD, List.getElem?_eq_none (by omega)]; simp
theorem v9_nonneg : ∀ {xs : List Int}, Lms xs → 0 ≤ v9 xs
 | [], _ => by simp [v9]
 | x :: r, h => by have := v9_nonneg h.tail; have := h.head; unfold v9; omega
theorem v9_lt : ∀ {xs : List Int}, Lms xs → v9 xs < p9 xs.length
 | [], _ => by simp [v9, p9]
 | x :: r, h => by
  have := v9_lt h.tail
  have := h.head
  unfold v9
  rw [List.length_cons, p9_succ]; omega
theorem v9_app : ∀ (xs ys : List Int), v9 (xs ++ ys) = v9 xs + p9 xs.length * v9 ys
 | [], ys => by simp [v9, p9]
 | x :: r, ys => by
  rw [List.cons_append, v9, v9_app r ys, v9, List.length_cons, p9_succ, Int.mul_assoc, Int.mul_add]; omega
theorem v9_snoc (xs : List Int) (y : Int) : v9 (xs ++ [y]) = v9 xs + p9 xs.length * y := by rw [v9_app]; simp [v9]
theorem v9_rep : ∀ n : Nat, v9 (List.replicate n 0) = 0
 | 0 => rfl
 | n + 1 => by rw [List.replicate_succ, v9, v9_rep n]; rfl
theorem v9_set : ∀ (xs : List Int) (i : Nat) (v : Int), i < xs.length → v9 (xs.set i v) = v9 xs + (v - xs.getD i 0) * p9 i
 | [], i, v, h => by simp at h
 | x :: r, 0, v, h => by simp [v9, p9]; omega
 | x :: r, i + 1, v, h => by
  have ih := v9_set r i v (by simpa using h)
  rw [List.set_cons_succ, v9, v9, ih, p9_succ, List.getD_cons_succ, Int.mul_add, Int.mul_left_comm]; omega
theorem v9_take_succ (xs : List Int) (i : Nat) (h : i < xs.length) : v9 (xs.take (i + 1)) = v9 (xs.take i) + p9 i * xs.getD i 0 := by
 rw [List.take_succ_eq_append_getElem h, v9_snoc, List.length_take, Nat.min_eq_left (by omega), List.getD_eq_getElem?_getD, List.getElem?_eq_getElem h, Option.getD_some]
theorem v9_pos {xs : List Int} (h : Lms xs) (ht : Trm xs) (hne : xs ≠ []) : p9 (xs.length - 1) ≤ v9 xs := by
 obtain ⟨ys, y, rfl⟩ : ∃ ys y, xs = ys ++ [y] := ⟨_, _, (List.dropLast_concat_getLast hne).symm⟩
 have h1 := ht y ys rfl
 have h2 := h y (by simp)
 have h3 := v9_nonneg (xs := ys) (fun z hz => h z (by simp [hz]))
 rw [v9_snoc]
 have h4 := Int.mul_le_mul_of_nonneg_left (show (1 : Int) ≤ y by omega) (Int.le_of_lt (p9_pos ys.length))
 have e : (ys ++ [y]).length - 1 = ys.length := by simp
 rw [e]
 omega
theorem p9_mono {m n : Nat} (h : m ≤ n) : p9 m ≤ p9 n := by
 obtain ⟨k, rfl⟩ := Nat.exists_eq_add_of_le h
 rw [p9_add]
 have h1 := p9_pos k
 have h2 := Int.mul_le_mul_of_nonneg_left (show (1 : Int) ≤ p9 k by omega) (Int.le_of_lt (p9_pos m))
 omega
theorem Trm.nil : Trm [] := by intro y ys h; simp at h
theorem Trm.zero {xs : List Int} (h : Lms xs) (ht : Trm xs) (hz : v9 xs = 0) : xs = [] := by
 apply Classical.byContradiction
 intro hne
 have h1 := v9_pos h ht hne
 have h2 := p9_pos (xs.length - 1)
 omega
theorem Trm.len {xs : List Int} (h : Lms xs) (ht : Trm xs) {n : Nat} (hv : v9 xs < p9 n) : xs.length ≤ n := by
 by_cases hne : xs = []
 ·subst hne; simp
 ·have h1 := v9_pos h ht hne
  apply Classical.byContradiction
  intro hl
  have h2 := p9_mono (show n ≤ xs.length - 1 by omega)
  omega
theorem Trm.last {xs : List Int} {y : Int} (h : y ≠ 0) : Trm (xs ++ [y]) := by
 intro z zs e
 have := List.append_inj' e rfl
 simp at this
 omega
structure IsN (xs : List Int) (a : Nat) : Prop where
 lms : Lms xs
 trm : Trm xs
 val : v9 xs = (a : Int)
theorem p9_ten (n : Nat) : p9 n = ((10 ^ (9 * n) : Nat) : Int) := by
 unfold p9
 rw [Nat.pow_mul, Int.natCast_pow]; rfl
def tn (k : Nat) : Nat := 10 ^ k
theorem tn_add (j k : Nat) : tn (j + k) = tn j * 10 ^ k := Nat.pow_add 10 j k
theorem tn_le {j k : Nat} (h : j ≤ k) : tn j ≤ tn k := Nat.pow_le_pow_right (by omega) h
theorem up_tn {x j k : Nat} (h : x < tn j) (hk : j ≤ k) : x < tn k := Nat.lt_of_lt_of_le h (tn_le hk)
theorem lt_tn {x j k : Nat} (h : x < 10 ^ j) (hk : j ≤ k) : x < tn k := Nat.lt_of_lt_of_le h (tn_le hk)
theorem pow_tn {j k : Nat} (h : j < k) : 10 ^ j < tn k := Nat.pow_lt_pow_right (by omega) h
theorem mul_tn {x y j k : Nat} (hx : x < tn j) (hy : y < 10 ^ k) : x * y < tn (j + k) := by
 rw [tn_add]
 exact Nat.lt_of_le_of_lt (Nat.mul_le_mul_left _ (Nat.le_of_lt hy)) (Nat.mul_lt_mul_of_pos_right hx (Nat.pow_pos (by omega)))
theorem two_tn {x y j k : Nat} (hx : x < tn j) (hy : y < tn j) (hk : j < k) : x + y < tn k := by
 have h := tn_le (show j + 1 ≤ k by omega)
 rw [tn_add] at h
 omega
theorem IsN.lenk {xs : List Int} {a n : Nat} (h : IsN xs a) (ha : a < tn (9 * n)) : xs.length ≤ n := by
 refine h.trm.len h.lms ?_
 rw [h.val, p9_ten]
 exact Int.ofNat_lt.2 ha
theorem IsN.len {xs : List Int} {a : Nat} (h : IsN xs a) (ha : a < tn 1800) : xs.length ≤ 200 := h.lenk (n := 200) ha
theorem IsN.zero {xs : List Int} (h : IsN xs 0) : xs = [] := h.trm.zero h.lms (by rw [h.val]; rfl)
theorem IsN.nil : IsN [] 0 := ⟨Lms.nil, Trm.nil, rfl⟩
theorem IsN.nil_iff {xs : List Int} {a : Nat} (h : IsN xs a) : xs = [] ↔ a = 0 := by
 constructor
 ·rintro rfl
  have := h.val
  simp [v9] at this
  omega
 ·rintro rfl; exact h.zero
def trim9 (xs : List Int) : List Int := if h : xs = [] then [] else if xs.getLast h = 0 then trim9 xs.dropLast else xs
 termination_by xs.length
 decreasing_by
  rw [List.length_dropLast]
  have := List.length_pos_iff.2 h
  omega
theorem trim9_nil : trim9 [] = [] := by rw [trim9]; simp
theorem trim9_zero (xs : List Int) : trim9 (xs ++ [0]) = trim9 xs := by rw [trim9]; simp
theorem trim9_last (xs : List Int) {y : Int} (h : y ≠ 0) : trim9 (xs ++ [y]) = xs ++ [y] := by rw [trim9]; simp [h]
theorem trim9_val : ∀ (n : Nat) (xs : List Int), xs.length = n → v9 (trim9 xs) = v9 xs
 | 0, xs, h => by rw [List.length_eq_zero_iff.1 h, trim9_nil]
 | n + 1, xs, h => by
  have hne : xs ≠ [] := by intro e; subst e; simp at h
  obtain ⟨ys, y, rfl⟩ : ∃ ys y, xs = ys ++ [y] := ⟨_, _, (List.dropLast_concat_getLast hne).symm⟩
  by_cases hy : y = 0
  ·subst hy
   rw [trim9_zero, trim9_val n ys (by simpa using h), v9_snoc]; simp
  ·rw [trim9_last _ hy]
theorem trim9_ok : ∀ (n : Nat) (xs : List Int), xs.length = n → Lms xs → Lms (trim9 xs) ∧ Trm (trim9 xs)
 | 0, xs, h, hl => by rw [List.length_eq_zero_iff.1 h, trim9_nil]; exact ⟨Lms.nil, Trm.nil⟩
 | n + 1, xs, h, hl => by
  have hne : xs ≠ [] := by intro e; subst e; simp at h
  obtain ⟨ys, y, rfl⟩ : ∃ ys y, xs = ys ++ [y] := ⟨_, _, (List.dropLast_concat_getLast hne).symm⟩
  by_cases hy : y = 0
  ·subst hy
   rw [trim9_zero]
   exact trim9_ok n ys (by simpa using h) (fun z hz => hl z (by simp [hz]))
  ·rw [trim9_last _ hy]; exact ⟨hl, Trm.last hy⟩
theorem trim9_is {xs : List Int} {a : Nat} (h : Lms xs) (hv : v9 xs = a) : IsN (trim9 xs) a :=
 ⟨(trim9_ok _ xs rfl h).1, (trim9_ok _ xs rfl h).2, (trim9_val _ xs rfl).trans hv⟩
end Go.Proofs.YtlbjjhecgceiaaaGreatDoor
namespace Go.Proofs.YtlbjjhecgceiaaaGreatDoor.PFnFixSubExact
open Go.RowKit Go.Proofs.YtlbjjhecgceiaaaGreatDoorW.PrintWords Go.Proofs.YtlbjjhecgceiaaaGreatDoorW.PrintLast Go.Proofs.YtlbjjhecgceiaaaGreatDoorW.PrintMore
attribute [local go_sem] max2_int min2_int max_two min_two max_three min_three max_four min_four
set_option linter.unusedVariables false
set_option linter.unusedSimpArgs false
def spec_natTrim.l0 : Nat → List Int → Option (List Int)
 | 0, _ => none
 | k + 1, x0 => if (x0.length : Int) > 0 then (if 0 ≤ (wrap64 ((x0.length : Int) - 1)) then (if (wrap64 ((x0.length : Int) - 1)) < (x0.length : Int) then (if (rd x0 (wrap64 ((x0.length : Int) - 1))) = 0 then (if (wrap64 ((x0.length : Int) - 1)) ≤ (x0.length : Int) then (spec_natTrim.l0 k (x0.take ((wrap64 ((x0.length : Int) - 1)) : Int).toNat)) else (none)) else (some x0)) else (none)) else (none)) else (some x0)
def spec_natTrim.f (k : Nat) (l0 : List Int) : Option (List Int) := spec_natTrim.l0 k l0
set_option maxHeartbeats 8000000 in
set_option maxRecDepth 100000 in
theorem spec_natTrim.calls (k : Nat) (P0_ : Nat → Prop) (A0 : Option Addr) (c0 : Nat) (l0 : List Int) (r : List Int) (w : World) (hs0 : Kd.V (Kd.int .u32) 80 w w.heap.size (fun k_ => P0_ k_) (.slice A0 l0.length c0) l0) (h : spec_natTrim.f k l0 = some r) :
  Calls Tryz.prog 69 #[.slice A0 l0.length c0] w fun e w' => ∃ v0_ : Value, e = .returned (v0_) ∧ Kd.V (Kd.int .u32) 80 w' w.heap.size (fun k_ => (P0_ k_ ∨ w.heap.size ≤ k_)) v0_ r ∧ Below w.heap.size w w' := by
 have HO0 := Aside0.mk (show Kd.V (Kd.int .u32) 80 w w.heap.size (fun k_ => (P0_ k_ ∨ w.heap.size ≤ k_)) (.slice A0 l0.length c0) l0 from Kd.V_mono hs0 (fun k_ hk => .inl hk))
 have HB := Aside0.mk (Below.refl w.heap.size w)
 have H : (spec_natTrim.l0 k l0) = some r := h
 clear h
 have H' := Aside0.mk H
 clear H
 go_enter Tryz.func69, Tryz.ntmps69
 go_wp2
 go_loopg [0] k (fun kq v0 w' => ∃ (x0_1 : List Int), Aside0 (spec_natTrim.l0 kq x0_1 = some r) ∧ Aside0 (kq ≤ k) ∧ Aside0 (Kd.V (Kd.int .u32) 80 w' w.heap.size (fun k_ => (P0_ k_ ∨ w.heap.size ≤ k_)) v0 x0_1) ∧ Aside0 (Below w.heap.size w w'))
 case atStart => exact ⟨(l0), H', ⟨Nat.le_refl _⟩, ⟨by (with_reducible repeat (first | apply Kd.V_alloc | apply Kd.V_drewN | apply Kd.V_drew)); exact HO0.out⟩, ⟨bel_⟩⟩
 case round =>
  clear H'
  obtain ⟨x0_1, HA, HK1, HO_0, HB⟩ := hrel
  cases gk with
  | zero => exact absurd HA.out (by simp [spec_natTrim.l0])
  | succ k1 =>
   have H := HA.out
   clear HA
   simp only [spec_natTrim.l0] at H
   by_cases c2 : (x0_1.length : Int) > 0
   ·rw [if_pos c2] at H
    have c2b0 : decide (0 < (x0_1.length : Int)) = true := decide_eq_true c2
    have c2b1 : decide (0 < x0_1.length) = true := decide_eq_true (by omega)
    clear c2
    obtain ⟨ji3, hji3⟩ : ∃ j_ : Int, (wrap64 ((x0_1.length : Int) - 1)) = j_ := ⟨_, rfl⟩
    replace H : (if 0 ≤ (ji3) then (if (ji3) < (x0_1.length : Int) then (if (rd x0_1 (ji3)) = 0 then (if (ji3) ≤ (x0_1.length : Int) then (spec_natTrim.l0 k1 (x0_1.take ((ji3) : Int).toNat)) else (none)) else (some x0_1)) else (none)) else (none)) = some r := by first | (rw [hji3] at H; exact H) | (simp only [hji3] at H ⊢; exact H)
    have hji3w : (IntKind.i64.wrap ((x0_1.length : Int) - 1)) = ji3 := (i64_w _).trans hji3
    by_cases c4 : 0 ≤ (ji3)
    ·rw [if_pos c4] at H
     have c4b0 : decide (0 ≤ (ji3)) = true := decide_eq_true c4
     clear c4
     by_cases c5 : (ji3) < (x0_1.length : Int)
     ·rw [if_pos c5] at H
      have c5b0 : decide ((ji3) < (x0_1.length : Int)) = true := decide_eq_true c5
      clear c5
      by_cases c6 : (rd x0_1 (ji3)) = 0
      ·rw [if_pos c6] at H
       have c6b0 : ((rd x0_1 (ji3)) == 0) = true := beq_iff_eq.mpr c6
       have c6b1 : ((rd x0_1 (ji3)) != 0) = false := bne_eq_false_iff_eq.mpr c6
       clear c6
       have c7b0 := eq_true (ode_ : 0 ≤ (ji3))
       by_cases c8 : (ji3) ≤ (x0_1.length : Int)
       ·rw [if_pos c8] at H
        have c8b0 := eq_true c8
        have c8b1 : decide ((ji3) ≤ (x0_1.length : Int)) = true := decide_eq_true c8
        clear c8
        obtain ⟨y225, hy225⟩ : ∃ y_ : List Int, y_ = (x0_1.take ((ji3) : Int).toNat) := ⟨_, rfl⟩
        replace H : (spec_natTrim.l0 k1 y225) = some r := fo_ hy225 H
        have Ny225 := Aside0.mk hy225
        clear hy225
        have H' := Aside0.mk H
        clear H
        obtain ⟨Ao9, co9, eo9⟩ := Kd.V_slice HO_0.out
        subst eo9
        have p224 : 0 ≤ ((ji3) : Int) := ode_
        have q224 : (ji3) < (x0_1.length : Int) := ode_
        obtain ⟨ad224, e224, hx224_0⟩ := Kd.at_int (Kd.V_reads' HO_0.out).2.2 (ji3) p224 q224
        cases e224
        replace p224 := eq_true p224
        replace q224 := eq_true q224
        have q10 : ((ji3) : Int) ≤ ((x0_1.length : Int) : Int) := ode_
        obtain ⟨i010, hi010, _, hsz10, _⟩ := info_parts info80
        have hroom10 : x0_1.length ≤ co9 := (Kd.V_reads' HO_0.out).2.1
        have hC10 : Kd.F (Kd.int .u32) _ _ (some ad224) x0_1.length x0_1 := (Kd.V_at (base := w.heap.size) HO_0.out).2.2
        have hcut10 := cut_to (P := Tryz.prog) 30 80 .i64 Tryz.underlying30 hi010 (some ad224) x0_1.length co9 (ji3) ode_ q10 hroom10
        have hr10 := Kd.F_take (m := ((ji3) : Int).toNat) hC10 (by omega)
        have hy10 : y225.length = ((ji3) : Int).toNat := (by rw [Ny225.out, List.length_take]; omega)
        rw [← Ny225.out] at hr10
        rw [← hy10] at hcut10
        have HO229 := Aside0.mk (show Kd.V (Kd.int .u32) 80 _ w.heap.size _ (.slice (some ad224) y225.length co9) y225 from Kd.V_mk (by omega) hr10)
        have HC229 := Aside0.mk (show y225.length ≤ co9 from by omega)
        clear hr10 hC10 hroom10 hi010 hsz10
        have KY10 := Aside0.mk hy10
        clear hy10
        replace q10 := eq_true q10
        go_wp2
        go_roundg k1
        case measure => have := HK1.out; omega
        case rel => exact ⟨(y225), H', ⟨by have := HK1.out; omega⟩, ⟨by (with_reducible repeat (first | apply Kd.V_alloc | apply Kd.V_drewN | apply Kd.V_drew)); exact HO229.out⟩, ⟨bel_⟩⟩
       ·rw [if_neg c8] at H
        exact absurd H (by simp)
      ·rw [if_neg c6] at H
       have c6b0 : ((rd x0_1 (ji3)) == 0) = false := beq_eq_false_iff_ne.mpr c6
       have c6b1 : ((rd x0_1 (ji3)) != 0) = true := bne_iff_ne.mpr c6
       obtain rfl := Option.some.inj H
       obtain ⟨Ao11, co11, eo11⟩ := Kd.V_slice HO_0.out
       subst eo11
       have p224 : 0 ≤ ((ji3) : Int) := ode_
       have q224 : (ji3) < (x0_1.length : Int) := ode_
       obtain ⟨ad224, e224, hx224_0⟩ := Kd.at_int (Kd.V_reads' HO_0.out).2.2 (ji3) p224 q224
       cases e224
       replace p224 := eq_true p224
       replace q224 := eq_true q224
       go_wp2
       go_ret
       exact ⟨_, by first | rfl | (simp [errW_none, errW_some] <;> rfl) | (simp only [← hji3]; first | rfl | (simp [errW_none, errW_some] <;> rfl)) | (simp [*, errW_none, errW_some] <;> rfl), by (with_reducible repeat (first | apply Kd.V_alloc | apply Kd.V_drewN | apply Kd.V_drew)); exact HO_0.out, bel_⟩
     ·rw [if_neg c5] at H
      exact absurd H (by simp)
    ·rw [if_neg c4] at H
     exact absurd H (by simp)
   ·rw [if_neg c2] at H
    have c2b0 : decide (0 < (x0_1.length : Int)) = false := decide_eq_false c2
    have c2b1 : decide (0 < x0_1.length) = false := decide_eq_false (by omega)
    clear c2
    obtain rfl := Option.some.inj H
    obtain ⟨Ao12, co12, eo12⟩ := Kd.V_slice HO_0.out
    subst eo12
    go_wp2
    go_ret
    exact ⟨_, by first | rfl | (simp [errW_none, errW_some] <;> rfl) | (simp [*, errW_none, errW_some] <;> rfl), by (with_reducible repeat (first | apply Kd.V_alloc | apply Kd.V_drewN | apply Kd.V_drew)); exact HO_0.out, bel_⟩
mutual
def spec_NatMul.l0 : Nat → List Int → List Int → List Int → Int → Int → Option (List Int)
 | 0, _, _, _, _, _ => none
 | k + 1, x1, x5, x17, x18, x19 => if x19 < x18 then (if 0 ≤ x19 then (if x19 < (x17.length : Int) then (spec_NatMul.l1 k x1 x5 x19 (rd x17 x19) 0 x17 x18 x19 x1 (x1.length : Int) 0) else (none)) else (none)) else ((spec_natTrim.f k x5).bind fun t233 => (some t233))
def spec_NatMul.l1 : Nat → List Int → List Int → Int → Int → Int → List Int → Int → Int → List Int → Int → Int → Option (List Int)
 | 0, _, _, _, _, _, _, _, _, _, _, _ => none
 | k + 1, x1, x5, x6, x7, x8, x17, x18, x19, x24, x25, x26 => if x26 < x25 then (if 0 ≤ x26 then (if x26 < (x24.length : Int) then (if 0 ≤ (wrap64 (x6 + x26)) then (if (wrap64 (x6 + x26)) < (x5.length : Int) then (spec_NatMul.l1 k x1 (x5.set ((wrap64 (x6 + x26)) : Int).toNat ((Int.tmod (IntKind.u64.wrap (x8 + (IntKind.u64.wrap ((IntKind.u64.wrap (rd x5 (wrap64 (x6 + x26)))) + (IntKind.u64.wrap ((IntKind.u64.wrap (x7)) * (IntKind.u64.wrap (rd x24 x26)))))))) 1000000000) % 4294967296)) x6 x7 (IntKind.u64.wrap (Int.tdiv (IntKind.u64.wrap (x8 + (IntKind.u64.wrap ((IntKind.u64.wrap (rd x5 (wrap64 (x6 + x26)))) + (IntKind.u64.wrap ((IntKind.u64.wrap (x7)) * (IntKind.u64.wrap (rd x24 x26)))))))) 1000000000)) x17 x18 x19 x24 x25 (wrap64 (x26 + 1))) else (none)) else (none)) else (none)) else (none)) else (if 0 ≤ (wrap64 (x6 + (x1.length : Int))) then (if (wrap64 (x6 + (x1.length : Int))) < (x5.length : Int) then (spec_NatMul.l0 k x1 (x5.set ((wrap64 (x6 + (x1.length : Int))) : Int).toNat ((x8) % 4294967296)) x17 x18 (wrap64 (x19 + 1))) else (none)) else (none))
end
def spec_NatMul.f (k : Nat) (l0 : List Int) (l1 : List Int) : Option (List Int) := if 0 ≤ (wrap64 ((l0.length : Int) + (l1.length : Int))) then (if (wrap64 ((l0.length : Int) + (l1.length : Int)) : Int).toNat ≤ 70368744177664 then (spec_NatMul.l0 k l1 (List.replicate (wrap64 ((l0.length : Int) + (l1.length : Int)) : Int).toNat 0) l0 (l0.length : Int) 0) else (none)) else (none)
set_option maxHeartbeats 8000000 in
set_option maxRecDepth 100000 in
theorem spec_NatMul.calls (k : Nat) (A0 : Option Addr) (c0 : Nat) (l0 : List Int) (A1 : Option Addr) (c1 : Nat) (l1 : List Int) (r : List Int) (w : World) (hr0 : Kd.C (Kd.int .u32) w A0 l0.length l0) (hc0 : l0.length ≤ c0) (hr1 : Kd.C (Kd.int .u32) w A1 l1.length l1) (hc1 : l1.length ≤ c1) (h : spec_NatMul.f k l0 l1 = some r) :
  Calls Tryz.prog 40 #[.slice A0 l0.length c0, .slice A1 l1.length c1] w fun e w' => ∃ v0_ : Value, e = .returned (v0_) ∧ Kd.V (Kd.int .u32) 80 w' w.heap.size (fun k_ => (w.heap.size ≤ k_)) v0_ r ∧ Below w.heap.size w w' := by
 have HR0 := Aside0.mk hr0
 have HC0 := Aside0.mk hc0
 clear hr0 hc0
 have HR1 := Aside0.mk hr1
 have HC1 := Aside0.mk hc1
 clear hr1 hc1
 have HB := Aside0.mk (Below.refl w.heap.size w)
 have H : (if 0 ≤ (wrap64 ((l0.length : Int) + (l1.length : Int))) then (if (wrap64 ((l0.length : Int) + (l1.length : Int)) : Int).toNat ≤ 70368744177664 then (spec_NatMul.l0 k l1 (List.replicate (wrap64 ((l0.length : Int) + (l1.length : Int)) : Int).toNat 0) l0 (l0.length : Int) 0) else (none)) else (none)) = some r := h
 clear h
 obtain ⟨ji3, hji3⟩ : ∃ j_ : Int, (wrap64 ((l0.length : Int) + (l1.length : Int))) = j_ := ⟨_, rfl⟩
 replace H : (if 0 ≤ (ji3) then (if (ji3 : Int).toNat ≤ 70368744177664 then (spec_NatMul.l0 k l1 (List.replicate (ji3 : Int).toNat 0) l0 (l0.length : Int) 0) else (none)) else (none)) = some r := by first | (rw [hji3] at H; exact H) | (simp only [hji3] at H ⊢; exact H)
 have hji3w : (IntKind.i64.wrap ((l0.length : Int) + (l1.length : Int))) = ji3 := (i64_w _).trans hji3
 by_cases c4 : 0 ≤ (ji3)
 ·rw [if_pos c4] at H
  have c4b0 := eq_true c4
  have c4b1 : decide (0 ≤ (ji3)) = true := decide_eq_true c4
  clear c4
  by_cases c5 : (ji3 : Int).toNat ≤ 70368744177664
  ·rw [if_pos c5] at H
   have c5b0 := eq_true c5
   have c5b1 : decide ((ji3 : Int).toNat ≤ 70368744177664) = true := decide_eq_true c5
   clear c5
   obtain ⟨y230, hy230⟩ : ∃ y_ : List Int, y_ = (List.replicate (ji3 : Int).toNat 0) := ⟨_, rfl⟩
   replace H : (spec_NatMul.l0 k l1 y230 l0 (l0.length : Int) 0) = some r := fo_ hy230 H
   have Ny230 := Aside0.mk hy230
   clear hy230
   have H' := Aside0.mk H
   clear H
   go_enter Tryz.func40, Tryz.ntmps40
   go_wp2_with (first | ((with_reducible refine gate_dst (N := 16) rfl ?_); refine Kd.R_make (Kd.int .u32) _ 80 rfl (N := 16) rfl 30 _ _ rfl ji3 rfl rfl Tryz.underlying30 (.int .u32 0) 4 info80 rfl (by decide) (by omega) 0 (ok := fun _ => True) (okp := fun _ => True) rfl (fun _ hk => hk) trivial ode_ (Nat.le_trans (Nat.mul_le_mul_right _ (ode_ : ji3.toNat ≤ 70368744177664)) (by omega)) (Below.refl _ _) (Nat.le_refl _) ?_; intro v231 w6 ho7 hb hg_ hnew_; clear hg_ hnew_; (first | rw [← Ny230.out] at ho7 | (simp only [Int.reduceToNat] at ho7; rw [← Ny230.out] at ho7)); have n0_ := Aside0.mk (Kd.R_lower (Kd.R_newM (M := fun k_ => (w.heap.size ≤ k_)) ho7 (below_size bel_) (fun k_ h_ => h_)) (below_size bel_)); have n1_ := Aside0.mk (below_step bel_ hb); clear HB; have HO232 := n0_; have HB := n1_; clear n0_ n1_; clear hb ho7))
   go_loopg [19] k (fun kq v19 w' => ∃ (x5_1 : List Int) (x19_1 : Int), v19 = .int .i64 x19_1 ∧ Aside0 (spec_NatMul.l0 kq l1 x5_1 l0 (l0.length : Int) x19_1 = some r) ∧ Aside0 (kq ≤ k) ∧ Aside0 (Kd.R (Kd.int .u32) 80 w' w.heap.size (fun k_ => (w.heap.size ≤ k_)) v231 x5_1) ∧ Aside0 (Below w.heap.size w w'))
   case atStart => exact ⟨(y230), (0), sd_, H', ⟨Nat.le_refl _⟩, ⟨by (with_reducible repeat (first | apply Kd.R_alloc | apply Kd.R_drewN | apply Kd.R_drew)); exact Kd.R_mono HO232.out (fun _ hk => hk.1)⟩, ⟨bel_⟩⟩
   case round =>
    clear H'
    try clear c1
    try clear p2
    try clear c4
    try clear c4b0
    try clear c4b1
    try clear c5
    try clear c5b0
    try clear c5b1
    try clear p6
    obtain ⟨x5_1, x19_1, rfl, HA, HK1, HO_5, HB⟩ := hrel
    cases gk with
    | zero => exact absurd HA.out (by simp [spec_NatMul.l0])
    | succ k1 =>
     have H := HA.out
     clear HA
     simp only [spec_NatMul.l0] at H
     by_cases c8 : x19_1 < (l0.length : Int)
     ·rw [if_pos c8] at H
      have c8b0 : decide (x19_1 < (l0.length : Int)) = true := decide_eq_true c8
      clear c8
      by_cases c9 : 0 ≤ x19_1
      ·rw [if_pos c9] at H
       have c9b0 : decide (0 ≤ x19_1) = true := decide_eq_true c9
       clear c9
       by_cases c10 : x19_1 < (l0.length : Int)
       ·rw [if_pos c10] at H
        have c10b0 : decide (x19_1 < (l0.length : Int)) = true := decide_eq_true c10
        clear c10
        have H' := Aside0.mk H
        clear H
        have p236 : 0 ≤ (x19_1 : Int) := ode_
        have q236 : x19_1 < (l0.length : Int) := ode_
        obtain ⟨ad236, e236, hx236_0⟩ := Kd.at_int HR0.out x19_1 p236 q236
        cases e236
        replace hx236_0 := (HB.out.cell (World.block_lt_of_cell? w _ hx236_0)).trans hx236_0
        replace p236 := eq_true p236
        replace q236 := eq_true q236
        go_wp2
        go_loopg [8, 26] k1 (fun kq v8 v26 w' => ∃ (x5_2 : List Int) (x8_2 : Int) (x26_2 : Int), v8 = .int .u64 x8_2 ∧ v26 = .int .i64 x26_2 ∧ Aside0 (spec_NatMul.l1 kq l1 x5_2 x19_1 (rd l0 x19_1) x8_2 l0 (l0.length : Int) x19_1 l1 (l1.length : Int) x26_2 = some r) ∧ Aside0 (kq ≤ k1) ∧ Aside0 (Kd.R (Kd.int .u32) 80 w' w.heap.size (fun k_ => (w.heap.size ≤ k_)) v231 x5_2) ∧ Aside0 (Below w.heap.size w w'))
        case atStart => exact ⟨(x5_1), (0), (0), sd_, sd_, H', ⟨Nat.le_refl _⟩, ⟨by (with_reducible repeat (first | apply Kd.R_alloc | apply Kd.R_drewN | apply Kd.R_drew)); exact HO_5.out⟩, ⟨bel_⟩⟩
        case round =>
         clear H'
         try clear c1
         try clear p2
         try clear q2
         try clear hx2
         try clear c4
         try clear c4b0
         try clear c4b1
         try clear c5
         try clear c5b0
         try clear c5b1
         try clear p6
         try clear c8
         try clear c8b0
         try clear c9
         try clear c9b0
         try clear c10
         try clear c10b0
         try clear hx236_0
         try clear p2
         try clear p236
         try clear p6
         try clear q236
         obtain ⟨x5_2, x8_2, x26_2, rfl, rfl, HA, HK2, HO_5, HB⟩ := hrel
         cases gk with
         | zero => exact absurd HA.out (by simp [spec_NatMul.l1])
         | succ k2 =>
          have H := HA.out
          clear HA
          simp only [spec_NatMul.l1] at H
          by_cases c11 : x26_2 < (l1.length : Int)
          ·rw [if_pos c11] at H
           have c11b0 : decide (x26_2 < (l1.length : Int)) = true := decide_eq_true c11
           clear c11
           by_cases c12 : 0 ≤ x26_2
           ·rw [if_pos c12] at H
            have c12b0 : decide (0 ≤ x26_2) = true := decide_eq_true c12
            clear c12
            by_cases c13 : x26_2 < (l1.length : Int)
            ·rw [if_pos c13] at H
             have c13b0 : decide (x26_2 < (l1.length : Int)) = true := decide_eq_true c13
             clear c13
             obtain ⟨ji14, hji14⟩ : ∃ j_ : Int, (wrap64 (x19_1 + x26_2)) = j_ := ⟨_, rfl⟩
             replace H : (if 0 ≤ (ji14) then (if (ji14) < (x5_2.length : Int) then (spec_NatMul.l1 k2 l1 (x5_2.set ((ji14) : Int).toNat ((Int.tmod (IntKind.u64.wrap (x8_2 + (IntKind.u64.wrap ((IntKind.u64.wrap (rd x5_2 (ji14))) + (IntKind.u64.wrap ((IntKind.u64.wrap ((rd l0 x19_1))) * (IntKind.u64.wrap (rd l1 x26_2)))))))) 1000000000) % 4294967296)) x19_1 (rd l0 x19_1) (IntKind.u64.wrap (Int.tdiv (IntKind.u64.wrap (x8_2 + (IntKind.u64.wrap ((IntKind.u64.wrap (rd x5_2 (ji14))) + (IntKind.u64.wrap ((IntKind.u64.wrap ((rd l0 x19_1))) * (IntKind.u64.wrap (rd l1 x26_2)))))))) 1000000000)) l0 (l0.length : Int) x19_1 l1 (l1.length : Int) (wrap64 (x26_2 + 1))) else (none)) else (none)) = some r := by first | (rw [hji14] at H; exact H) | (simp only [hji14] at H ⊢; exact H)
             have hji14w : (IntKind.i64.wrap (x19_1 + x26_2)) = ji14 := (i64_w _).trans hji14
             by_cases c15 : 0 ≤ (ji14)
             ·rw [if_pos c15] at H
              have c15b0 : decide (0 ≤ (ji14)) = true := decide_eq_true c15
              clear c15
              by_cases c16 : (ji14) < (x5_2.length : Int)
              ·rw [if_pos c16] at H
               have c16b0 : decide ((ji14) < (x5_2.length : Int)) = true := decide_eq_true c16
               clear c16
               obtain ⟨y239, hy239⟩ : ∃ y_ : List Int, y_ = (x5_2.set ((ji14) : Int).toNat ((Int.tmod (IntKind.u64.wrap (x8_2 + (IntKind.u64.wrap ((IntKind.u64.wrap (rd x5_2 (ji14))) + (IntKind.u64.wrap ((IntKind.u64.wrap ((rd l0 x19_1))) * (IntKind.u64.wrap (rd l1 x26_2)))))))) 1000000000) % 4294967296)) := ⟨_, rfl⟩
               replace H : (spec_NatMul.l1 k2 l1 y239 x19_1 (rd l0 x19_1) (IntKind.u64.wrap (Int.tdiv (IntKind.u64.wrap (x8_2 + (IntKind.u64.wrap ((IntKind.u64.wrap (rd x5_2 (ji14))) + (IntKind.u64.wrap ((IntKind.u64.wrap ((rd l0 x19_1))) * (IntKind.u64.wrap (rd l1 x26_2)))))))) 1000000000)) l0 (l0.length : Int) x19_1 l1 (l1.length : Int) (wrap64 (x26_2 + 1))) = some r := fo_ hy239 H
               have Ny239 := Aside0.mk hy239
               clear hy239
               have H' := Aside0.mk H
               clear H
               have p237 : 0 ≤ (x26_2 : Int) := ode_
               have q237 : x26_2 < (l1.length : Int) := ode_
               obtain ⟨ad237, e237, hx237_0⟩ := Kd.at_int HR1.out x26_2 p237 q237
               cases e237
               replace hx237_0 := (HB.out.cell (World.block_lt_of_cell? w _ hx237_0)).trans hx237_0
               replace p237 := eq_true p237
               replace q237 := eq_true q237
               obtain ⟨Ao18, co18, eo18⟩ := Kd.R_slice HO_5.out
               subst eo18
               have p238 : 0 ≤ ((ji14) : Int) := ode_
               have q238 : (ji14) < (x5_2.length : Int) := ode_
               obtain ⟨ad238, e238, hx238_0⟩ := Kd.at_int (Kd.R_reads' HO_5.out).2.2 (ji14) p238 q238
               cases e238
               replace p238 := eq_true p238
               replace q238 := eq_true q238
               have p17 : 0 ≤ ((ji14) : Int) := ode_
               have q17 : ((ji14) : Int) < ((x5_2.length : Int) : Int) := ode_
               obtain ⟨go17, co17, eo17, gb17, gl17, cl17, HG17⟩ := Kd.R_form HO_5.out (by omega)
               (first | cases eo17 | (injection eo17 with ea_ en_ ec_; (first | subst ea_ | (injection ea_ with ea_; subst ea_)); subst ec_; clear en_))
               have GB17 := Aside0.mk gb17
               have GG17 := Aside0.mk HG17
               clear gb17 gl17 HG17
               (first | simp only [add_plain] at hx238_0 | skip)
               obtain ⟨hx17_0, hf17_0⟩ := Kd.R_celln 0 HO_5.out ((ji14) : Int) p17 q17
               replace p17 := eq_true p17
               replace q17 := eq_true q17
               have HP19 := Kd.R_putg HO_5.out ((ji14) : Int) ((Int.tmod (IntKind.u64.wrap (x8_2 + (IntKind.u64.wrap ((IntKind.u64.wrap (rd x5_2 (ji14))) + (IntKind.u64.wrap ((IntKind.u64.wrap ((rd l0 x19_1))) * (IntKind.u64.wrap (rd l1 x26_2)))))))) 1000000000) % 4294967296)
               go_wp2_with (first | ((with_reducible refine gate_store (t := 80) (p := 53) rfl ?_); refine store_event (t := 80) (p := 53) (v := ?vo_w20) (w1 := (wr.setCell ⟨go17, ((ji14) : Int).toNat, none⟩ (.int .u32 ((Int.tmod (IntKind.u64.wrap (x8_2 + (IntKind.u64.wrap ((IntKind.u64.wrap (rd x5_2 (ji14))) + (IntKind.u64.wrap ((IntKind.u64.wrap ((rd l0 x19_1))) * (IntKind.u64.wrap (rd l1 x26_2)))))))) 1000000000) % 4294967296)))) ?hg ?ho ?hn ?hr ?_; (case ho => rfl); (case hg => rfl); (case hn => rfl); (case hr => first | (go_simp; done) | (go_simp; rfl)); intro w20 hw; have hg : wr.grownBy w20 (some go17) := (by rw [hw]; exact HP19.2); have hp_ : Kd.R (Kd.int .u32) 80 w20 w.heap.size (fun k_ => (w.heap.size ≤ k_)) (.slice (some ⟨go17, 0, none⟩) x5_2.length co18) y239 := (by rw [hw, Ny239.out]; exact HP19.1); clear HP19; have n0_ := Aside0.mk (hp_); have n1_ := Aside0.mk ((by rw [hw]; exact below_set (HB.out) GB17.out : Below w.heap.size w w20)); clear HO_5; clear HB; have HO_5 := n0_; have HB := n1_; clear n0_ n1_; clear hg hw hp_))
               go_roundg k2
               case measure => have := HK1.out; have := HK2.out; omega
               case rel => exact ⟨(y239), (IntKind.u64.wrap (Int.tdiv (IntKind.u64.wrap (x8_2 + (IntKind.u64.wrap ((IntKind.u64.wrap (rd x5_2 (ji14))) + (IntKind.u64.wrap ((IntKind.u64.wrap ((rd l0 x19_1))) * (IntKind.u64.wrap (rd l1 x26_2)))))))) 1000000000)), (wrap64 (x26_2 + 1)), (by first | rfl | (simp; done) | (simp only [← hji14] <;> (first | rfl | simp)) | (simp [*]; done)), sd_, H', ⟨by have := HK1.out; have := HK2.out; omega⟩, ⟨by (with_reducible repeat (first | apply Kd.R_alloc | apply Kd.R_drewN | apply Kd.R_drew)); exact HO_5.out⟩, ⟨bel_⟩⟩
              ·rw [if_neg c16] at H
               exact absurd H (by simp)
             ·rw [if_neg c15] at H
              exact absurd H (by simp)
            ·rw [if_neg c13] at H
             exact absurd H (by simp)
           ·rw [if_neg c12] at H
            exact absurd H (by simp)
          ·rw [if_neg c11] at H
           have c11b0 : decide (x26_2 < (l1.length : Int)) = false := decide_eq_false c11
           clear c11
           obtain ⟨ji21, hji21⟩ : ∃ j_ : Int, (wrap64 (x19_1 + (l1.length : Int))) = j_ := ⟨_, rfl⟩
           replace H : (if 0 ≤ (ji21) then (if (ji21) < (x5_2.length : Int) then (spec_NatMul.l0 k2 l1 (x5_2.set ((ji21) : Int).toNat ((x8_2) % 4294967296)) l0 (l0.length : Int) (wrap64 (x19_1 + 1))) else (none)) else (none)) = some r := by first | (rw [hji21] at H; exact H) | (simp only [hji21] at H ⊢; exact H)
           have hji21w : (IntKind.i64.wrap (x19_1 + (l1.length : Int))) = ji21 := (i64_w _).trans hji21
           by_cases c22 : 0 ≤ (ji21)
           ·rw [if_pos c22] at H
            have c22b0 : decide (0 ≤ (ji21)) = true := decide_eq_true c22
            clear c22
            by_cases c23 : (ji21) < (x5_2.length : Int)
            ·rw [if_pos c23] at H
             have c23b0 : decide ((ji21) < (x5_2.length : Int)) = true := decide_eq_true c23
             clear c23
             obtain ⟨y240, hy240⟩ : ∃ y_ : List Int, y_ = (x5_2.set ((ji21) : Int).toNat ((x8_2) % 4294967296)) := ⟨_, rfl⟩
             replace H : (spec_NatMul.l0 k2 l1 y240 l0 (l0.length : Int) (wrap64 (x19_1 + 1))) = some r := fo_ hy240 H
             have Ny240 := Aside0.mk hy240
             clear hy240
             have H' := Aside0.mk H
             clear H
             have p24 : 0 ≤ ((ji21) : Int) := ode_
             have q24 : ((ji21) : Int) < ((x5_2.length : Int) : Int) := ode_
             obtain ⟨go24, co24, eo24, gb24, gl24, cl24, HG24⟩ := Kd.R_form HO_5.out (by omega)
             (first | cases eo24 | (injection eo24 with ea_ en_ ec_; (first | subst ea_ | (injection ea_ with ea_; subst ea_)); subst ec_; clear en_))
             have GB24 := Aside0.mk gb24
             have GG24 := Aside0.mk HG24
             clear gb24 gl24 HG24
             obtain ⟨hx24_0, hf24_0⟩ := Kd.R_celln 0 HO_5.out ((ji21) : Int) p24 q24
             replace p24 := eq_true p24
             replace q24 := eq_true q24
             have HP25 := Kd.R_putg HO_5.out ((ji21) : Int) ((x8_2) % 4294967296)
             go_wp2_with (first | ((with_reducible refine gate_store (t := 80) (p := 64) rfl ?_); refine store_event (t := 80) (p := 64) (v := ?vo_w26) (w1 := (wr.setCell ⟨go24, ((ji21) : Int).toNat, none⟩ (.int .u32 ((x8_2) % 4294967296)))) ?hg ?ho ?hn ?hr ?_; (case ho => rfl); (case hg => rfl); (case hn => rfl); (case hr => first | (go_simp; done) | (go_simp; rfl)); intro w26 hw; have hg : wr.grownBy w26 (some go24) := (by rw [hw]; exact HP25.2); have hp_ : Kd.R (Kd.int .u32) 80 w26 w.heap.size (fun k_ => (w.heap.size ≤ k_)) (.slice (some ⟨go24, 0, none⟩) x5_2.length co24) y240 := (by rw [hw, Ny240.out]; exact HP25.1); clear HP25; have n0_ := Aside0.mk (hp_); have n1_ := Aside0.mk ((by rw [hw]; exact below_set (HB.out) GB24.out : Below w.heap.size w w26)); clear HO_5; clear HB; have HO_5 := n0_; have HB := n1_; clear n0_ n1_; clear hg hw hp_))
             go_roundg k2
             case measure => have := HK1.out; have := HK2.out; omega
             case rel => exact ⟨(y240), (wrap64 (x19_1 + 1)), sd_, H', ⟨by have := HK1.out; have := HK2.out; omega⟩, ⟨by (with_reducible repeat (first | apply Kd.R_alloc | apply Kd.R_drewN | apply Kd.R_drew)); exact HO_5.out⟩, ⟨bel_⟩⟩
            ·rw [if_neg c23] at H
             exact absurd H (by simp)
           ·rw [if_neg c22] at H
            exact absurd H (by simp)
       ·rw [if_neg c10] at H
        exact absurd H (by simp)
      ·rw [if_neg c9] at H
       exact absurd H (by simp)
     ·rw [if_neg c8] at H
      have c8b0 : decide (x19_1 < (l0.length : Int)) = false := decide_eq_false c8
      clear c8
      replace H := Option.bind_eq_some_iff.mp H
      obtain ⟨t233, A270, H⟩ := H
      replace H : (some t233) = some r := H
      have A27 := Aside0.mk A270
      clear A270
      obtain rfl := Option.some.inj H
      obtain ⟨Ao28, co28, eo28⟩ := Kd.R_slice HO_5.out
      subst eo28
      go_wp2_with (first | ((with_reducible refine gate_callee (f := 69) rfl ?_); refine goesL_ (some 67) rfl rfl Tryz.func69 kr_ rfl #[.slice Ao28 x5_1.length co28] rfl lm_ ?_; (with_reducible refine (spec_natTrim.calls k1 (fun k_ => some k_ = (.slice Ao28 x5_1.length co28 : Value).ownBlock) _ _ x5_1 t233 _ ?side1 A27.out).mono ?_); (case side1 => exact Kd.R_V (Kd.R_tight rfl (HO_5.out))); rintro e w29 ⟨v234, rfl, ho0, hb⟩; refine ⟨_, rfl, ?_⟩; have n0_ := Aside0.mk (Kd.R_below (rr_ HO_5.out) hb); have n1_ := Aside0.mk (Kd.V_lower (Kd.V_mono (ok' := fun k_ => (w.heap.size ≤ k_)) ho0 (fun k_ hk_ => Or.elim hk_ (fun hs_ => ((HO_5.out).1 k_ hs_.symm)) (fun hn_ => (Nat.le_trans (below_size bel_) hn_)))) (below_size bel_)); have n2_ := Aside0.mk (below_step bel_ hb); clear HO_5; clear HB; have HO_5 := n0_; have HO235 := n1_; have HB := n2_; clear n0_ n1_ n2_; (try clear hb); (try clear hb2); (try clear hk); (try clear hi); (try clear ho0)))
      go_ret
      exact ⟨_, by first | rfl | (simp [errW_none, errW_some] <;> rfl) | (simp only [← hji3]; first | rfl | (simp [errW_none, errW_some] <;> rfl)) | (simp [*, errW_none, errW_some] <;> rfl), by (with_reducible repeat (first | apply Kd.V_alloc | apply Kd.V_drewN | apply Kd.V_drew)); exact HO235.out, bel_⟩
  ·rw [if_neg c5] at H
   exact absurd H (by simp)
 ·rw [if_neg c4] at H
  exact absurd H (by simp)
def spec_Pow10.l0 : Nat → Int → List Int → Int → Int → Option (List Int)
 | 0, _, _, _, _ => none
 | k + 1, x0, x3, x4, x5 => if x5 < (Int.tmod x0 9) then (spec_Pow10.l0 k x0 x3 ((x4 * 10) % 4294967296) (wrap64 (x5 + 1))) else (if 0 ≤ (wrap64 (Int.tdiv x0 9)) then (if (wrap64 (Int.tdiv x0 9)) < (x3.length : Int) then (some (x3.set ((wrap64 (Int.tdiv x0 9)) : Int).toNat x4)) else (none)) else (none))
def spec_Pow10.f (k : Nat) (a0 : Int) : Option (List Int) := if a0 < 0 then (some ([] : List Int)) else (if 0 ≤ (wrap64 ((wrap64 (Int.tdiv a0 9)) + 1)) then (if (wrap64 ((wrap64 (Int.tdiv a0 9)) + 1) : Int).toNat ≤ 70368744177664 then (spec_Pow10.l0 k a0 (List.replicate (wrap64 ((wrap64 (Int.tdiv a0 9)) + 1) : Int).toNat 0) 1 0) else (none)) else (none))
set_option maxHeartbeats 8000000 in
set_option maxRecDepth 100000 in
theorem spec_Pow10.calls (k : Nat) (a0 : Int) (r : List Int) (w : World) (h : spec_Pow10.f k a0 = some r) :
  Calls Tryz.prog 41 #[.int .i64 a0] w fun e w' => ∃ v0_ : Value, e = .returned (v0_) ∧ Kd.R (Kd.int .u32) 80 w' w.heap.size (fun _ => True) v0_ r ∧ Below w.heap.size w w' := by
 have HB := Aside0.mk (Below.refl w.heap.size w)
 have H : (if a0 < 0 then (some ([] : List Int)) else (if 0 ≤ (wrap64 ((wrap64 (Int.tdiv a0 9)) + 1)) then (if (wrap64 ((wrap64 (Int.tdiv a0 9)) + 1) : Int).toNat ≤ 70368744177664 then (spec_Pow10.l0 k a0 (List.replicate (wrap64 ((wrap64 (Int.tdiv a0 9)) + 1) : Int).toNat 0) 1 0) else (none)) else (none))) = some r := h
 clear h
 by_cases c2 : a0 < 0
 ·rw [if_pos c2] at H
  have c2b0 : decide (a0 < 0) = true := decide_eq_true c2
  clear c2
  obtain rfl := Option.some.inj H
  go_enter Tryz.func41, Tryz.ntmps41
  go_wp2
  go_ret
  exact ⟨_, by first | rfl | (simp [errW_none, errW_some] <;> rfl) | (simp [*, errW_none, errW_some] <;> rfl), by first | exact Kd.R_nil _ _ _ _ _ | exact Kd.N_nil _ _ _ _ _ | exact Kd.V_nil _ _ _ _ _ | exact Kd.Q_nil _ _ _ _ _ | exact Kd.S_nil _ _ _ _ _, bel_⟩
 ·rw [if_neg c2] at H
  have c2b0 : decide (a0 < 0) = false := decide_eq_false c2
  clear c2
  obtain ⟨ji3, hji3⟩ : ∃ j_ : Int, (wrap64 ((wrap64 (Int.tdiv a0 9)) + 1)) = j_ := ⟨_, rfl⟩
  replace H : (if 0 ≤ (ji3) then (if (ji3 : Int).toNat ≤ 70368744177664 then (spec_Pow10.l0 k a0 (List.replicate (ji3 : Int).toNat 0) 1 0) else (none)) else (none)) = some r := by first | (rw [hji3] at H; exact H) | (simp only [hji3] at H ⊢; exact H)
  have hji3w : (IntKind.i64.wrap ((wrap64 (Int.tdiv a0 9)) + 1)) = ji3 := (i64_w _).trans hji3
  by_cases c4 : 0 ≤ (ji3)
  ·rw [if_pos c4] at H
   have c4b0 := eq_true c4
   have c4b1 : decide (0 ≤ (ji3)) = true := decide_eq_true c4
   clear c4
   by_cases c5 : (ji3 : Int).toNat ≤ 70368744177664
   ·rw [if_pos c5] at H
    have c5b0 := eq_true c5
    have c5b1 : decide ((ji3 : Int).toNat ≤ 70368744177664) = true := decide_eq_true c5
    clear c5
    obtain ⟨y241, hy241⟩ : ∃ y_ : List Int, y_ = (List.replicate (ji3 : Int).toNat 0) := ⟨_, rfl⟩
    replace H : (spec_Pow10.l0 k a0 y241 1 0) = some r := fo_ hy241 H
    have Ny241 := Aside0.mk hy241
    clear hy241
    have H' := Aside0.mk H
    clear H
    go_enter Tryz.func41, Tryz.ntmps41
    go_wp2_with (first | ((with_reducible refine gate_dst (N := 11) rfl ?_); refine Kd.R_make (Kd.int .u32) _ 80 rfl (N := 11) rfl 30 _ _ rfl ji3 rfl rfl Tryz.underlying30 (.int .u32 0) 4 info80 rfl (by decide) (by omega) 0 (ok := fun _ => True) (okp := fun _ => True) rfl (fun _ hk => hk) trivial ode_ (Nat.le_trans (Nat.mul_le_mul_right _ (ode_ : ji3.toNat ≤ 70368744177664)) (by omega)) (Below.refl _ _) (Nat.le_refl _) ?_; intro v242 w6 ho7 hb hg_ hnew_; clear hg_ hnew_; (first | rw [← Ny241.out] at ho7 | (simp only [Int.reduceToNat] at ho7; rw [← Ny241.out] at ho7)); have n0_ := Aside0.mk (Kd.R_lower ho7 (below_size bel_)); have n1_ := Aside0.mk (below_step bel_ hb); clear HB; have HO243 := n0_; have HB := n1_; clear n0_ n1_; clear hb ho7))
    go_loopg [4, 5] k (fun kq v4 v5 w' => ∃ (x4_1 : Int) (x5_1 : Int), v4 = .int .u32 x4_1 ∧ v5 = .int .i64 x5_1 ∧ Aside0 (spec_Pow10.l0 kq a0 y241 x4_1 x5_1 = some r) ∧ Aside0 (kq ≤ k) ∧ Aside0 (Kd.R (Kd.int .u32) 80 w' w.heap.size (fun _ => True) v242 y241) ∧ Aside0 (Below w.heap.size w w'))
    case atStart => exact ⟨(1), (0), sd_, sd_, H', ⟨Nat.le_refl _⟩, ⟨by (with_reducible repeat (first | apply Kd.R_alloc | apply Kd.R_drewN | apply Kd.R_drew)); exact HO243.out⟩, ⟨bel_⟩⟩
    case round =>
     clear H'
     try clear c2
     try clear c2b0
     try clear p2
     try clear c4
     try clear c4b0
     try clear c4b1
     try clear c5
     try clear c5b0
     try clear c5b1
     try clear p6
     obtain ⟨x4_1, x5_1, rfl, rfl, HA, HK1, HO_3, HB⟩ := hrel
     cases gk with
     | zero => exact absurd HA.out (by simp [spec_Pow10.l0])
     | succ k1 =>
      have H := HA.out
      clear HA
      simp only [spec_Pow10.l0] at H
      by_cases c8 : x5_1 < (Int.tmod a0 9)
      ·rw [if_pos c8] at H
       have c8b0 : decide (x5_1 < (Int.tmod a0 9)) = true := decide_eq_true c8
       clear c8
       have H' := Aside0.mk H
       clear H
       go_wp2
       go_roundg k1
       case measure => have := HK1.out; omega
       case rel => exact ⟨((x4_1 * 10) % 4294967296), (wrap64 (x5_1 + 1)), sd_, sd_, H', ⟨by have := HK1.out; omega⟩, ⟨by (with_reducible repeat (first | apply Kd.R_alloc | apply Kd.R_drewN | apply Kd.R_drew)); exact HO_3.out⟩, ⟨bel_⟩⟩
      ·rw [if_neg c8] at H
       have c8b0 : decide (x5_1 < (Int.tmod a0 9)) = false := decide_eq_false c8
       clear c8
       obtain ⟨ji9, hji9⟩ : ∃ j_ : Int, (wrap64 (Int.tdiv a0 9)) = j_ := ⟨_, rfl⟩
       replace H : (if 0 ≤ (ji9) then (if (ji9) < (y241.length : Int) then (some (y241.set ((ji9) : Int).toNat x4_1)) else (none)) else (none)) = some r := by first | (rw [hji9] at H; exact H) | (simp only [hji9] at H ⊢; exact H)
       have hji9w : (IntKind.i64.wrap (Int.tdiv a0 9)) = ji9 := (i64_w _).trans hji9
       by_cases c10 : 0 ≤ (ji9)
       ·rw [if_pos c10] at H
        have c10b0 : decide (0 ≤ (ji9)) = true := decide_eq_true c10
        clear c10
        by_cases c11 : (ji9) < (y241.length : Int)
        ·rw [if_pos c11] at H
         have c11b0 : decide ((ji9) < (y241.length : Int)) = true := decide_eq_true c11
         clear c11
         obtain ⟨y244, hy244⟩ : ∃ y_ : List Int, y_ = (y241.set ((ji9) : Int).toNat x4_1) := ⟨_, rfl⟩
         replace H : (some y244) = some r := fo_ hy244 H
         have Ny244 := Aside0.mk hy244
         clear hy244
         obtain rfl := Option.some.inj H
         have p12 : 0 ≤ ((ji9) : Int) := ode_
         have q12 : ((ji9) : Int) < ((y241.length : Int) : Int) := ode_
         obtain ⟨go12, co12, eo12, gb12, gl12, cl12, HG12⟩ := Kd.R_form HO_3.out (by omega)
         (first | cases eo12 | (injection eo12 with ea_ en_ ec_; (first | subst ea_ | (injection ea_ with ea_; subst ea_)); subst ec_; clear en_))
         have GB12 := Aside0.mk gb12
         have GG12 := Aside0.mk HG12
         clear gb12 gl12 HG12
         obtain ⟨hx12_0, hf12_0⟩ := Kd.R_celln 0 HO_3.out ((ji9) : Int) p12 q12
         replace p12 := eq_true p12
         replace q12 := eq_true q12
         have HP13 := Kd.R_putg HO_3.out ((ji9) : Int) x4_1
         go_wp2_with (first | ((with_reducible refine gate_store (t := 80) (p := 24) rfl ?_); refine store_event (t := 80) (p := 24) (v := ?vo_w14) (w1 := (wr.setCell ⟨go12, ((ji9) : Int).toNat, none⟩ (.int .u32 x4_1))) ?hg ?ho ?hn ?hr ?_; (case ho => rfl); (case hg => rfl); (case hn => rfl); (case hr => first | (go_simp; done) | (go_simp; rfl)); intro w14 hw; have hg : wr.grownBy w14 (some go12) := (by rw [hw]; exact HP13.2); have hp_ : Kd.R (Kd.int .u32) 80 w14 w.heap.size (fun _ => True) (.slice (some ⟨go12, 0, none⟩) y241.length co12) y244 := (by rw [hw, Ny244.out]; exact HP13.1); clear HP13; have n0_ := Aside0.mk (hp_); have n1_ := Aside0.mk ((by rw [hw]; exact below_set (HB.out) GB12.out : Below w.heap.size w w14)); clear HO_3; clear HB; have HO_3 := n0_; have HB := n1_; clear n0_ n1_; clear hg hw hp_))
         go_ret
         exact ⟨_, by first | rfl | (simp [errW_none, errW_some] <;> rfl) | (simp only [← hji3, ← hji9]; first | rfl | (simp [errW_none, errW_some] <;> rfl)) | (simp [*, errW_none, errW_some] <;> rfl), by (with_reducible repeat (first | apply Kd.R_alloc | apply Kd.R_drewN | apply Kd.R_drew)); exact HO_3.out, bel_⟩
        ·rw [if_neg c11] at H
         exact absurd H (by simp)
       ·rw [if_neg c10] at H
        exact absurd H (by simp)
   ·rw [if_neg c5] at H
    exact absurd H (by simp)
  ·rw [if_neg c4] at H
   exact absurd H (by simp)
def spec_one.f  : Option (List Int) := some (([1] : List Int))
set_option maxHeartbeats 8000000 in
set_option maxRecDepth 100000 in
theorem spec_one.calls  (r : List Int) (w : World) (h : spec_one.f  = some r) :
  Calls Tryz.prog 42 #[] w fun e w' => ∃ v0_ : Value, e = .returned (v0_) ∧ Kd.R (Kd.int .u32) 80 w' w.heap.size (fun _ => True) v0_ r ∧ Below w.heap.size w w' := by
 have HB := Aside0.mk (Below.refl w.heap.size w)
 have H : (some (([1] : List Int))) = some r := h
 clear h
 obtain ⟨y245, hy245⟩ : ∃ y_ : List Int, y_ = (([1] : List Int)) := ⟨_, rfl⟩
 replace H : (some y245) = some r := fo_ hy245 H
 have Ny245 := Aside0.mk hy245
 clear hy245
 obtain rfl := Option.some.inj H
 go_enter Tryz.func42, Tryz.ntmps42
 go_wp2_with (first | ((with_reducible refine gate_dst (N := 1) rfl ?_); refine Kd.R_lit (Kd.int .u32) _ 80 ?hg (N := 1) ?hd (xs := ([1] : List Int)) (inner := [.int .u32 1]) (ok := fun _ => True) (okp := fun _ => True) ?hr ?hp (fun _ hk => hk) trivial (Below.refl _ _) (Nat.le_refl _) (by simp) ?_; (case hd => rfl); (case hg => rfl); (case hr => first | (go_simp; done) | (go_simp; rfl)); (case hp => exact (Reps.one (show Kd.M (Kd.int .u32) _ _ _ 1 [.int .u32 1] from rfl) (Reps.none _ _))); intro v246 w1 ho2 hb hg_ hnew_; clear hg_ hnew_; (first | rw [← Ny245.out] at ho2 | (simp only [Int.reduceToNat] at ho2; rw [← Ny245.out] at ho2)); have n0_ := Aside0.mk (Kd.R_lower ho2 (below_size bel_)); have n1_ := Aside0.mk (below_step bel_ hb); clear HB; have HO247 := n0_; have HB := n1_; clear n0_ n1_; clear hb ho2))
 go_ret
 exact ⟨_, by first | rfl | (simp [errW_none, errW_some] <;> rfl) | (simp [*, errW_none, errW_some] <;> rfl), by (with_reducible repeat (first | apply Kd.R_alloc | apply Kd.R_drewN | apply Kd.R_drew)); exact HO247.out, bel_⟩
end Go.Proofs.YtlbjjhecgceiaaaGreatDoor.PFnFixSubExact
namespace Go.Proofs.YtlbjjhecgceiaaaGreatDoor
open Go.RowKit Go.Proofs.YtlbjjhecgceiaaaGreatDoorW.PrintWords Go.Proofs.YtlbjjhecgceiaaaGreatDoorW.PrintLast Go.Proofs.YtlbjjhecgceiaaaGreatDoorW.PrintMore PFnFixSubExact
set_option linter.unusedVariables false
set_option linter.unusedSimpArgs false
theorem w64 {x : Int} (h0 : -100000 ≤ x) (h1 : x ≤ 100000) : wrap64 x = x := by unfold wrap64; omega
theorem rd_nat (xs : List Int) (i : Nat) : rd xs (i : Int) = xs.getD i 0 := by unfold rd; simp
theorem u64_in {x : Int} (h0 : 0 ≤ x) (h1 : x < 18446744073709551616) : IntKind.u64.wrap x = x := by rw [IntKind.wrap_u64]; omega
theorem natTrim_l0 : ∀ (n k : Nat) (xs : List Int), xs.length = n → n < k → n ≤ 1000 → spec_natTrim.l0 k xs = some (trim9 xs)
 | 0, k, xs, h, hk, hb => by
  obtain ⟨k, rfl⟩ : ∃ m, k = m + 1 := ⟨k - 1, by omega⟩
  rw [List.length_eq_zero_iff.1 h, trim9_nil]
  simp only [spec_natTrim.l0]
  rw [if_neg (by simp)]
 | n + 1, k, xs, h, hk, hb => by
  obtain ⟨k, rfl⟩ : ∃ m, k = m + 1 := ⟨k - 1, by omega⟩
  have hne : xs ≠ [] := by intro e; subst e; simp at h
  obtain ⟨ys, y, rfl⟩ : ∃ ys y, xs = ys ++ [y] := ⟨_, _, (List.dropLast_concat_getLast hne).symm⟩
  have hl : ys.length = n := by simpa using h
  have e1 : wrap64 (((ys ++ [y]).length : Int) - 1) = (n : Int) := by rw [h, w64 (by omega) (by omega)]; omega
  simp only [spec_natTrim.l0, e1]
  rw [if_pos (by omega), if_pos (by omega), if_pos (by omega), rd_nat]
  have e2 : (ys ++ [y]).getD n 0 = y := by subst hl; simp
  rw [e2]
  by_cases hy : y = 0
  ·subst hy
   rw [if_pos rfl, if_pos (by omega), trim9_zero]
   have e3 : (ys ++ [0]).take ((n : Int)).toNat = ys := by subst hl; simp
   rw [e3]
   exact natTrim_l0 n k ys hl (by omega) (by omega)
  ·rw [if_neg hy, trim9_last _ hy]
theorem natTrim_f {xs : List Int} {k : Nat} (hk : xs.length < k) (hb : xs.length ≤ 1000) : spec_natTrim.f k xs = some (trim9 xs) := natTrim_l0 _ k xs rfl hk hb
theorem wr_add {i j : Nat} (h : i + j ≤ 10000) : wrap64 ((i : Int) + (j : Int)) = ((i + j : Nat) : Int) := by rw [w64 (by omega) (by omega)]; omega
theorem wr_succ {j : Nat} (h : j ≤ 10000) : wrap64 ((j : Int) + 1) = ((j + 1 : Nat) : Int) := by rw [w64 (by omega) (by omega)]; omega
theorem mul_step {c o x y t : Int} (hc0 : 0 ≤ c) (hc1 : c < 1000000000) (ho0 : 0 ≤ o) (ho1 : o < 1000000000) (hx0 : 0 ≤ x) (hx1 : x < 1000000000) (hy0 : 0 ≤ y) (hy1 : y < 1000000000) (ht : c + (o + x * y) = t) :
  0 ≤ t / 1000000000 ∧ t / 1000000000 < 1000000000 ∧ IntKind.u64.wrap (c + IntKind.u64.wrap (IntKind.u64.wrap o + IntKind.u64.wrap (IntKind.u64.wrap x * IntKind.u64.wrap y))) = t ∧ Int.tmod t 1000000000 % 4294967296 = t % 1000000000 ∧ IntKind.u64.wrap (Int.tdiv t 1000000000) = t / 1000000000 := by
 have hxy0 : 0 ≤ x * y := Int.mul_nonneg hx0 hy0
 have hxy1 : x * y ≤ 999999999 * 999999999 := Int.mul_le_mul (by omega) (by omega) hy0 (by omega)
 have E3 : IntKind.u64.wrap (c + IntKind.u64.wrap (IntKind.u64.wrap o + IntKind.u64.wrap (IntKind.u64.wrap x * IntKind.u64.wrap y))) = t := by
  rw [u64_in ho0 (by omega), u64_in hx0 (by omega), u64_in hy0 (by omega), u64_in hxy0 (by omega), u64_in (show 0 ≤ o + x * y by omega) (by omega), ht, u64_in (by omega) (by omega)]
 have ht0 : 0 ≤ t := by omega
 have ht1 : t < 1000000000 * 1000000000 := by omega
 clear ht hxy0 hxy1
 refine ⟨by omega, by omega, E3, ?_, ?_⟩
 ·rw [Int.tmod_eq_emod_of_nonneg ht0]; omega
 ·rw [Int.tdiv_eq_ediv_of_nonneg ht0, u64_in (by omega) (by omega)]
def Zr (xs : List Int) (s : Nat) : Prop := ∀ t, s ≤ t → xs.getD t 0 = 0
theorem Zr.set {xs : List Int} {s i : Nat} {v : Int} (h : Zr xs s) (hi : i < s) : Zr (xs.set i v) s := fun t ht => by
 have := h t ht
 rw [List.getD_eq_getElem?_getD, List.getElem?_set_ne (by omega), ← List.getD_eq_getElem?_getD]; exact this
theorem Zr.set1 {xs : List Int} {s : Nat} {v : Int} (h : Zr xs s) : Zr (xs.set s v) (s + 1) := fun t ht => by
 have := h t (by omega)
 rw [List.getD_eq_getElem?_getD, List.getElem?_set_ne (by omega), ← List.getD_eq_getElem?_getD]; exact this
theorem v9_drop {ys : List Int} {j : Nat} (h : j < ys.length) : v9 (ys.drop j) = ys.getD j 0 + 1000000000 * v9 (ys.drop (j + 1)) := by
 rw [List.drop_eq_getElem_cons h, v9, List.getD_eq_getElem?_getD, List.getElem?_eq_getElem h, Option.getD_some]
theorem ring1 (P a t q r x y z : Int) (h : t = 1000000000 * q + r) : a + (r - y) * P + 1000000000 * P * (q + x * z) = a + P * (t - y + x * (1000000000 * z)) := by
 subst h
 grind
theorem ring2 (P a c o x y z t : Int) (h : t = c + (o + x * y)) : a + P * (t - o + x * (1000000000 * z)) = a + P * (c + x * (y + 1000000000 * z)) := by
 subst h
 grind
theorem natMul_l1 {xs ys : List Int} {n m i : Nat} {x : Int} (hn : xs.length = n) (hm : ys.length = m) (hy : Lms ys) (hx0 : 0 ≤ x) (hx1 : x < 1000000000) (hi : i < n) (hnb : n + m ≤ 500) :
  ∀ (d j : Nat) (out : List Int) (c : Int), j + d = m → Lms out → out.length = n + m → 0 ≤ c → c < 1000000000 → Zr out (i + m) →
   ∃ out', Lms out' ∧ out'.length = n + m ∧ Zr out' (i + 1 + m) ∧ v9 out' = v9 out + p9 (i + j) * (c + x * v9 (ys.drop j)) ∧
    ∀ k : Nat, spec_NatMul.l1 (k + d + 1) ys out (i : Int) x c xs (n : Int) (i : Int) ys (m : Int) (j : Int) = spec_NatMul.l0 k ys out' xs (n : Int) ((i + 1 : Nat) : Int) := by
 intro d
 induction d with
 | zero =>
  intro j out c hj hl hol hc0 hc1 hz
  obtain rfl : j = m := by omega
  refine ⟨out.set (i + j) c, hl.set _ hc0 hc1, by simp [hol], ?_, ?_, ?_⟩
  ·have := hz.set1 (v := c); rwa [show i + j + 1 = i + 1 + j by omega] at this
  ·rw [v9_set _ _ _ (by omega), hz (i + j) (Nat.le_refl _), List.drop_eq_nil_of_le (by omega), v9, Int.mul_zero, Int.add_zero, Int.sub_zero, Int.mul_comm]
  ·intro k
   simp only [spec_NatMul.l1]
   have f1 : c % 4294967296 = c := by omega
   have f2 : ¬ (j : Int) < (j : Int) := by omega
   have f3 : (0 : Int) ≤ ((i + j : Nat) : Int) := by omega
   have f4 : ((i + j : Nat) : Int) < (out.length : Int) := by omega
   have g1 : i + j ≤ 10000 := by omega
   have g2 : i ≤ 10000 := by omega
   rw [if_neg f2, hm, wr_add g1, if_pos f3, if_pos f4, wr_succ g2, Int.toNat_natCast, f1]
 | succ d ih =>
  intro j out c hj hl hol hc0 hc1 hz
  have hjm : j < m := by omega
  have g1 : i + j ≤ 10000 := by omega
  have g2 : j ≤ 10000 := by omega
  have f0 : j < (m : Int) := by omega
  have f1 : (0 : Int) ≤ j := by omega
  have f2 : (j : Int) < (ys.length : Int) := by omega
  have f3 : (0 : Int) ≤ ((i + j : Nat) : Int) := by omega
  have f4 : ((i + j : Nat) : Int) < (out.length : Int) := by omega
  have f5 : i + j < out.length := by omega
  have f6 : j < ys.length := by omega
  have f7 : j + 1 + d = m := by omega
  have f8 : i + j < i + m := by omega
  obtain ⟨ho0, ho1⟩ := hl.getD (i + j)
  obtain ⟨hy0, hy1⟩ := hy.getD j
  obtain ⟨o, ho⟩ : ∃ o, out.getD (i + j) 0 = o := ⟨_, rfl⟩
  obtain ⟨y, hyj⟩ : ∃ y, ys.getD j 0 = y := ⟨_, rfl⟩
  rw [ho] at ho0 ho1
  rw [hyj] at hy0 hy1
  obtain ⟨t, ht⟩ : ∃ t, c + (o + x * y) = t := ⟨_, rfl⟩
  obtain ⟨hq0, hq1, e3, e4, e5⟩ := mul_step hc0 hc1 ho0 ho1 hx0 hx1 hy0 hy1 ht
  have hr0 : 0 ≤ t % 1000000000 := Int.emod_nonneg _ (by omega)
  have hr1 : t % 1000000000 < 1000000000 := Int.emod_lt_of_pos _ (by omega)
  have hdm : t = 1000000000 * (t / 1000000000) + t % 1000000000 := (Int.mul_ediv_add_emod _ _).symm
  obtain ⟨out', k1, k2, k3, k4, k5⟩ := ih (j + 1) (out.set (i + j) (t % 1000000000)) (t / 1000000000) f7 (hl.set _ hr0 hr1) (by simp [hol]) hq0 hq1 (hz.set f8)
  refine ⟨out', k1, k2, k3, ?_, ?_⟩
  ·have hd := v9_drop (ys := ys) (j := j) f6
   have hp : p9 (i + (j + 1)) = 1000000000 * p9 (i + j) := by rw [← Nat.add_assoc, p9_succ]
   rw [hyj] at hd
   rw [k4, v9_set _ _ _ f5, ho, hp, hd]
   have h1 := ring1 (p9 (i + j)) (v9 out) t (t / 1000000000) (t % 1000000000) x o (v9 (ys.drop (j + 1))) hdm
   have h2 := ring2 (p9 (i + j)) (v9 out) c o x y (v9 (ys.drop (j + 1))) t ht.symm
   rw [h1, h2]
  ·intro k
   refine Eq.trans ?_ (k5 k)
   have e1 := wr_add g1
   have e2 := wr_succ g2
   show spec_NatMul.l1 ((k + d + 1) + 1) ys out (i : Int) x c xs (n : Int) (i : Int) ys (m : Int) (j : Int) = _
   conv => lhs; unfold spec_NatMul.l1
   simp only [e1, e2, rd_nat, ho, hyj, Int.toNat_natCast, e3]
   rw [if_pos f0, if_pos f1, if_pos f2, if_pos f3, if_pos f4, e4, e5]
theorem ring3 (a P x y z : Int) : a + P * (0 + x * y) + 1000000000 * P * z * y = a + P * (x + 1000000000 * z) * y := by grind
theorem natMul_l0 {xs ys : List Int} {n m : Nat} (hn : xs.length = n) (hm : ys.length = m) (hx : Lms xs) (hy : Lms ys) (hnb : n + m ≤ 500) :
  ∀ (d i : Nat) (out : List Int), i + d = n → Lms out → out.length = n + m → Zr out (i + m) →
   ∃ out' K, Lms out' ∧ v9 out' = v9 out + p9 i * v9 (xs.drop i) * v9 ys ∧ ∀ k, K ≤ k → spec_NatMul.l0 k ys out xs (n : Int) (i : Int) = some (trim9 out') := by
 intro d
 induction d with
 | zero =>
  intro i out hi hl hol hz
  obtain rfl : i = n := by omega
  refine ⟨out, i + m + 2, hl, ?_, fun k hk => ?_⟩
  ·rw [List.drop_eq_nil_of_le (by omega)]; simp [v9]
  ·obtain ⟨k, rfl⟩ : ∃ k', k = k' + 1 := ⟨k - 1, by omega⟩
   simp only [spec_NatMul.l0]
   rw [if_neg (by omega), natTrim_f (by omega) (by omega)]; rfl
 | succ d ih =>
  intro i out hi hl hol hz
  have hin : i < n := by omega
  obtain ⟨hx0, hx1⟩ := hx.getD i
  obtain ⟨o1, a1, a2, a3, a4, a5⟩ := natMul_l1 hn hm hy hx0 hx1 hin hnb m 0 out 0 (by omega) hl hol (by omega) (by omega) hz
  obtain ⟨o2, K, b1, b2, b3⟩ := ih (i + 1) o1 (by omega) a1 a2 a3
  refine ⟨o2, K + m + 2, b1, ?_, fun k hk => ?_⟩
  ·rw [b2, a4, List.drop_zero, Nat.add_zero, p9_succ, v9_drop (ys := xs) (j := i) (by omega)]
   exact ring3 _ _ _ _ _
  ·obtain ⟨k, rfl⟩ : ∃ k', k = (k' + m + 1) + 1 := ⟨k - m - 2, by omega⟩
   have f1 : (i : Int) < (n : Int) := by omega
   have f2 : (0 : Int) ≤ (i : Int) := by omega
   have f3 : (i : Int) < (xs.length : Int) := by omega
   conv => lhs; unfold spec_NatMul.l0
   rw [if_pos f1, if_pos f2, if_pos f3, rd_nat, hm]
   exact (a5 k).trans (b3 k (by omega))
theorem natMul_law {xs ys : List Int} {a b : Nat} (hx : IsN xs a) (hy : IsN ys b) (ha : a < tn 1800) (hb : b < tn 1800) :
  ∃ K r, IsN r (a * b) ∧ ∀ k, K ≤ k → spec_NatMul.f k xs ys = some r := by
 have h1 := hx.len ha
 have h2 := hy.len hb
 obtain ⟨o, K, a1, a2, a3⟩ := natMul_l0 (xs := xs) (ys := ys) rfl rfl hx.lms hy.lms (by omega) xs.length 0 (List.replicate (xs.length + ys.length) 0) (by omega) (Lms.rep _) (by simp)
  (fun t _ => by rw [List.getD_eq_getElem?_getD, List.getElem?_replicate]; split <;> rfl)
 refine ⟨K, trim9 o, trim9_is a1 ?_, fun k hk => ?_⟩
 ·rw [a2, v9_rep, List.drop_zero, hx.val, hy.val, Int.natCast_mul]; simp [p9]
 ·unfold spec_NatMul.f
  rw [wr_add (by omega), if_pos (by omega), Int.toNat_natCast, if_pos (by omega)]
  exact a3 k hk
end Go.Proofs.YtlbjjhecgceiaaaGreatDoor
