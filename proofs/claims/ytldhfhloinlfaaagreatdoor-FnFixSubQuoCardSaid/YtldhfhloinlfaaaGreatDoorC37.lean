/- Part 37 of the proof. -/
import Derived.Test.YtldhfhloinlfaaaGreatDoorC33
namespace Go.Proofs.YtldhfhloinlfaaaGreatDoor
open Go.RowKit
set_option linter.unusedVariables false
set_option linter.unusedSimpArgs false
set_option maxRecDepth 20000
theorem quo_int {w w1 w3 : World} {p t : Nat} {bo : Option Nat} {x Y : Int} {v : Value} (htn : w.heap.size ≤ t) (hc1 : Chg (fun _ => False) w w1) (h : PQuo w1 p t bo none x Y (.returned v) w3) : PInt w p bo (x / Y) (.tuple #[]) (.returned (.tuple #[])) w3 := by
 obtain ⟨_, bp, bt, q1, q2, q3, q4, q5, q6⟩ := h
 have hs := hc1.size
 refine ⟨rfl, bp, q1, ?_, (hc1.mono (fun _ h => h.elim)).trans q6 (fun i hi h => ?_)⟩
 ·rcases q3 with k | ⟨c, k, hk⟩
  ·exact .inl k
  ·exact .inr ⟨c, k, by omega⟩
 ·rcases h with h | (h | h)
  ·exact h
  ·omega
  ·cases h
set_option maxHeartbeats 1000000 in
theorem bint_quo (p r : Nat) (bo br : Option Nat) (x y : Int) (w : World) (hp : IntAt w p bo x) (hr : IntAt w r br y) (he : Env w) (hx : x < BP 30) (hy : 0 < y) (hy2 : y < BP 3) :
  Calls Tryz.prog 107 #[.pointer (some ⟨p, 0, none⟩), .pointer (some ⟨p, 0, none⟩), .pointer (some ⟨r, 0, none⟩)] w (PInt w p bo (x / y) (.tuple #[])) := by
 have hpl := hp.lt
 have hrl := hr.lt
 have HQ := hid (fun w1 t (ht : IntAt w1 t none 0) (htn : w.heap.size ≤ t) (hc : Chg (fun _ => False) w w1) =>
  (bint_quoRem p p r t bo bo br none x x y 0 w1 (hp.new hc) (hp.new hc) (hr.new hc) ht (by omega) (by omega) (by omega) (fun _ _ h => by cases h) (fun _ _ h => by cases h) (fun _ _ h => by cases h) hx hy hy2 (cell_kept he.div hc (fun h => h))).mono
   (fun e w3 (h : _ ∧ _) => (show e = .returned (.tuple #[]) ∧ PInt w p bo (x / y) (.tuple #[]) (.returned (.tuple #[])) w3 from ⟨h.1, quo_int htn hc h.2⟩)))
 generalize x / y = q at *
 clear hp hr he hx hy hy2 hpl hrl
 go_enter_defers Tryz.func107, Tryz.ntmps107
 go_wp2_with (first | (go_at_call 103; refine (getBint_any _).mono ?_; intro e w1 h; obtain ⟨t, he1, ht, htn, hc1⟩ := h; subst he1; have HT := hid (HQ.out _ t ht htn hc1); clear ht htn hc1) | (go_at_call 132; refine HT.out.mono ?_; intro e w3 h; obtain ⟨he3, h3⟩ := h; subst he3; have HH := hid h3; clear h3))
 refine leaves_cons (f := 104) (args := #[.pointer (some ⟨t, 0, none⟩)]) (by simp) (by simp [go_sem]) ?_
 refine (putBint_d _ .returning _).mono ?_
 intro e u' w'' h
 obtain ⟨hu1, hu2, hu3⟩ := h
 subst hu1; subst hu2; subst hu3
 exact ⟨_, results_none rfl _ _ _, HH.out⟩
theorem nat_bp3 {b : Nat} (h : digs b ≤ 19) : (b : Int) < BP 3 := by
 have h1 := digs_le.1 h
 have h2 := pow_cast 19
 have h3 := p10_bd3 (k := 19) (by omega)
 omega
theorem thr_lsh2 {w0 w2 : World} {p q r k : Nat} {x z : Int} {c : Nat} (h : Thr w0 w2 p q r x (c : Int) z) (hc : digs c ≤ 80) (hk : k ≤ 99) :
  Calls Tryz.prog 106 #[.pointer (some ⟨q, 0, none⟩), .pointer (some ⟨q, 0, none⟩), .int .i64 k] w2 (fun e w3 => e = .returned (.tuple #[]) ∧ Thr w0 w3 p q r x ((c * 10 ^ k : Nat) : Int) z) := by
 obtain ⟨bp, bq, br, h1, h2, h3, _⟩ := h.ex
 have e : ((c * 10 ^ k : Nat) : Int) = (c : Int) * 10 ^ k := by rw [Int.natCast_mul, pow_cast]
 rw [e]
 exact (bint_lsh_same q bq (c : Int) k w2 h2 h.env.env (digs_bp hc) hk).mono (fun e w3 k => ⟨k.1, (h.rot.step h2 k).rot.rot⟩)
theorem thr_quo {w0 w2 : World} {p q r : Nat} {x : Int} {a b : Nat} (h : Thr w0 w2 p q r x (a : Int) (b : Int)) (ha : digs a ≤ 80) (hb0 : 0 < b) (hb : digs b ≤ 19) :
  Calls Tryz.prog 107 #[.pointer (some ⟨q, 0, none⟩), .pointer (some ⟨q, 0, none⟩), .pointer (some ⟨r, 0, none⟩)] w2 (fun e w3 => e = .returned (.tuple #[]) ∧ Two w0 w3 p q x ((a / b : Nat) : Int)) := by
 obtain ⟨bp, bq, br, h1, h2, h3, _⟩ := h.ex
 have e : ((a / b : Nat) : Int) = (a : Int) / (b : Int) := by omega
 rw [e]
 exact (bint_quo q r bq br (a : Int) (b : Int) w2 h2 h3 h.env.env (digs_bp ha) (by omega) (nat_bp3 hb)).mono (fun e w3 k => ⟨k.1, (h.rot.step h2 k).rot.rot.two⟩)
end Go.Proofs.YtldhfhloinlfaaaGreatDoor
