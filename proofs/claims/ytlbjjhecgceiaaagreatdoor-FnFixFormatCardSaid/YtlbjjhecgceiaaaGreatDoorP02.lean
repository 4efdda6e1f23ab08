/- Part 2 of the proof. -/
import Derived.Test.YtlbjjhecgceiaaaGreatDoorP01
namespace Go.Proofs.YtlbjjhecgceiaaaGreatDoorW.PrintWords
open Go.RowKit
namespace Kd
section
variable {α β : Type} {d : Kd α} {d' : Kd β} {e e' : Nat} {w w1 W : World} {base b : Nat} {ok ok' okv oku : Nat → Prop} {u v : Value} {xs : List α} {ys : List β}
theorem R_tight (hE : d.E = []) (h : d.R e w base ok v xs) : d.R e w base (fun k => some k = v.ownBlock) v xs := by
 obtain ⟨h0, inner, ho, hr⟩ := h
 refine ⟨fun k hk => hk.symm, inner, ho, hr.imp_ (fun p c hp => d.M_mono (fun k hk => ?_) (d.M_bound hp))⟩
 obtain ⟨_, _, _, q, hq, _⟩ := hk
 rw [hE] at hq
 cases hq
end
end Kd
end Go.Proofs.YtlbjjhecgceiaaaGreatDoorW.PrintWords
namespace Go.Proofs.YtlbjjhecgceiaaaGreatDoorW.PrintWords
open Go.RowKit
def Kept (w W : World) (S : Nat → Prop) : Prop := w.heap.size ≤ W.heap.size ∧ ∀ i, i < w.heap.size → ¬ S i → W.heap[i]? = w.heap[i]?
section
variable {w W W2 : World} {S S2 S' : Nat → Prop}
theorem Kept.refl (w : World) (S : Nat → Prop) : Kept w w S := ⟨Nat.le_refl _, fun _ _ _ => rfl⟩
theorem Kept.of_below (h : Below w.heap.size w W) (S : Nat → Prop) : Kept w W S := ⟨h.size, fun i hi _ => h.block i hi⟩
theorem Kept.then_ (h : Kept w W S) (k : Kept W W2 S2) (hs : ∀ k, S2 k → S k ∨ w.heap.size ≤ k) : Kept w W2 S :=
 ⟨Nat.le_trans h.1 k.1, fun i hi hn => (k.2 i (Nat.lt_of_lt_of_le hi h.1) (fun h2 => (hs i h2).elim hn (fun h3 => by omega))).trans (h.2 i hi hn)⟩
theorem Kept.below (h : Kept w W S) (hb : Below W.heap.size W W2) : Kept w W2 S := h.then_ (Kept.of_below hb (fun _ => False)) (fun _ hk => hk.elim)
theorem Kept.setCell (h : Kept w W S) {p : Addr} (hp : S p.block ∨ w.heap.size ≤ p.block) (u : Value) : Kept w (W.setCell p u) S :=
 h.then_ (S2 := fun k => k = p.block) ⟨by simp [World.setCell], fun i _ hn => Below.heap_setCell W p u i hn⟩ (fun k hk => by rw [hk]; exact hp)
theorem blk_kept {g : Nat} {o : Obj} (hb : W.heap[g]? = some o) (hk : Kept W W2 S) (hne : ¬ S g) : W2.heap[g]? = some o := (hk.2 g (blk_lt hb) hne).trans hb
end
def Foot (P : World → Prop) (W : World) (ok : Nat → Prop) : Prop := ∀ W' : World, (∀ k, ok k → k < W.heap.size → W'.heap[k]? = W.heap[k]?) → P W'
theorem heap_lt {W W1 : World} {k : Nat} (h : W1.heap[k]? = W.heap[k]?) (hlt : k < W.heap.size) : k < W1.heap.size := by
 rw [Array.getElem?_eq_getElem hlt] at h
 exact (Array.getElem?_eq_some_iff.1 h).1
namespace Foot
variable {P Q : World → Prop} {W W1 : World} {ok ok' : Nat → Prop}
theorem now (h : Foot P W ok) : P W := h W (fun _ _ _ => rfl)
theorem mono (h : Foot P W ok) (hok : ∀ k, ok k → ok' k) : Foot P W ok' := fun W' hW => h W' (fun k hk hlt => hW k (hok k hk) hlt)
theorem bound (h : Foot P W ok) : Foot P W (fun k => ok k ∧ k < W.heap.size) := fun W' hW => h W' (fun k hk hlt => hW k ⟨hk, hlt⟩ hlt)
theorem step (h : Foot P W ok) (hm : ∀ k, ok k → k < W.heap.size → W1.heap[k]? = W.heap[k]?) : Foot P W1 ok := fun W' hW => h W' (fun k hk hlt => (hW k hk (heap_lt (hm k hk hlt) hlt)).trans (hm k hk hlt))
theorem imp (h : Foot P W ok) (hi : ∀ W', P W' → Q W') : Foot Q W ok := fun W' hW => hi W' (h W' hW)
theorem old (h : Foot P W ok) (hb : Below W.heap.size W W1) : Foot P W1 (fun k => ok k ∧ k < W.heap.size) := (h.bound).step (fun k _ hlt => hb.block k hlt)
end Foot
namespace Kd
def F {α : Type} (d : Kd α) (W : World) (ok : Nat → Prop) (A : Option Addr) (n : Nat) (xs : List α) : Prop := Foot (fun W => d.C W A n xs) W ok
section
variable {α β : Type} {d : Kd α} {e base n n' cc g N : Nat} {ok ok' okp S : Nat → Prop} {w w0 w1 W W1 : World} {A A' : Option Addr} {u v v1 : Value} {xs : List α} {xs' : List β} {d' : Kd β} {x : α} {c : List Value}
theorem F_now (h : F d W ok A n xs) : d.C W A n xs := Foot.now h
theorem F_mono (h : F d W ok A n xs) (hok : ∀ k, ok k → ok' k) : F d W ok' A n xs := Foot.mono h hok
theorem F_bound (h : F d W ok A n xs) : F d W (fun k => ok k ∧ k < W.heap.size) A n xs := Foot.bound h
theorem F_step (h : F d W ok A n xs) (hm : ∀ k, ok k → k < W.heap.size → W1.heap[k]? = W.heap[k]?) : F d W1 ok A n xs := Foot.step h hm
theorem F_imp (h : F d W ok A n xs) (hi : ∀ W', d.C W' A n xs → d'.C W' A' n' xs') : F d' W ok A' n' xs' := Foot.imp h hi
theorem F_below (h : F d W ok A n xs) (hb : Below W.heap.size W W1) : F d W1 ok A n xs := F_step h (fun k _ hlt => hb.block k hlt)
theorem F_drewN (h : F d W ok A n xs) (m : Nat) : F d (W.drewN m) ok A n xs := F_below h (pw_below_drewN (Below.refl _ _) m)
theorem F_elder' (h : F d W ok A n xs) (hbase : ∀ k, v.ownBlock = some k → W.heap.size ≤ k) (hb : Below W.heap.size W W1) : F d W1 (fun k => ok k ∧ some k ≠ v.ownBlock) A n xs :=
 F_mono (Foot.old h hb) (fun k hk => ⟨hk.1, fun he => by have := hbase k he.symm; have := hk.2; omega⟩)
theorem F_after (h : F d W (fun k => ok k ∧ some k ≠ v.ownBlock) A n xs) (hg : W.grownBy W1 v.ownBlock) (hat : v1.ownBlock = v.ownBlock ∨ ∃ b, v1.ownBlock = some b ∧ W.heap.size ≤ b) : F d W1 (fun k => ok k ∧ some k ≠ v1.ownBlock) A n xs := by
 refine F_mono (Foot.step (F_bound h) (fun k hk hlt => hg.block k hlt hk.1.2)) (fun k hk => ⟨hk.1.1, ?_⟩)
 rcases hat with hat | ⟨b, hb, hle⟩
 ·rw [hat]; exact hk.1.2
 ·rw [hb]
  intro he
  injection he with he
  have := hk.2
  omega
theorem R_F (h : d.R e W base ok (.slice A n cc) xs) : F d W ok A n xs := fun W' hW => by
 have h2 := R_reads' (R_step h hW)
 rw [h2.1]
 exact h2.2.2
end
end Kd
end Go.Proofs.YtlbjjhecgceiaaaGreatDoorW.PrintWords
namespace Go.Proofs.YtlbjjhecgceiaaaGreatDoorW.PrintWords
theorem Reps.one {α : Type} {R : α → List Value → Prop} {ps : List α} {cs : List Value} {p : α} {v : Value} (hp : R p [v]) (h : Reps R 1 ps cs) : Reps R 1 (p :: ps) (v :: cs) := by
 refine ⟨by simp [h.1], fun j q hq => ?_⟩
 cases j with
 | zero =>
  simp only [List.getElem?_cons_zero, Option.some.injEq] at hq
  subst hq
  simpa using hp
 | succ j =>
  simp only [List.getElem?_cons_succ] at hq
  have h1 := h.2 j q hq
  simpa [Nat.mul_one] using h1
end Go.Proofs.YtlbjjhecgceiaaaGreatDoorW.PrintWords
namespace Go.Proofs.YtlbjjhecgceiaaaGreatDoorW.PrintWords
open Go.RowKit
section
variable {P : Program} {ops : Array Oper} {rest : List Oper} {o : Oper} {a : Act} {Q : Exit → Act → World → Prop} {W : World}
theorem gate_guard (hw : Region.wanted o (yielded ops a.tmps) = true) (h : wpList P ops Q ({ o with guard := none } :: rest) a W) : wpList P ops Q (o :: rest) a W := by
 have h1 : Region.wanted { o with guard := none } (yielded ops a.tmps) = true := rfl
 unfold wpList at h ⊢
 rw [if_pos h1] at h
 rw [if_pos hw]
 exact h
end
end Go.Proofs.YtlbjjhecgceiaaaGreatDoorW.PrintWords
