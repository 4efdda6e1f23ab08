/- Part 11 of the proof. -/
import Derived.Lib.Mul64
import Derived.Test.YtlbjjhecgceiaaaGreatDoorProg
import Derived.LaidEqlPtr
import Derived.RegionTactic
import Derived.BigRegion
import Derived.StillTailTactics
import Derived.Deep.RegionWith
import Derived.Test.YtlbjjhecgceiaaaGreatDoorP00
set_option linter.unusedVariables false
set_option linter.unusedSimpArgs false
namespace Go.Proofs.YtlbjjhecgceiaaaGreatDoor
def Wd (x : Int) : Prop := 0 ≤ x ∧ x < 18446744073709551616
def Wds (xs : List Int) : Prop := ∀ x ∈ xs, Wd x
end Go.Proofs.YtlbjjhecgceiaaaGreatDoor
namespace Go.Proofs.YtlbjjhecgceiaaaGreatDoor
open Go.RowKit
theorem hid {p : Prop} (h : p) : Hid p := h
structure Chg (S : Nat → Prop) (w w' : World) : Prop where
 os : w'.os = w.os
 tape : w'.tape = w.tape
 output : w'.output = w.output
 size : w.heap.size ≤ w'.heap.size
 keep : ∀ k, k < w.heap.size → ¬ S k → w'.heap[k]? = w.heap[k]?
theorem Chg.refl (S : Nat → Prop) (w : World) : Chg S w w := ⟨rfl, rfl, rfl, Nat.le_refl _, fun _ _ _ => rfl⟩
theorem Chg.trans {S T : Nat → Prop} {a b c : World} (h : Chg S a b) (k : Chg T b c) (hST : ∀ i, i < a.heap.size → T i → S i) : Chg S a c :=
 ⟨k.os.trans h.os, k.tape.trans h.tape, k.output.trans h.output, Nat.le_trans h.size k.size, fun i hi hn =>
  (k.keep i (Nat.lt_of_lt_of_le hi h.size) (fun t => hn (hST i hi t))).trans (h.keep i hi hn)⟩
theorem Chg.drew {S : Nat → Prop} {a w : World} (h : Chg S a w) : Chg S a w.drew := ⟨h.os, h.tape, h.output, h.size, h.keep⟩
theorem Chg.drewN {S : Nat → Prop} {a w : World} (h : Chg S a w) (n : Nat) : Chg S a (w.drewN n) := ⟨h.os, h.tape, h.output, h.size, h.keep⟩
theorem Chg.setCell {S : Nat → Prop} {a w : World} (h : Chg S a w) {p : Addr} (hp : p.block < a.heap.size → S p.block) (u : Value) : Chg S a (w.setCell p u) :=
 ⟨h.os, h.tape, h.output, by have := h.size; simpa [World.setCell] using this, fun k hk hn => by
  rw [Below.heap_setCell _ _ _ _ (fun e => hn (by subst e; exact hp hk))]; exact h.keep k hk hn⟩
theorem Chg.alloc {S : Nat → Prop} {a w : World} (h : Chg S a w) (o : Obj) : Chg S a (w.alloc o) :=
 ⟨h.os, h.tape, h.output, by have := h.size; simp; omega, fun k hk hn => by
  rw [Below.heap_alloc _ _ _ (Nat.lt_of_lt_of_le hk h.size)]; exact h.keep k hk hn⟩
def Row (w : World) (b : Nat) (xs : List Int) : Prop :=
 w.heap[b]? = some (.cells (xs.map (Value.int .u64)).toArray 131 (0, 0)) ∧ Wds xs
end Go.Proofs.YtlbjjhecgceiaaaGreatDoor
namespace Go.Proofs.YtlbjjhecgceiaaaGreatDoor
open Go.RowKit
set_option linter.unusedVariables false
set_option linter.unusedSimpArgs false
set_option maxRecDepth 20000
theorem cell_kept {S : Nat → Prop} {w w' : World} {a : Addr} {v : Value} (h : w.cell? a = some v) (hc : Chg S w w') (hs : ¬ S a.block) : w'.cell? a = some v := by
 have hlt := World.block_lt_of_cell? w a h
 rw [← h]; exact World.cell?_of_block (hc.keep a.block hlt hs)
end Go.Proofs.YtlbjjhecgceiaaaGreatDoor
