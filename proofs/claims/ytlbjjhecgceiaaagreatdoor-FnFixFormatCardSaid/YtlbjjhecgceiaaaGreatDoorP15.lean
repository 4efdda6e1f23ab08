/- Part 15 of the proof. -/
import Derived.Deep.CutRange
import Derived.Test.YtlbjjhecgceiaaaGreatDoorP14
namespace Go.Proofs.YtlbjjhecgceiaaaGreatDoor
set_option linter.unusedVariables false
set_option linter.unusedSimpArgs false
def rhe (a b : Nat) : Nat := if b < 2 * (a % b) ∨ (b = 2 * (a % b) ∧ (a / b) % 2 = 1) then a / b + 1 else a / b
theorem rhe_iff {a b q : Nat} (hb : 0 < b) :
  rhe a b = q ↔ (2 * a ≤ 2 * (b * q) + b ∧ 2 * (b * q) ≤ 2 * a + b ∧ (2 * a = 2 * (b * q) + b → q % 2 = 0) ∧ (2 * (b * q) = 2 * a + b → q % 2 = 0)) := by
 have h := Nat.div_add_mod a b
 have hr := Nat.mod_lt a hb
 unfold rhe
 generalize a / b = d at *
 generalize a % b = r at *
 subst h
 constructor
 ·intro h
  split at h
  ·next k =>
   subst h
   simp only [Nat.mul_add, Nat.mul_one]
   refine ⟨by omega, by omega, fun e => by omega, fun e => ?_⟩
   rcases k with k | ⟨k1, k2⟩ <;> omega
  ·next k =>
   subst h
   refine ⟨by omega, by omega, fun e => ?_, fun e => by omega⟩
   by_cases h2 : d % 2 = 1
   ·exact absurd (.inr ⟨by omega, h2⟩) k
   ·omega
 ·rintro ⟨h1, h2, h3, h4⟩
  by_cases e : q = d
  ·subst e
   rw [if_neg]
   rintro (k | ⟨k1, k2⟩)
   ·omega
   ·have := h3 (by omega); omega
  ·by_cases e1 : q = d + 1
   ·subst e1
    simp only [Nat.mul_add, Nat.mul_one] at *
    rw [if_pos]
    by_cases k : b < 2 * r
    ·exact .inl k
    ·have := h4 (by omega)
     exact .inr ⟨by omega, by omega⟩
   ·exfalso
    by_cases e2 : q ≤ d
    ·obtain ⟨k, rfl⟩ := Nat.exists_eq_add_of_lt (show q < d by omega)
     have hk : b ≤ b * (k + 1) := Nat.le_mul_of_pos_right _ (by omega)
     simp only [Nat.mul_add, Nat.mul_one] at *
     omega
    ·obtain ⟨k, rfl⟩ := Nat.exists_eq_add_of_lt (show d + 1 < q by omega)
     have hk : b ≤ b * (k + 1) := Nat.le_mul_of_pos_right _ (by omega)
     simp only [Nat.mul_add, Nat.mul_one] at *
     omega
theorem rhe_scale {a b k : Nat} (hb : 0 < b) (hk : 0 < k) : rhe (a * k) (b * k) = rhe a b := by
 obtain ⟨h1, h2, h3, h4⟩ := (rhe_iff (a := a) (q := rhe a b) hb).1 rfl
 generalize rhe a b = q at *
 rw [rhe_iff (Nat.mul_pos hb hk)]
 have e1 : b * k * q = b * q * k := Nat.mul_right_comm _ _ _
 have e2 : 2 * (b * k * q) + b * k = (2 * (b * q) + b) * k := by rw [e1, Nat.add_mul, Nat.mul_assoc 2 (b * q) k]
 have e3 : 2 * (a * k) + b * k = (2 * a + b) * k := by rw [Nat.add_mul, Nat.mul_assoc 2 a k]
 have e4 : 2 * (a * k) = 2 * a * k := by rw [Nat.mul_assoc]
 have e5 : 2 * (b * k * q) = 2 * (b * q) * k := by rw [e1, Nat.mul_assoc 2 (b * q) k]
 rw [e2, e3, e5, e4]
 exact ⟨Nat.mul_le_mul_right _ h1, Nat.mul_le_mul_right _ h2, fun e => h3 (Nat.eq_of_mul_eq_mul_right hk e), fun e => h4 (Nat.eq_of_mul_eq_mul_right hk e)⟩
theorem rhe_exact {q b : Nat} (hb : 0 < b) : rhe (q * b) b = q := by
 rw [rhe_iff hb, Nat.mul_comm b q]
 exact ⟨by omega, by omega, fun e => by omega, fun e => by omega⟩
def digs (c : Nat) : Nat := if h : c = 0 then 0 else digs (c / 10) + 1
 termination_by c
 decreasing_by omega
theorem digs_zero : digs 0 = 0 := by rw [digs]; simp
theorem digs_pos {c : Nat} (h : c ≠ 0) : digs c = digs (c / 10) + 1 := by rw [digs]; simp [h]
theorem pow10_pos (n : Nat) : 0 < 10 ^ n := Nat.pow_pos (by omega)
theorem digs_le : ∀ {k c : Nat}, digs c ≤ k ↔ c < 10 ^ k
 | 0, c => by
  by_cases h : c = 0
  ·subst h; simp [digs_zero]
  ·rw [digs_pos h]; simp; omega
 | k + 1, c => by
  by_cases h : c = 0
  ·subst h; simp [digs_zero]; exact pow10_pos (k + 1)
  ·rw [digs_pos h, Nat.add_le_add_iff_right, digs_le, Nat.pow_succ]; omega
theorem digs_lt {k c : Nat} : k < digs c ↔ 10 ^ k ≤ c := by rw [← Nat.not_le, digs_le]; omega
end Go.Proofs.YtlbjjhecgceiaaaGreatDoor
namespace Go.Proofs.YtlbjjhecgceiaaaGreatDoor
open Go.RowKit
set_option linter.unusedVariables false
set_option linter.unusedSimpArgs false
set_option maxRecDepth 20000
def Tab (w : World) : Prop := ∀ k : Nat, k < 20 → w.cell? ⟨3, k, none⟩ = some (.int .u64 (10 ^ k))
theorem Tab.kept {S : Nat → Prop} {w w' : World} (h : Tab w) (hc : Chg S w w') (hs : ¬ S 3) : Tab w' := fun k hk => cell_kept (h k hk) hc hs
theorem Tab.lt {w : World} (h : Tab w) : 3 < w.heap.size := World.block_lt_of_cell? w _ (h 0 (by omega))
theorem p10_pos (k : Nat) : (0 : Int) < 10 ^ k := Int.pow_pos (by omega)
theorem p10_wd {k : Nat} (h : k < 20) : Wd ((10 : Int) ^ k) := by
 refine ⟨Int.le_of_lt (p10_pos k), ?_⟩
 have h1 : (10 : Nat) ^ k ≤ 10 ^ 19 := Nat.pow_le_pow_right (by omega) (by omega)
 have h2 : (10 : Nat) ^ 19 < 18446744073709551616 := by decide
 have h3 : ((10 ^ k : Nat) : Int) < ((18446744073709551616 : Nat) : Int) := by exact_mod_cast Nat.lt_of_le_of_lt h1 h2
 rw [Int.natCast_pow] at h3
 exact h3
structure Env (w : World) : Prop where
 tab : Tab w
 kar : w.cell? ⟨10, 0, none⟩ = some (.int .i64 40)
 div : w.cell? ⟨6, 0, none⟩ = some (.int .i64 40)
 apart : ∀ xs, ¬ Row w 3 xs
theorem Env.keep {S : Nat → Prop} {w w' : World} (h : Env w) (hc : Chg S w w') (h1 : ¬ S 3) (h2 : ¬ S 10) (h3 : ¬ S 6) : Env w' :=
 ⟨h.tab.kept hc h1, cell_kept h.kar hc h2, cell_kept h.div hc h3, fun xs hr => h.apart xs ⟨(hc.keep _ h.tab.lt h1).symm.trans hr.1, hr.2⟩⟩
theorem Env.kept {w w' : World} (h : Env w) (hc : Chg (fun _ => False) w w') : Env w' := h.keep hc (fun h => h) (fun h => h) (fun h => h)
theorem pow_cast (k : Nat) : ((10 ^ k : Nat) : Int) = (10 : Int) ^ k := by rw [Int.natCast_pow]; rfl
theorem pow_lt_digs {x : Int} {k : Nat} (hx : 0 ≤ x) : x < 10 ^ k ↔ digs x.toNat ≤ k := by
 rw [digs_le]
 have := pow_cast k
 omega
def Fi (x : Int) : Prop := 0 ≤ x ∧ x ≤ 9999999999999999999
def decV (neg : Bool) (coef : Int) (scale : Nat) : Value := .agg #[.bool neg, .int .i8 scale, .int .u64 coef]
theorem wrap_i8 {s : Nat} (hs : s ≤ 19) : IntKind.i8.wrap (s : Int) = (s : Int) := by
 have : s < 20 := by omega
 revert this
 have h : ∀ k : Fin 20, IntKind.i8.wrap ((k : Nat) : Int) = ((k : Nat) : Int) := by decide
 intro hk
 exact h ⟨s, hk⟩
theorem newUnsafe_any (neg : Bool) (c : Int) (s : Nat) (hc : Fi c) (hs : s ≤ 19) (w : World) :
  Calls Tryz.prog 81 #[.bool neg, .int .u64 c, .int .i64 s] w (fun e w' => e = .returned (decV (neg && c != 0) c s) ∧ Chg (fun _ => False) w w') := by
 have hw := wrap_i8 hs
 obtain ⟨hc0, hc1⟩ := hc
 by_cases h : c = 0
 ·subst h
  have hb : ((0 : Int) == 0) = true := rfl
  go_enter Tryz.func81, Tryz.ntmps81
  go_wp2_with fail
  refine bodyPost_ret (v := decV (neg && (0 : Int) != 0) 0 s) (by simp [results, Tryz.results81, go_sem, decV]) rfl ⟨rfl, (Chg.refl _ _).alloc _⟩
 ·have hb : (c == 0) = false := beq_eq_false_iff_ne.2 h
  have hb2 : (c != 0) = true := by simp [h]
  go_enter Tryz.func81, Tryz.ntmps81
  go_wp2_with fail
  refine bodyPost_ret (v := decV (neg && c != 0) c s) (by simp [results, Tryz.results81, go_sem, decV, hb2]) rfl ⟨rfl, (Chg.refl _ _).alloc _⟩
structure EnvD (w : World) : Prop where
 env : Env w
 ovf : ∃ t v, w.cell? ⟨2, 0, none⟩ = some (.iface t v)
theorem EnvD.kept {w w' : World} (h : EnvD w) (hc : Chg (fun _ => False) w w') : EnvD w' := ⟨h.env.kept hc, by obtain ⟨t, v, e⟩ := h.ovf; exact ⟨t, v, cell_kept e hc (fun h => h)⟩⟩
def PDec (w : World) (neg : Bool) (o : Option (Int × Nat)) (e : Ending) (w' : World) : Prop :=
 Chg (fun _ => False) w w' ∧ match o with
 | some (c, s) => e = .returned (.tuple #[decV (neg && c != 0) c s, .nilIface])
 | none => ∃ t v, e = .returned (.tuple #[decV false 0 0, .iface t v])
theorem cell3 {w1 : World} {z : Nat} {x0 x1 x2 : Value} {T : TypeId} (hh : w1.heap[z]? = some (.cells #[x0, x1, x2] T (0, 0))) :
  w1.cell? ⟨z, 0, none⟩ = some x0 ∧ w1.cell? ⟨z, 1, none⟩ = some x1 ∧ w1.cell? ⟨z, 2, none⟩ = some x2 ∧ w1.frozen? ⟨z, 0, none⟩ = false ∧ w1.frozen? ⟨z, 1, none⟩ = false ∧ w1.frozen? ⟨z, 2, none⟩ = false := by
 refine ⟨?_, ?_, ?_, ?_, ?_, ?_⟩ <;> simp [World.cell?, World.frozen?, hh]
theorem store3 {w1 : World} {z : Nat} {x0 x1 x2 : Value} {T : TypeId} (hh : w1.heap[z]? = some (.cells #[x0, x1, x2] T (0, 0))) (a b d : Value) :
  (((w1.setCell ⟨z, 0, none⟩ a).setCell ⟨z, 1, none⟩ b).setCell ⟨z, 2, none⟩ d).heap[z]? = some (.cells #[a, b, d] T (0, 0)) := by
 simp [World.setCell, Array.getElem?_modify, hh]
theorem chg3 {w w1 : World} {z : Nat} (hc : Chg (fun _ => False) w w1) (hz : w.heap.size ≤ z) (a b d : Value) : Chg (fun _ => False) w (((w1.setCell ⟨z, 0, none⟩ a).setCell ⟨z, 1, none⟩ b).setCell ⟨z, 2, none⟩ d) :=
 Chg.setCell (p := ⟨z, 2, none⟩) (Chg.setCell (p := ⟨z, 1, none⟩) (Chg.setCell (p := ⟨z, 0, none⟩) hc (fun h => by simp only at h; omega) a) (fun h => by simp only at h; omega) b) (fun h => by simp only at h; omega) d
theorem dec_size : (Tryz.prog.info? 65).map (·.size) = some 3 := by kernel_rfl
theorem dec_result {fn : Func} {p u : Tmp} (h : fn.results = #[.cell p 65, .tmp u]) (tmps : Array Value) (w : World) (g : Nat) (a b d v : Value) (T : TypeId)
  (hp : tmps.getD p undef = .pointer (some ⟨g, 0, none⟩)) (hu : tmps.getD u undef = v) (hg : w.heap[g]? = some (.cells #[a, b, d] T (0, 0))) :
  (results fn tmps).run Tryz.prog w = .ok (.tuple #[.agg #[a, b, d], v]) w := by
 rw [results_cell_tmp h, hp, hu]
 have hl := run_loadVar_row (P := Tryz.prog) w g T 65 #[a, b, d] (0, 0) _ hg Tryz.underlying65 rfl dec_size
 simp [asAddr, hl, Result.andThen]
theorem newSafe_any (neg : Bool) (c : Int) (s : Nat) (hc : Fi c) (hs : s ≤ 19) (w : World) :
  Calls Tryz.prog 77 #[.bool neg, .int .u64 c, .int .i64 s] w (PDec w neg (some (c, s))) := by
 have H := hid (fun w => newUnsafe_any neg c s hc hs w)
 have hb1 : decide ((s : Int) < 0) = false := decide_eq_false (by omega)
 have hb2 : decide ((19 : Int) < (s : Int)) = false := decide_eq_false (by omega)
 obtain ⟨hc0, hc1⟩ := hc
 have hgt : ¬ 9999999999999999999 < c := by omega
 unfold decV at H
 generalize hnb : (neg && c != 0) = nb at *
 have HNB := hid hnb
 clear hnb
 generalize hz : w.heap.size = z at *
 have hnew := heap_alloc_new w (.cells #[.bool false, .int .i8 0, .int .u64 0] 65)
 rw [hz] at hnew
 have hzl : z < (w.alloc (.cells #[.bool false, .int .i8 0, .int .u64 0] 65)).heap.size := by simp [hz]
 have HW := hid (fun w1 (h : Chg (fun _ => False) (w.alloc (.cells #[.bool false, .int .i8 0, .int .u64 0] 65)) w1) => (h.keep z hzl (fun h => h)).trans hnew)
 have HZ := hid hz
 clear hnew hzl
 go_enter Tryz.func77, Tryz.ntmps77
 go_wp2_with (go_at_call 81; refine (H.out _).mono ?_; intro e w1 h; obtain ⟨he, hc⟩ := h; subst he; obtain ⟨k0, k1, k2, f0, f1, f2⟩ := cell3 (HW.out w1 hc))
 have hh := HW.out w1 hc
 have hw3 := store3 hh (.bool nb) (.int .i8 s) (.int .u64 c)
 have hchg := chg3 (((Chg.refl (fun _ => False) w).alloc (.cells #[.bool false, .int .i8 0, .int .u64 0] 65)).trans hc sb_) (Nat.le_of_eq HZ.out) (.bool nb) (.int .i8 s) (.int .u64 c)
 refine bodyPost_ret (v := .tuple #[.agg #[.bool nb, .int .i8 s, .int .u64 c], .nilIface]) (dec_result rfl _ _ z _ _ _ _ _ rfl rfl hw3) rfl ⟨hchg, ?_⟩
 show _ = Ending.returned (.tuple #[decV (neg && c != 0) c s, .nilIface])
 rw [HNB.out]
 rfl
theorem newSafe_flat (neg nb : Bool) (c : Int) (s : Nat) (hc : Fi c) (hs : s ≤ 19) (hnb : (neg && c != 0) = nb) (w : World) :
  Calls Tryz.prog 77 #[.bool neg, .int .u64 c, .int .i64 s] w (fun e w' => e = .returned (.tuple #[.agg #[.bool nb, .int .i8 s, .int .u64 c], .nilIface]) ∧ Chg (fun _ => False) w w') :=
 (newSafe_any neg c s hc hs w).mono (fun e w' h => ⟨by have := h.2; rw [← hnb]; exact this, h.1⟩)
theorem wrap_i64_nat {s : Nat} (hs : s ≤ 19) : IntKind.i64.wrap (s : Int) = (s : Int) := IntWalk.i64_in _ (by omega)
theorem Scale_any (neg : Bool) (c : Int) (s : Nat) (hs : s ≤ 19) (w : World) :
  Calls Tryz.prog 60 #[.agg #[.bool neg, .int .i8 s, .int .u64 c]] w (fun e w' => e = .returned (.int .i64 s) ∧ Chg (fun _ => False) w w') := by
 have hw := wrap_i64_nat hs
 go_enter Tryz.func60, Tryz.ntmps60
 go_wp2_with fail
 go_ret
 exact ⟨rfl, (Chg.refl _ _).alloc _⟩
theorem IsNeg_any (neg : Bool) (c : Int) (s : Nat) (w : World) :
  Calls Tryz.prog 58 #[.agg #[.bool neg, .int .i8 s, .int .u64 c]] w (fun e w' => e = .returned (.bool neg) ∧ Chg (fun _ => False) w w') := by
 go_enter Tryz.func58, Tryz.ntmps58
 go_wp2_with fail
 go_ret
 exact ⟨rfl, (Chg.refl _ _).alloc _⟩
theorem newUnsafe_flat (neg nb : Bool) (c : Int) (s : Nat) (hc : Fi c) (hs : s ≤ 19) (hnb : (neg && c != 0) = nb) (w : World) :
  Calls Tryz.prog 81 #[.bool neg, .int .u64 c, .int .i64 s] w (fun e w' => e = .returned (.agg #[.bool nb, .int .i8 s, .int .u64 c]) ∧ Chg (fun _ => False) w w') :=
 (newUnsafe_any neg c s hc hs w).mono (fun e w' h => ⟨by have := h.1; rw [← hnb]; exact this, h.2⟩)
def rheI (x Y : Int) : Int := if Y < 2 * (x % Y) ∨ (Y = 2 * (x % Y) ∧ (x / Y) % 2 = 1) then x / Y + 1 else x / Y
theorem rheI_nat (a b : Nat) : rheI (a : Int) (b : Int) = ((rhe a b : Nat) : Int) := by
 unfold rheI rhe
 have h1 : ((a : Int) % (b : Int)) = ((a % b : Nat) : Int) := by omega
 have h2 : ((a : Int) / (b : Int)) = ((a / b : Nat) : Int) := by omega
 rw [h1, h2]
 by_cases h : b < 2 * (a % b) ∨ (b = 2 * (a % b) ∧ (a / b) % 2 = 1)
 ·rw [if_pos h, if_pos (by omega)]; omega
 ·rw [if_neg h, if_neg (by omega)]
theorem fint_isOdd (x : Int) (hx : Wd x) (w : World) : Calls Tryz.prog 164 #[.int .u64 x] w (fun e w' => e = .returned (.bool (x % 2 != 0)) ∧ w = w') := by
 have hand := and1 x hx
 obtain ⟨k, hk⟩ : ∃ k, x % 2 = k := ⟨_, rfl⟩
 rw [hk] at hand ⊢
 obtain ⟨h0, h1⟩ := hx
 clear hk
 go_enter Tryz.func164, Tryz.ntmps164
 go_wp2_with fail
 go_ret
 exact ⟨by first | rfl | rw [hand] | simp [hand], rfl⟩
theorem fint_rsh_pos (x : Int) (n : Nat) (hx : Fi x) (hx1 : x ≠ 0) (hn1 : 1 ≤ n) (hn : n ≤ 19) (w : World) (ht : Tab w) :
  Calls Tryz.prog 128 #[.int .u64 x, .int .i64 n] w (fun e w' => e = .returned (.int .u64 (rheI x (10 ^ n))) ∧ w = w') := by
 have hcell := ht n (by omega)
 have hY := p10_pos n
 have hwp := p10_wd (k := n) (by omega)
 have hdef : rheI x (10 ^ n) = if 10 ^ n < 2 * (x % 10 ^ n) ∨ (10 ^ n = 2 * (x % 10 ^ n) ∧ (x / 10 ^ n) % 2 = 1) then x / 10 ^ n + 1 else x / 10 ^ n := rfl
 have hev : ∃ H, (10 : Int) ^ n = H * 2 := ⟨5 * 10 ^ (n - 1), by
  obtain ⟨k, rfl⟩ : ∃ k, n = k + 1 := ⟨n - 1, by omega⟩
  rw [Int.pow_succ, Nat.add_sub_cancel]; omega⟩
 obtain ⟨H, hH⟩ := hev
 generalize rheI x (10 ^ n) = RES at *
 generalize (10 : Int) ^ n = Y at *
 obtain ⟨hx0, hxm⟩ := hx
 obtain ⟨hY0, hY1⟩ := hwp
 obtain ⟨q, hq⟩ : ∃ q, x / Y = q := ⟨_, rfl⟩
 obtain ⟨r, hr⟩ : ∃ r, x % Y = r := ⟨_, rfl⟩
 have hdm := Int.mul_ediv_add_emod x Y
 have hr0 : 0 ≤ r := by rw [← hr]; exact Int.emod_nonneg _ (by omega)
 have hr1 : r < Y := by rw [← hr]; exact Int.emod_lt_of_pos _ hY
 have hq0 : 0 ≤ q := by rw [← hq]; exact Int.ediv_nonneg hx0 (by omega)
 have hqx : q ≤ x := by rw [← hq]; exact Int.ediv_le_self _ hx0
 rw [hq, hr] at hdef hdm
 have hqy : q * Y = x - r := by rw [Int.mul_comm]; omega
 have hqp : 0 ≤ x - r := by rw [← hqy]; exact Int.mul_nonneg hq0 hY0
 have hw1 : IntKind.u64.wrap (q * Y) = x - r := by rw [IntKind.wrap_u64, hqy]; omega
 have hw2 : IntKind.u64.wrap (x - (x - r)) = r := by rw [IntKind.wrap_u64]; omega
 have hw3 : IntKind.u64.wrap (q + 1) = q + 1 := by rw [IntKind.wrap_u64]; omega
 have hsh : Y / 2 = H := by omega
 have hb0 : (x == 0) = false := beq_eq_false_iff_ne.2 hx1
 have hle : ¬ (n : Int) ≤ 0 := by omega
 have hlt20 : (n : Int) < 20 := by omega
 have hge0 : (0 : Int) ≤ (n : Int) := by omega
 have hnge : ¬ (20 : Int) ≤ (n : Int) := by omega
 have HO := hid (fun w => fint_isOdd q ⟨hq0, by omega⟩ w)
 have hYne : Y ≠ 0 := by omega
 by_cases hc1 : H < r
 ·have hres : RES = q + 1 := by rw [hdef, if_pos (by omega)]
  rw [hres]
  have hd : decide (H < r) = true := decide_eq_true hc1
  clear hdef hres hdm hr hH hqy
  go_enter Tryz.func128, Tryz.ntmps128
  go_wp2_with fail
  go_ret
  exact ⟨rfl, rfl⟩
 ·have hd : decide (H < r) = false := decide_eq_false hc1
  by_cases hc2 : H = r
  ·have hb : (H == r) = true := beq_iff_eq.2 hc2
   by_cases ho : q % 2 = 1
   ·have hres : RES = q + 1 := by rw [hdef, if_pos (by omega)]
    rw [hres]
    have hb3 : (q % 2 != 0) = true := by rw [ho]; rfl
    clear hdef hres hdm hr hH hqy ho hc2
    go_enter Tryz.func128, Tryz.ntmps128
    go_wp2_with (go_at_call 164; refine (HO.out _).mono ?_; intro e w1 h; obtain ⟨he, hw⟩ := h; subst he; subst hw)
    go_ret
    exact ⟨rfl, rfl⟩
   ·have hres : RES = q := by rw [hdef, if_neg (by omega)]
    rw [hres]
    have ho' : q % 2 = 0 := by omega
    have hb3 : (q % 2 != 0) = false := by rw [ho']; rfl
    clear hdef hres hdm hr hH hqy ho ho' hc2
    go_enter Tryz.func128, Tryz.ntmps128
    go_wp2_with (go_at_call 164; refine (HO.out _).mono ?_; intro e w1 h; obtain ⟨he, hw⟩ := h; subst he; subst hw)
    go_ret
    exact ⟨rfl, rfl⟩
  ·have hb : (H == r) = false := beq_eq_false_iff_ne.2 hc2
   have hres : RES = q := by rw [hdef, if_neg (by omega)]
   rw [hres]
   clear hdef hres hdm hr hH hqy
   go_enter Tryz.func128, Tryz.ntmps128
   go_wp2_with fail
   go_ret
   exact ⟨rfl, rfl⟩
end Go.Proofs.YtlbjjhecgceiaaaGreatDoor
