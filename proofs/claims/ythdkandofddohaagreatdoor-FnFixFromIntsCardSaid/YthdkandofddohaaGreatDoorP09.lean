/- Part 9 of the proof. -/
import Derived.Lib.Mul64
import Derived.LaidEqlPtr
import Derived.RegionTactic
import Derived.BigRegion
import Derived.StillTailTactics
import Derived.Test.YthdkandofddohaaGreatDoorP08
namespace Go.Proofs.YthdkandofddohaaGreatDoor
set_option linter.unusedVariables false
set_option linter.unusedSimpArgs false
def rhe (a b : Nat) : Nat := if b < 2 * (a % b) ∨ (b = 2 * (a % b) ∧ (a / b) % 2 = 1) then a / b + 1 else a / b
theorem rhe_iff {a b q : Nat} (hb : 0 < b) :
  rhe a b = q ↔ (2 * a ≤ 2 * (b * q) + b ∧ 2 * (b * q) ≤ 2 * a + b ∧ (2 * a = 2 * (b * q) + b → q % 2 = 0) ∧ (2 * (b * q) = 2 * a + b → q % 2 = 0)) := by
 have h := Nat.div_add_mod a b
 have hr := Nat.mod_lt a hb
 unfold rhe
 generalize a / b = d at *
 generalize a % b = r at *
 subst h
 constructor
 ·intro h
  split at h
  ·next k =>
   subst h
   simp only [Nat.mul_add, Nat.mul_one]
   refine ⟨by omega, by omega, fun e => by omega, fun e => ?_⟩
   rcases k with k | ⟨k1, k2⟩ <;> omega
  ·next k =>
   subst h
   refine ⟨by omega, by omega, fun e => ?_, fun e => by omega⟩
   by_cases h2 : d % 2 = 1
   ·exact absurd (.inr ⟨by omega, h2⟩) k
   ·omega
 ·rintro ⟨h1, h2, h3, h4⟩
  by_cases e : q = d
  ·subst e
   rw [if_neg]
   rintro (k | ⟨k1, k2⟩)
   ·omega
   ·have := h3 (by omega); omega
  ·by_cases e1 : q = d + 1
   ·subst e1
    simp only [Nat.mul_add, Nat.mul_one] at *
    rw [if_pos]
    by_cases k : b < 2 * r
    ·exact .inl k
    ·have := h4 (by omega)
     exact .inr ⟨by omega, by omega⟩
   ·exfalso
    by_cases e2 : q ≤ d
    ·obtain ⟨k, rfl⟩ := Nat.exists_eq_add_of_lt (show q < d by omega)
     have hk : b ≤ b * (k + 1) := Nat.le_mul_of_pos_right _ (by omega)
     simp only [Nat.mul_add, Nat.mul_one] at *
     omega
    ·obtain ⟨k, rfl⟩ := Nat.exists_eq_add_of_lt (show d + 1 < q by omega)
     have hk : b ≤ b * (k + 1) := Nat.le_mul_of_pos_right _ (by omega)
     simp only [Nat.mul_add, Nat.mul_one] at *
     omega
theorem rhe_scale {a b k : Nat} (hb : 0 < b) (hk : 0 < k) : rhe (a * k) (b * k) = rhe a b := by
 obtain ⟨h1, h2, h3, h4⟩ := (rhe_iff (a := a) (q := rhe a b) hb).1 rfl
 generalize rhe a b = q at *
 rw [rhe_iff (Nat.mul_pos hb hk)]
 have e1 : b * k * q = b * q * k := Nat.mul_right_comm _ _ _
 have e2 : 2 * (b * k * q) + b * k = (2 * (b * q) + b) * k := by rw [e1, Nat.add_mul, Nat.mul_assoc 2 (b * q) k]
 have e3 : 2 * (a * k) + b * k = (2 * a + b) * k := by rw [Nat.add_mul, Nat.mul_assoc 2 a k]
 have e4 : 2 * (a * k) = 2 * a * k := by rw [Nat.mul_assoc]
 have e5 : 2 * (b * k * q) = 2 * (b * q) * k := by rw [e1, Nat.mul_assoc 2 (b * q) k]
 rw [e2, e3, e5, e4]
 exact ⟨Nat.mul_le_mul_right _ h1, Nat.mul_le_mul_right _ h2, fun e => h3 (Nat.eq_of_mul_eq_mul_right hk e), fun e => h4 (Nat.eq_of_mul_eq_mul_right hk e)⟩
theorem rhe_exact {q b : Nat} (hb : 0 < b) : rhe (q * b) b = q := by
 rw [rhe_iff hb, Nat.mul_comm b q]
 exact ⟨by omega, by omega, fun e => by omega, fun e => by omega⟩
theorem rhe_mono {a c b : Nat} (hb : 0 < b) (h : a ≤ c) : rhe a b ≤ rhe c b := by
 obtain ⟨h1, h2, h3, h4⟩ := (rhe_iff (a := a) (q := rhe a b) hb).1 rfl
 obtain ⟨k1, k2, k3, k4⟩ := (rhe_iff (a := c) (q := rhe c b) hb).1 rfl
 generalize rhe a b = q at *
 generalize rhe c b = r at *
 apply Nat.le_of_not_lt
 intro hlt
 obtain ⟨k, rfl⟩ := Nat.exists_eq_add_of_lt hlt
 rw [show r + k + 1 = r + (k + 1) by omega, Nat.mul_add, Nat.mul_add] at *
 have hk : b * (k + 1) = b * k + b := by rw [Nat.mul_add, Nat.mul_one]
 by_cases e : k = 0
 ·subst e
  simp only [Nat.mul_zero, Nat.zero_add, Nat.mul_one] at *
  have e1 : a = c := by omega
  subst e1
  have := h4 (by omega)
  have := k3 (by omega)
  omega
 ·have : b ≤ b * k := Nat.le_mul_of_pos_right _ (by omega)
  omega
def digs (c : Nat) : Nat := if h : c = 0 then 0 else digs (c / 10) + 1
 termination_by c
 decreasing_by omega
structure Pow19 (E F : Nat) : Prop where
 p : (10 : Nat) ^ 19 = E
 ten : E = F * 10
 even : F % 2 = 0
 lt : F < E
theorem pow19 : Pow19 (10 ^ 19) (10 ^ 18) := ⟨rfl, by decide, by decide, by decide⟩
theorem digs_zero : digs 0 = 0 := by rw [digs]; simp
theorem digs_pos {c : Nat} (h : c ≠ 0) : digs c = digs (c / 10) + 1 := by rw [digs]; simp [h]
theorem pow10_pos (n : Nat) : 0 < 10 ^ n := Nat.pow_pos (by omega)
theorem digs_le : ∀ {k c : Nat}, digs c ≤ k ↔ c < 10 ^ k
 | 0, c => by
  by_cases h : c = 0
  ·subst h; simp [digs_zero]
  ·rw [digs_pos h]; simp; omega
 | k + 1, c => by
  by_cases h : c = 0
  ·subst h; simp [digs_zero]; exact pow10_pos (k + 1)
  ·rw [digs_pos h, Nat.add_le_add_iff_right, digs_le, Nat.pow_succ]; omega
theorem digs_lt {k c : Nat} : k < digs c ↔ 10 ^ k ≤ c := by rw [← Nat.not_le, digs_le]; omega
theorem digs_eq {k c : Nat} (h1 : 10 ^ k ≤ c) (h2 : c < 10 ^ (k + 1)) : digs c = k + 1 := by
 have := digs_lt.2 h1; have := digs_le.2 h2; omega
def step19 (c s m : Nat) : Nat × Nat :=
 if s < m then (c * 10 ^ (m - s), m)
 else if digs c ≤ s ∧ 19 < s then (rhe c (10 ^ (s - 19)), 19)
 else if s < digs c ∧ 19 < digs c then (rhe c (10 ^ (digs c - 19)), 19 + s - digs c)
 else (c, s)
def from19 (E : Nat) : Nat → Nat → Nat → Nat → Option (Nat × Nat)
 | 0, _, _, _ => none
 | f + 1, c, s, m => if 19 + s < digs c + m then none else if E ≤ (step19 c s m).1 then from19 E f (step19 c s m).1 (step19 c s m).2 m else some (step19 c s m)
def rnd (c s n : Nat) : Nat := rhe (c * 10 ^ n) (10 ^ s)
def room (E : Nat) (f : Nat → Nat) : Nat → Option Nat
 | 0 => if f 0 < E then some 0 else none
 | n + 1 => if f (n + 1) < E then some (n + 1) else room E f n
theorem room_some {E : Nat} {f : Nat → Nat} {N : Nat} : ∀ {k : Nat}, N ≤ k → f N < E → (∀ n, N < n → n ≤ k → E ≤ f n) → room E f k = some N
  | 0, h, h1, _ => by obtain rfl : N = 0 := by omega
                      simp only [room, if_pos h1]
  | k + 1, h, h1, h2 => by
    unfold room
    by_cases e : N = k + 1
    · subst e; rw [if_pos h1]
    · have := h2 (k + 1) (by omega) (by omega)
      rw [if_neg (by omega)]
      exact room_some (by omega) h1 (fun n a b => h2 n a (by omega))
theorem room_none {E : Nat} {f : Nat → Nat} : ∀ {k : Nat}, (∀ n, n ≤ k → E ≤ f n) → room E f k = none
 | 0, h => by have := h 0 (by omega); unfold room; rw [if_neg (by omega)]
 | k + 1, h => by
  have := h (k + 1) (by omega)
  unfold room; rw [if_neg (by omega)]
  exact room_none (fun n a => h n (by omega))
theorem room_lt {E : Nat} {f : Nat → Nat} {R : Nat} : ∀ {k : Nat}, room E f k = some R → R ≤ k ∧ f R < E
 | 0, h => by
  unfold room at h
  by_cases e : f 0 < E
  ·rw [if_pos e] at h
   cases h
   exact ⟨Nat.le_refl _, e⟩
  ·rw [if_neg e] at h; cases h
 | k + 1, h => by
  unfold room at h
  by_cases e : f (k + 1) < E
  ·rw [if_pos e] at h
   cases h
   exact ⟨Nat.le_refl _, e⟩
  ·rw [if_neg e] at h
   have := room_lt h
   exact ⟨by omega, this.2⟩
def Right (E c s m : Nat) (o : Option (Nat × Nat)) : Prop :=
 (room E (rnd c s) 19 = none → o = none) ∧ ∀ R, room E (rnd c s) 19 = some R → (R < m → o = none) ∧
  (m ≤ R → ∃ k t, o = some (k, t) ∧ m ≤ t ∧ t ≤ 19 ∧ k < E ∧ k * 10 ^ R = rnd c s R * 10 ^ t)
theorem pow_le' {a b : Nat} (h : a ≤ b) : 10 ^ a ≤ 10 ^ b := Nat.pow_le_pow_right (by omega) h
theorem rnd_ge {E F c s n : Nat} (hE : Pow19 E F) (hn : n ≤ 19) (h : 20 + s ≤ digs c + n) : E ≤ rnd c s n := by
 have h1 := digs_lt.1 (show digs c - 1 < digs c by omega)
 have h2 : E * 10 ^ s ≤ c * 10 ^ n := by
  rw [← hE.p, ← Nat.pow_add]
  exact Nat.le_trans (pow_le' (show 19 + s ≤ digs c - 1 + n by omega)) (by rw [Nat.pow_add]; exact Nat.mul_le_mul_right _ h1)
 have := rhe_mono (pow10_pos s) h2
 rwa [rhe_exact (pow10_pos s)] at this
theorem rnd_le {E F c s n : Nat} (hE : Pow19 E F) (h : digs c + n ≤ 19 + s) : rnd c s n ≤ E := by
 have h1 := digs_le.1 (Nat.le_refl (digs c))
 have h2 : c * 10 ^ n ≤ E * 10 ^ s := by
  rw [← hE.p, ← Nat.pow_add]
  exact Nat.le_trans (Nat.mul_le_mul_right _ (Nat.le_of_lt h1)) (by rw [← Nat.pow_add]; exact pow_le' h)
 have := rhe_mono (pow10_pos s) h2
 rwa [rhe_exact (pow10_pos s)] at this
theorem rnd_exact {c s n : Nat} (h : s ≤ n) : rnd c s n = c * 10 ^ (n - s) := by
 unfold rnd
 have : c * 10 ^ n = c * 10 ^ (n - s) * 10 ^ s := by rw [Nat.mul_assoc, ← Nat.pow_add]; congr 2; omega
 rw [this, rhe_exact (pow10_pos s)]
theorem rnd_cut {c s n : Nat} (h : n ≤ s) : rnd c s n = rhe c (10 ^ (s - n)) := by
 unfold rnd
 have : 10 ^ s = 10 ^ (s - n) * 10 ^ n := by rw [← Nat.pow_add]; congr 1; omega
 rw [this, rhe_scale (pow10_pos _) (pow10_pos _)]
theorem rhe_ten {a b Q : Nat} (hb : 0 < b) (hQ : Q % 2 = 0) (h : rhe (a * 10) b = Q * 10) : rhe a b = Q := by
 obtain ⟨h1, h2, _, _⟩ := (rhe_iff hb).1 h
 rw [show b * (Q * 10) = b * Q * 10 from (Nat.mul_assoc _ _ _).symm] at h1 h2
 refine (rhe_iff hb).2 ⟨?_, ?_, fun _ => hQ, fun _ => hQ⟩ <;> generalize b * Q = z at * <;> omega
theorem rnd_prev {E F c s n : Nat} (hE : Pow19 E F) (h : rnd c s (n + 1) = E) : rnd c s n = F := by
 unfold rnd at h ⊢
 rw [Nat.pow_succ, ← Nat.mul_assoc, hE.ten] at h
 exact rhe_ten (pow10_pos s) hE.even h
theorem exact_lt {E F c s n : Nat} (hE : Pow19 E F) (h : digs c + n ≤ 19 + s) (hs : s ≤ n) : c * 10 ^ (n - s) < E := by
 have h1 := digs_le.1 (Nat.le_refl (digs c))
 exact Nat.lt_of_lt_of_le (Nat.mul_lt_mul_of_pos_right h1 (pow10_pos _)) (by rw [← hE.p, ← Nat.pow_add]; exact pow_le' (by omega))
theorem room_val {E F c s : Nat} (hE : Pow19 E F) (hp : digs c ≤ 19 + s) {N : Nat} (hN : N = min 19 (19 + s - digs c)) :
  (rnd c s N < E → room E (rnd c s) 19 = some N) ∧ (¬ rnd c s N < E → rnd c s N = E ∧ ((N = 0 ∧ room E (rnd c s) 19 = none) ∨ ∃ n, N = n + 1 ∧ room E (rnd c s) 19 = some n ∧ rnd c s n = F)) := by
 have habove : ∀ n, N < n → n ≤ 19 → E ≤ rnd c s n := fun n h1 h2 => rnd_ge hE h2 (by omega)
 refine ⟨fun h => room_some (by omega) h habove, fun h => ?_⟩
 have hle : rnd c s N ≤ E := rnd_le hE (by omega)
 have he : rnd c s N = E := by omega
 refine ⟨he, ?_⟩
 cases N with
 | zero => exact .inl ⟨rfl, room_none (fun n hn => by by_cases e : n = 0; subst e; omega; exact habove n (by omega) hn)⟩
 | succ n =>
  have h18 := rnd_prev hE (by rw [he])
  refine .inr ⟨n, rfl, room_some (by omega) (by rw [h18]; exact hE.lt) (fun i h1 h2 => ?_), h18⟩
  by_cases e : i = n + 1
  ·subst e; omega
  ·exact habove i (by omega) h2
theorem digs19 {E F : Nat} (hE : Pow19 E F) : digs E = 20 := digs_eq (by rw [hE.p]; exact Nat.le_refl _) (by rw [Nat.pow_succ, hE.p]; have := hE.lt; omega)
theorem rhe19 {E F : Nat} (hE : Pow19 E F) : rhe E (10 ^ 1) = F := by
 rw [hE.ten, Nat.pow_one]
 exact rhe_exact (by omega)
theorem from19_top {E F : Nat} (hE : Pow19 E F) {t m f : Nat} (ht : t ≤ 19) (hm : m ≤ t) : from19 E (f + 1) E t m = if t = m then none else some (F, t - 1) := by
 unfold from19
 rw [digs19 hE]
 by_cases e : t = m
 ·rw [if_pos (by omega), if_pos e]
 ·rw [if_neg (by omega), if_neg e]
  have : step19 (E) t m = (F, t - 1) := by
   unfold step19
   rw [digs19 hE, if_neg (by omega), if_neg (by omega), if_pos (by omega), show 20 - 19 = 1 from rfl, rhe19 hE]
   congr 1; omega
  rw [this, if_neg (by show ¬ E ≤ F; have := hE.lt; omega)]
theorem from19_exact {E F : Nat} (hE : Pow19 E F) {f c s m k t N : Nat} (h1 : ¬ 19 + s < digs c + m) (hst : step19 c s m = (k, t)) (hk : k < E) (hmt : m ≤ t) (hs : s ≤ t) (ht : t ≤ 19) (hkv : k = c * 10 ^ (t - s)) (hsN : s ≤ N)
  (hmN : m ≤ N) (hr : room E (rnd c s) 19 = some N) : Right E c s m (from19 E (f + 1) c s m) := by
 have hf : from19 E (f + 1) c s m = some (k, t) := by
  unfold from19; rw [if_neg h1, hst, if_neg (by show ¬ E ≤ k; omega)]
 rw [hf]
 refine ⟨fun h => (by rw [hr] at h; cases h), fun R h => ?_⟩
 rw [hr] at h
 cases h
 refine ⟨fun h => by omega, fun _ => ⟨k, t, rfl, hmt, ht, hk, ?_⟩⟩
 rw [rnd_exact hsN, hkv, Nat.mul_assoc, Nat.mul_assoc, ← Nat.pow_add, ← Nat.pow_add]
 congr 2; omega
theorem from19_cut {E F : Nat} (hE : Pow19 E F) {f c s m N : Nat} (hp : digs c ≤ 19 + s) (h1 : ¬ 19 + s < digs c + m) (hN : N = min 19 (19 + s - digs c)) (hmN : m ≤ N) (hst : step19 c s m = (rnd c s N, N)) : Right E c s m (from19 E (f + 2) c s m) := by
 obtain ⟨r1, r2⟩ := room_val hE (c := c) (s := s) hp hN
 by_cases hlt : rnd c s N < E
 ·have hf : from19 E (f + 2) c s m = some (rnd c s N, N) := by
   unfold from19; rw [if_neg h1, hst, if_neg (by show ¬ E ≤ rnd c s N; omega)]
  rw [hf]
  have hr := r1 hlt
  refine ⟨fun h => (by rw [hr] at h; cases h), fun R h => ?_⟩
  rw [hr] at h
  cases h
  exact ⟨fun h => by omega, fun _ => ⟨_, _, rfl, hmN, by omega, hlt, rfl⟩⟩
 ·obtain ⟨he, hr⟩ := r2 hlt
  have hf : from19 E (f + 2) c s m = if N = m then none else some (F, N - 1) := by
   have h2 := from19_top hE (t := N) (m := m) (f := f) (by omega) hmN
   rw [← h2]
   conv => lhs; unfold from19
   rw [if_neg h1, hst, if_pos (by show E ≤ rnd c s N; omega)]
   show from19 E (f + 1) (rnd c s N) N m = _
   rw [he]
  rw [hf]
  rcases hr with ⟨h0, hr⟩ | ⟨n, h0, hr, h18⟩
  ·rw [if_pos (show N = m by omega)]
   exact ⟨fun _ => rfl, fun R h => by rw [hr] at h; cases h⟩
  ·refine ⟨fun h => (by rw [hr] at h; cases h), fun R h => ?_⟩
   rw [hr] at h
   cases h
   by_cases e : N = m
   ·rw [if_pos e]; exact ⟨fun _ => rfl, fun h => by omega⟩
   ·rw [if_neg e]
    refine ⟨fun h => by omega, fun _ => ⟨F, N - 1, rfl, by omega, by omega, hE.lt, ?_⟩⟩
    rw [h18, show N - 1 = n by omega]
theorem from19_right {E F : Nat} (hE : Pow19 E F) (f c s m : Nat) (hm : m ≤ 19) : Right E c s m (from19 E (f + 2) c s m) := by
 by_cases h1 : 19 + s < digs c + m
 ·have hf : from19 E (f + 2) c s m = none := by unfold from19; rw [if_pos h1]
  rw [hf]
  have hge : ∀ n, m ≤ n → n ≤ 19 → E ≤ rnd c s n := fun n a b => rnd_ge hE b (by omega)
  refine ⟨fun _ => rfl, fun R h => ⟨fun _ => rfl, fun hle => ?_⟩⟩
  have h2 := room_lt h
  have := hge R hle h2.1
  omega
 ·obtain ⟨N, hN⟩ : ∃ N, N = min 19 (19 + s - digs c) := ⟨_, rfl⟩
  have hmN : m ≤ N := by omega
  have hN19 : N ≤ 19 := by omega
  have exact_ : ∀ k t, step19 c s m = (k, t) → k < E → m ≤ t → s ≤ t → t ≤ 19 → k = c * 10 ^ (t - s) → s ≤ N → Right E c s m (from19 E (f + 2) c s m) := by
   intro k t hst hk hmt hs' ht19 hkv hsN
   have hx := exact_lt hE (c := c) (s := s) (n := N) (by omega) hsN
   exact from19_exact hE h1 hst hk hmt hs' ht19 hkv hsN hmN ((room_val hE (c := c) (s := s) (by omega) hN).1 (by rw [rnd_exact hsN]; exact hx))
  by_cases a : s < m
  ·exact exact_ (c * 10 ^ (m - s)) m (by unfold step19; rw [if_pos a]) (exact_lt hE (by omega) (by omega)) (by omega) (by omega) hm rfl (by omega)
  ·by_cases b : digs c ≤ s ∧ 19 < s
   ·refine from19_cut hE (by omega) h1 hN hmN ?_
    have : N = 19 := by omega
    subst this
    unfold step19; rw [if_neg a, if_pos b, rnd_cut (by omega)]
   ·by_cases d : s < digs c ∧ 19 < digs c
    ·refine from19_cut hE (by omega) h1 hN hmN ?_
     have e1 : N = 19 + s - digs c := by omega
     unfold step19; rw [if_neg a, if_neg b, if_pos d, rnd_cut (by omega)]
     rw [show s - N = digs c - 19 by omega, e1]
    ·refine exact_ c s (by unfold step19; rw [if_neg a, if_neg b, if_neg d]) ?_ (by omega) (by omega) (by omega) (by simp) (by omega)
     have := digs_le.1 (Nat.le_refl (digs c))
     rw [← hE.p]; exact Nat.lt_of_lt_of_le this (pow_le' (by omega))
end Go.Proofs.YthdkandofddohaaGreatDoor
namespace Go.Proofs.YthdkandofddohaaGreatDoor
open Go.RowKit Go.Proofs.YthdkandofddohaaGreatDoorW.PrintWords Go.Proofs.YthdkandofddohaaGreatDoorW.PrintLast Go.Proofs.YthdkandofddohaaGreatDoorW.PrintMore PFnFixSubExact
set_option linter.unusedVariables false
set_option linter.unusedSimpArgs false
theorem str_size (xs : List Int) : (strOfNums xs).size = xs.length := by simp [strOfNums, ByteArray.size]
theorem digs_div {x : Nat} (h : x ≠ 0) : digs x = digs (x / 10) + 1 := digs_pos h
theorem tdiv10 {x : Nat} (h : x < 1000000000) : Int.tdiv (x : Int) 10 % 4294967296 = ((x / 10 : Nat) : Int) := by rw [Int.tdiv_eq_ediv_of_nonneg (by omega)]; omega
theorem wr_pred' {n : Nat} (h : n ≤ 10000) (h1 : 0 < n) : wrap64 ((n : Int) - 1) = ((n - 1 : Nat) : Int) := by rw [w64 (by omega) (by omega)]; omega
theorem more_l2 {k m : Nat} (h : k ≤ m) {xs : List Int} {i j : Int} {r : ByteArray} (e : spec_Nat_String.l2 k xs i j = some r) : spec_Nat_String.l2 m xs i j = some r := by
 obtain ⟨d, rfl⟩ := Nat.exists_eq_add_of_le h
 clear h
 induction d with
 | zero => exact e
 | succ d ih => exact (spec_Nat_String.mono_l (k + d)).2.2 _ _ _ r ih
theorem str_l1_mid {xs : List Int} {n i : Nat} (hn : xs.length = n) (hi : i + 1 < n) (hnb : n ≤ 300) :
  ∀ (d c : Nat) (x : Nat) (out : List Int), c + d = 9 → x < 1000000000 → out.length + d ≤ 10000 →
   ∃ out', out'.length = out.length + d ∧ ∀ k, spec_Nat_String.l1 (k + d + 1) xs out (i : Int) (x : Int) (c : Int) xs (n : Int) (i : Int) = spec_Nat_String.l0 k xs out' xs (n : Int) ((i + 1 : Nat) : Int) := by
 intro d
 induction d with
 | zero =>
  intro c x out hc hx hl
  refine ⟨out, rfl, fun k => ?_⟩
  have f1 : ¬ (c : Int) < 9 := by omega
  have g1 : i ≤ 10000 := by omega
  conv => lhs; unfold spec_Nat_String.l1
  rw [if_neg f1, wr_succ g1]
 | succ d ih =>
  intro c x out hc hx hl
  obtain ⟨out', a1, a2⟩ := ih (c + 1) (x / 10) (out ++ [(48 + Int.tmod (x : Int) 10) % 256]) (by omega) (by omega) (by simp; omega)
  refine ⟨out', by rw [a1]; simp; omega, fun k => ?_⟩
  have f1 : (c : Int) < 9 := by omega
  have f2 : ((i + 1 : Nat) : Int) < (xs.length : Int) := by omega
  have f3 : out.length < 140737488355328 := by omega
  have g1 : c ≤ 10000 := by omega
  have g2 : i ≤ 10000 := by omega
  have e : k + (d + 1) + 1 = (k + d + 1) + 1 := by omega
  rw [e]
  conv => lhs; unfold spec_Nat_String.l1
  rw [if_pos f1]
  by_cases hx0 : (x : Int) > 0
  ·rw [if_pos hx0, if_pos f3, tdiv10 hx, wr_succ g1]
   exact a2 k
  ·rw [if_neg hx0, wr_succ g2, if_pos f2, if_pos f3, tdiv10 hx, wr_succ g1]
   exact a2 k
theorem str_l1_last {xs : List Int} {n i : Nat} (hn : xs.length = n) (hi : i + 1 = n) (hnb : n ≤ 300) :
  ∀ (d c : Nat) (x : Nat) (out : List Int), c + d = 9 → x < 10 ^ d → x < 1000000000 → out.length + d ≤ 10000 →
   ∃ out', out'.length = out.length + digs x ∧ ∀ k, spec_Nat_String.l1 (k + digs x + 1) xs out (i : Int) (x : Int) (c : Int) xs (n : Int) (i : Int) = spec_Nat_String.l0 k xs out' xs (n : Int) ((i + 1 : Nat) : Int) := by
 intro d
 induction d with
 | zero =>
  intro c x out hc hx hxb hl
  have hx0 : x = 0 := by simpa using hx
  subst hx0
  refine ⟨out, by rw [digs_zero]; rfl, fun k => ?_⟩
  have f1 : ¬ (c : Int) < 9 := by omega
  have g1 : i ≤ 10000 := by omega
  rw [digs_zero]
  conv => lhs; unfold spec_Nat_String.l1
  rw [if_neg f1, wr_succ g1]
 | succ d ih =>
  intro c x out hc hx hxb hl
  have f1 : (c : Int) < 9 := by omega
  have f2 : ¬ ((i + 1 : Nat) : Int) < (xs.length : Int) := by omega
  have f3 : out.length < 140737488355328 := by omega
  have g1 : c ≤ 10000 := by omega
  have g2 : i ≤ 10000 := by omega
  by_cases hx0 : x = 0
  ·subst hx0
   refine ⟨out, by rw [digs_zero]; rfl, fun k => ?_⟩
   have f4 : ¬ ((0 : Nat) : Int) > 0 := by omega
   rw [digs_zero]
   conv => lhs; unfold spec_Nat_String.l1
   rw [if_pos f1, if_neg f4, wr_succ g2, if_neg f2]
  ·have f4 : (x : Int) > 0 := by omega
   obtain ⟨out', a1, a2⟩ := ih (c + 1) (x / 10) (out ++ [(48 + Int.tmod (x : Int) 10) % 256]) (by omega) (by rw [Nat.pow_succ] at hx; omega) (by omega) (by simp; omega)
   have hdg := digs_div hx0
   refine ⟨out', by rw [a1, hdg]; simp; omega, fun k => ?_⟩
   have e : k + digs x + 1 = (k + digs (x / 10) + 1) + 1 := by omega
   rw [e]
   conv => lhs; unfold spec_Nat_String.l1
   rw [if_pos f1, if_pos f4, if_pos f3, tdiv10 hxb, wr_succ g1]
   exact a2 k
theorem str_l2 : ∀ (d : Nat) (xs : List Int) (i j : Nat), j < i + d → i ≤ j + 1 → j < xs.length → xs.length ≤ 3000 → ∀ k, d < k → ∃ r : ByteArray, spec_Nat_String.l2 k xs (i : Int) (j : Int) = some r ∧ r.size = xs.length := by
 intro d
 induction d with
 | zero =>
  intro xs i j h1 h2 h3 hb k hk
  obtain ⟨k, rfl⟩ : ∃ m, k = m + 1 := ⟨k - 1, by omega⟩
  have f1 : ¬ (i : Int) < (j : Int) := by omega
  exact ⟨strOfNums xs, by unfold spec_Nat_String.l2; rw [if_neg f1], str_size xs⟩
 | succ d ih =>
  intro xs i j h1 h2 h3 hb k hk
  obtain ⟨k, rfl⟩ : ∃ m, k = m + 1 := ⟨k - 1, by omega⟩
  by_cases hij : i < j
  ·obtain ⟨r, a1, a2⟩ := ih ((xs.set i (rd xs (j : Int))).set j (rd xs (i : Int))) (i + 1) (j - 1) (by omega) (by omega) (by simp; omega) (by simp; omega) k (by omega)
   have f1 : (i : Int) < (j : Int) := by omega
   have f2 : (0 : Int) ≤ (j : Int) := by omega
   have f3 : (j : Int) < (xs.length : Int) := by omega
   have f4 : (0 : Int) ≤ (i : Int) := by omega
   have f5 : (i : Int) < (xs.length : Int) := by omega
   have g1 : i ≤ 10000 := by omega
   have g2 : j ≤ 10000 := by omega
   have g3 : 0 < j := by omega
   refine ⟨r, ?_, by rw [a2]; simp⟩
   conv => lhs; unfold spec_Nat_String.l2
   rw [if_pos f1, if_pos f2, if_pos f3, if_pos f4, if_pos f5, wr_succ g1, wr_pred' g2 g3, Int.toNat_natCast, Int.toNat_natCast]
   exact a1
  ·have f1 : ¬ (i : Int) < (j : Int) := by omega
   exact ⟨strOfNums xs, by unfold spec_Nat_String.l2; rw [if_neg f1], str_size xs⟩
theorem str_l0 {xs : List Int} {n : Nat} (hn : xs.length = n) (hx : Lms xs) (hnb : n ≤ 200) :
  ∀ (d i : Nat) (out : List Int), i + d = n → out.length + 9 * d ≤ 3000 → (0 < d ∨ 0 < out.length) → 0 < digs (xs.getD (n - 1) 0).toNat →
   ∃ (K : Nat) (r : ByteArray), r.size = out.length + (if d = 0 then 0 else 9 * (d - 1) + digs (xs.getD (n - 1) 0).toNat) ∧ ∀ k, K ≤ k → spec_Nat_String.l0 k xs out xs (n : Int) (i : Int) = some r := by
 intro d
 induction d with
 | zero =>
  intro i out hi hl ho hlast
  obtain rfl : i = n := by omega
  have ho' : 0 < out.length := by omega
  obtain ⟨r, a1, a2⟩ := str_l2 out.length out 0 (out.length - 1) (by omega) (by omega) (by omega) (by omega) (out.length + 1) (by omega)
  refine ⟨out.length + 2, r, by rw [a2]; rfl, fun k hk => ?_⟩
  obtain ⟨k, rfl⟩ : ∃ m, k = m + 1 := ⟨k - 1, by omega⟩
  have f1 : ¬ (i : Int) < (i : Int) := by omega
  have f2 : ¬ (out.length : Int) = 0 := by omega
  have g1 : out.length ≤ 10000 := by omega
  obtain ⟨r', b1, b2⟩ := str_l2 out.length out 0 (out.length - 1) (by omega) (by omega) (by omega) (by omega) k (by omega)
  have e : r' = r := by
   have h1 := more_l2 (k := out.length + 1) (m := k) (by omega) a1
   rw [b1] at h1
   exact (Option.some.inj h1)
  conv => lhs; unfold spec_Nat_String.l0
  rw [if_neg f1, if_neg f2, wr_pred' g1 ho', ← e]
  exact b1
 | succ d ih =>
  intro i out hi hl ho hlast
  obtain ⟨hx0, hx1⟩ := hx.getD i
  obtain ⟨x, hxe⟩ : ∃ x : Nat, xs.getD i 0 = (x : Int) := ⟨(xs.getD i 0).toNat, by omega⟩
  have f1 : (i : Int) < (n : Int) := by omega
  have f2 : (0 : Int) ≤ (i : Int) := by omega
  have f3 : (i : Int) < (xs.length : Int) := by omega
  by_cases hlst : i + 1 = n
  ·obtain rfl : d = 0 := by omega
   have hxl : xs.getD (n - 1) 0 = (x : Int) := by rw [← hxe]; congr 1; omega
   have hdx : 0 < digs x := by rw [hxl] at hlast; exact hlast
   obtain ⟨out', a1, a2⟩ := str_l1_last hn hlst (by omega) 9 0 x out rfl (by omega) (by omega) (by omega)
   have hd9 : digs x ≤ 9 := digs_le.2 (by omega)
   obtain ⟨K, r, b1, b2⟩ := ih (i + 1) out' (by omega) (by omega) (.inr (by omega)) hlast
   refine ⟨K + digs x + 2, r, by rw [b1, a1, hxl]; simp, fun k hk => ?_⟩
   obtain ⟨k, rfl⟩ : ∃ m, k = (m + digs x + 1) + 1 := ⟨k - digs x - 2, by omega⟩
   have f4 : K ≤ k := by omega
   conv => lhs; unfold spec_Nat_String.l0
   rw [if_pos f1, if_pos f2, if_pos f3, rd_nat, hxe]
   exact (a2 k).trans (b2 k f4)
  ·obtain ⟨out', a1, a2⟩ := str_l1_mid hn (show i + 1 < n by omega) (by omega) 9 0 x out rfl (by omega) (by omega)
   obtain ⟨K, r, b1, b2⟩ := ih (i + 1) out' (by omega) (by omega) (.inr (by omega)) hlast
   refine ⟨K + 11, r, by rw [b1, a1, if_neg (by omega), if_neg (by omega)]; omega, fun k hk => ?_⟩
   obtain ⟨k, rfl⟩ : ∃ m, k = (m + 9 + 1) + 1 := ⟨k - 11, by omega⟩
   have f4 : K ≤ k := by omega
   conv => lhs; unfold spec_Nat_String.l0
   rw [if_pos f1, if_pos f2, if_pos f3, rd_nat, hxe]
   exact (a2 k).trans (b2 k f4)
theorem digits_law {xs : List Int} {a : Nat} (hx : IsN xs a) (ha : a < tn 1800) : ∃ K, ∀ k, K ≤ k → spec_Nat_Digits.f k xs = some ((digs a : Nat) : Int) := by
 have hl := hx.len ha
 by_cases h0 : a = 0
 ·subst h0
  have := hx.zero
  subst this
  refine ⟨0, fun k _ => ?_⟩
  unfold spec_Nat_Digits.f
  rw [if_pos (by simp), digs_zero]; rfl
 ·have hne : xs ≠ [] := fun e => h0 (hx.nil_iff.1 e)
  have hn0 : 0 < xs.length := List.length_pos_iff.2 hne
  obtain ⟨hy0, hy1⟩ := hx.lms.getD (xs.length - 1)
  have hyt := hx.trm.getD (i := xs.length - 1) (by omega)
  obtain ⟨y, hye⟩ : ∃ y : Nat, xs.getD (xs.length - 1) 0 = (y : Int) := ⟨(xs.getD (xs.length - 1) 0).toNat, by omega⟩
  have hyp : y ≠ 0 := by omega
  have hdy : digs y = digs (y / 10) + 1 := digs_pos hyp
  obtain ⟨K, r, a1, a2⟩ := str_l0 rfl hx.lms hl xs.length 0 [] (by omega) (by simp; omega) (.inl hn0) (by rw [hye, Int.toNat_natCast]; omega)
  rw [if_neg (by omega), hye, Int.toNat_natCast] at a1
  have hda : digs a = 9 * (xs.length - 1) + digs y := by
   have hsp := v9_take_succ xs (xs.length - 1) (by omega)
   rw [show xs.length - 1 + 1 = xs.length by omega, List.take_of_length_le (Nat.le_refl _), hx.val, hye] at hsp
   have h1 := v9_lt (hx.lms.take (xs.length - 1))
   have h2 := v9_nonneg (hx.lms.take (xs.length - 1))
   rw [List.length_take, Nat.min_eq_left (by omega)] at h1
   rw [p9_ten] at h1 hsp
   generalize v9 (xs.take (xs.length - 1)) = z at *
   obtain ⟨zn, rfl⟩ : ∃ zn : Nat, z = (zn : Int) := ⟨z.toNat, by omega⟩
   generalize hm : 9 * (xs.length - 1) = m at *
   have hsn : a = zn + 10 ^ m * y := by exact_mod_cast hsp
   have hzn : zn < 10 ^ m := by exact_mod_cast h1
   have hy2 := digs_le.1 (Nat.le_refl (digs y))
   have hy3 : 10 ^ (digs y - 1) ≤ y := digs_lt.1 (by omega)
   have e1 : digs a ≤ m + digs y := by
    rw [digs_le, hsn, Nat.pow_add]
    have := Nat.mul_le_mul_left (10 ^ m) (show y + 1 ≤ 10 ^ digs y by omega)
    rw [Nat.mul_add, Nat.mul_one] at this
    omega
   have e2 : m + (digs y - 1) < digs a := by
    rw [digs_lt, hsn, Nat.pow_add]
    have := Nat.mul_le_mul_left (10 ^ m) hy3
    omega
   omega
  refine ⟨K, fun k hk => ?_⟩
  have f1 : ¬ (xs.length : Int) = 0 := by omega
  unfold spec_Nat_Digits.f spec_Nat_String.f
  have e := a2 k hk
  rw [if_neg f1]
  have e' : spec_Nat_String.l0 k xs [] xs (xs.length : Int) 0 = some r := e
  rw [e', Option.bind_some, a1, hda]
  simp
end Go.Proofs.YthdkandofddohaaGreatDoor
set_option linter.unusedVariables false
set_option linter.unusedSimpArgs false
namespace Go.Proofs.YthdkandofddohaaGreatDoor
def Wd (x : Int) : Prop := 0 ≤ x ∧ x < 18446744073709551616
def Wds (xs : List Int) : Prop := ∀ x ∈ xs, Wd x
theorem Wds.nil : Wds [] := fun x h => by cases h
theorem Wds.cons {x : Int} {xs : List Int} (h : Wd x) (k : Wds xs) : Wds (x :: xs) := fun z hz => by
 rcases List.mem_cons.1 hz with rfl | hz
 ·exact h
 ·exact k z hz
theorem Wds.append {xs ys : List Int} (h : Wds xs) (k : Wds ys) : Wds (xs ++ ys) := fun z hz => by
 rcases List.mem_append.1 hz with hz | hz
 ·exact h z hz
 ·exact k z hz
theorem Wds.head {x : Int} {xs : List Int} (h : Wds (x :: xs)) : Wd x := h x (by simp)
theorem Wds.tail {x : Int} {xs : List Int} (h : Wds (x :: xs)) : Wds xs := fun z hz => h z (by simp [hz])
theorem Wds.left {xs ys : List Int} (h : Wds (xs ++ ys)) : Wds xs := fun z hz => h z (by simp [hz])
theorem Wds.take {xs : List Int} (h : Wds xs) (n : Nat) : Wds (xs.take n) := fun z hz => h z (List.mem_of_mem_take hz)
theorem Wds.drop {xs : List Int} (h : Wds xs) (n : Nat) : Wds (xs.drop n) := fun z hz => h z (List.mem_of_mem_drop hz)
theorem Wds.getD {xs : List Int} (h : Wds xs) (i : Nat) : Wd (xs.getD i 0) := by
 by_cases hi : i < xs.length
 ·have := h (xs[i]) (List.getElem_mem _); simpa [List.getD, hi] using this
 ·simp [List.getD, hi, Wd]
theorem Wds.zeros (n : Nat) : Wds (List.replicate n 0) := fun z hz => by rw [List.eq_of_mem_replicate hz]; exact ⟨by omega, by omega⟩
theorem wd0 : Wd 0 := ⟨by omega, by omega⟩
theorem Wd.mod (x : Int) : Wd (x % 18446744073709551616) := ⟨by omega, by omega⟩
def seg (xs : List Int) (i n : Nat) : List Int := (xs.drop i).take n
def put (xs : List Int) (i : Nat) (ds : List Int) : List Int := xs.take i ++ ds ++ xs.drop (i + ds.length)
theorem put_length {xs : List Int} {i : Nat} {ds : List Int} (h : i + ds.length ≤ xs.length) : (put xs i ds).length = xs.length := by
 simp [put]; omega
theorem put_getD_ahead {xs : List Int} {i : Nat} {ds : List Int} {j : Nat} (h : i + ds.length ≤ xs.length) (hj : i + ds.length ≤ j) : (put xs i ds).getD j 0 = xs.getD j 0 := by
 simp only [put, List.getD_eq_getElem?_getD]
 rw [List.getElem?_append_right (by simp; omega), List.getElem?_drop]
 congr 2; simp; omega
theorem put_getD_below {xs : List Int} {i : Nat} {ds : List Int} {j : Nat} (h : i + ds.length ≤ xs.length) (hj : j < i) : (put xs i ds).getD j 0 = xs.getD j 0 := by
 simp only [put, List.getD_eq_getElem?_getD, List.append_assoc]
 rw [List.getElem?_append_left (by simp; omega), List.getElem?_take]
 simp [hj]
theorem put_getD_in {xs : List Int} {i : Nat} {ds : List Int} {j : Nat} (h : i + ds.length ≤ xs.length) (h1 : i ≤ j) (h2 : j < i + ds.length) : (put xs i ds).getD j 0 = ds.getD (j - i) 0 := by
 simp only [put, List.getD_eq_getElem?_getD, List.append_assoc]
 rw [List.getElem?_append_right (by simp; omega), List.getElem?_append_left (by simp; omega)]
 congr 2; simp; omega
theorem put_nil (xs : List Int) (i : Nat) : put xs i [] = xs := by simp [put]
theorem put_snoc {xs : List Int} {i : Nat} {ds : List Int} (v : Int) (h : i + ds.length < xs.length) : (put xs i ds).set (i + ds.length) v = put xs i (ds ++ [v]) := by
 simp only [put]
 have h1 : (xs.take i ++ ds).length = i + ds.length := by simp; omega
 rw [List.set_append_right _ _ (by omega), h1, Nat.sub_self, List.drop_eq_getElem_cons h]
 simp [Nat.add_assoc]
theorem set_put {xs : List Int} {i : Nat} (v : Int) (h : i < xs.length) : xs.set i v = put xs i [v] := by
 have := put_snoc (xs := xs) (i := i) (ds := []) v (by simpa using h); simpa [put_nil] using this
theorem seg_length {xs : List Int} {i n : Nat} (h : i + n ≤ xs.length) : (seg xs i n).length = n := by simp [seg]; omega
theorem seg_succ {xs : List Int} {i n : Nat} (h : i + n < xs.length) : seg xs i (n + 1) = seg xs i n ++ [xs.getD (i + n) 0] := by
 simp only [seg, List.take_add_one, List.getElem?_drop, List.getD_eq_getElem?_getD, List.getElem?_eq_getElem h]
 simp
theorem seg_zero (xs : List Int) (i : Nat) : seg xs i 0 = [] := by simp [seg]
theorem seg_wds {xs : List Int} (h : Wds xs) (i n : Nat) : Wds (seg xs i n) := (h.drop i).take n
theorem put_wds {xs ds : List Int} (h : Wds xs) (k : Wds ds) (i : Nat) : Wds (put xs i ds) := ((h.take i).append k).append (h.drop _)
theorem seg_put_same {xs : List Int} {i : Nat} {ds : List Int} (h : i + ds.length ≤ xs.length) : seg (put xs i ds) i ds.length = ds := by
 simp only [seg, put, List.append_assoc]
 have : (xs.take i).length = i := by simp; omega
 rw [List.drop_append_of_le_length (by omega), List.drop_of_length_le (by omega)]
 simp
theorem seg_getD {xs : List Int} {i n j : Nat} (hj : j < n) : (seg xs i n).getD j 0 = xs.getD (i + j) 0 := by
 simp only [seg, List.getD_eq_getElem?_getD, List.getElem?_take, hj, if_true, List.getElem?_drop]
def val : List Int → Int
 | [] => 0
 | x :: r => x + 18446744073709551616 * val r
def BP (n : Nat) : Int := (18446744073709551616 : Int) ^ n
theorem BP_zero : BP 0 = 1 := rfl
theorem BP_succ (n : Nat) : BP (n + 1) = 18446744073709551616 * BP n := by unfold BP; rw [Int.pow_succ, Int.mul_comm]
theorem BP_pos (n : Nat) : 0 < BP n := by
 induction n with
 | zero => simp [BP_zero]
 | succ n ih => rw [BP_succ]; omega
theorem BP_add (m n : Nat) : BP (m + n) = BP m * BP n := by unfold BP; rw [Int.pow_add]
theorem BP_one : BP 1 = 18446744073709551616 := by rw [BP_succ, BP_zero]; omega
theorem val_nil : val [] = 0 := rfl
theorem val_cons (x : Int) (xs : List Int) : val (x :: xs) = x + 18446744073709551616 * val xs := rfl
theorem val_append : ∀ (xs ys : List Int), val (xs ++ ys) = val xs + BP xs.length * val ys
 | [], ys => by simp [val, BP_zero]
 | x :: xs, ys => by
  simp only [List.cons_append, val, List.length_cons, BP_succ, val_append xs ys, Int.mul_add, Int.mul_assoc]; omega
theorem val_snoc (xs : List Int) (y : Int) : val (xs ++ [y]) = val xs + BP xs.length * y := by rw [val_append]; simp [val]
theorem val_zeros (n : Nat) : val (List.replicate n 0) = 0 := by
 induction n with
 | zero => rfl
 | succ n ih => rw [List.replicate_succ, val, ih]; omega
theorem val_nonneg : ∀ {xs : List Int}, Wds xs → 0 ≤ val xs
 | [], _ => by simp [val]
 | x :: xs, h => by have := val_nonneg h.tail; have := h.head.1; simp only [val]; omega
theorem val_lt : ∀ {xs : List Int}, Wds xs → val xs < BP xs.length
 | [], _ => by simp [val, BP_zero]
 | x :: xs, h => by
  have := val_lt h.tail; have := h.head.2
  simp only [val, List.length_cons, BP_succ]; omega
theorem val_split {xs : List Int} {n : Nat} (h : n ≤ xs.length) : val xs = val (xs.take n) + BP n * val (xs.drop n) := by
 have := val_append (xs.take n) (xs.drop n)
 rw [List.take_append_drop] at this
 rw [this, show (xs.take n).length = n by simp; omega]
def Nrm (xs : List Int) : Prop := xs = [] ∨ ∃ r x, xs = r ++ [x] ∧ x ≠ 0
theorem Nrm.nil : Nrm [] := .inl rfl
theorem Nrm.pos {xs : List Int} (h : Nrm xs) (hw : Wds xs) (hn : xs ≠ []) : BP (xs.length - 1) ≤ val xs := by
 rcases h with rfl | ⟨r, x, rfl, hx⟩
 ·exact absurd rfl hn
 ·have h1 := val_nonneg hw.left
  have h2 := hw x (by simp)
  unfold Wd at h2
  rw [val_snoc]
  have : BP r.length * 1 ≤ BP r.length * x := Int.mul_le_mul_of_nonneg_left (by omega) (Int.le_of_lt (BP_pos _))
  simp only [List.length_append, List.length_singleton, Nat.add_sub_cancel]
  omega
theorem BP_le {m n : Nat} (h : m ≤ n) : BP m ≤ BP n := by
 obtain ⟨k, rfl⟩ := Nat.exists_eq_add_of_le h
 rw [BP_add]
 have h1 := BP_pos m
 have h2 := BP_pos k
 have : BP m * 1 ≤ BP m * BP k := Int.mul_le_mul_of_nonneg_left (by omega) (by omega)
 omega
theorem len_lt_val {xs ys : List Int} (hx : Wds xs) (hy : Wds ys) (ny : Nrm ys) (h : xs.length < ys.length) : val xs < val ys := by
 have h1 := val_lt hx
 have h2 := ny.pos hy (by intro e; subst e; simp at h)
 have h3 := BP_le (show xs.length ≤ ys.length - 1 by omega)
 omega
theorem val_inj : ∀ {xs ys : List Int}, Wds xs → Wds ys → xs.length = ys.length → val xs = val ys → xs = ys
 | [], [], _, _, _, _ => rfl
 | x :: xs, y :: ys, hx, hy, hl, hv => by
  have a := hx.head; have b := hy.head
  unfold Wd at a b
  simp only [val] at hv
  have e1 : x = y := by omega
  have e2 : val xs = val ys := by omega
  rw [e1, val_inj hx.tail hy.tail (by simpa using hl) e2]
theorem nrm_inj {xs ys : List Int} (hx : Wds xs) (hy : Wds ys) (nx : Nrm xs) (ny : Nrm ys) (hv : val xs = val ys) : xs = ys := by
 rcases Nat.lt_trichotomy xs.length ys.length with h | h | h
 ·have := len_lt_val hx hy ny h; omega
 ·exact val_inj hx hy h hv
 ·have := len_lt_val hy hx nx h; omega
theorem val_zero_nrm {xs : List Int} (hx : Wds xs) (nx : Nrm xs) (h : val xs = 0) : xs = [] := nrm_inj hx Wds.nil nx Nrm.nil (by rw [h]; rfl)
theorem len_le_of_val {xs : List Int} (hx : Wds xs) (nx : Nrm xs) {n : Nat} (h : val xs < BP n) : xs.length ≤ n := by
 apply Classical.byContradiction
 intro hc
 have h2 := nx.pos hx (by intro e; subst e; simp at hc)
 have h3 := BP_le (show n ≤ xs.length - 1 by omega)
 omega
def addD : List Int → List Int → Int → List Int
 | x :: xs, y :: ys, c => (x + y + c) % 18446744073709551616 :: addD xs ys ((x + y + c) / 18446744073709551616)
 | _, _, _ => []
def addC : List Int → List Int → Int → Int
 | x :: xs, y :: ys, c => addC xs ys ((x + y + c) / 18446744073709551616)
 | _, _, c => c
theorem addD_length : ∀ (xs ys : List Int) (c : Int), (addD xs ys c).length = min xs.length ys.length
 | [], _, _ => by simp [addD]
 | _ :: _, [], _ => by simp [addD]
 | x :: xs, y :: ys, c => by simp [addD, addD_length xs ys]
theorem addD_snoc : ∀ (xs ys : List Int) (c x y : Int), xs.length = ys.length → addD (xs ++ [x]) (ys ++ [y]) c = addD xs ys c ++ [(x + y + addC xs ys c) % 18446744073709551616]
 | [], [], c, x, y, _ => by simp [addD, addC]
 | a :: xs, b :: ys, c, x, y, h => by simp only [List.cons_append, addD, addC]; rw [addD_snoc xs ys _ x y (by simpa using h)]
theorem addC_snoc : ∀ (xs ys : List Int) (c x y : Int), xs.length = ys.length → addC (xs ++ [x]) (ys ++ [y]) c = (x + y + addC xs ys c) / 18446744073709551616
 | [], [], c, x, y, _ => by simp [addC]
 | a :: xs, b :: ys, c, x, y, h => by simp only [List.cons_append, addC]; rw [addC_snoc xs ys _ x y (by simpa using h)]
theorem addC_bd : ∀ (xs ys : List Int) (c : Int), Wds xs → Wds ys → 0 ≤ c → c ≤ 1 → 0 ≤ addC xs ys c ∧ addC xs ys c ≤ 1
 | [], _, c, _, _, h0, h1 => by simp [addC, h0, h1]
 | _ :: _, [], c, _, _, h0, h1 => by simp [addC, h0, h1]
 | x :: xs, y :: ys, c, hx, hy, h0, h1 => by
  have a := hx.head; have b := hy.head; unfold Wd at a b
  simp only [addC]
  exact addC_bd xs ys _ hx.tail hy.tail (by omega) (by omega)
theorem addD_wds : ∀ (xs ys : List Int) (c : Int), Wds (addD xs ys c)
 | [], _, _ => by simp [addD]; exact Wds.nil
 | _ :: _, [], _ => by simp [addD]; exact Wds.nil
 | x :: xs, y :: ys, c => by simp only [addD]; exact Wds.cons (Wd.mod _) (addD_wds _ _ _)
theorem addD_val : ∀ (xs ys : List Int) (c : Int), xs.length = ys.length → val (addD xs ys c) + BP xs.length * addC xs ys c = val xs + val ys + c
 | [], [], c, _ => by simp [addD, addC, val, BP_zero]
 | x :: xs, y :: ys, c, h => by
  have ih := addD_val xs ys ((x + y + c) / 18446744073709551616) (by simpa using h)
  simp only [addD, addC, val, List.length_cons, BP_succ, Int.mul_assoc]
  generalize BP xs.length * addC xs ys ((x + y + c) / 18446744073709551616) = t at *
  omega
def brw (a b : Int) : Int := if a < b then 1 else 0
theorem brw_bd (a b : Int) : 0 ≤ brw a b ∧ brw a b ≤ 1 := by unfold brw; split <;> omega
theorem brw_spec {x y c : Int} (hx : Wd x) (hy : Wd y) (h0 : 0 ≤ c) (h1 : c ≤ 1) : (x - y - c) % 18446744073709551616 = x - y - c + 18446744073709551616 * brw x (y + c) := by
 unfold Wd at *; unfold brw; split <;> omega
def subD : List Int → List Int → Int → List Int
 | x :: xs, y :: ys, c => (x - y - c) % 18446744073709551616 :: subD xs ys (brw x (y + c))
 | _, _, _ => []
def subC : List Int → List Int → Int → Int
 | x :: xs, y :: ys, c => subC xs ys (brw x (y + c))
 | _, _, c => c
theorem subD_length : ∀ (xs ys : List Int) (c : Int), (subD xs ys c).length = min xs.length ys.length
 | [], _, _ => by simp [subD]
 | _ :: _, [], _ => by simp [subD]
 | x :: xs, y :: ys, c => by simp [subD, subD_length xs ys]
theorem subD_snoc : ∀ (xs ys : List Int) (c x y : Int), xs.length = ys.length → subD (xs ++ [x]) (ys ++ [y]) c = subD xs ys c ++ [(x - y - subC xs ys c) % 18446744073709551616]
 | [], [], c, x, y, _ => by simp [subD, subC]
 | a :: xs, b :: ys, c, x, y, h => by simp only [List.cons_append, subD, subC]; rw [subD_snoc xs ys _ x y (by simpa using h)]
theorem subC_snoc : ∀ (xs ys : List Int) (c x y : Int), xs.length = ys.length → subC (xs ++ [x]) (ys ++ [y]) c = brw x (y + subC xs ys c)
 | [], [], c, x, y, _ => by simp [subC]
 | a :: xs, b :: ys, c, x, y, h => by simp only [List.cons_append, subC]; rw [subC_snoc xs ys _ x y (by simpa using h)]
theorem subC_bd : ∀ (xs ys : List Int) (c : Int), 0 ≤ c → c ≤ 1 → 0 ≤ subC xs ys c ∧ subC xs ys c ≤ 1
 | [], _, c, h0, h1 => by simp [subC, h0, h1]
 | _ :: _, [], c, h0, h1 => by simp [subC, h0, h1]
 | x :: xs, y :: ys, c, h0, h1 => by
  simp only [subC]
  exact subC_bd xs ys _ (brw_bd _ _).1 (brw_bd _ _).2
theorem subD_wds : ∀ (xs ys : List Int) (c : Int), Wds (subD xs ys c)
 | [], _, _ => by simp [subD]; exact Wds.nil
 | _ :: _, [], _ => by simp [subD]; exact Wds.nil
 | x :: xs, y :: ys, c => by simp only [subD]; exact Wds.cons (Wd.mod _) (subD_wds _ _ _)
theorem subD_val : ∀ (xs ys : List Int) (c : Int), Wds xs → Wds ys → 0 ≤ c → c ≤ 1 → xs.length = ys.length → val (subD xs ys c) = val xs - val ys - c + BP xs.length * subC xs ys c
 | [], [], c, _, _, _, _, _ => by simp [subD, subC, val, BP_zero]; omega
 | x :: xs, y :: ys, c, hx, hy, h0, h1, h => by
  have ih := subD_val xs ys (brw x (y + c)) hx.tail hy.tail (brw_bd _ _).1 (brw_bd _ _).2 (by simpa using h)
  have hb := brw_spec hx.head hy.head h0 h1
  simp only [subD, subC, val, List.length_cons, BP_succ, Int.mul_assoc]
  generalize BP xs.length * subC xs ys (brw x (y + c)) = t at *
  generalize brw x (y + c) = u at *
  omega
def mulD : List Int → Int → Int → List Int
 | x :: xs, y, c => (x * y + c) % 18446744073709551616 :: mulD xs y ((x * y + c) / 18446744073709551616)
 | [], _, _ => []
def mulC : List Int → Int → Int → Int
 | x :: xs, y, c => mulC xs y ((x * y + c) / 18446744073709551616)
 | [], _, c => c
theorem mulD_length : ∀ (xs : List Int) (y c : Int), (mulD xs y c).length = xs.length
 | [], _, _ => rfl
 | x :: xs, y, c => by simp [mulD, mulD_length xs]
theorem mulD_snoc : ∀ (xs : List Int) (y c x : Int), mulD (xs ++ [x]) y c = mulD xs y c ++ [(x * y + mulC xs y c) % 18446744073709551616]
 | [], y, c, x => by simp [mulD, mulC]
 | a :: xs, y, c, x => by simp only [List.cons_append, mulD, mulC]; rw [mulD_snoc xs]
theorem mulC_snoc : ∀ (xs : List Int) (y c x : Int), mulC (xs ++ [x]) y c = (x * y + mulC xs y c) / 18446744073709551616
 | [], y, c, x => by simp [mulC]
 | a :: xs, y, c, x => by simp only [List.cons_append, mulC]; rw [mulC_snoc xs]
theorem mul_wd {x y c : Int} (hx : Wd x) (hy : Wd y) (hc : Wd c) : Wd ((x * y + c) / 18446744073709551616) := by
 unfold Wd at *
 have h1 : 0 ≤ x * y := Int.mul_nonneg hx.1 hy.1
 have h2 : x * y ≤ 18446744073709551615 * 18446744073709551615 := Int.mul_le_mul (by omega) (by omega) hy.1 (by omega)
 generalize x * y = t at *
 omega
theorem mulC_wd : ∀ (xs : List Int) (y c : Int), Wds xs → Wd y → Wd c → Wd (mulC xs y c)
 | [], _, _, _, _, h => h
 | x :: xs, y, c, hx, hy, h => by simp only [mulC]; exact mulC_wd xs y _ hx.tail hy (mul_wd hx.head hy h)
theorem mulD_wds : ∀ (xs : List Int) (y c : Int), Wds (mulD xs y c)
 | [], _, _ => Wds.nil
 | x :: xs, y, c => by simp only [mulD]; exact Wds.cons (Wd.mod _) (mulD_wds _ _ _)
theorem mulD_val : ∀ (xs : List Int) (y c : Int), val (mulD xs y c) + BP xs.length * mulC xs y c = val xs * y + c
 | [], y, c => by simp [mulD, mulC, val, BP_zero]
 | x :: xs, y, c => by
  have ih := mulD_val xs y ((x * y + c) / 18446744073709551616)
  simp only [mulD, mulC, val, List.length_cons, BP_succ, Int.mul_assoc, Int.add_mul]
  generalize BP xs.length * mulC xs y ((x * y + c) / 18446744073709551616) = t at *
  generalize val xs * y = u at *
  generalize x * y = v at *
  omega
def amD : List Int → List Int → Int → Int → List Int
 | x :: xs, y :: ys, m, c => (y * m + x + c) % 18446744073709551616 :: amD xs ys m ((y * m + x + c) / 18446744073709551616)
 | _, _, _, _ => []
def amC : List Int → List Int → Int → Int → Int
 | x :: xs, y :: ys, m, c => amC xs ys m ((y * m + x + c) / 18446744073709551616)
 | _, _, _, c => c
theorem amD_length : ∀ (xs ys : List Int) (m c : Int), (amD xs ys m c).length = min xs.length ys.length
 | [], _, _, _ => by simp [amD]
 | _ :: _, [], _, _ => by simp [amD]
 | x :: xs, y :: ys, m, c => by simp [amD, amD_length xs ys]
theorem amD_snoc : ∀ (xs ys : List Int) (m c x y : Int), xs.length = ys.length → amD (xs ++ [x]) (ys ++ [y]) m c = amD xs ys m c ++ [(y * m + x + amC xs ys m c) % 18446744073709551616]
 | [], [], m, c, x, y, _ => by simp [amD, amC]
 | a :: xs, b :: ys, m, c, x, y, h => by simp only [List.cons_append, amD, amC]; rw [amD_snoc xs ys _ _ x y (by simpa using h)]
theorem amC_snoc : ∀ (xs ys : List Int) (m c x y : Int), xs.length = ys.length → amC (xs ++ [x]) (ys ++ [y]) m c = (y * m + x + amC xs ys m c) / 18446744073709551616
 | [], [], m, c, x, y, _ => by simp [amC]
 | a :: xs, b :: ys, m, c, x, y, h => by simp only [List.cons_append, amC]; rw [amC_snoc xs ys _ _ x y (by simpa using h)]
theorem am_wd {x y m c : Int} (hx : Wd x) (hy : Wd y) (hm : Wd m) (hc : Wd c) : Wd ((y * m + x + c) / 18446744073709551616) := by
 unfold Wd at *
 have h1 : 0 ≤ y * m := Int.mul_nonneg hy.1 hm.1
 have h2 : y * m ≤ 18446744073709551615 * 18446744073709551615 := Int.mul_le_mul (by omega) (by omega) hm.1 (by omega)
 generalize y * m = t at *
 omega
theorem amC_wd : ∀ (xs ys : List Int) (m c : Int), Wds xs → Wds ys → Wd m → Wd c → Wd (amC xs ys m c)
 | [], _, _, _, _, _, _, h => by simpa [amC] using h
 | _ :: _, [], _, _, _, _, _, h => by simpa [amC] using h
 | x :: xs, y :: ys, m, c, hx, hy, hm, h => by simp only [amC]; exact amC_wd xs ys m _ hx.tail hy.tail hm (am_wd hx.head hy.head hm h)
theorem amD_wds : ∀ (xs ys : List Int) (m c : Int), Wds (amD xs ys m c)
 | [], _, _, _ => by simp [amD]; exact Wds.nil
 | _ :: _, [], _, _ => by simp [amD]; exact Wds.nil
 | x :: xs, y :: ys, m, c => by simp only [amD]; exact Wds.cons (Wd.mod _) (amD_wds _ _ _ _)
theorem amD_val : ∀ (xs ys : List Int) (m c : Int), xs.length = ys.length → val (amD xs ys m c) + BP xs.length * amC xs ys m c = val xs + val ys * m + c
 | [], [], m, c, _ => by simp [amD, amC, val, BP_zero]
 | x :: xs, y :: ys, m, c, h => by
  have ih := amD_val xs ys m ((y * m + x + c) / 18446744073709551616) (by simpa using h)
  simp only [amD, amC, val, List.length_cons, BP_succ, Int.mul_assoc, Int.add_mul]
  generalize BP xs.length * amC xs ys m ((y * m + x + c) / 18446744073709551616) = t at *
  generalize val ys * m = u at *
  generalize y * m = v at *
  omega
theorem put_put {xs : List Int} {i : Nat} {ds es : List Int} (h : i + ds.length + es.length ≤ xs.length) : put (put xs i ds) (i + ds.length) es = put xs i (ds ++ es) := by
 simp only [put]
 have h1 : (xs.take i).length = i := by simp; omega
 have e1 : (xs.take i ++ ds ++ xs.drop (i + ds.length)).take (i + ds.length) = xs.take i ++ ds := by
  rw [List.take_append_of_le_length (by simp; omega), List.take_of_length_le (by simp; omega)]
 have e2 : (xs.take i ++ ds ++ xs.drop (i + ds.length)).drop (i + ds.length + es.length) = xs.drop (i + (ds ++ es).length) := by
  rw [List.drop_append, List.drop_of_length_le (by simp; omega), List.nil_append, List.drop_drop]
  congr 1; simp; omega
 rw [e1, e2]; simp [List.append_assoc]
theorem seg_append {xs : List Int} {i m n : Nat} : seg xs i (m + n) = seg xs i m ++ seg xs (i + m) n := by
 simp only [seg]
 rw [List.take_add, List.drop_drop]
theorem put_rest {xs : List Int} {i n : Nat} {ds : List Int} (hd : ds.length ≤ n) (h : i + n ≤ xs.length) : put xs i (ds ++ seg xs (i + ds.length) (n - ds.length)) = put xs i ds := by
 have hl : (seg xs (i + ds.length) (n - ds.length)).length = n - ds.length := seg_length (by omega)
 simp only [put, List.append_assoc]
 congr 2
 simp only [seg, List.length_append, List.length_take, List.length_drop]
 conv => rhs; rw [← List.take_append_drop (n - ds.length) (xs.drop (i + ds.length))]
 rw [List.drop_drop]
 congr 2; omega
theorem val_rest {xs : List Int} {i k n : Nat} {ds : List Int} {y : Int} (hd : ds.length = k) (hk : k ≤ n) (h : i + n ≤ xs.length) (hv : val ds = val (seg xs i k) + y) :
  val (ds ++ seg xs (i + k) (n - k)) = val (seg xs i n) + y := by
 have e := seg_append (xs := xs) (i := i) (m := k) (n := n - k)
 rw [show k + (n - k) = n by omega] at e
 rw [e, val_append, val_append, hd, seg_length (by omega), hv]; omega
theorem seg_put_below {xs : List Int} {i j n : Nat} {ds : List Int} (h : i + ds.length ≤ xs.length) (hj : j + n ≤ i) : seg (put xs i ds) j n = seg xs j n := by
 apply List.ext_getElem?
 intro k
 simp only [seg, List.getElem?_take]
 split
 ·simp only [List.getElem?_drop, put, List.append_assoc]
  rw [List.getElem?_append_left (by simp; omega), List.getElem?_take, if_pos (by omega)]
 ·rfl
theorem seg_put_above {xs : List Int} {i j n : Nat} {ds : List Int} (h : i + ds.length ≤ xs.length) (hj : i + ds.length ≤ j) : seg (put xs i ds) j n = seg xs j n := by
 apply List.ext_getElem?
 intro k
 simp only [seg, List.getElem?_take]
 split
 ·simp only [List.getElem?_drop, put]
  rw [List.getElem?_append_right (by simp; omega), List.getElem?_drop]
  congr 1; simp; omega
 ·rfl
theorem val_lt_at {xs ys : List Int} (hx : Wds xs) (hy : Wds ys) (hl : xs.length = ys.length) {k : Nat} (hk : k < xs.length) (hd : xs.drop (k + 1) = ys.drop (k + 1)) (hlt : xs.getD k 0 < ys.getD k 0) : val xs < val ys := by
 have e1 := val_split (xs := xs) (n := k) (by omega)
 have e2 := val_split (xs := ys) (n := k) (by omega)
 have hx1 : xs.drop k = xs.getD k 0 :: xs.drop (k + 1) := by rw [List.drop_eq_getElem_cons hk]; simp [List.getD, hk]
 have hy1 : ys.drop k = ys.getD k 0 :: ys.drop (k + 1) := by rw [List.drop_eq_getElem_cons (by omega)]; simp [List.getD, show k < ys.length by omega]
 rw [hx1, val_cons] at e1
 rw [hy1, val_cons, ← hd] at e2
 have b1 := val_lt (hx.take k)
 have b2 := val_nonneg (hx.take k)
 have b3 := val_nonneg (hy.take k)
 rw [show (xs.take k).length = k by simp; omega] at b1
 have hp := BP_pos k
 generalize xs.getD k 0 = a at *
 generalize ys.getD k 0 = c at *
 generalize val (xs.drop (k + 1)) = t at *
 have h1 : BP k * (a + 18446744073709551616 * t + 1) ≤ BP k * (c + 18446744073709551616 * t) := Int.mul_le_mul_of_nonneg_left (by omega) (by omega)
 rw [Int.mul_add, Int.mul_one] at h1
 omega
theorem put_in {rs L : List Int} {k : Nat} {ds : List Int} (hk : k + ds.length ≤ L.length) (hl : L.length ≤ rs.length) : put (put rs 0 L) k ds = put rs 0 (put L k ds) := by
 have e : (put L k ds).length = L.length := put_length hk
 simp only [put, List.take_zero, List.nil_append, Nat.zero_add]
 rw [List.take_append_of_le_length (by omega)]
 have e2 : (List.take k L ++ ds ++ List.drop (k + ds.length) L).length = L.length := e
 rw [e2, List.drop_append_of_le_length (by omega)]
 simp [List.append_assoc]
theorem set_in {rs L : List Int} {j : Nat} {v : Int} (hj : j < L.length) (hl : L.length ≤ rs.length) : (put rs 0 L).set j v = put rs 0 (L.set j v) := by
 simp only [put, List.take_zero, List.nil_append, Nat.zero_add, List.length_set]
 rw [List.set_append_left _ _ hj]
theorem put_mid {A B C ds : List Int} (h : B.length = ds.length) : put (A ++ B ++ C) A.length ds = A ++ ds ++ C := by
 simp only [put, List.append_assoc]
 rw [List.take_left, ← h, List.drop_append, List.drop_of_length_le (by omega), Nat.add_sub_cancel_left]
 simp
theorem seg_mid {A B C : List Int} : seg (A ++ B ++ C) A.length B.length = B := by
 simp only [seg, List.append_assoc]
 rw [List.drop_left, List.take_left]
theorem seg_in {rs L : List Int} {k n : Nat} (h : k + n ≤ L.length) : seg (put rs 0 L) k n = seg L k n := by
 simp only [put, List.take_zero, List.nil_append, Nat.zero_add, seg]
 rw [List.drop_append_of_le_length (by omega), List.take_append_of_le_length (by simp; omega)]
theorem seg_all (xs : List Int) : seg xs 0 xs.length = xs := by simp [seg]
theorem seg_take (xs : List Int) (n : Nat) : seg xs 0 n = xs.take n := by simp [seg]
theorem mul64_int {x y : Int} (hx : Wd x) (hy : Wd y) :
  0 ≤ (x % 4294967296) * (y % 4294967296) ∧ (x % 4294967296) * (y % 4294967296) < 18446744073709551616 ∧
  0 ≤ (x / 4294967296) * (y % 4294967296) ∧ (x / 4294967296) * (y % 4294967296) < 18446744073709551616 ∧
  0 ≤ (x % 4294967296) * (y / 4294967296) ∧ (x % 4294967296) * (y / 4294967296) < 18446744073709551616 ∧
  0 ≤ (x / 4294967296) * (y / 4294967296) ∧ (x / 4294967296) * (y / 4294967296) < 18446744073709551616 ∧
  (x / 4294967296) * (y % 4294967296) + (x % 4294967296) * (y % 4294967296) / 4294967296 < 18446744073709551616 ∧
  ((x / 4294967296) * (y % 4294967296) + (x % 4294967296) * (y % 4294967296) / 4294967296) % 4294967296 + (x % 4294967296) * (y / 4294967296) < 18446744073709551616 ∧
  (x / 4294967296) * (y / 4294967296) + ((x / 4294967296) * (y % 4294967296) + (x % 4294967296) * (y % 4294967296) / 4294967296) / 4294967296 +
   (((x / 4294967296) * (y % 4294967296) + (x % 4294967296) * (y % 4294967296) / 4294967296) % 4294967296 + (x % 4294967296) * (y / 4294967296)) / 4294967296 = x * y / 18446744073709551616 := by
 obtain ⟨X, rfl⟩ := Int.eq_ofNat_of_zero_le hx.1
 obtain ⟨Y, rfl⟩ := Int.eq_ofNat_of_zero_le hy.1
 have h := Go.Lib.mul64_hi X Y (by unfold Wd at hx; omega) (by unfold Wd at hy; omega)
 have h1 := Go.Lib.half_mul_le (a := X / 4294967296) (b := Y % 4294967296) (by unfold Wd at hx; omega) (by omega)
 have h2 := Go.Lib.half_mul_le (a := X % 4294967296) (b := Y / 4294967296) (by omega) (by unfold Wd at hy; omega)
 have h3 := Go.Lib.half_mul_le (a := X / 4294967296) (b := Y / 4294967296) (by unfold Wd at hx; omega) (by unfold Wd at hy; omega)
 have e1 : ((X : Int) % 4294967296) * ((Y : Int) % 4294967296) = (((X % 4294967296) * (Y % 4294967296) : Nat) : Int) := by simp
 have e2 : ((X : Int) / 4294967296) * ((Y : Int) % 4294967296) = (((X / 4294967296) * (Y % 4294967296) : Nat) : Int) := by simp
 have e3 : ((X : Int) % 4294967296) * ((Y : Int) / 4294967296) = (((X % 4294967296) * (Y / 4294967296) : Nat) : Int) := by simp
 have e4 : ((X : Int) / 4294967296) * ((Y : Int) / 4294967296) = (((X / 4294967296) * (Y / 4294967296) : Nat) : Int) := by simp
 have e5 : (X : Int) * (Y : Int) = ((X * Y : Nat) : Int) := by simp
 rw [e1, e2, e3, e4, e5]
 generalize (X / 4294967296) * (Y / 4294967296) = a at *
 generalize (X / 4294967296) * (Y % 4294967296) = b at *
 generalize (X % 4294967296) * (Y / 4294967296) = c at *
 generalize (X % 4294967296) * (Y % 4294967296) = d at *
 generalize X * Y = t at *
 omega
end Go.Proofs.YthdkandofddohaaGreatDoor
namespace Go.Proofs.YthdkandofddohaaGreatDoor
open Go.RowKit
theorem word_row : (Tryz.prog.info? 136).map (fun i => (i.zero, i.size, i.bytes)) = some (some (.int .u64 0), 1, 8) := by kernel_rfl
noncomputable def wordInfo : TypeInfo := (Tryz.prog.info? 136).get (by have := word_row; cases h : Tryz.prog.info? 136 with | none => simp [h] at this | some i => rfl)
theorem info_word : Tryz.prog.info? 136 = some wordInfo := by unfold wordInfo; simp
theorem word_size : wordInfo.size = 1 := by have := word_row; rw [info_word] at this; simp at this; exact this.2.1
theorem word_zero : wordInfo.zero = some (.int .u64 0) := by have := word_row; rw [info_word] at this; simp at this; exact this.1
theorem word_bytes : wordInfo.bytes = 8 := by have := word_row; rw [info_word] at this; simp at this; exact this.2.2
theorem hid {p : Prop} (h : p) : Hid p := h
structure Chg (S : Nat → Prop) (w w' : World) : Prop where
 os : w'.os = w.os
 tape : w'.tape = w.tape
 output : w'.output = w.output
 size : w.heap.size ≤ w'.heap.size
 keep : ∀ k, k < w.heap.size → ¬ S k → w'.heap[k]? = w.heap[k]?
theorem Chg.refl (S : Nat → Prop) (w : World) : Chg S w w := ⟨rfl, rfl, rfl, Nat.le_refl _, fun _ _ _ => rfl⟩
theorem Chg.trans {S T : Nat → Prop} {a b c : World} (h : Chg S a b) (k : Chg T b c) (hST : ∀ i, i < a.heap.size → T i → S i) : Chg S a c :=
 ⟨k.os.trans h.os, k.tape.trans h.tape, k.output.trans h.output, Nat.le_trans h.size k.size, fun i hi hn =>
  (k.keep i (Nat.lt_of_lt_of_le hi h.size) (fun t => hn (hST i hi t))).trans (h.keep i hi hn)⟩
theorem Chg.drew {S : Nat → Prop} {a w : World} (h : Chg S a w) : Chg S a w.drew := ⟨h.os, h.tape, h.output, h.size, h.keep⟩
theorem Chg.drewN {S : Nat → Prop} {a w : World} (h : Chg S a w) (n : Nat) : Chg S a (w.drewN n) := ⟨h.os, h.tape, h.output, h.size, h.keep⟩
theorem Chg.setCell {S : Nat → Prop} {a w : World} (h : Chg S a w) {p : Addr} (hp : p.block < a.heap.size → S p.block) (u : Value) : Chg S a (w.setCell p u) :=
 ⟨h.os, h.tape, h.output, by have := h.size; simpa [World.setCell] using this, fun k hk hn => by
  rw [Below.heap_setCell _ _ _ _ (fun e => hn (by subst e; exact hp hk))]; exact h.keep k hk hn⟩
theorem Chg.alloc {S : Nat → Prop} {a w : World} (h : Chg S a w) (o : Obj) : Chg S a (w.alloc o) :=
 ⟨h.os, h.tape, h.output, by have := h.size; simp; omega, fun k hk hn => by
  rw [Below.heap_alloc _ _ _ (Nat.lt_of_lt_of_le hk h.size)]; exact h.keep k hk hn⟩
def Row (w : World) (b : Nat) (xs : List Int) : Prop :=
 w.heap[b]? = some (.cells (xs.map (Value.int .u64)).toArray 136 (0, 0)) ∧ Wds xs
theorem Row.cell {w : World} {b : Nat} {xs : List Int} (h : Row w b xs) {i : Nat} (hi : i < xs.length) : w.cell? ⟨b, i, none⟩ = some (.int .u64 (xs.getD i 0)) := by
 simp [World.cell?, h.1, hi]
theorem Row.free {w : World} {b : Nat} {xs : List Int} (h : Row w b xs) (i : Nat) : w.frozen? ⟨b, i, none⟩ = false := by
 simp [World.frozen?, h.1]
theorem Row.wd {w : World} {b : Nat} {xs : List Int} (h : Row w b xs) (i : Nat) : Wd (xs.getD i 0) := h.2.getD i
theorem Row.drew {w : World} {b : Nat} {xs : List Int} (h : Row w b xs) : Row w.drew b xs := h
theorem Row.drewN {w : World} {b : Nat} {xs : List Int} (h : Row w b xs) (n : Nat) : Row (w.drewN n) b xs := h
theorem Row.lt {w : World} {b : Nat} {xs : List Int} (h : Row w b xs) : b < w.heap.size := (Array.getElem?_eq_some_iff.1 h.1).1
theorem Row.kept {S : Nat → Prop} {w w' : World} {b : Nat} {xs : List Int} (h : Row w b xs) (hc : Chg S w w') (hb : ¬ S b) : Row w' b xs :=
 ⟨(hc.keep b h.lt hb).trans h.1, h.2⟩
theorem Row.set {w : World} {b : Nat} {xs : List Int} (h : Row w b xs) (i : Nat) {v : Int} (hv : Wd v) : Row (w.setCell ⟨b, i, none⟩ (.int .u64 v)) b (xs.set i v) := by
 refine ⟨?_, fun x hx => ?_⟩
 ·simp [World.setCell, Array.getElem?_modify, h.1, List.map_set]
 ·rcases List.mem_or_eq_of_mem_set hx with hx | rfl
  ·exact h.2 x hx
  ·exact hv
theorem Row.set_ne {w : World} {b c : Nat} {xs : List Int} (h : Row w b xs) (hne : b ≠ c) (i : Nat) (v : Value) : Row (w.setCell ⟨c, i, none⟩ v) b xs := by
 refine ⟨?_, h.2⟩
 rw [Below.heap_setCell _ _ _ _ (by simpa using hne)]; exact h.1
theorem Row.inj {w : World} {b : Nat} {xs ys : List Int} (h : Row w b xs) (k : Row w b ys) : xs = ys := by
 have := h.1.symm.trans k.1
 simp only [Option.some.injEq, Obj.cells.injEq, Array.mk.injEq] at this
 exact (List.map_inj_right (fun a b h => by simpa using h)).1 this.1
theorem read_ahead {w wr : World} {bz bx : Nat} {zs xs : List Int} {oz ox k : Nat} {ds : List Int} (hz : Row w bz zs) (hx : Row w bx xs) (hzr : Row wr bz (put zs oz ds)) (hc : Chg (· = bz) w wr)
  (hk : ds.length = k) (hzl : oz + k ≤ zs.length) (hxl : ox + k < xs.length) (ax : bx = bz → oz ≤ ox) : wr.cell? ⟨bx, ox + k, none⟩ = some (.int .u64 (xs.getD (ox + k) 0)) := by
 by_cases e : bx = bz
 ·subst e
  obtain rfl := hx.inj hz
  rw [hzr.cell (by rw [put_length (by omega)]; omega), put_getD_ahead (by omega) (by have := ax rfl; omega)]
 ·exact (hx.kept hc e).cell hxl
def Q (w w' : World) : Prop := ∃ n, w' = w.drewN n
theorem Q.refl (w : World) : Q w w := ⟨0, rfl⟩
theorem Q.step {w w' : World} (h : Q w w') (n : Nat) : Q w (w'.drewN n) := by obtain ⟨m, rfl⟩ := h; exact ⟨m + n, by rw [World.drewN_drewN]⟩
theorem Q.chg {w w' : World} (h : Q w w') (S : Nat → Prop) : Chg S w w' := by obtain ⟨m, rfl⟩ := h; exact (Chg.refl _ _).drewN m
theorem quiet_same {P : Program} {f : FuncId} {args : Array Value} {w : World} {n : Nat} {v : Value}
  (h : Calls P f args (w.drewN n) fun e w' => e = .returned v ∧ w.drewN n = w') : Calls P f args (w.drewN n) fun e w'' => e = .returned v ∧ ∃ m, w'' = w.drewN m :=
 h.mono fun _ _ ⟨he, hm⟩ => ⟨he, n, hm.symm⟩
theorem ptr_neq_same (w : World) (a : Addr) : (binOp .neq 158 (.pointer (some a)) (.pointer (some a))).run Tryz.prog w = .ok (.bool false) w := by
 have h : ∀ d : Nat, (Op.equalIn (d + 1) 158 (.pointer (some a)) (.pointer (some a))).run Tryz.prog w = .ok true w := fun d => by
  simp [Op.equalIn, run_underlying Tryz.underlying158, sizeOf, typeInfo, info_word, run_sameAddr_same]
 simp only [binOp]
 simp [Op.equal, Op.maxDepth, h 9999]
theorem ptr_eql_same (w : World) (a : Addr) : (binOp .eql 158 (.pointer (some a)) (.pointer (some a))).run Tryz.prog w = .ok (.bool true) w := by
 have h : ∀ d : Nat, (Op.equalIn (d + 1) 158 (.pointer (some a)) (.pointer (some a))).run Tryz.prog w = .ok true w := fun d => by
  simp [Op.equalIn, run_underlying Tryz.underlying158, sizeOf, typeInfo, info_word, run_sameAddr_same]
 simp only [binOp]
 simp [Op.equal, Op.maxDepth, h 9999]
theorem ptr_neq_other (w : World) (b c i j : Nat) (xs ys : List Int) (hb : Row w b xs) (hc : Row w c ys) (hne : b ≠ c) :
  (binOp .neq 158 (.pointer (some ⟨b, i, none⟩)) (.pointer (some ⟨c, j, none⟩))).run Tryz.prog w = .ok (.bool true) w := by
 have h : ∀ d : Nat, (Op.equalIn (d + 1) 158 (.pointer (some ⟨b, i, none⟩)) (.pointer (some ⟨c, j, none⟩))).run Tryz.prog w = .ok false w := fun d => by
  simp [Op.equalIn, run_underlying Tryz.underlying158, sizeOf, typeInfo, info_word, word_size, run_sameAddr_other w (a := ⟨b, i, none⟩) (b := ⟨c, j, none⟩) (fun e => hne (Addr.mk.inj e).1) hb.1 hc.1]
 simp only [binOp]
 simp [Op.equal, Op.maxDepth, h 9999]
theorem ptr_eql_other (w : World) (b c i j : Nat) (xs ys : List Int) (hb : Row w b xs) (hc : Row w c ys) (hne : b ≠ c) :
  (binOp .eql 158 (.pointer (some ⟨b, i, none⟩)) (.pointer (some ⟨c, j, none⟩))).run Tryz.prog w = .ok (.bool false) w := by
 have h : ∀ d : Nat, (Op.equalIn (d + 1) 158 (.pointer (some ⟨b, i, none⟩)) (.pointer (some ⟨c, j, none⟩))).run Tryz.prog w = .ok false w := fun d => by
  simp [Op.equalIn, run_underlying Tryz.underlying158, sizeOf, typeInfo, info_word, word_size, run_sameAddr_other w (a := ⟨b, i, none⟩) (b := ⟨c, j, none⟩) (fun e => hne (Addr.mk.inj e).1) hb.1 hc.1]
 simp only [binOp]
 simp [Op.equal, Op.maxDepth, h 9999]
end Go.Proofs.YthdkandofddohaaGreatDoor
namespace Go.Proofs.YthdkandofddohaaGreatDoor
open Go.RowKit Go.Proofs.YthdkandofddohaaGreatDoorW.PrintWords Go.Proofs.YthdkandofddohaaGreatDoorW.PrintLast Go.Proofs.YthdkandofddohaaGreatDoorW.PrintMore PFnFixSubExact
set_option linter.unusedVariables false
set_option linter.unusedSimpArgs false
set_option maxRecDepth 20000
theorem Chg.below {w w' : World} (h : Chg (fun _ => False) w w') : Below w.heap.size w w' := ⟨h.os, h.tape, h.output, h.size, fun k hk => h.keep k hk (fun h => h)⟩
theorem chg_of_below {w w' : World} (h : Below w.heap.size w w') : Chg (fun _ => False) w w' := ⟨h.os, h.tape, h.output, h.size, fun k hk _ => h.block k hk⟩
def SN (w : World) (A : Option Addr) (n c : Nat) (a : Nat) : Prop := ∃ xs : List Int, n = xs.length ∧ n ≤ c ∧ Kd.C (Kd.int .u32) w A n xs ∧ IsN xs a
theorem SN.kept {w w' : World} {A : Option Addr} {n c a : Nat} (h : SN w A n c a) (hc : Chg (fun _ => False) w w') : SN w' A n c a := by
 obtain ⟨xs, h1, h2, h3, h4⟩ := h
 exact ⟨xs, h1, h2, Kd.C_below h3 hc.below, h4⟩
theorem SN.zero {w : World} {A : Option Addr} {n c a : Nat} (h : SN w A n c a) : n = 0 ↔ a = 0 := by
 obtain ⟨xs, rfl, _, _, h4⟩ := h
 rw [← h4.nil_iff, List.length_eq_zero_iff]
def PSN (w : World) (a : Nat) (e : Ending) (w' : World) : Prop := ∃ (A : Option Addr) (n c : Nat), e = .returned (.slice A n c) ∧ SN w' A n c a ∧ Chg (fun _ => False) w w'
theorem psn_R {w w' : World} {e : Ending} {a : Nat} {ok : Nat → Prop} {r : List Int} (hr : IsN r a) (h : ∃ v0_ : Value, e = .returned v0_ ∧ Kd.R (Kd.int .u32) 86 w' w.heap.size ok v0_ r ∧ Below w.heap.size w w') : PSN w a e w' := by
 obtain ⟨v, rfl, h1, h2⟩ := h
 obtain ⟨A, c, rfl, k1, k2⟩ := Kd.R_reads h1
 exact ⟨A, r.length, c, rfl, ⟨r, rfl, k1, k2, hr⟩, chg_of_below h2⟩
theorem psn_V {w w' : World} {e : Ending} {a : Nat} {ok : Nat → Prop} {r : List Int} (hr : IsN r a) (h : ∃ v0_ : Value, e = .returned v0_ ∧ Kd.V (Kd.int .u32) 86 w' w.heap.size ok v0_ r ∧ Below w.heap.size w w') : PSN w a e w' := by
 obtain ⟨v, rfl, h1, h2⟩ := h
 obtain ⟨A, c, rfl⟩ := Kd.V_slice h1
 obtain ⟨_, k1, k2⟩ := Kd.V_reads' h1
 exact ⟨A, r.length, c, rfl, ⟨r, rfl, k1, k2, hr⟩, chg_of_below h2⟩
theorem NatMul_any {w : World} {A B : Option Addr} {n c m d a b : Nat} (ha : SN w A n c a) (hb : SN w B m d b) (ha' : a < tn 1800) (hb' : b < tn 1800) :
  Calls Tryz.prog 33 #[.slice A n c, .slice B m d] w (PSN w (a * b)) := by
 obtain ⟨xs, rfl, h2, h3, h4⟩ := ha
 obtain ⟨ys, rfl, k2, k3, k4⟩ := hb
 obtain ⟨K, r, r1, r2⟩ := natMul_law h4 k4 ha' hb'
 exact (spec_NatMul.calls K A c xs B d ys r w h3 h2 k3 k2 (r2 K (Nat.le_refl _))).mono (fun e w' h => psn_V r1 h)
theorem NatAdd_any {w : World} {A B : Option Addr} {n c m d a b : Nat} (ha : SN w A n c a) (hb : SN w B m d b) (ha' : a < tn 1800) (hb' : b < tn 1800) :
  Calls Tryz.prog 61 #[.slice A n c, .slice B m d] w (PSN w (a + b)) := by
 obtain ⟨xs, rfl, h2, h3, h4⟩ := ha
 obtain ⟨ys, rfl, k2, k3, k4⟩ := hb
 obtain ⟨K, r, r1, r2⟩ := natAdd_law h4 k4 ha' hb'
 exact (spec_NatAdd.calls K A c xs B d ys r w h3 h2 k3 k2 (r2 K (Nat.le_refl _))).mono (fun e w' h => psn_R r1 h)
theorem NatSub_any {w : World} {A B : Option Addr} {n c m d a b : Nat} (ha : SN w A n c a) (hb : SN w B m d b) (ha' : a < tn 1800) (hle : b ≤ a) :
  Calls Tryz.prog 62 #[.slice A n c, .slice B m d] w (PSN w (a - b)) := by
 obtain ⟨xs, rfl, h2, h3, h4⟩ := ha
 obtain ⟨ys, rfl, k2, k3, k4⟩ := hb
 obtain ⟨K, r, r1, r2⟩ := natSub_law h4 k4 ha' hle
 exact (spec_NatSub.calls K A c xs B d ys r w h3 h2 k3 k2 (r2 K (Nat.le_refl _))).mono (fun e w' h => psn_V r1 h)
theorem NatCmp_any {w : World} {A B : Option Addr} {n c m d a b : Nat} (ha : SN w A n c a) (hb : SN w B m d b) (ha' : a < tn 1800) (hb' : b < tn 1800) :
  Calls Tryz.prog 60 #[.slice A n c, .slice B m d] w (fun e w' => e = .returned (.int .i64 (cmpN a b)) ∧ Chg (fun _ => False) w w') := by
 obtain ⟨xs, rfl, h2, h3, h4⟩ := ha
 obtain ⟨ys, rfl, k2, k3, k4⟩ := hb
 exact (spec_NatCmp.calls 1000 A c xs B d ys _ w h3 h2 k3 k2 (natCmp_law h4 k4 ha' hb' 1000 (Nat.le_refl _))).mono (fun e w' h => ⟨h.1, by obtain ⟨_, nd, rfl⟩ := h; exact (Chg.refl _ _).drewN nd⟩)
theorem NatDiv_any {w : World} {A B : Option Addr} {n c m d a b : Nat} (ha : SN w A n c a) (hb : SN w B m d b) (ha' : a < tn 1764) (hb' : b < tn 1764) (hb0 : 0 < b) :
  Calls Tryz.prog 63 #[.slice A n c, .slice B m d] w (fun e w' => ∃ (A1 : Option Addr) (n1 c1 : Nat) (A2 : Option Addr) (n2 c2 : Nat), e = .returned (.tuple #[.slice A1 n1 c1, .slice A2 n2 c2]) ∧ SN w' A1 n1 c1 (a / b) ∧ SN w' A2 n2 c2 (a % b) ∧ Chg (fun _ => False) w w') := by
 obtain ⟨xs, rfl, h2, h3, h4⟩ := ha
 obtain ⟨ys, rfl, k2, k3, k4⟩ := hb
 obtain ⟨K, q, r, q1, r1, r2⟩ := natDiv_law h4 k4 ha' hb' hb0
 refine (spec_NatDiv.calls K A c xs B d ys q r w h3 h2 k3 k2 (r2 K (Nat.le_refl _))).mono (fun e w' h => ?_)
 obtain ⟨v0, v1, rfl, g1, g2, g3⟩ := h
 obtain ⟨A1, c1, rfl⟩ := Kd.V_slice g1
 obtain ⟨A2, c2, rfl⟩ := Kd.V_slice g2
 obtain ⟨_, p1, p2⟩ := Kd.V_reads' g1
 obtain ⟨_, p3, p4⟩ := Kd.V_reads' g2
 exact ⟨A1, q.length, c1, A2, r.length, c2, rfl, ⟨q, rfl, p1, p2, q1⟩, ⟨r, rfl, p3, p4, r1⟩, chg_of_below g3⟩
theorem Pow10_any {w : World} (n : Nat) (hn : n ≤ 240) : Calls Tryz.prog 34 #[.int .i64 n] w (PSN w (10 ^ n)) := by
 obtain ⟨K, r, r1, r2⟩ := pow10_law n hn
 exact (spec_Pow10.calls K (n : Int) r w (r2 K (Nat.le_refl _))).mono (fun e w' h => psn_R r1 h)
theorem one_any {w : World} : Calls Tryz.prog 35 #[] w (PSN w 1) :=
 (spec_one.calls [1] w rfl).mono (fun e w' h => psn_R one_is h)
theorem NatFrom_any {w : World} (a : Nat) (ha : (a : Int) < 18446744073709551616) : Calls Tryz.prog 31 #[.int .u64 (a : Int)] w (PSN w a) := by
 obtain ⟨K, r, r1, r2⟩ := natFrom_law ha
 exact (spec_NatFrom.calls K (a : Int) r w (r2 K (Nat.le_refl _))).mono (fun e w' h => psn_R r1 h)
theorem Digits_any {w : World} {A : Option Addr} {n c a : Nat} (ha : SN w A n c a) (ha' : a < tn 1800) : Calls Tryz.prog 40 #[.slice A n c] w (fun e w' => e = .returned (.int .i64 (digs a)) ∧ Chg (fun _ => False) w w') := by
 obtain ⟨xs, rfl, h2, h3, h4⟩ := ha
 obtain ⟨K, hK⟩ := digits_law h4 ha'
 exact (spec_Nat_Digits.calls K A c xs _ w h3 h2 (hK K (Nat.le_refl _))).mono (fun e w' h => ⟨h.1, chg_of_below h.2⟩)
end Go.Proofs.YthdkandofddohaaGreatDoor
namespace Go.Proofs.YthdkandofddohaaGreatDoor
open Go.RowKit
set_option linter.unusedVariables false
set_option linter.unusedSimpArgs false
theorem call_add64 (x y c : Int) (hx : 0 ≤ x) (hy : 0 ≤ y) (hc0 : 0 ≤ c) (hc : c ≤ 1) (w : World) :
  (callFunc 166 #[.int .u64 x, .int .u64 y, .int .u64 c]).run Tryz.prog w =
   .ok (.value (.tuple #[.int .u64 ((x + y + c) % 18446744073709551616), .int .u64 ((x + y + c) / 18446744073709551616)])) w := by
 rw [run_callFunc_extern Tryz.func166 kr_ kr_ kr_ (e := add64Entry) kr_, run_add64 x y c hx hy hc0 hc]
 rfl
theorem bits_Add (x y c : Int) (hx : 0 ≤ x) (hy : 0 ≤ y) (hc0 : 0 ≤ c) (hc : c ≤ 1) (w : World) :
  Calls Tryz.prog 142 #[.int .u64 x, .int .u64 y, .int .u64 c] w fun e w' =>
   e = .returned (.tuple #[.int .u64 ((x + y + c) % 18446744073709551616), .int .u64 ((x + y + c) / 18446744073709551616)]) ∧ w = w' := by
 have hcall := fun w => call_add64 x y c hx hy hc0 hc w
 go_enter Tryz.func142, Tryz.ntmps142
 go_wp2
 go_ret2
 exact ⟨rfl, rfl⟩
def sub64Entry : Array Value → Sem Value := fun args => do
 let (x, y, b) ← Extern.MathBitsCarry.three "Sub64" args
 pure (Extern.MathBitsCarry.pair ((x + Extern.MathBitsCarry.m64 - y - b) % Extern.MathBitsCarry.m64) (if x < y + b then 1 else 0))
theorem run_sub64 (x y c : Int) (hx : Wd x) (hy : Wd y) (hc0 : 0 ≤ c) (hc : c ≤ 1) (w : World) :
  (sub64Entry #[.int .u64 x, .int .u64 y, .int .u64 c]).run Tryz.prog w =
   .ok (.tuple #[.int .u64 ((x - y - c) % 18446744073709551616), .int .u64 (brw x (y + c))]) w := by
 unfold Wd at hx hy
 have key : ∀ k : Nat, k ≤ 1 → (sub64Entry #[.int .u64 x, .int .u64 y, .int .u64 (k : Int)]).run Tryz.prog w =
   .ok (Extern.MathBitsCarry.pair ((x.toNat + Extern.MathBitsCarry.m64 - y.toNat - k) % Extern.MathBitsCarry.m64) (if x.toNat < y.toNat + k then 1 else 0)) w := by
  intro k hk
  have : k = 0 ∨ k = 1 := by omega
  rcases this with rfl | rfl <;> rfl
 obtain ⟨k, rfl⟩ := Int.eq_ofNat_of_zero_le hc0
 rw [key k (by omega)]
 obtain ⟨X, rfl⟩ := Int.eq_ofNat_of_zero_le hx.1
 obtain ⟨Y, rfl⟩ := Int.eq_ofNat_of_zero_le hy.1
 simp only [Extern.MathBitsCarry.pair, Extern.MathBitsCarry.m64, Int.toNat_natCast, brw]
 have e : ((X : Int) < (Y : Int) + (k : Int)) ↔ X < Y + k := by omega
 have e1 : Int.ofNat ((X + 2 ^ 64 - Y - k) % 2 ^ 64) = ((X : Int) - (Y : Int) - (k : Int)) % 18446744073709551616 := by show (((X + 2 ^ 64 - Y - k) % 2 ^ 64 : Nat) : Int) = _; omega
 rw [e1]
 by_cases h : X < Y + k
 ·rw [if_pos h, if_pos (e.2 h)]; rfl
 ·rw [if_neg h, if_neg (fun t => h (e.1 t))]; rfl
theorem ret_pair {k l : IntKind} {a b c d : Int} (h : a = c) (h' : b = d) : Ending.returned (.tuple #[.int k a, .int l b]) = .returned (.tuple #[.int k c, .int l d]) := by rw [h, h']
theorem call_sub64 (x y c : Int) (hx : Wd x) (hy : Wd y) (hc0 : 0 ≤ c) (hc : c ≤ 1) (w : World) :
  (callFunc 168 #[.int .u64 x, .int .u64 y, .int .u64 c]).run Tryz.prog w =
   .ok (.value (.tuple #[.int .u64 ((x - y - c) % 18446744073709551616), .int .u64 (brw x (y + c))])) w := by
 rw [run_callFunc_extern Tryz.func168 kr_ kr_ kr_ (e := sub64Entry) kr_, run_sub64 x y c hx hy hc0 hc]
 rfl
theorem bits_Sub (x y c : Int) (hx : Wd x) (hy : Wd y) (hc0 : 0 ≤ c) (hc : c ≤ 1) (w : World) :
  Calls Tryz.prog 144 #[.int .u64 x, .int .u64 y, .int .u64 c] w fun e w' =>
   e = .returned (.tuple #[.int .u64 ((x - y - c) % 18446744073709551616), .int .u64 (brw x (y + c))]) ∧ w = w' := by
 have hcall := fun w => call_sub64 x y c hx hy hc0 hc w
 go_enter Tryz.func144, Tryz.ntmps144
 go_wp2
 go_ret2
 exact ⟨rfl, rfl⟩
theorem bits_Mul64 (x y : Int) (hx : Wd x) (hy : Wd y) (w : World) :
  Calls Tryz.prog 204 #[.int .u64 x, .int .u64 y] w fun e w' =>
   e = .returned (.tuple #[.int .u64 (x * y / 18446744073709551616), .int .u64 (x * y % 18446744073709551616)]) ∧ w = w' := by
 obtain ⟨h1, h2, h3, h4, h5, h6, h7, h8, h9, h10, h11⟩ := mul64_int hx hy
 have hp := mul_wd hx hy wd0
 rw [Int.add_zero, ← h11] at hp
 have H11 := hid h11
 have HP := hid hp
 clear h11 hp
 unfold Wd at hx hy
 obtain ⟨hx0, hx1⟩ := hx
 obtain ⟨hy0, hy1⟩ := hy
 go_enter Tryz.func204, Tryz.ntmps204
 go_wp2
 go_ret2
 refine ⟨ret_pair ?_ ?_, rfl⟩
 ·rw [← H11.out]
  clear H11
  have hp := HP.out
  clear HP
  unfold Wd at hp
  simp (disch := omega) only [and_low32, IntKind.wrap_u64]
  generalize x / 4294967296 * (y / 4294967296) = a at *
  generalize x / 4294967296 * (y % 4294967296) = b at *
  generalize x % 4294967296 * (y / 4294967296) = c at *
  generalize x % 4294967296 * (y % 4294967296) = d at *
  omega
 ·rw [IntKind.wrap_u64]
theorem bits_Mul (x y : Int) (hx : Wd x) (hy : Wd y) (w : World) :
  Calls Tryz.prog 174 #[.int .u64 x, .int .u64 y] w fun e w' =>
   e = .returned (.tuple #[.int .u64 (x * y / 18446744073709551616), .int .u64 (x * y % 18446744073709551616)]) ∧ w = w' := by
 have hp : Wd (x * y / 18446744073709551616) := by have := mul_wd hx hy wd0; simpa using this
 have hq : Wd (x * y % 18446744073709551616) := Wd.mod _
 obtain ⟨hp0, hp1⟩ := hp
 obtain ⟨hq0, hq1⟩ := hq
 go_enter Tryz.func174, Tryz.ntmps174
 go_wp2_with (go_at_call 204; refine (bits_Mul64 x y hx hy _).mono ?_; rintro e w' ⟨rfl, rfl⟩)
 go_ret2
 exact ⟨rfl, rfl⟩
theorem mulWW_any (x y : Int) (hx : Wd x) (hy : Wd y) (w : World) :
  Calls Tryz.prog 150 #[.int .u64 x, .int .u64 y] w fun e w' =>
   e = .returned (.tuple #[.int .u64 (x * y / 18446744073709551616), .int .u64 (x * y % 18446744073709551616)]) ∧ w = w' := by
 have hp : Wd (x * y / 18446744073709551616) := by have := mul_wd hx hy wd0; simpa using this
 have hq : Wd (x * y % 18446744073709551616) := Wd.mod _
 obtain ⟨hp0, hp1⟩ := hp
 obtain ⟨hq0, hq1⟩ := hq
 go_enter Tryz.func150, Tryz.ntmps150
 go_wp2_with (go_at_call 174; refine (bits_Mul x y hx hy _).mono ?_; rintro e w' ⟨rfl, rfl⟩)
 go_ret2
 exact ⟨rfl, rfl⟩
theorem mulAddWWW_g_any (x y c : Int) (hx : Wd x) (hy : Wd y) (hc : Wd c) (w : World) :
  Calls Tryz.prog 228 #[.int .u64 x, .int .u64 y, .int .u64 c] w fun e w' =>
   e = .returned (.tuple #[.int .u64 ((x * y + c) / 18446744073709551616), .int .u64 ((x * y + c) % 18446744073709551616)]) ∧ w = w' := by
 have hp : Wd (x * y / 18446744073709551616) := by have := mul_wd hx hy wd0; simpa using this
 have hq : Wd (x * y % 18446744073709551616) := Wd.mod _
 obtain ⟨hp0, hp1⟩ := hp
 obtain ⟨hq0, hq1⟩ := hq
 have hs := mul_wd hx hy hc
 obtain ⟨hc0, hc1⟩ := hc
 have hs2 : x * y / 18446744073709551616 + (x * y % 18446744073709551616 + c + 0) / 18446744073709551616 = (x * y + c) / 18446744073709551616 := by omega
 have hs3 : (x * y % 18446744073709551616 + c + 0) % 18446744073709551616 = (x * y + c) % 18446744073709551616 := by omega
 have HS2 := hid hs2
 have HS3 := hid hs3
 have hs4 : x * y / 18446744073709551616 + (x * y % 18446744073709551616 + c + 0) / 18446744073709551616 < 18446744073709551616 := by rw [hs2]; exact hs.2
 have HS4 := hid hs4
 clear hs2 hs3 hs hs4
 go_enter Tryz.func228, Tryz.ntmps228
 go_wp2_with (first | (go_at_call 174; refine (bits_Mul x y hx hy _).mono ?_; rintro e w' ⟨rfl, rfl⟩) | (go_at_call 142; refine (bits_Add _ _ _ (by omega) (by omega) (by omega) (by omega) _).mono ?_; rintro e w' ⟨rfl, rfl⟩))
 go_ret2
 have h2 := HS2.out
 have h3 := HS3.out
 have h4 := HS4.out
 simp only [Int.add_zero] at h2 h3 h4
 refine ⟨ret_pair ?_ ?_, rfl⟩
 ·first | exact h2 | (rw [IntWalk.u64_in _ ⟨by omega, by omega⟩]; exact h2) | (simp only [Int.add_zero]; rw [IntWalk.u64_in _ ⟨by omega, by omega⟩]; exact h2)
 ·omega
end Go.Proofs.YthdkandofddohaaGreatDoor
