/- Part 12 of the proof. -/
import Derived.Shelf.Small.Bits
import Derived.Shelf.Strconv.Itoa0
import Derived.Shelf.Bits.Mul64
import Derived.Test.YthdkandofddohaaGreatDoorP11
namespace Go.Proofs.YthdkandofddohaaGreatDoor
open Go.RowKit
set_option linter.unusedVariables false
set_option linter.unusedSimpArgs false
set_option maxRecDepth 20000
theorem and63_u64 (z : Int) (h0 : 0 ≤ z) (h1 : z < 18446744073709551616) : bits .and .u64 z 63 = z % 64 :=
 bits_mask .u64 64 (by decide) (fun n h0 h1 => IntWalk.u64_in n ⟨h0, by omega⟩) 6 (by decide) z h0 h1
theorem pow_pos' (s : Nat) : (0 : Int) < 2 ^ s := Int.pow_pos (by omega)
theorem pow_split {s : Nat} (h : s ≤ 64) : (2 : Int) ^ s * 2 ^ (64 - s) = 18446744073709551616 := by
 rw [← Int.pow_add, show s + (64 - s) = 64 by omega]; rfl
theorem pow_wd {s : Nat} (h : s ≤ 63) : Wd ((2 : Int) ^ s) := by
 have h1 := pow_pos' s
 have h2 : (2 : Int) ^ s ≤ 2 ^ 63 := by
  have := pow_split (s := s) (by omega)
  have e : (2 : Int) ^ (64 - s) = 2 * 2 ^ (63 - s) := by rw [show 64 - s = (63 - s) + 1 by omega, Int.pow_succ, Int.mul_comm]
  have h3 := pow_pos' (63 - s)
  have e4 : (2 : Int) ^ s * (2 ^ (63 - s)) = 2 ^ 63 := by rw [← Int.pow_add, show s + (63 - s) = 63 by omega]
  have : (2 : Int) ^ s * 1 ≤ 2 ^ s * 2 ^ (63 - s) := Int.mul_le_mul_of_nonneg_left (by omega) (by omega)
  omega
 exact ⟨by omega, by have : (2 : Int) ^ 63 = 9223372036854775808 := rfl; omega⟩
theorem shl_carry {x c : Int} {s : Nat} (hs : s ≤ 64) (h0 : 0 ≤ c) (h1 : c < 2 ^ s) : (x * 2 ^ s + c) / 18446744073709551616 = x / 2 ^ (64 - s) := by
 have e := pow_split hs
 have hp := pow_pos' s
 rw [← e, ← Int.ediv_ediv_of_nonneg (by omega), Int.add_comm, Int.add_mul_ediv_right _ _ (by omega), Int.ediv_eq_zero_of_lt h0 h1, Int.zero_add]
theorem shl_digit {x c : Int} {s : Nat} (hs : s ≤ 64) (h0 : 0 ≤ c) (h1 : c < 2 ^ s) : (x * 2 ^ s + c) % 18446744073709551616 = (x * 2 ^ s) % 18446744073709551616 + c := by
 have e := pow_split hs
 have h2 := shl_carry (x := x) hs h0 h1
 have h3 := shl_carry (x := x) (c := 0) hs (by omega) (pow_pos' s)
 rw [Int.add_zero] at h3
 omega
theorem shr_lt {x : Int} {s : Nat} (hs : s ≤ 64) (hx : Wd x) : 0 ≤ x / 2 ^ (64 - s) ∧ x / 2 ^ (64 - s) < 2 ^ s := by
 have hp := pow_pos' (64 - s)
 refine ⟨Int.ediv_nonneg hx.1 (by omega), Int.ediv_lt_of_lt_mul hp ?_⟩
 rw [pow_split hs]; exact hx.2
theorem mulC_shl' : ∀ (xs : List Int) {s : Nat} (c : Int), s ≤ 64 → Wds xs → 0 ≤ c → c < 2 ^ s → 0 ≤ mulC xs (2 ^ s) c ∧ mulC xs (2 ^ s) c < 2 ^ s ∧ ∀ x, mulC (xs ++ [x]) (2 ^ s) c = x / 2 ^ (64 - s)
 | [], s, c, hs, _, h0, h1 => ⟨h0, h1, fun x => by simp only [List.nil_append, mulC]; exact shl_carry hs h0 h1⟩
 | a :: xs, s, c, hs, hw, h0, h1 => by
  simp only [List.cons_append, mulC]
  rw [shl_carry hs h0 h1]
  obtain ⟨h3, h4⟩ := shr_lt hs hw.head
  exact mulC_shl' xs _ hs hw.tail h3 h4
theorem mulC_shl (xs : List Int) {s : Nat} (hs : s ≤ 64) (hw : Wds xs) : 0 ≤ mulC xs (2 ^ s) 0 ∧ mulC xs (2 ^ s) 0 < 2 ^ s ∧ ∀ x, mulC (xs ++ [x]) (2 ^ s) 0 = x / 2 ^ (64 - s) :=
 mulC_shl' xs 0 hs hw (by omega) (pow_pos' s)
theorem or_sum {a b : Int} {s : Nat} (ha : 0 ≤ a) (hs : s ≤ 64) (h : a * 2 ^ s < 18446744073709551616) (hb0 : 0 ≤ b) (hb : b < 2 ^ s) : bits .or .u64 (a * 2 ^ s) b = a * 2 ^ s + b := by
 obtain ⟨A, rfl⟩ := Int.eq_ofNat_of_zero_le ha
 obtain ⟨B, rfl⟩ := Int.eq_ofNat_of_zero_le hb0
 have e : ((A : Int) * 2 ^ s) = ((A * 2 ^ s : Nat) : Int) := by simp
 have hB : B < 2 ^ s := by exact_mod_cast hb
 have hp : (2 : Nat) ^ s ≤ 2 ^ 64 := Nat.pow_le_pow_right (by omega) hs
 rw [e] at h ⊢
 rw [u64_or_nat _ _ (by omega) (by have : (2 : Nat) ^ 64 = 18446744073709551616 := rfl; omega)]
 rw [Nat.mul_comm A, ← Nat.two_pow_add_eq_or_of_lt hB]
 simp
theorem shl_mod {x : Int} {s : Nat} (hs : s ≤ 64) (hx : 0 ≤ x) : ∃ a, 0 ≤ a ∧ (x * 2 ^ s) % 18446744073709551616 = a * 2 ^ s := by
 have hq := pow_pos' (64 - s)
 refine ⟨x % 2 ^ (64 - s), Int.emod_nonneg _ (by omega), ?_⟩
 rw [← pow_split hs, Int.mul_comm x, Int.mul_emod_mul_of_pos _ _ (pow_pos' s), Int.mul_comm]
theorem shl_or {x y : Int} {s : Nat} (hs : s ≤ 64) (hx : 0 ≤ x) (hy : Wd y) : bits .or .u64 ((x * 2 ^ s) % 18446744073709551616) (y / 2 ^ (64 - s)) = (x * 2 ^ s + y / 2 ^ (64 - s)) % 18446744073709551616 := by
 obtain ⟨h0, h1⟩ := shr_lt hs hy
 obtain ⟨a, ha, e⟩ := shl_mod hs hx
 rw [shl_digit hs h0 h1, e]
 exact or_sum ha hs (by rw [← e]; omega) h0 h1
theorem put_cons {xs : List Int} {i : Nat} {ds : List Int} (v : Int) (h : i + 1 + ds.length ≤ xs.length) : (put xs (i + 1) ds).set i v = put xs i (v :: ds) := by
 simp only [put]
 rw [List.append_assoc, List.set_append_left _ _ (by simp; omega)]
 have : (xs.take (i + 1)).set i v = xs.take i ++ [v] := by
  rw [List.take_add_one, List.getElem?_eq_getElem (by omega)]
  rw [List.set_append_right _ _ (by simp; omega)]
  simp [show min i xs.length = i by omega]
 rw [this]
 simp [Nat.add_assoc, Nat.add_comm 1]
theorem mulD_take (xs : List Int) (y c : Int) (k : Nat) : (mulD xs y c).take k = mulD (xs.take k) y c := by
 induction xs generalizing c k with
 | nil => simp [mulD]
 | cons x xs ih => cases k with
  | zero => simp [mulD]
  | succ k => simp [mulD, ih]
theorem mulD_drop {xs : List Int} {y c : Int} {k : Nat} (hk : k < xs.length) : (mulD xs y c).drop k = (xs.getD k 0 * y + mulC (xs.take k) y c) % 18446744073709551616 :: (mulD xs y c).drop (k + 1) := by
 have hl := mulD_length xs y c
 have hkk : k < (mulD xs y c).length := by omega
 rw [List.drop_eq_getElem_cons hkk]
 congr 1
 have e := mulD_take xs y c (k + 1)
 have e2 : xs.take (k + 1) = xs.take k ++ [xs.getD k 0] := by
  have := seg_succ (xs := xs) (i := 0) (n := k) (by omega); simpa [seg_take] using this
 rw [e2, mulD_snoc] at e
 have e3 := congrArg (fun l => l.getD k 0) e
 have hlk : (mulD (xs.take k) y c).length = k := by rw [mulD_length]; simp; omega
 simp only [List.getD_eq_getElem?_getD, List.getElem?_take, List.getElem?_append_right (show (mulD (xs.take k) y c).length ≤ k by omega), hlk, Nat.sub_self] at e3
 simpa [hkk] using e3
theorem read_below {w wr : World} {bz bx : Nat} {zs xs : List Int} {oz i : Nat} {ds : List Int} (hz : Row w bz zs) (hx : Row w bx xs) (hzr : Row wr bz (put zs oz ds)) (hc : Chg (· = bz) w wr)
  (hzl : oz + ds.length ≤ zs.length) (hxl : i < xs.length) (ax : bx = bz → i < oz) : wr.cell? ⟨bx, i, none⟩ = some (.int .u64 (xs.getD i 0)) := by
 by_cases e : bx = bz
 ·subst e
  obtain rfl := hx.inj hz
  rw [hzr.cell (by rw [put_length (by omega)]; omega), put_getD_below hzl (ax rfl)]
 ·exact (hx.kept hc e).cell hxl
set_option maxHeartbeats 1000000 in
theorem lshVU_g_any (bz oz cz bx ox cx n s : Nat) (zs xs : List Int) (w : World) (hz : Row w bz zs) (hx : Row w bx xs) (hzl : oz + n ≤ zs.length) (hxl : ox + n ≤ xs.length)
  (ax : bx = bz → ox ≤ oz) (hn1 : 1 ≤ n) (hn : n ≤ 1000000) (hs1 : 1 ≤ s) (hs2 : s ≤ 63) :
  Calls Tryz.prog 202 #[.slice (some ⟨bz, oz, none⟩) n cz, .slice (some ⟨bx, ox, none⟩) n cx, .int .u64 s] w fun e w' =>
   e = .returned (.int .u64 (mulC (seg xs ox n) (2 ^ s) 0)) ∧ Row w' bz (put zs oz (mulD (seg xs ox n) (2 ^ s) 0)) ∧ Chg (· = bz) w w' := by
 have hb0 : ((s : Int) == 0) = false := beq_eq_false_iff_ne.2 (by omega)
 have hbn : ((n : Int) == 0) = false := beq_eq_false_iff_ne.2 (by omega)
 have hand1 : bits .and .u64 (s : Int) 63 = (s : Int) := by rw [and63_u64 _ (by omega) (by omega)]; omega
 have hand2 : bits .and .u64 (64 - (s : Int)) 63 = 64 - (s : Int) := by rw [and63_u64 _ (by omega) (by omega)]; omega
 have hws := seg_wds hx.2 ox n
 have hl : (seg xs ox n).length = n := seg_length hxl
 have hgd : ∀ k, k < n → (seg xs ox n).getD k 0 = xs.getD (ox + k) 0 := fun k hk => seg_getD hk
 have hcell := hx.cell (i := ox + (n - 1)) (by omega)
 have hret : mulC (seg xs ox n) (2 ^ s) 0 = xs.getD (ox + (n - 1)) 0 / 2 ^ (64 - s) := by
  have e : seg xs ox n = seg xs ox (n - 1) ++ [xs.getD (ox + (n - 1)) 0] := by
   have := seg_succ (xs := xs) (i := ox) (n := n - 1) (by omega); rwa [Nat.sub_add_cancel hn1] at this
  rw [e]; exact (mulC_shl _ (by omega) (seg_wds hx.2 _ _)).2.2 _
 have hstep : ∀ k, k + 1 < n → (mulD (seg xs ox n) (2 ^ s) 0).drop (k + 1) = (xs.getD (ox + (k + 1)) 0 * 2 ^ s + xs.getD (ox + k) 0 / 2 ^ (64 - s)) % 18446744073709551616 :: (mulD (seg xs ox n) (2 ^ s) 0).drop (k + 1 + 1) := by
  intro k hk
  rw [mulD_drop (by omega), hgd _ hk]
  congr 2
  have e : (seg xs ox n).take (k + 1) = seg xs ox k ++ [xs.getD (ox + k) 0] := by
   rw [← seg_succ (by omega)]; simp only [seg, List.take_take]; congr 1; omega
  rw [e, (mulC_shl _ (by omega) (seg_wds hx.2 _ _)).2.2]
 have hstep0 : mulD (seg xs ox n) (2 ^ s) 0 = (xs.getD ox 0 * 2 ^ s) % 18446744073709551616 :: (mulD (seg xs ox n) (2 ^ s) 0).drop 1 := by
  have := mulD_drop (xs := seg xs ox n) (y := 2 ^ s) (c := 0) (k := 0) (by omega)
  rw [hgd 0 (by omega)] at this
  simpa [mulC] using this
 have hDl := mulD_length (seg xs ox n) (2 ^ s) 0
 have hDw := mulD_wds (seg xs ox n) (2 ^ s) 0
 generalize mulD (seg xs ox n) (2 ^ s) 0 = D at *
 have HR := hid hret
 have HSTEP := hid hstep
 have HSTEP0 := hid hstep0
 have HDL := hid hDl
 have HL := hid hl
 have hwx := hx.wd (ox + (n - 1))
 clear hret hstep hstep0 hgd hl hDl
 rw [HR.out]
 generalize xs.getD (ox + (n - 1)) 0 = x at *
 obtain ⟨hx0, hx1⟩ := hwx
 go_enter Tryz.func202, Tryz.ntmps202
 go_wp2_with fail
 go_loopw [8] (fun i wr => ∃ k : Nat, k < n ∧ i = .int .i64 k ∧ Row wr bz (put zs (oz + k + 1) (D.drop (k + 1))) ∧ Chg (· = bz) w wr)
  (fun i _ => (intOf i).toNat)
 case atStart => exact ⟨n - 1, by omega, by go_num, by rw [List.drop_of_length_le (by have := HDL.out; have := HL.out; omega), put_nil]; exact hz, Chg.refl _ _⟩
 case round =>
  obtain ⟨k, hk, rfl, hzr, hcr⟩ := hrel
  have hdl : (D.drop (k + 1)).length = n - (k + 1) := by have := HDL.out; have := HL.out; simp; omega
  have HD := hid hdl
  clear hdl
  by_cases hk0 : k = 0
  ·subst hk0
   simp only [Nat.zero_add, Nat.add_zero] at hzr HD
   have hc0 := read_below (i := ox) hz hx hzr hcr (by have := HD.out; omega) (by omega) (fun e => by have := ax e; omega)
   have hcz := hzr.cell (i := oz) (by rw [put_length (by have := HD.out; omega)]; omega)
   have hfz := hzr.free oz
   have hw2 := hx.wd ox
   have hfin : Row (wr.setCell ⟨bz, oz, none⟩ (.int .u64 ((xs.getD ox 0 * 2 ^ s) % 18446744073709551616))) bz (put zs oz D) := by
    have h := hzr.set oz (v := (xs.getD ox 0 * 2 ^ s) % 18446744073709551616) (Wd.mod _)
    rw [put_cons _ (by have := HD.out; omega), ← HSTEP0.out] at h
    exact h
   have HFIN := hid hfin
   clear hfin
   generalize xs.getD ox 0 = y at *
   obtain ⟨hy0, hy1⟩ := hw2
   have hu : IntKind.u64.wrap (y * 2 ^ s) = (y * 2 ^ s) % 18446744073709551616 := IntKind.wrap_u64 _
   have hnp : 0 < n := by omega
   have hnp' : (0 : Int) < (n : Int) := by omega
   go_wp2_with fail
   go_ret
   exact ⟨rfl, HFIN.out, hcr.setCell (fun _ => rfl) _⟩
  ·obtain ⟨q, rfl⟩ : ∃ q, k = q + 1 := ⟨k - 1, by omega⟩
   have hc0 := read_below (i := ox + (q + 1)) hz hx hzr hcr (by have := HD.out; omega) (by omega) (fun e => by have := ax e; omega)
   have hc1 := read_below (i := ox + q) hz hx hzr hcr (by have := HD.out; omega) (by omega) (fun e => by have := ax e; omega)
   have hcz := hzr.cell (i := oz + (q + 1)) (by rw [put_length (by have := HD.out; omega)]; omega)
   have hfz := hzr.free (oz + (q + 1))
   have hw1 := hx.wd (ox + (q + 1))
   have hw2 := hx.wd (ox + q)
   have hfin : Row (wr.setCell ⟨bz, oz + (q + 1), none⟩ (.int .u64 ((xs.getD (ox + (q + 1)) 0 * 2 ^ s + xs.getD (ox + q) 0 / 2 ^ (64 - s)) % 18446744073709551616))).drew bz (put zs (oz + q + 1) (D.drop (q + 1))) := by
    have h := hzr.set (oz + (q + 1)) (v := (xs.getD (ox + (q + 1)) 0 * 2 ^ s + xs.getD (ox + q) 0 / 2 ^ (64 - s)) % 18446744073709551616) (Wd.mod _)
    rw [show oz + (q + 1) + 1 = (oz + (q + 1)) + 1 by omega, put_cons _ (by have := HD.out; omega), ← HSTEP.out q hk] at h
    exact h
   have HFIN := hid hfin
   clear hfin
   generalize xs.getD (ox + (q + 1)) 0 = y at *
   generalize xs.getD (ox + q) 0 = t at *
   have hor := shl_or (x := y) (y := t) (s := s) (by omega) hw1.1 hw2
   obtain ⟨hy0, hy1⟩ := hw1
   obtain ⟨ht0, ht1⟩ := hw2
   have hu : IntKind.u64.wrap (y * 2 ^ s) = (y * 2 ^ s) % 18446744073709551616 := IntKind.wrap_u64 _
   have hgt : (0 : Int) < ((q : Int) + 1) := by omega
   go_wp2_with fail
   go_region
   go_wp2_with fail
   go_roundw
   case rel => exact ⟨q, by omega, by go_num, HFIN.out, (hcr.setCell (fun _ => rfl) _).drew⟩
   case measure => simp [intOf]
theorem lshVU_any (bz oz cz bx ox cx n s : Nat) (zs xs : List Int) (w : World) (hz : Row w bz zs) (hx : Row w bx xs) (hzl : oz + n ≤ zs.length) (hxl : ox + n ≤ xs.length)
  (ax : bx = bz → ox ≤ oz) (hn1 : 1 ≤ n) (hn : n ≤ 1000000) (hs1 : 1 ≤ s) (hs2 : s ≤ 63) :
  Calls Tryz.prog 173 #[.slice (some ⟨bz, oz, none⟩) n cz, .slice (some ⟨bx, ox, none⟩) n cx, .int .u64 s] w fun e w' =>
   e = .returned (.int .u64 (mulC (seg xs ox n) (2 ^ s) 0)) ∧ Row w' bz (put zs oz (mulD (seg xs ox n) (2 ^ s) 0)) ∧ Chg (· = bz) w w' := by
 go_enter Tryz.func173, Tryz.ntmps173
 go_wp2_with (go_at_call 202; refine (lshVU_g_any bz oz cz bx ox cx n s zs xs _ hz hx hzl hxl ax hn1 hn hs1 hs2).mono ?_; rintro e w' ⟨rfl, hr, hc⟩)
 go_ret
 exact ⟨rfl, hr, hc⟩
def shrD (s : Nat) : List Int → List Int
 | [] => []
 | x :: r => (x / 2 ^ s + (r.headD 0 * 2 ^ (64 - s)) % 18446744073709551616) :: shrD s r
theorem shrD_length (s : Nat) : ∀ xs : List Int, (shrD s xs).length = xs.length
 | [] => rfl
 | x :: r => by simp [shrD, shrD_length s r]
theorem shr_wd {s : Nat} (h1 : 1 ≤ s) (hs : s ≤ 63) {x y : Int} (hx : Wd x) (hy : 0 ≤ y) : Wd (x / 2 ^ s + (y * 2 ^ (64 - s)) % 18446744073709551616) := by
 obtain ⟨h0, h1'⟩ := shr_lt (s := 64 - s) (by omega) hx
 rw [show 64 - (64 - s) = s by omega] at h0 h1'
 have := shl_digit (x := y) (c := x / 2 ^ s) (s := 64 - s) (by omega) h0 h1'
 have hw := Wd.mod (y * 2 ^ (64 - s) + x / 2 ^ s)
 rw [this, Int.add_comm] at hw; exact hw
theorem shrD_wds {s : Nat} (h1 : 1 ≤ s) (hs : s ≤ 63) : ∀ {xs : List Int}, Wds xs → Wds (shrD s xs)
 | [], _ => Wds.nil
 | x :: r, h => Wds.cons (shr_wd h1 hs h.head (by cases r with | nil => simp | cons y r => exact h.tail.head.1)) (shrD_wds h1 hs h.tail)
theorem shrD_val {s : Nat} (hs : s ≤ 64) : ∀ {xs : List Int}, Wds xs → val (shrD s xs) * 2 ^ s + xs.headD 0 % 2 ^ s = val xs
 | [], _ => by simp [shrD, val]
 | x :: r, h => by
  have ih := shrD_val hs h.tail
  have e := pow_split hs
  have hq := pow_pos' (64 - s)
  simp only [shrD, val, List.headD_cons]
  generalize r.headD 0 = t at *
  have h1 : (t * 2 ^ (64 - s)) % 18446744073709551616 * 2 ^ s = 18446744073709551616 * (t % 2 ^ s) := by
   rw [← e, Int.mul_comm t, Int.mul_comm (2 ^ s) (2 ^ (64 - s)), Int.mul_emod_mul_of_pos _ _ hq, Int.mul_assoc, Int.mul_comm (t % 2 ^ s), ← Int.mul_assoc, Int.mul_comm (2 ^ (64 - s)) (2 ^ s)]
  have h2 := Int.mul_ediv_add_emod x (2 ^ s)
  rw [Int.add_mul, Int.add_mul, h1, Int.mul_assoc, Int.mul_comm (x / 2 ^ s)]
  generalize val (shrD s r) * 2 ^ s = u at *
  generalize (2 : Int) ^ s * (x / 2 ^ s) = v at *
  omega
theorem shrD_div {s : Nat} (hs : s ≤ 64) {xs : List Int} (h : Wds xs) : val (shrD s xs) = val xs / 2 ^ s := by
 have := shrD_val hs h
 have hp := pow_pos' s
 have h0 := Int.emod_nonneg (xs.headD 0) (show (2 : Int) ^ s ≠ 0 by omega)
 have h1 := Int.emod_lt_of_pos (xs.headD 0) hp
 rw [← this, Int.add_comm, Int.add_mul_ediv_right _ _ (by omega), Int.ediv_eq_zero_of_lt h0 h1, Int.zero_add]
theorem shrD_take (s : Nat) : ∀ (xs : List Int) (k : Nat), k < xs.length → (shrD s xs).take (k + 1) = (shrD s xs).take k ++ [xs.getD k 0 / 2 ^ s + (xs.getD (k + 1) 0 * 2 ^ (64 - s)) % 18446744073709551616]
 | [], k, h => by simp at h
 | x :: r, 0, _ => by cases r <;> simp [shrD]
 | x :: r, k + 1, h => by
  have := shrD_take s r k (by simpa using h)
  simp only [shrD, List.take_succ_cons, List.getD_cons_succ, List.cons_append] at this ⊢
  rw [this]
theorem or_shr {x y : Int} {s : Nat} (h1 : 1 ≤ s) (hs : s ≤ 63) (hx : Wd x) (hy : 0 ≤ y) : bits .or .u64 (x / 2 ^ s) ((y * 2 ^ (64 - s)) % 18446744073709551616) = x / 2 ^ s + (y * 2 ^ (64 - s)) % 18446744073709551616 := by
 obtain ⟨h0, h1'⟩ := shr_lt (s := 64 - s) (by omega) hx
 rw [show 64 - (64 - s) = s by omega] at h0 h1'
 obtain ⟨a, ha, e⟩ := shl_mod (x := y) (s := 64 - s) (by omega) hy
 have hw := Wd.mod (y * 2 ^ (64 - s))
 rw [e] at hw ⊢
 obtain ⟨A, hA⟩ := Int.eq_ofNat_of_zero_le hw.1
 obtain ⟨C, hC⟩ := Int.eq_ofNat_of_zero_le h0
 have hor := or_sum (a := a) (b := x / 2 ^ s) (s := 64 - s) ha (by omega) hw.2 h0 h1'
 have hx2 := hx.2
 have hle : x / 2 ^ s ≤ x := Int.ediv_le_self _ hx.1
 unfold Wd at hw
 rw [hA, hC] at hor ⊢
 rw [u64_or_nat _ _ (by omega) (by omega)] at hor ⊢
 rw [Nat.or_comm, hor, Int.add_comm]
set_option maxHeartbeats 1000000 in
theorem rshVU_g_any (bz oz cz bx ox cx n s : Nat) (zs xs : List Int) (w : World) (hz : Row w bz zs) (hx : Row w bx xs) (hzl : oz + n ≤ zs.length) (hxl : ox + n ≤ xs.length)
  (ax : bx = bz → oz ≤ ox) (hn1 : 1 ≤ n) (hn : n ≤ 1000000) (hs1 : 1 ≤ s) (hs2 : s ≤ 63) :
  Calls Tryz.prog 227 #[.slice (some ⟨bz, oz, none⟩) n cz, .slice (some ⟨bx, ox, none⟩) n cx, .int .u64 s] w fun e w' =>
   e = .returned (.int .u64 ((xs.getD ox 0 * 2 ^ (64 - s)) % 18446744073709551616)) ∧ Row w' bz (put zs oz (shrD s (seg xs ox n))) ∧ Chg (· = bz) w w' := by
 have hb0 : ((s : Int) == 0) = false := beq_eq_false_iff_ne.2 (by omega)
 have hbn : ((n : Int) == 0) = false := beq_eq_false_iff_ne.2 (by omega)
 have hand1 : bits .and .u64 (s : Int) 63 = (s : Int) := by rw [and63_u64 _ (by omega) (by omega)]; omega
 have hand2 : bits .and .u64 (64 - (s : Int)) 63 = 64 - (s : Int) := by rw [and63_u64 _ (by omega) (by omega)]; omega
 have hws := seg_wds hx.2 ox n
 have hl : (seg xs ox n).length = n := seg_length hxl
 have hgd : ∀ k, k < n → (seg xs ox n).getD k 0 = xs.getD (ox + k) 0 := fun k hk => seg_getD hk
 have hgn : (seg xs ox n).getD n 0 = 0 := by simp [List.getD, hl]
 have hcell := hx.cell (i := ox) (by omega)
 have hDl := shrD_length s (seg xs ox n)
 have hDw := shrD_wds hs1 hs2 hws
 have hstep : ∀ k, k < n → (shrD s (seg xs ox n)).take (k + 1) = (shrD s (seg xs ox n)).take k ++ [(seg xs ox n).getD k 0 / 2 ^ s + ((seg xs ox n).getD (k + 1) 0 * 2 ^ (64 - s)) % 18446744073709551616] := fun k hk => shrD_take s _ k (by omega)
 have hall : (shrD s (seg xs ox n)).take n = shrD s (seg xs ox n) := List.take_of_length_le (by omega)
 generalize shrD s (seg xs ox n) = D at *
 have HSTEP := hid hstep
 have HALL := hid hall
 have HGD := hid hgd
 have HGN := hid hgn
 have hdl : ∀ k, k ≤ n → (D.take k).length = k := fun k hk => by simp; omega
 have HDL := hid hdl
 have hu0 : IntKind.u64.wrap (xs.getD ox 0 * 2 ^ (64 - s)) = (xs.getD ox 0 * 2 ^ (64 - s)) % 18446744073709551616 := IntKind.wrap_u64 _
 obtain ⟨hx0, hx1⟩ := hx.wd ox
 clear hstep hall hgd hgn hl hDl hdl
 generalize xs.getD ox 0 = x0 at *
 have hnp : 0 < n := by omega
 have hnp' : (0 : Int) < (n : Int) := by omega
 go_enter Tryz.func227, Tryz.ntmps227
 go_wp2_with fail
 go_loopw [8] (fun i wr => ∃ k : Nat, k < n ∧ i = .int .i64 (k + 1) ∧ Row wr bz (put zs oz (D.take k)) ∧ Chg (· = bz) w wr)
  (fun i _ => n - (intOf i).toNat)
 case atStart => exact ⟨0, by omega, by go_num, by rw [List.take_zero, put_nil]; exact hz, Chg.refl _ _⟩
 case round =>
  obtain ⟨k, hk, rfl, hzr, hcr⟩ := hrel
  have hdk := HDL.out k (by omega)
  have hcz := hzr.cell (i := oz + k) (by rw [put_length (by omega)]; omega)
  have hfz := hzr.free (oz + k)
  have hc0 := read_ahead hz hx hzr hcr hdk (by omega) (by omega) ax
  have hst := HSTEP.out k hk
  rw [HGD.out k hk] at hst
  have hw1 := hx.wd (ox + k)
  have hps : ∀ v, (put zs oz (D.take k)).set (oz + k) v = put zs oz (D.take k ++ [v]) := fun v => by
   have := put_snoc (xs := zs) (i := oz) (ds := D.take k) v (by omega)
   rwa [hdk] at this
  have HPS := hid hps
  clear hps
  by_cases hlt : k + 1 < n
  ·have hc1 := hzr
   have hc1 : wr.cell? ⟨bx, ox + (k + 1), none⟩ = some (.int .u64 (xs.getD (ox + (k + 1)) 0)) := by
    by_cases e : bx = bz
    ·subst e
     obtain rfl := hx.inj hz
     rw [hzr.cell (by rw [put_length (by omega)]; omega), put_getD_ahead (by omega) (by have := ax rfl; omega)]
    ·exact (hx.kept hcr e).cell (by omega)
   rw [HGD.out (k + 1) hlt] at hst
   have hw2 := hx.wd (ox + (k + 1))
   have hfin : Row (wr.setCell ⟨bz, oz + k, none⟩ (.int .u64 (xs.getD (ox + k) 0 / 2 ^ s + (xs.getD (ox + (k + 1)) 0 * 2 ^ (64 - s)) % 18446744073709551616))).drew bz (put zs oz (D.take (k + 1))) := by
    have h := hzr.set (oz + k) (v := xs.getD (ox + k) 0 / 2 ^ s + (xs.getD (ox + (k + 1)) 0 * 2 ^ (64 - s)) % 18446744073709551616) (shr_wd hs1 hs2 hw1 hw2.1)
    rw [HPS.out, ← hst] at h; exact h
   have HFIN := hid hfin
   clear hfin hst hdk
   generalize xs.getD (ox + k) 0 = y at *
   generalize xs.getD (ox + (k + 1)) 0 = t at *
   have hor := or_shr (x := y) (y := t) (s := s) hs1 hs2 hw1 hw2.1
   obtain ⟨hy0, hy1⟩ := hw1
   obtain ⟨ht0, ht1⟩ := hw2
   have hu : IntKind.u64.wrap (t * 2 ^ (64 - s)) = (t * 2 ^ (64 - s)) % 18446744073709551616 := IntKind.wrap_u64 _
   go_wp2_with fail
   go_region
   go_wp2_with fail
   go_roundw
   case rel => exact ⟨k + 1, by omega, by go_num, HFIN.out, (hcr.setCell (fun _ => rfl) _).drew⟩
   case measure => simp [intOf]; omega
  ·obtain rfl : n = k + 1 := by omega
   rw [HGN.out, Int.zero_mul, Int.zero_emod, Int.add_zero, HALL.out] at hst
   have hfin : Row (wr.setCell ⟨bz, oz + k, none⟩ (.int .u64 (xs.getD (ox + k) 0 / 2 ^ s))) bz (put zs oz D) := by
    have hwd : Wd (xs.getD (ox + k) 0 / 2 ^ s) := by have := shr_wd hs1 hs2 hw1 (y := 0) (by omega); simpa using this
    have h := hzr.set (oz + k) (v := xs.getD (ox + k) 0 / 2 ^ s) hwd
    rw [HPS.out, ← hst] at h; exact h
   have HFIN := hid hfin
   clear hfin hst hdk
   generalize xs.getD (ox + k) 0 = y at *
   obtain ⟨hy0, hy1⟩ := hw1
   go_wp2_with fail
   go_ret
   exact ⟨rfl, HFIN.out, hcr.setCell (fun _ => rfl) _⟩
theorem rshVU_any (bz oz cz bx ox cx n s : Nat) (zs xs : List Int) (w : World) (hz : Row w bz zs) (hx : Row w bx xs) (hzl : oz + n ≤ zs.length) (hxl : ox + n ≤ xs.length)
  (ax : bx = bz → oz ≤ ox) (hn1 : 1 ≤ n) (hn : n ≤ 1000000) (hs1 : 1 ≤ s) (hs2 : s ≤ 63) :
  Calls Tryz.prog 201 #[.slice (some ⟨bz, oz, none⟩) n cz, .slice (some ⟨bx, ox, none⟩) n cx, .int .u64 s] w fun e w' =>
   e = .returned (.int .u64 ((xs.getD ox 0 * 2 ^ (64 - s)) % 18446744073709551616)) ∧ Row w' bz (put zs oz (shrD s (seg xs ox n))) ∧ Chg (· = bz) w w' := by
 have hwm := Wd.mod (xs.getD ox 0 * 2 ^ (64 - s))
 have hc := fun w hz hx => rshVU_g_any bz oz cz bx ox cx n s zs xs w hz hx hzl hxl ax hn1 hn hs1 hs2
 generalize (xs.getD ox 0 * 2 ^ (64 - s)) % 18446744073709551616 = r at *
 have HC := hid hc
 clear hc
 go_enter Tryz.func201, Tryz.ntmps201
 go_wp2_with (go_at_call 227; refine (HC.out _ hz hx).mono ?_; rintro e w' ⟨rfl, hr, hc⟩)
 go_ret
 exact ⟨rfl, hr, hc⟩
theorem run_clear_none (w : World) (ty T : TypeId) (a : Option Addr) (c : Nat) (hu : Tryz.prog.underlying T = some (.slice 136)) :
  (Builtin.clear_ #[T] ty #[.slice a 0 c]).run Tryz.prog w = .ok (.tuple #[]) w := by
 cases a <;> simp [Builtin.clear_, run_underlying hu]
set_option maxHeartbeats 1000000 in
theorem lsh_any (v vx : Value) (bo bx : Option Nat) (zs xs : List Int) (s : Nat) (w : World) (hz : NatAt w v bo zs) (hx : NatAt w vx bx xs) (hs1 : 1 ≤ s) (hs2 : s ≤ 63) (hm : xs.length ≤ 100000) :
  Calls Tryz.prog 147 #[v, vx, .int .u64 s] w (PNat w bo (val xs * 2 ^ s)) := by
 have hb0 : ((s : Int) == 0) = false := beq_eq_false_iff_ne.2 (by omega)
 by_cases h0 : xs.length = 0
 ·obtain rfl : xs = [] := List.length_eq_zero_iff.1 h0
  obtain ⟨a, c, rfl⟩ := hz.len
  obtain ⟨a1, c1, rfl⟩ := hx.len
  have hfin : PNat w bo (val [] * 2 ^ s) (.returned (.slice a 0 c)) w := ⟨_, _, _, rfl, hz.cut0, Nrm.nil, by simp [val], .inl rfl, Chg.refl _ _⟩
  have HFIN := hid hfin
  clear hfin hz hx
  go_enter Tryz.func147, Tryz.ntmps147
  go_wp2_with fail
  go_ret
  exact HFIN.out
 ·obtain ⟨b, rfl⟩ := hx.ne_nil (by intro e; subst e; exact h0 rfl)
  obtain ⟨sp, rfl, hrx, hx1, hx2⟩ := hx
  have hbm : ((xs.length : Int) == 0) = false := beq_eq_false_iff_ne.2 (by omega)
  have hmk := fun w1 hz => make_any v bo zs (xs.length + 1) w1 hz (by omega) (by omega)
  have HMK := hid hmk
  clear hmk
  rw [show ((xs.length + 1 : Nat) : Int) = (xs.length : Int) + 1 by omega] at HMK
  have hxs : seg (xs ++ sp) 0 xs.length = xs := by simp [seg]
  have hwp := pow_wd hs2
  have hfin : ∀ (g : Nat) (rs : List Int) (w1 w3 : World), Row w1 g rs → xs.length + 1 ≤ rs.length → rs.length ≤ 9223372036854775807 → (bo = some g ∨ w.heap.size ≤ g) → Chg (fun _ => False) w w1 → Row w3 g (put rs 0 (mulD xs (2 ^ s) 0)) → Chg (· = g) w1 w3 →
    Calls Tryz.prog 129 #[.slice (some ⟨g, 0, none⟩) (xs.length + 1) rs.length] (w3.setCell ⟨g, xs.length, none⟩ (.int .u64 (mulC xs (2 ^ s) 0))) (PNat w bo (val xs * 2 ^ s)) := by
   intro g rs w1 w3 h1 h2 h3 h4 h5 h6 h7
   have hlen := mulD_length xs (2 ^ s) 0
   have k9 := h6.set xs.length (v := mulC xs (2 ^ s) 0) (mulC_wd _ _ _ hrx.2.left hwp wd0)
   have hsn : (put rs 0 (mulD xs (2 ^ s) 0)).set xs.length (mulC xs (2 ^ s) 0) = put rs 0 (mulD xs (2 ^ s) 0 ++ [mulC xs (2 ^ s) 0]) := by
    have := put_snoc (xs := rs) (i := 0) (ds := mulD xs (2 ^ s) 0) (mulC xs (2 ^ s) 0) (by omega)
    rwa [hlen, Nat.zero_add] at this
   rw [hsn] at k9
   refine (norm_put g (xs.length + 1) rs (mulD xs (2 ^ s) 0 ++ [mulC xs (2 ^ s) 0]) _ k9 (by simp [hlen]) h2 (by omega) h3).mono fun e w' hp => nat_fin h5 h4 (h7.setCell (fun _ => rfl) _) hp ?_
   have := mulD_val xs (2 ^ s) 0
   rw [val_snoc, hlen]; omega
  have HFIN := hid hfin
  have hmv := fun (w1 : World) (g : Nat) (rs : List Int) (hg : Row w1 g rs) (hx : Row w1 b (xs ++ sp)) (hl : xs.length + 1 ≤ rs.length) => lshVU_any g 0 rs.length b 0 (xs.length + sp.length) xs.length s rs (xs ++ sp) w1 hg hx (by omega) (by simp) (fun _ => Nat.le_refl _) (by omega) (by omega) hs1 hs2
  rw [hxs] at hmv
  have HMV := hid hmv
  have hcw := mulC_wd xs (2 ^ s) 0 hrx.2.left hwp wd0
  have hml := mulD_length xs (2 ^ s) 0
  have HML := hid hml
  clear hfin hmv hxs hml hwp
  generalize hcx : xs.length + sp.length = cx at *
  have hmc : xs.length ≤ cx := by omega
  clear hcx
  generalize xs.length = m at *
  generalize mulC xs (2 ^ s) 0 = c at *
  obtain ⟨hcw0, hcw1⟩ := hcw
  have hq1 : (s : Int) / 64 = 0 := by omega
  have hq2 : (s : Int) % 64 = s := by omega
  have hcl := fun (w1 : World) ty a c => run_clear_none w1 ty 119 a c Tryz.underlying119
  go_enter Tryz.func147, Tryz.ntmps147
  go_wp2_with (first | (go_at_call 121; refine (HMK.out _ hz).mono ?_; rintro e w1 ⟨g, rs, rfl, hrr, hl1, hl2, hl3, hbo, hc⟩) | (go_at_call 173; refine (HMV.out _ g rs hrr (hrx.kept hc (fun h => h)) hl1).mono ?_; rintro e w3 ⟨rfl, hr3, hc3⟩; have hcell := hr3.cell (i := m) (by rw [put_length (by have := HML.out; omega)]; omega); have hfree := hr3.free m; have hno := HFIN.out g rs w1 w3 hrr hl1 hl3 hbo hc hr3 hc3; have HNO := hid hno; clear hno) | (go_at_call 129; refine (HNO.out).mono ?_; rintro e w7 ⟨v', b', ds', rfl, j1, j2, j3, j4, j5⟩))
  go_ret
  exact ⟨v', b', ds', rfl, j1, j2, j3, j4, j5⟩
end Go.Proofs.YthdkandofddohaaGreatDoor
namespace Go.Proofs
open Go.Shelf
def Tryz.lays134_ren : Go.Shelf.Ren := ⟨fun | 134 => 244 | 129 => 236 | n => n, fun | 53 => 22 | 3 => 3 | 4 => 4 | 46 => 130 | 5 => 5 | 9 => 9 | n => n, fun | n => n⟩
theorem Tryz.lays134 : Go.Proofs.Lays.n134 Tryz.prog Tryz.lays134_ren := {
 mixed := by kernel_rfl
 f129 := Tryz.func236.trans (congrArg some (by kernel_rfl))
 f134 := Tryz.func244.trans (congrArg some (by kernel_rfl))
 t3 := Tryz.underlying3
 a3 := Tryz.isAgg3
 z3 := Tryz.sizeOf3
 v3 := Tryz.zeroValue3
 t4 := Tryz.underlying4
 a4 := Tryz.isAgg4
 z4 := Tryz.sizeOf4
 v4 := Tryz.zeroValue4
 t5 := Tryz.underlying5
 a5 := Tryz.isAgg5
 z5 := Tryz.sizeOf5
 v5 := Tryz.zeroValue5
 t9 := Tryz.underlying9
 a9 := Tryz.isAgg9
 z9 := Tryz.sizeOf9
 v9 := Tryz.zeroValue9
 t46 := Tryz.underlying130
 a46 := Tryz.isAgg130
 z46 := Tryz.sizeOf130
 v46 := Tryz.zeroValue130
 t53 := Tryz.underlying22
 a53 := Tryz.isAgg22
 z53 := Tryz.sizeOf22
 v53 := Tryz.zeroValue22 }
theorem Tryz.bits_LeadingZeros64 (x : Int) (w : World) (h0 : 0 ≤ x) (h1 : x ≤ 18446744073709551615) :
  Calls Tryz.prog 244 #[.int .u64 x] w fun e w' => e = .returned (.int .i64 (64 - (Lib.bitLen x.toNat : Int))) ∧ w' = w := Any.bits_LeadingZeros64 Tryz.lays134 x w h0 h1
def Tryz.lays130_ren : Go.Shelf.Ren := ⟨fun | 130 => 215 | 125 => 216 | 128 => 235 | 129 => 236 | n => n, fun | 46 => 130 | 3 => 3 | 51 => 86 | 53 => 22 | 4 => 4 | 5 => 5 | 9 => 9 | n => n, fun | n => n⟩
theorem Tryz.lays130 : Go.Proofs.Lays.n130 Tryz.prog Tryz.lays130_ren := {
 mixed := by kernel_rfl
 f125 := Tryz.func216.trans (congrArg some (by kernel_rfl))
 f128 := Tryz.func235.trans (congrArg some (by kernel_rfl))
 f129 := Tryz.func236.trans (congrArg some (by kernel_rfl))
 f130 := Tryz.func215.trans (congrArg some (by kernel_rfl))
 t3 := Tryz.underlying3
 a3 := Tryz.isAgg3
 z3 := Tryz.sizeOf3
 v3 := Tryz.zeroValue3
 t4 := Tryz.underlying4
 a4 := Tryz.isAgg4
 z4 := Tryz.sizeOf4
 v4 := Tryz.zeroValue4
 t5 := Tryz.underlying5
 a5 := Tryz.isAgg5
 z5 := Tryz.sizeOf5
 v5 := Tryz.zeroValue5
 t9 := Tryz.underlying9
 a9 := Tryz.isAgg9
 z9 := Tryz.sizeOf9
 v9 := Tryz.zeroValue9
 t46 := Tryz.underlying130
 a46 := Tryz.isAgg130
 z46 := Tryz.sizeOf130
 v46 := Tryz.zeroValue130
 t51 := Tryz.underlying86
 a51 := Tryz.isAgg86
 z51 := Tryz.sizeOf86
 v51 := Tryz.zeroValue86
 t53 := Tryz.underlying22
 a53 := Tryz.isAgg22
 z53 := Tryz.sizeOf22
 v53 := Tryz.zeroValue22 }
theorem Tryz.bits_LeadingZeros (x : Int) (w : World) (h0 : 0 ≤ x) (h1 : x ≤ 18446744073709551615) :
  Calls Tryz.prog 215 #[.int .u64 x] w fun e w' => e = .returned (.int .i64 (64 - (Lib.bitLen x.toNat : Int))) ∧ w' = w := Any.bits_LeadingZeros Tryz.lays130 x w h0 h1
end Go.Proofs
namespace Go.Proofs.YthdkandofddohaaGreatDoor
open Go.RowKit
set_option linter.unusedVariables false
set_option linter.unusedSimpArgs false
set_option maxRecDepth 20000
theorem bitLen_bds : ∀ (f x : Nat), x < 2 ^ f → x ≠ 0 → 1 ≤ Lib.bitLenAux f x ∧ 2 ^ (Lib.bitLenAux f x - 1) ≤ x ∧ x < 2 ^ Lib.bitLenAux f x
 | 0, x, h, h0 => by simp at h; omega
 | f + 1, x, h, h0 => by
  simp only [Lib.bitLenAux, if_neg h0]
  by_cases k : x / 2 = 0
  ·have : Lib.bitLenAux f (x / 2) = 0 := by rw [k]; cases f <;> simp [Lib.bitLenAux]
   rw [this]
   simp
   omega
  ·obtain ⟨a, b, c⟩ := bitLen_bds f (x / 2) (by rw [Nat.pow_succ] at h; omega) k
   generalize Lib.bitLenAux f (x / 2) = L at *
   obtain ⟨m, rfl⟩ : ∃ m, L = m + 1 := ⟨L - 1, by omega⟩
   refine ⟨by omega, ?_, ?_⟩
   ·rw [show 1 + (m + 1) - 1 = m + 1 by omega, Nat.pow_succ]
    simp at b; omega
   ·rw [show 1 + (m + 1) = (m + 1) + 1 by omega, Nat.pow_succ]; omega
def nlzN (y : Int) : Nat := 64 - Lib.bitLen y.toNat
theorem bitLen_le64 {y : Int} (hy : Wd y) : Lib.bitLen y.toNat ≤ 64 := Lib.bitLen_le _ 64 (by omega) (by obtain ⟨h0, h1⟩ := hy; have : (2 : Nat) ^ 64 = 18446744073709551616 := rfl; omega)
theorem nlzN_int {y : Int} (hy : Wd y) : (64 - (Lib.bitLen y.toNat : Int)) = (nlzN y : Int) := by
 have := bitLen_le64 hy
 unfold nlzN; omega
theorem nlzN_spec {y : Int} (hy : Wd y) (h1 : 1 ≤ y) : nlzN y ≤ 63 ∧ 9223372036854775808 ≤ y * 2 ^ nlzN y ∧ y * 2 ^ nlzN y < 18446744073709551616 := by
 obtain ⟨hy0, hy1⟩ := hy
 obtain ⟨n, rfl⟩ := Int.eq_ofNat_of_zero_le hy0
 have hn : n < 2 ^ 64 := by have : (2 : Nat) ^ 64 = 18446744073709551616 := rfl; omega
 obtain ⟨k1, k2, k3⟩ := bitLen_bds 64 n hn (by omega)
 have hb := Lib.bitLen_le n 64 (by omega) hn
 have e : Lib.bitLen n = Lib.bitLenAux 64 n := rfl
 unfold nlzN
 rw [Int.toNat_natCast]
 rw [← e] at k1 k2 k3
 generalize Lib.bitLen n = L at *
 have e1 : (2 : Nat) ^ L * 2 ^ (64 - L) = 18446744073709551616 := by rw [← Nat.pow_add, show L + (64 - L) = 64 by omega]
 have e2 : (2 : Nat) ^ (L - 1) * 2 ^ (64 - L) = 9223372036854775808 := by rw [← Nat.pow_add, show L - 1 + (64 - L) = 63 by omega]
 have hp : 0 < (2 : Nat) ^ (64 - L) := Nat.pow_pos (by omega)
 have k4 := Nat.mul_le_mul_right (2 ^ (64 - L)) k2
 have k5 := Nat.mul_lt_mul_of_pos_right k3 hp
 rw [e2] at k4; rw [e1] at k5
 have e3 : ((n : Int) * 2 ^ (64 - L)) = ((n * 2 ^ (64 - L) : Nat) : Int) := by simp
 rw [e3]
 generalize n * 2 ^ (64 - L) = p at *
 exact ⟨by omega, by omega, by omega⟩
theorem nlz_any (y : Int) (hy : Wd y) (w : World) :
  Calls Tryz.prog 191 #[.int .u64 y] w fun e w' => e = .returned (.int .u64 (nlzN y)) ∧ w = w' := by
 have hb := bitLen_le64 hy
 have hn := nlzN_int hy
 have hcall := fun w => Tryz.bits_LeadingZeros y w hy.1 (by have := hy.2; omega)
 rw [hn] at hcall
 have hle : nlzN y ≤ 64 := by unfold nlzN; omega
 clear hn hb
 generalize nlzN y = s at *
 obtain ⟨hy0, hy1⟩ := hy
 go_enter Tryz.func191, Tryz.ntmps191
 go_wp2_with (go_at_call 215; refine (hcall _).mono ?_; rintro e w' ⟨rfl, rfl⟩)
 go_ret
 exact ⟨rfl, rfl⟩
structure Half (y1 y0 u d : Int) : Prop where
 h1 : 2147483648 ≤ y1
 h2 : y1 < 4294967296
 h3 : 0 ≤ y0
 h4 : y0 < 4294967296
 h5 : 0 ≤ u
 h6 : u < y1 * 4294967296 + y0
 h7 : 0 ≤ d
 h8 : d < 4294967296
def halfQ (y1 y0 u d : Int) : Int := (u * 4294967296 + d) / (y1 * 4294967296 + y0)
theorem Half.pos {y1 y0 u d : Int} (h : Half y1 y0 u d) : 0 < y1 * 4294967296 + y0 := by have := h.h1; have := h.h3; omega
theorem Half.q_lt {y1 y0 u d : Int} (h : Half y1 y0 u d) : 0 ≤ halfQ y1 y0 u d ∧ halfQ y1 y0 u d < 4294967296 := by
 obtain ⟨h1, h2, h3, h4, h5, h6, h7, h8⟩ := h
 exact ⟨Int.ediv_nonneg (by omega) (by omega), Int.ediv_lt_of_lt_mul (by omega) (by omega)⟩
theorem Half.start {y1 y0 u d : Int} (h : Half y1 y0 u d) : halfQ y1 y0 u d ≤ u / y1 ∧ 0 ≤ u / y1 ∧ u / y1 ≤ 8589934592 ∧ 0 ≤ u - u / y1 * y1 ∧ u - u / y1 * y1 < 4294967296 ∧ 0 ≤ u / y1 * y1 ∧ u / y1 * y1 ≤ u ∧ u < 18446744073709551616 := by
 have hq := h.q_lt
 obtain ⟨h1, h2, h3, h4, h5, h6, h7, h8⟩ := h
 have e := Int.mul_ediv_add_emod u y1
 have m0 := Int.emod_nonneg u (show y1 ≠ 0 by omega)
 have m1 := Int.emod_lt_of_pos u (show 0 < y1 by omega)
 have q0 : 0 ≤ u / y1 := Int.ediv_nonneg h5 (by omega)
 rw [Int.mul_comm] at e
 have q1 : u / y1 ≤ 8589934592 := by
  have : u / y1 < 8589934593 := Int.ediv_lt_of_lt_mul (by omega) (by omega)
  omega
 refine ⟨?_, q0, q1, by omega, by omega, Int.mul_nonneg q0 (by omega), by omega, by omega⟩
 unfold halfQ
 have hlt : (u * 4294967296 + d) / (y1 * 4294967296 + y0) < u / y1 + 1 := by
  apply Int.ediv_lt_of_lt_mul (by omega)
  generalize u / y1 = q at *
  generalize u % y1 = r at *
  have e2 : (q + 1) * (y1 * 4294967296 + y0) = q * y1 * 4294967296 + q * y0 + y1 * 4294967296 + y0 := by
   rw [Int.add_mul, Int.mul_add, ← Int.mul_assoc]; omega
  have := Int.mul_nonneg q0 h3
  omega
 omega
theorem Half.test {y1 y0 u d q r : Int} (h : Half y1 y0 u d) (e : u = q * y1 + r) : (q * y0 ≤ 4294967296 * r + d) ↔ q ≤ halfQ y1 y0 u d := by
 have hp := h.pos
 unfold halfQ
 rw [Int.le_ediv_iff_mul_le hp]
 have e2 : q * (y1 * 4294967296 + y0) = q * y1 * 4294967296 + q * y0 := by rw [Int.mul_add, ← Int.mul_assoc]
 omega
theorem Half.brk {y1 y0 u d q r : Int} (h : Half y1 y0 u d) (e : u = q * y1 + r) (hq : 0 ≤ q) (hr : 4294967296 ≤ r) : q ≤ halfQ y1 y0 u d := by
 have hqb : q < 4294967296 := by
  obtain ⟨h1, h2, h3, h4, h5, h6, h7, h8⟩ := h
  by_cases k : q < 4294967296
  ·exact k
  ·exfalso
   have := Int.mul_le_mul_of_nonneg_right (show (4294967296 : Int) ≤ q by omega) (show 0 ≤ y1 by omega)
   omega
 rw [← h.test e]
 have h7 := h.h7
 have h3 := h.h3
 have h4 := h.h4
 have := Int.mul_le_mul (show q ≤ 4294967295 by omega) (show y0 ≤ 4294967295 by omega) h3 (by omega)
 omega
theorem Half.rest {y1 y0 u d : Int} (h : Half y1 y0 u d) : u * 4294967296 + d - halfQ y1 y0 u d * (y1 * 4294967296 + y0) = (u * 4294967296 + d) % (y1 * 4294967296 + y0) ∧
  0 ≤ (u * 4294967296 + d) % (y1 * 4294967296 + y0) ∧ (u * 4294967296 + d) % (y1 * 4294967296 + y0) < y1 * 4294967296 + y0 := by
 have hp := h.pos
 have e := Int.mul_ediv_add_emod (u * 4294967296 + d) (y1 * 4294967296 + y0)
 rw [Int.mul_comm] at e
 refine ⟨by unfold halfQ; omega, Int.emod_nonneg _ (by omega), Int.emod_lt_of_pos _ hp⟩
structure DivNum (hi lo y : Int) (s : Nat) (Y u L y1 y0 d1 d0 Q1 R1 Q0 R0 : Int) : Prop where
 eY : y * 2 ^ s = Y
 eu : bits BinOp.or IntKind.u64 (IntKind.u64.wrap (hi * 2 ^ s)) (lo / 2 ^ (64 - s)) = u
 eL : IntKind.u64.wrap (lo * 2 ^ s) = L
 ey1 : Y / 4294967296 = y1
 ey0 : bits BinOp.and IntKind.u64 Y 4294967295 = y0
 ed1 : L / 4294967296 = d1
 ed0 : bits BinOp.and IntKind.u64 L 4294967295 = d0
 hY : Y = y1 * 4294967296 + y0
 hH1 : Half y1 y0 u d1
 hH0 : Half y1 y0 R1 d0
 eQ1 : halfQ y1 y0 u d1 = Q1
 eQ0 : halfQ y1 y0 R1 d0 = Q0
 eR1 : u * 4294967296 + d1 = Q1 * Y + R1
 eR0 : R1 * 4294967296 + d0 = Q0 * Y + R0
 eq : (hi * 18446744073709551616 + lo) / y = Q1 * 4294967296 + Q0
 er : (hi * 18446744073709551616 + lo) % y = R0 / 2 ^ s
 hR0 : 0 ≤ R0
 hR0' : R0 < Y
 hYb : Y < 18446744073709551616
theorem divNum {hi lo y : Int} {s : Nat} (hh : 0 ≤ hi) (hhy : hi < y) (hl : Wd lo) (hs : s ≤ 63) (hs1 : 9223372036854775808 ≤ y * 2 ^ s) (hs2 : y * 2 ^ s < 18446744073709551616) :
  ∃ Y u L y1 y0 d1 d0 Q1 R1 Q0 R0 : Int, DivNum hi lo y s Y u L y1 y0 d1 d0 Q1 R1 Q0 R0 := by
 have hp := pow_pos' s
 have hlow := shr_lt (s := s) (by omega) hl
 have hY1 : (hi + 1) * 2 ^ s ≤ y * 2 ^ s := Int.mul_le_mul_of_nonneg_right (by omega) (by omega)
 rw [Int.add_mul, Int.one_mul] at hY1
 have h0 : 0 ≤ hi * 2 ^ s := Int.mul_nonneg hh (by omega)
 have hw : IntKind.u64.wrap (hi * 2 ^ s) = (hi * 2 ^ s) % 18446744073709551616 := IntKind.wrap_u64 _
 have hu : bits BinOp.or IntKind.u64 (IntKind.u64.wrap (hi * 2 ^ s)) (lo / 2 ^ (64 - s)) = hi * 2 ^ s + lo / 2 ^ (64 - s) := by
  rw [hw, shl_or (by omega) hh hl]; omega
 have hN : (hi * 18446744073709551616 + lo) * 2 ^ s = (hi * 2 ^ s + lo / 2 ^ (64 - s)) * 18446744073709551616 + (lo * 2 ^ s) % 18446744073709551616 := by
  have := shl_carry (x := lo) (s := s) (c := 0) (by omega) (by omega) hp
  rw [Int.add_zero] at this
  rw [← this, Int.add_mul, Int.mul_right_comm hi]
  omega
 have hwL : IntKind.u64.wrap (lo * 2 ^ s) = (lo * 2 ^ s) % 18446744073709551616 := IntKind.wrap_u64 _
 have hL := Wd.mod (lo * 2 ^ s)
 have hul : hi * 2 ^ s + lo / 2 ^ (64 - s) < y * 2 ^ s := by omega
 have hu0 : 0 ≤ hi * 2 ^ s + lo / 2 ^ (64 - s) := by omega
 rw [← hwL] at hN hL
 rw [← hu] at hN hul hu0
 generalize hLd : IntKind.u64.wrap (lo * 2 ^ s) = L at *
 generalize hud : bits BinOp.or IntKind.u64 (IntKind.u64.wrap (hi * 2 ^ s)) (lo / 2 ^ (64 - s)) = u at *
 obtain ⟨hL0, hL1⟩ := hL
 have ha := and_low32 (y * 2 ^ s) (by omega) (by omega)
 have hb := and_low32 L (by omega) (by omega)
 have hq : ∀ Q R : Int, (hi * 18446744073709551616 + lo) * 2 ^ s = Q * (y * 2 ^ s) + R → 0 ≤ R → R < y * 2 ^ s → (hi * 18446744073709551616 + lo) / y = Q ∧ (hi * 18446744073709551616 + lo) % y = R / 2 ^ s := by
  intro Q R e r0 r1
  have k1 : (hi * 18446744073709551616 + lo) * 2 ^ s / (y * 2 ^ s) = Q := by
   rw [e, Int.add_comm, Int.add_mul_ediv_right _ _ (by omega), Int.ediv_eq_zero_of_lt r0 r1, Int.zero_add]
  have k2 : (hi * 18446744073709551616 + lo) * 2 ^ s % (y * 2 ^ s) = R := by
   rw [e, Int.add_comm, Int.add_mul_emod_self_right, Int.emod_eq_of_lt r0 r1]
  rw [Int.mul_ediv_mul_of_pos_left _ _ hp] at k1
  refine ⟨k1, ?_⟩
  rw [Int.mul_comm, Int.mul_comm y, Int.mul_emod_mul_of_pos _ _ hp] at k2
  rw [← k2, Int.mul_ediv_cancel_left _ (show (2 : Int) ^ s ≠ 0 by omega)]
 generalize hYd : y * 2 ^ s = Y at *
 generalize hNd : hi * 18446744073709551616 + lo = N at *
 have hH1 : Half (Y / 4294967296) (Y % 4294967296) u (L / 4294967296) := ⟨by omega, by omega, by omega, by omega, hu0, by omega, by omega, by omega⟩
 have hYe : Y = Y / 4294967296 * 4294967296 + Y % 4294967296 := by omega
 obtain ⟨r1, r2, r3⟩ := hH1.rest
 rw [← hYe] at r1 r2 r3
 generalize hR1 : (u * 4294967296 + L / 4294967296) % Y = R1 at *
 have hH0 : Half (Y / 4294967296) (Y % 4294967296) R1 (L % 4294967296) := ⟨by omega, by omega, by omega, by omega, r2, by omega, by omega, by omega⟩
 obtain ⟨r4, r5, r6⟩ := hH0.rest
 rw [← hYe] at r4 r5 r6
 generalize hR0 : (R1 * 4294967296 + L % 4294967296) % Y = R0 at *
 have hfin : N * 2 ^ s = (halfQ (Y / 4294967296) (Y % 4294967296) u (L / 4294967296) * 4294967296 + halfQ (Y / 4294967296) (Y % 4294967296) R1 (L % 4294967296)) * Y + R0 := by
  rw [hN, Int.add_mul, Int.mul_right_comm]
  omega
 obtain ⟨f1, f2⟩ := hq _ _ hfin r5 r6
 exact ⟨Y, u, L, _, _, _, _, _, R1, _, R0, hYd, hud, hLd, rfl, ha, rfl, hb, hYe, hH1, hH0, rfl, rfl, by omega, by omega, by rw [hNd]; exact f1, by rw [hNd]; exact f2, r5, r6, by omega⟩
structure HalfAt (y1 u Q q r : Int) : Prop where
 e : u = q * y1 + r
 r0 : 0 ≤ r
 r1 : r < 4294967296
 le : Q ≤ q
 top : q ≤ 8589934592
 pos : 0 ≤ Q
set_option maxHeartbeats 2000000 in
theorem bitsDiv64_pos (hi lo y : Int) (hh : 1 ≤ hi) (hhy : hi < y) (hl : Wd lo) (hy : Wd y) (w : World) :
  Calls Tryz.prog 239 #[.int .u64 hi, .int .u64 lo, .int .u64 y] w fun e w' =>
   e = .returned (.tuple #[.int .u64 ((hi * 18446744073709551616 + lo) / y), .int .u64 ((hi * 18446744073709551616 + lo) % y)]) ∧ w = w' := by
 have hn := nlzN_int hy
 have hcall := fun w => Tryz.bits_LeadingZeros64 y w hy.1 (by have := hy.2; omega)
 rw [hn] at hcall
 obtain ⟨hs, hs1, hs2⟩ := nlzN_spec hy (by omega)
 clear hn
 generalize nlzN y = s at *
 obtain ⟨Y, u, L, y1, y0, d1, d0, Q1, R1, Q0, R0, hD⟩ := divNum (by omega) hhy hl hs hs1 hs2
 obtain ⟨eY, eu, eL, ey1, ey0, ed1, ed0, hY, hH1, hH0, eQ1, eQ0, eR1, eR0, eq, er, hR0, hR0', hYb⟩ := hD
 have hb1 : (y == 0) = false := beq_eq_false_iff_ne.2 (by omega)
 have hb2 : decide (y ≤ hi) = false := decide_eq_false (by omega)
 have hb3 : (hi == 0) = false := beq_eq_false_iff_ne.2 (by omega)
 have hb4 : (y1 == 0) = false := beq_eq_false_iff_ne.2 (by have := hH1.h1; omega)
 rw [eq, er]
 obtain ⟨s1, s2, s3, s4, s5, s6, s7, s8⟩ := hH1.start
 obtain ⟨t1, t2, t3, t4, t5, t6, t7, t8⟩ := hH0.start
 rw [eQ1] at s1; rw [eQ0] at t1
 have q1p := hH1.q_lt; have q0p := hH0.q_lt
 rw [eQ1] at q1p; rw [eQ0] at q0p
 have hd1 : IntKind.u64.wrap (u.tdiv y1) = u / y1 := by rw [Int.tdiv_eq_ediv_of_nonneg hH1.h5, IntKind.wrap_u64]; omega
 have hd0 : IntKind.u64.wrap (R1.tdiv y1) = R1 / y1 := by rw [Int.tdiv_eq_ediv_of_nonneg hH0.h5, IntKind.wrap_u64]; omega
 have hm1 : IntKind.u64.wrap (u / y1 * y1) = u / y1 * y1 := by rw [IntKind.wrap_u64]; omega
 have hm0 : IntKind.u64.wrap (R1 / y1 * y1) = R1 / y1 * y1 := by rw [IntKind.wrap_u64]; omega
 have hr1 : IntKind.u64.wrap (u - u / y1 * y1) = u - u / y1 * y1 := by rw [IntKind.wrap_u64]; omega
 have hr0 : IntKind.u64.wrap (R1 - R1 / y1 * y1) = R1 - R1 / y1 * y1 := by rw [IntKind.wrap_u64]; omega
 have hR1b := hH0.h6
 have hR1a := hH0.h5
 rw [← hY] at hR1b
 have hx1 : IntKind.u64.wrap (IntKind.u64.wrap (IntKind.u64.wrap (u * 4294967296) + d1) - IntKind.u64.wrap (Q1 * Y)) = R1 := by
  simp only [IntKind.wrap_u64]; omega
 have hx0 : IntKind.u64.wrap (IntKind.u64.wrap (IntKind.u64.wrap (R1 * 4294967296) + d0) - IntKind.u64.wrap (Q0 * Y)) = R0 := by
  simp only [IntKind.wrap_u64]; omega
 have hq : IntKind.u64.wrap (IntKind.u64.wrap (Q1 * 4294967296) + Q0) = Q1 * 4294967296 + Q0 := by
  simp only [IntKind.wrap_u64]; omega
 have A1 : HalfAt y1 u Q1 (u / y1) (u - u / y1 * y1) := ⟨by omega, s4, s5, s1, s3, q1p.1⟩
 have A0 : HalfAt y1 R1 Q0 (R1 / y1) (R1 - R1 / y1 * y1) := ⟨by omega, t4, t5, t1, t3, q0p.1⟩
 generalize u / y1 = qa at *
 generalize R1 / y1 = qb at *
 generalize hra : u - qa * y1 = ra at *
 generalize hrb : R1 - qb * y1 = rb at *
 have HA1 := hid A1; have HA0 := hid A0; have HH1 := hid hH1; have HH0 := hid hH0; have HQ1 := hid eQ1; have HQ0 := hid eQ0
 have HY := hid hY; have HR1 := hid eR1; have HR0 := hid eR0
 clear A1 A0 eQ1 eQ0 eq er s1 s2 s3 s4 s5 s6 s7 s8 t1 t2 t3 t4 t5 t6 t7 t8 hY eR1 eR0
 obtain ⟨hy0, hy1⟩ := hy
 obtain ⟨hl0, hl1⟩ := hl
 obtain ⟨g1, g2, g3, g4, g5, g6, g7, g8⟩ := hH1
 obtain ⟨k1, k2, k3, k4, k5, k6, k7, k8⟩ := hH0
 clear g6 k6
 have hY0 : 0 ≤ Y := by omega
 go_enter Tryz.func239, Tryz.ntmps239
 go_upto_block 0 with (go_at_call 244; refine (hcall _).mono ?_; rintro e w' ⟨rfl, rfl⟩)
 go_cut [15, 16] (fun a b wx => a = .int .u64 Q1 ∧ (∃ r, b = .int .u64 r) ∧ w' = wx)
 case first =>
  go_wp2_with fail
  go_loopw [15, 16] (fun a b wr => ∃ q r, a = .int .u64 q ∧ b = .int .u64 r ∧ HalfAt y1 u Q1 q r ∧ w' = wr) (fun a _ _ => (intOf a).toNat)
  case atStart => exact ⟨_, _, rfl, rfl, HA1.out, rfl⟩
  case round =>
   obtain ⟨q, r, rfl, rfl, ⟨ie, ir0, ir1, ile, itop, ipos⟩, rfl⟩ := hrel
   have htest := HH1.out.test ie
   have hbrk := fun h1 h2 => HH1.out.brk (q := q - 1) (r := r + y1) (by rw [Int.sub_mul, Int.one_mul]; omega) h1 h2
   rw [HQ1.out] at htest hbrk
   have hstep : u = (q - 1) * y1 + (r + y1) := by rw [Int.sub_mul, Int.one_mul]; omega
   have hw1 : IntKind.u64.wrap (4294967296 * r) = 4294967296 * r := by rw [IntKind.wrap_u64]; omega
   have hw2 : IntKind.u64.wrap (4294967296 * r + d1) = 4294967296 * r + d1 := by rw [IntKind.wrap_u64]; omega
   have hw4 : IntKind.u64.wrap (r + y1) = r + y1 := by rw [IntKind.wrap_u64]; omega
   have hq0 : 0 ≤ q := by omega
   have HST := hid hstep; have HBR := hid hbrk; have HIE := hid ie; have HT := hid htest
   clear hstep hbrk ie htest
   by_cases c1 : 4294967296 ≤ q
   ·have hc1 : decide (4294967296 ≤ q) = true := decide_eq_true c1
    have hw3 : IntKind.u64.wrap (q - 1) = q - 1 := by rw [IntKind.wrap_u64]; omega
    by_cases c3 : 4294967296 ≤ r + y1
    ·have hc3 : decide (4294967296 ≤ r + y1) = true := decide_eq_true c3
     go_wp2_with fail
     go_meet
     exact ⟨by have := HBR.out (by omega) c3; rw [show q - 1 = Q1 by omega], ⟨_, rfl⟩, rfl⟩
    ·have hc3 : decide (4294967296 ≤ r + y1) = false := decide_eq_false c3
     go_wp2_with fail
     go_roundw
     case rel => exact ⟨_, _, rfl, rfl, ⟨HST.out, by omega, by omega, by omega, by omega, ipos⟩, by first | rfl | trivial⟩
     case measure => simp [intOf]; omega
   ·have hc1 : decide (4294967296 ≤ q) = false := decide_eq_false c1
    have hqy0 : 0 ≤ q * y0 := Int.mul_nonneg hq0 (by omega)
    have hqy1 : q * y0 ≤ 4294967295 * 4294967295 := Int.mul_le_mul (by omega) (by omega) (by omega) (by omega)
    have hw5 : IntKind.u64.wrap (q * y0) = q * y0 := by rw [IntKind.wrap_u64]; omega
    by_cases c2 : q * y0 ≤ 4294967296 * r + d1
    ·have hc2 : decide (4294967296 * r + d1 < q * y0) = false := decide_eq_false (by omega)
     have hqe : q = Q1 := by have := HT.out.1 c2; omega
     have HQE := hid hqe
     clear hqe
     go_wp2_with fail
     go_meet
     exact ⟨by rw [HQE.out], ⟨_, rfl⟩, rfl⟩
    ·have hc2 : decide (4294967296 * r + d1 < q * y0) = true := decide_eq_true (by omega)
     have hgt : Q1 < q := by
      by_cases k : q ≤ Q1
      ·exact absurd (HT.out.2 k) c2
      ·omega
     have hw3 : IntKind.u64.wrap (q - 1) = q - 1 := by rw [IntKind.wrap_u64]; omega
     by_cases c3 : 4294967296 ≤ r + y1
     ·have hc3 : decide (4294967296 ≤ r + y1) = true := decide_eq_true c3
      go_wp2_with fail
      go_meet
      exact ⟨by have := HBR.out (by omega) c3; rw [show q - 1 = Q1 by omega], ⟨_, rfl⟩, rfl⟩
     ·have hc3 : decide (4294967296 ≤ r + y1) = false := decide_eq_false c3
      go_wp2_with fail
      go_roundw
      case rel => exact ⟨_, _, rfl, rfl, ⟨HST.out, by omega, by omega, by omega, by omega, ipos⟩, by first | rfl | trivial⟩
      case measure => simp [intOf]; omega
 case rest =>
  obtain ⟨rfl, ⟨r, rfl⟩, rfl⟩ := hcut
  go_upto_block 2 with fail
  go_cut [18, 16] (fun a b wx => a = .int .u64 Q0 ∧ (∃ r, b = .int .u64 r) ∧ w' = wx)
  case first =>
   go_wp2_with fail
   go_loopw [18, 16] (fun a b wr => ∃ q r, a = .int .u64 q ∧ b = .int .u64 r ∧ HalfAt y1 R1 Q0 q r ∧ w' = wr) (fun a _ _ => (intOf a).toNat)
   case atStart => exact ⟨_, _, rfl, rfl, HA0.out, rfl⟩
   case round =>
    obtain ⟨q, r, rfl, rfl, ⟨ie, ir0, ir1, ile, itop, ipos⟩, rfl⟩ := hrel
    have htest := HH0.out.test ie
    have hbrk := fun h1 h2 => HH0.out.brk (q := q - 1) (r := r + y1) (by rw [Int.sub_mul, Int.one_mul]; omega) h1 h2
    rw [HQ0.out] at htest hbrk
    have hstep : R1 = (q - 1) * y1 + (r + y1) := by rw [Int.sub_mul, Int.one_mul]; omega
    have hw1 : IntKind.u64.wrap (4294967296 * r) = 4294967296 * r := by rw [IntKind.wrap_u64]; omega
    have hw2 : IntKind.u64.wrap (4294967296 * r + d0) = 4294967296 * r + d0 := by rw [IntKind.wrap_u64]; omega
    have hw4 : IntKind.u64.wrap (r + y1) = r + y1 := by rw [IntKind.wrap_u64]; omega
    have hq0 : 0 ≤ q := by omega
    have HST := hid hstep; have HBR := hid hbrk; have HIE := hid ie; have HT := hid htest
    clear hstep hbrk ie htest
    by_cases c1 : 4294967296 ≤ q
    ·have hc1 : decide (4294967296 ≤ q) = true := decide_eq_true c1
     have hw3 : IntKind.u64.wrap (q - 1) = q - 1 := by rw [IntKind.wrap_u64]; omega
     by_cases c3 : 4294967296 ≤ r + y1
     ·have hc3 : decide (4294967296 ≤ r + y1) = true := decide_eq_true c3
      go_wp2_with fail
      go_meet
      exact ⟨by have := HBR.out (by omega) c3; rw [show q - 1 = Q0 by omega], ⟨_, rfl⟩, rfl⟩
     ·have hc3 : decide (4294967296 ≤ r + y1) = false := decide_eq_false c3
      go_wp2_with fail
      go_roundw
      case rel => exact ⟨_, _, rfl, rfl, ⟨HST.out, by omega, by omega, by omega, by omega, ipos⟩, by first | rfl | trivial⟩
      case measure => simp [intOf]; omega
    ·have hc1 : decide (4294967296 ≤ q) = false := decide_eq_false c1
     have hqy0 : 0 ≤ q * y0 := Int.mul_nonneg hq0 (by omega)
     have hqy1 : q * y0 ≤ 4294967295 * 4294967295 := Int.mul_le_mul (by omega) (by omega) (by omega) (by omega)
     have hw5 : IntKind.u64.wrap (q * y0) = q * y0 := by rw [IntKind.wrap_u64]; omega
     by_cases c2 : q * y0 ≤ 4294967296 * r + d0
     ·have hc2 : decide (4294967296 * r + d0 < q * y0) = false := decide_eq_false (by omega)
      have hqe : q = Q0 := by have := HT.out.1 c2; omega
      have HQE := hid hqe
      clear hqe
      go_wp2_with fail
      go_meet
      exact ⟨by rw [HQE.out], ⟨_, rfl⟩, rfl⟩
     ·have hc2 : decide (4294967296 * r + d0 < q * y0) = true := decide_eq_true (by omega)
      have hgt : Q0 < q := by
       by_cases k : q ≤ Q0
       ·exact absurd (HT.out.2 k) c2
       ·omega
      have hw3 : IntKind.u64.wrap (q - 1) = q - 1 := by rw [IntKind.wrap_u64]; omega
      by_cases c3 : 4294967296 ≤ r + y1
      ·have hc3 : decide (4294967296 ≤ r + y1) = true := decide_eq_true c3
       go_wp2_with fail
       go_meet
       exact ⟨by have := HBR.out (by omega) c3; rw [show q - 1 = Q0 by omega], ⟨_, rfl⟩, rfl⟩
      ·have hc3 : decide (4294967296 ≤ r + y1) = false := decide_eq_false c3
       go_wp2_with fail
       go_roundw
       case rel => exact ⟨_, _, rfl, rfl, ⟨HST.out, by omega, by omega, by omega, by omega, ipos⟩, by first | rfl | trivial⟩
       case measure => simp [intOf]; omega
  case rest =>
   obtain ⟨rfl, ⟨r', rfl⟩, rfl⟩ := hcut
   go_wp2_with fail
   go_ret2
   exact ⟨rfl, rfl⟩
theorem bitsDiv64_zero (lo y : Int) (hl : Wd lo) (hy : Wd y) (hy1 : 1 ≤ y) (w : World) :
  Calls Tryz.prog 239 #[.int .u64 0, .int .u64 lo, .int .u64 y] w fun e w' =>
   e = .returned (.tuple #[.int .u64 (lo / y), .int .u64 (lo % y)]) ∧ Q w w' := by
 have hb1 : (y == 0) = false := beq_eq_false_iff_ne.2 (by omega)
 have hb2 : decide (y ≤ 0) = false := decide_eq_false (by omega)
 have hb3 : ((0 : Int) == 0) = true := rfl
 have q0 := Int.ediv_nonneg hl.1 (show 0 ≤ y by omega)
 have q1 : lo / y ≤ lo := Int.ediv_le_self _ hl.1
 have q2 := Int.emod_nonneg lo (show y ≠ 0 by omega)
 have q3 := Int.emod_lt_of_pos lo (show 0 < y by omega)
 have hd1 : IntKind.u64.wrap (lo.tdiv y) = lo / y := by rw [Int.tdiv_eq_ediv_of_nonneg hl.1, IntKind.wrap_u64]; have := hl.2; omega
 have hd2 : IntKind.u64.wrap (lo.tmod y) = lo % y := by rw [Int.tmod_eq_emod_of_nonneg hl.1, IntKind.wrap_u64]; have := hy.2; omega
 generalize lo / y = a at *
 obtain ⟨hl0, hl1⟩ := hl
 obtain ⟨hy0, hy2⟩ := hy
 go_enter Tryz.func239, Tryz.ntmps239
 go_wp2_with fail
 go_quiet (fail)
 go_wp2_with fail
 go_ret2
 exact ⟨rfl, (Q.refl _).step _⟩
theorem bitsDiv64_any (hi lo y : Int) (hh : 0 ≤ hi) (hhy : hi < y) (hl : Wd lo) (hy : Wd y) (w : World) :
  Calls Tryz.prog 239 #[.int .u64 hi, .int .u64 lo, .int .u64 y] w fun e w' =>
   e = .returned (.tuple #[.int .u64 ((hi * 18446744073709551616 + lo) / y), .int .u64 ((hi * 18446744073709551616 + lo) % y)]) ∧ Q w w' := by
 by_cases h : hi = 0
 ·subst h
  rw [Int.zero_mul, Int.zero_add]
  exact bitsDiv64_zero lo y hl hy (by omega) w
 ·exact (bitsDiv64_pos hi lo y (by omega) hhy hl hy w).mono fun e w' h => ⟨h.1, by rw [← h.2]; exact Q.refl _⟩
theorem div_wd {hi lo y : Int} (hh : 0 ≤ hi) (hhy : hi < y) (hl : Wd lo) (hy : Wd y) : Wd ((hi * 18446744073709551616 + lo) / y) ∧ Wd ((hi * 18446744073709551616 + lo) % y) := by
 obtain ⟨hl0, hl1⟩ := hl
 obtain ⟨hy0, hy1⟩ := hy
 refine ⟨⟨Int.ediv_nonneg (by omega) (by omega), Int.ediv_lt_of_lt_mul (by omega) ?_⟩, ⟨Int.emod_nonneg _ (by omega), ?_⟩⟩
 ·omega
 ·have := Int.emod_lt_of_pos (hi * 18446744073709551616 + lo) (show 0 < y by omega)
  omega
theorem bitsDiv_any (hi lo y : Int) (hh : 0 ≤ hi) (hhy : hi < y) (hl : Wd lo) (hy : Wd y) (w : World) :
  Calls Tryz.prog 222 #[.int .u64 hi, .int .u64 lo, .int .u64 y] w fun e w' =>
   e = .returned (.tuple #[.int .u64 ((hi * 18446744073709551616 + lo) / y), .int .u64 ((hi * 18446744073709551616 + lo) % y)]) ∧ Q w w' := by
 have hcall := fun w => bitsDiv64_any hi lo y hh hhy hl hy w
 have hd := div_wd hh hhy hl hy
 generalize (hi * 18446744073709551616 + lo) / y = a at *
 generalize (hi * 18446744073709551616 + lo) % y = b at *
 obtain ⟨⟨ha0, ha1⟩, ⟨hb0, hb1⟩⟩ := hd
 have HC := hid hcall
 clear hcall
 obtain ⟨hl0, hl1⟩ := hl
 obtain ⟨hy0, hy1⟩ := hy
 go_enter Tryz.func222, Tryz.ntmps222
 go_wp2_with (go_at_call 239; refine (HC.out _).mono ?_; rintro e w' ⟨rfl, hq⟩)
 go_ret2
 exact ⟨rfl, hq⟩
theorem u64_not (a : Int) (h0 : 0 ≤ a) (h1 : a < 18446744073709551616) : bits .xor .u64 (if IntKind.u64.signed = true then -1 else IntKind.u64.max) a = 18446744073709551615 - a := by
 obtain ⟨n, rfl⟩ := Int.eq_ofNat_of_zero_le h0
 show IntKind.u64.wrap ((BitVec.ofInt 64 18446744073709551615 ^^^ BitVec.ofInt 64 (n : Int)).toNat : Int) = _
 have h2 : BitVec.ofInt 64 18446744073709551615 = BitVec.allOnes 64 := by decide
 rw [h2, BitVec.allOnes_xor, BitVec.toNat_not]
 have h3 : (BitVec.ofInt 64 (n : Int)).toNat = n := by simp; omega
 rw [h3, IntKind.wrap_u64]
 have : (2 : Nat) ^ 64 = 18446744073709551616 := rfl
 omega
def recN (u : Int) : Int := (18446744073709551616 * 18446744073709551616 - 1) / u - 18446744073709551616
theorem recN_eq {u : Int} (h0 : 0 < u) : ((18446744073709551615 - u) * 18446744073709551616 + 18446744073709551615) / u = recN u := by
 unfold recN
 rw [show (18446744073709551615 - u) * 18446744073709551616 + 18446744073709551615 = (18446744073709551616 * 18446744073709551616 - 1) + (-18446744073709551616) * u by omega, Int.add_mul_ediv_right _ _ (by omega)]
 omega
theorem recN_wd {u : Int} (h0 : 9223372036854775808 ≤ u) (h1 : u < 18446744073709551616) : Wd (recN u) := by
 rw [← recN_eq (by omega)]
 exact (div_wd (by omega) (by omega) ⟨by omega, by omega⟩ ⟨by omega, h1⟩).1
theorem reciprocalWord_any (y : Int) (hy : Wd y) (hy1 : 1 ≤ y) (w : World) :
  Calls Tryz.prog 223 #[.int .u64 y] w fun e w' => e = .returned (.int .u64 (recN (y * 2 ^ nlzN y))) ∧ Q w w' := by
 have hn := fun w => nlz_any y hy w
 obtain ⟨hs, hs1, hs2⟩ := nlzN_spec hy hy1
 have hcall := fun w => bitsDiv_any (18446744073709551615 - y * 2 ^ nlzN y) 18446744073709551615 (y * 2 ^ nlzN y) (by omega) (by omega) ⟨by omega, by omega⟩ ⟨by omega, by omega⟩ w
 rw [recN_eq (by omega)] at hcall
 have hr := recN_wd hs1 hs2
 generalize nlzN y = s at *
 generalize recN (y * 2 ^ s) = r at *
 generalize hY : y * 2 ^ s = Y at *
 generalize ((18446744073709551615 - Y) * 18446744073709551616 + 18446744073709551615) % Y = b at *
 have hnot := u64_not Y (by omega) hs2
 have HC := hid hcall
 have HN := hid hn
 clear hcall hn
 obtain ⟨hy0, hy2⟩ := hy
 obtain ⟨hr0, hr1⟩ := hr
 go_enter Tryz.func223, Tryz.ntmps223
 go_wp2_with (first | (go_at_call 191; refine (HN.out _).mono ?_; rintro e w' ⟨rfl, rfl⟩) | (go_at_call 222; refine (HC.out _).mono ?_; rintro e w' ⟨rfl, hq⟩))
 go_ret
 exact ⟨rfl, hq⟩
end Go.Proofs.YthdkandofddohaaGreatDoor
