/- Part 10 of the proof. -/
import Derived.Test.YthdkandofddohaaGreatDoorP09
namespace Go.Proofs.YthdkandofddohaaGreatDoor
open Go.RowKit
set_option linter.unusedVariables false
set_option linter.unusedSimpArgs false
theorem addVV_g_any (bz oz cz bx ox cx by_ oy cy n : Nat) (zs xs ys : List Int) (w : World)
  (hz : Row w bz zs) (hx : Row w bx xs) (hy : Row w by_ ys) (hzl : oz + n ≤ zs.length) (hxl : ox + n ≤ xs.length) (hyl : oy + n ≤ ys.length)
  (ax : bx = bz → oz ≤ ox) (ay : by_ = bz → oz ≤ oy) (hn : n ≤ 1000000) :
  Calls Tryz.prog 141 #[.slice (some ⟨bz, oz, none⟩) n cz, .slice (some ⟨bx, ox, none⟩) n cx, .slice (some ⟨by_, oy, none⟩) n cy] w fun e w' =>
   e = .returned (.int .u64 (addC (seg xs ox n) (seg ys oy n) 0)) ∧ Row w' bz (put zs oz (addD (seg xs ox n) (seg ys oy n) 0)) ∧ Chg (· = bz) w w' := by
 go_enter Tryz.func141, Tryz.ntmps141
 go_wp2
 go_loopw [6, 25] (fun c i wr => ∃ k : Nat, k ≤ n ∧ i = .int .i64 k ∧ c = .int .u64 (addC (seg xs ox k) (seg ys oy k) 0) ∧ Row wr bz (put zs oz (addD (seg xs ox k) (seg ys oy k) 0)) ∧ Chg (· = bz) w wr)
  (fun _ i _ => n - (intOf i).toNat)
 case atStart => exact ⟨0, Nat.zero_le _, rfl, rfl, by simpa [seg, addD, put_nil] using hz, Chg.refl _ _⟩
 case round =>
  obtain ⟨k, hk, rfl, rfl, hzr, hcr⟩ := hrel
  by_cases hlt : k < n
  ·have hlk : (addD (seg xs ox k) (seg ys oy k) 0).length = k := by rw [addD_length, seg_length (by omega), seg_length (by omega)]; omega
   have hcx : wr.cell? ⟨bx, ox + k, none⟩ = some (.int .u64 (xs.getD (ox + k) 0)) := read_ahead hz hx hzr hcr hlk (by omega) (by omega) ax
   have hcy : wr.cell? ⟨by_, oy + k, none⟩ = some (.int .u64 (ys.getD (oy + k) 0)) := read_ahead hz hy hzr hcr hlk (by omega) (by omega) ay
   have hcz := hzr.cell (i := oz + k) (by rw [put_length (by omega)]; omega)
   have hfz := hzr.free (oz + k)
   obtain ⟨hc0, hc1⟩ := addC_bd (seg xs ox k) (seg ys oy k) 0 (seg_wds hx.2 _ _) (seg_wds hy.2 _ _) (by omega) (by omega)
   obtain ⟨hx0, hx1⟩ := hx.wd (ox + k)
   obtain ⟨hy0, hy1⟩ := hy.wd (oy + k)
   have hn1 : addD (seg xs ox (k + 1)) (seg ys oy (k + 1)) 0 = addD (seg xs ox k) (seg ys oy k) 0 ++ [((xs.getD (ox + k) 0) + (ys.getD (oy + k) 0) + addC (seg xs ox k) (seg ys oy k) 0) % 18446744073709551616] := by
    rw [seg_succ (by omega), seg_succ (by omega), addD_snoc _ _ _ _ _ (by rw [seg_length (by omega), seg_length (by omega)])]
   have hn2 : addC (seg xs ox (k + 1)) (seg ys oy (k + 1)) 0 = ((xs.getD (ox + k) 0) + (ys.getD (oy + k) 0) + addC (seg xs ox k) (seg ys oy k) 0) / 18446744073709551616 := by
    rw [seg_succ (by omega), seg_succ (by omega), addC_snoc _ _ _ _ _ (by rw [seg_length (by omega), seg_length (by omega)])]
   generalize xs.getD (ox + k) 0 = x at *
   generalize ys.getD (oy + k) 0 = y at *
   generalize addC (seg xs ox k) (seg ys oy k) 0 = c at *
   generalize addD (seg xs ox k) (seg ys oy k) 0 = ds at *
   have hset := (hzr.set (oz + k) (v := (x + y + c) % 18446744073709551616) (Wd.mod _))
   have hn3 : (put zs oz ds).set (oz + k) ((x + y + c) % 18446744073709551616) = put zs oz (addD (seg xs ox (k + 1)) (seg ys oy (k + 1)) 0) := by
    subst hlk; rw [put_snoc _ (by omega), hn1]
   rw [hn3] at hset
   have HN2 := hid hn2
   clear hn2 hn1 hn3 hlk
   go_wp2_with fail
   go_quiet ((go_at_call 142; exact quiet_same (bits_Add _ _ _ (by omega) (by omega) (by omega) (by omega) _)))
   go_wp2_with fail
   go_roundw
   case rel => exact ⟨k + 1, by omega, by go_num, by rw [HN2.out], hset, ((hcr.drewN _).setCell (fun _ => rfl) _)⟩
   case measure => simp [intOf]; omega
  ·go_wp2_with fail
   go_ret
   obtain rfl : k = n := by omega
   exact ⟨rfl, hzr, hcr⟩
theorem addVV_any (bz oz cz bx ox cx by_ oy cy n : Nat) (zs xs ys : List Int) (w : World)
  (hz : Row w bz zs) (hx : Row w bx xs) (hy : Row w by_ ys) (hzl : oz + n ≤ zs.length) (hxl : ox + n ≤ xs.length) (hyl : oy + n ≤ ys.length)
  (ax : bx = bz → oz ≤ ox) (ay : by_ = bz → oz ≤ oy) (hn : n ≤ 1000000) :
  Calls Tryz.prog 127 #[.slice (some ⟨bz, oz, none⟩) n cz, .slice (some ⟨bx, ox, none⟩) n cx, .slice (some ⟨by_, oy, none⟩) n cy] w fun e w' =>
   e = .returned (.int .u64 (addC (seg xs ox n) (seg ys oy n) 0)) ∧ Row w' bz (put zs oz (addD (seg xs ox n) (seg ys oy n) 0)) ∧ Chg (· = bz) w w' := by
 go_enter Tryz.func127, Tryz.ntmps127
 go_wp2_with (go_at_call 141; refine (addVV_g_any bz oz cz bx ox cx by_ oy cy n zs xs ys _ hz hx hy hzl hxl hyl ax ay hn).mono ?_; rintro e w' ⟨rfl, hr, hc⟩)
 go_ret
 exact ⟨rfl, hr, hc⟩
theorem subVV_g_any (bz oz cz bx ox cx by_ oy cy n : Nat) (zs xs ys : List Int) (w : World)
  (hz : Row w bz zs) (hx : Row w bx xs) (hy : Row w by_ ys) (hzl : oz + n ≤ zs.length) (hxl : ox + n ≤ xs.length) (hyl : oy + n ≤ ys.length)
  (ax : bx = bz → oz ≤ ox) (ay : by_ = bz → oz ≤ oy) (hn : n ≤ 1000000) :
  Calls Tryz.prog 143 #[.slice (some ⟨bz, oz, none⟩) n cz, .slice (some ⟨bx, ox, none⟩) n cx, .slice (some ⟨by_, oy, none⟩) n cy] w fun e w' =>
   e = .returned (.int .u64 (subC (seg xs ox n) (seg ys oy n) 0)) ∧ Row w' bz (put zs oz (subD (seg xs ox n) (seg ys oy n) 0)) ∧ Chg (· = bz) w w' := by
 go_enter Tryz.func143, Tryz.ntmps143
 go_wp2
 go_loopw [6, 25] (fun c i wr => ∃ k : Nat, k ≤ n ∧ i = .int .i64 k ∧ c = .int .u64 (subC (seg xs ox k) (seg ys oy k) 0) ∧ Row wr bz (put zs oz (subD (seg xs ox k) (seg ys oy k) 0)) ∧ Chg (· = bz) w wr)
  (fun _ i _ => n - (intOf i).toNat)
 case atStart => exact ⟨0, Nat.zero_le _, rfl, rfl, by simpa [seg, subD, put_nil] using hz, Chg.refl _ _⟩
 case round =>
  obtain ⟨k, hk, rfl, rfl, hzr, hcr⟩ := hrel
  by_cases hlt : k < n
  ·have hlk : (subD (seg xs ox k) (seg ys oy k) 0).length = k := by rw [subD_length, seg_length (by omega), seg_length (by omega)]; omega
   have hcx : wr.cell? ⟨bx, ox + k, none⟩ = some (.int .u64 (xs.getD (ox + k) 0)) := read_ahead hz hx hzr hcr hlk (by omega) (by omega) ax
   have hcy : wr.cell? ⟨by_, oy + k, none⟩ = some (.int .u64 (ys.getD (oy + k) 0)) := read_ahead hz hy hzr hcr hlk (by omega) (by omega) ay
   have hcz := hzr.cell (i := oz + k) (by rw [put_length (by omega)]; omega)
   have hfz := hzr.free (oz + k)
   obtain ⟨hc0, hc1⟩ := subC_bd (seg xs ox k) (seg ys oy k) 0 (by omega) (by omega)
   have hwx := hx.wd (ox + k)
   have hwy := hy.wd (oy + k)
   have hn1 : subD (seg xs ox (k + 1)) (seg ys oy (k + 1)) 0 = subD (seg xs ox k) (seg ys oy k) 0 ++ [((xs.getD (ox + k) 0) - (ys.getD (oy + k) 0) - subC (seg xs ox k) (seg ys oy k) 0) % 18446744073709551616] := by
    rw [seg_succ (by omega), seg_succ (by omega), subD_snoc _ _ _ _ _ (by rw [seg_length (by omega), seg_length (by omega)])]
   have hn2 : subC (seg xs ox (k + 1)) (seg ys oy (k + 1)) 0 = brw (xs.getD (ox + k) 0) ((ys.getD (oy + k) 0) + subC (seg xs ox k) (seg ys oy k) 0) := by
    rw [seg_succ (by omega), seg_succ (by omega), subC_snoc _ _ _ _ _ (by rw [seg_length (by omega), seg_length (by omega)])]
   generalize xs.getD (ox + k) 0 = x at *
   generalize ys.getD (oy + k) 0 = y at *
   generalize subC (seg xs ox k) (seg ys oy k) 0 = c at *
   generalize subD (seg xs ox k) (seg ys oy k) 0 = ds at *
   have hset := (hzr.set (oz + k) (v := (x - y - c) % 18446744073709551616) (Wd.mod _))
   have hn3 : (put zs oz ds).set (oz + k) ((x - y - c) % 18446744073709551616) = put zs oz (subD (seg xs ox (k + 1)) (seg ys oy (k + 1)) 0) := by
    subst hlk; rw [put_snoc _ (by omega), hn1]
   rw [hn3] at hset
   obtain ⟨hb0, hb1⟩ := brw_bd x (y + c)
   have HN2 := hid hn2
   clear hn2 hn1 hn3 hlk
   go_wp2_with fail
   go_quiet ((go_at_call 144; exact quiet_same (bits_Sub _ _ _ hwx hwy (by omega) (by omega) _)))
   go_wp2_with fail
   go_roundw
   case rel => exact ⟨k + 1, by omega, by go_num, by rw [HN2.out], hset, ((hcr.drewN _).setCell (fun _ => rfl) _)⟩
   case measure => simp [intOf]; omega
  ·go_wp2_with fail
   go_ret
   obtain rfl : k = n := by omega
   exact ⟨rfl, hzr, hcr⟩
theorem subVV_any (bz oz cz bx ox cx by_ oy cy n : Nat) (zs xs ys : List Int) (w : World)
  (hz : Row w bz zs) (hx : Row w bx xs) (hy : Row w by_ ys) (hzl : oz + n ≤ zs.length) (hxl : ox + n ≤ xs.length) (hyl : oy + n ≤ ys.length)
  (ax : bx = bz → oz ≤ ox) (ay : by_ = bz → oz ≤ oy) (hn : n ≤ 1000000) :
  Calls Tryz.prog 130 #[.slice (some ⟨bz, oz, none⟩) n cz, .slice (some ⟨bx, ox, none⟩) n cx, .slice (some ⟨by_, oy, none⟩) n cy] w fun e w' =>
   e = .returned (.int .u64 (subC (seg xs ox n) (seg ys oy n) 0)) ∧ Row w' bz (put zs oz (subD (seg xs ox n) (seg ys oy n) 0)) ∧ Chg (· = bz) w w' := by
 go_enter Tryz.func130, Tryz.ntmps130
 go_wp2_with (go_at_call 143; refine (subVV_g_any bz oz cz bx ox cx by_ oy cy n zs xs ys _ hz hx hy hzl hxl hyl ax ay hn).mono ?_; rintro e w' ⟨rfl, hr, hc⟩)
 go_ret
 exact ⟨rfl, hr, hc⟩
theorem mulAddVWW_g_any (bz oz cz bx ox cx n : Nat) (zs xs : List Int) (y r : Int) (w : World)
  (hz : Row w bz zs) (hx : Row w bx xs) (hzl : oz + n ≤ zs.length) (hxl : ox + n ≤ xs.length)
  (ax : bx = bz → oz ≤ ox) (hn : n ≤ 1000000) (hy : Wd y) (hr : Wd r) :
  Calls Tryz.prog 206 #[.slice (some ⟨bz, oz, none⟩) n cz, .slice (some ⟨bx, ox, none⟩) n cx, .int .u64 y, .int .u64 r] w fun e w' =>
   e = .returned (.int .u64 (mulC (seg xs ox n) y r)) ∧ Row w' bz (put zs oz (mulD (seg xs ox n) y r)) ∧ Chg (· = bz) w w' := by
 go_enter Tryz.func206, Tryz.ntmps206
 go_wp2
 go_loopw [8, 19] (fun c i wr => ∃ k : Nat, k ≤ n ∧ i = .int .i64 k ∧ c = .int .u64 (mulC (seg xs ox k) y r) ∧ Row wr bz (put zs oz (mulD (seg xs ox k) y r)) ∧ Chg (· = bz) w wr)
  (fun _ i _ => n - (intOf i).toNat)
 case atStart => exact ⟨0, Nat.zero_le _, rfl, rfl, by simpa [seg, mulD, put_nil] using hz, Chg.refl _ _⟩
 case round =>
  obtain ⟨k, hk, rfl, rfl, hzr, hcr⟩ := hrel
  by_cases hlt : k < n
  ·have hlk : (mulD (seg xs ox k) y r).length = k := by rw [mulD_length, seg_length (by omega)]
   have hcx : wr.cell? ⟨bx, ox + k, none⟩ = some (.int .u64 (xs.getD (ox + k) 0)) := read_ahead hz hx hzr hcr hlk (by omega) (by omega) ax
   have hcz := hzr.cell (i := oz + k) (by rw [put_length (by omega)]; omega)
   have hfz := hzr.free (oz + k)
   have hwc := mulC_wd (seg xs ox k) y r (seg_wds hx.2 _ _) hy hr
   have hwx := hx.wd (ox + k)
   have hn1 : mulD (seg xs ox (k + 1)) y r = mulD (seg xs ox k) y r ++ [((xs.getD (ox + k) 0) * y + mulC (seg xs ox k) y r) % 18446744073709551616] := by
    rw [seg_succ (by omega), mulD_snoc]
   have hn2 : mulC (seg xs ox (k + 1)) y r = ((xs.getD (ox + k) 0) * y + mulC (seg xs ox k) y r) / 18446744073709551616 := by
    rw [seg_succ (by omega), mulC_snoc]
   generalize xs.getD (ox + k) 0 = x at *
   generalize mulC (seg xs ox k) y r = c at *
   generalize mulD (seg xs ox k) y r = ds at *
   have hset := (hzr.set (oz + k) (v := (x * y + c) % 18446744073709551616) (Wd.mod _))
   have hn3 : (put zs oz ds).set (oz + k) ((x * y + c) % 18446744073709551616) = put zs oz (mulD (seg xs ox (k + 1)) y r) := by
    subst hlk; rw [put_snoc _ (by omega), hn1]
   rw [hn3] at hset
   have HN2 := hid hn2
   clear hn2 hn1 hn3 hlk
   go_wp2_with (go_at_call 228; refine (mulAddWWW_g_any x y c hwx hy hwc _).mono ?_; rintro e w' ⟨rfl, rfl⟩)
   go_roundw
   case rel => exact ⟨k + 1, by omega, by go_num, by rw [HN2.out], hset, (hcr.setCell (fun _ => rfl) _)⟩
   case measure => simp [intOf]; omega
  ·go_wp2_with fail
   go_ret
   obtain rfl : k = n := by omega
   exact ⟨rfl, hzr, hcr⟩
theorem mulAddVWW_any (bz oz cz bx ox cx n : Nat) (zs xs : List Int) (y r : Int) (w : World)
  (hz : Row w bz zs) (hx : Row w bx xs) (hzl : oz + n ≤ zs.length) (hxl : ox + n ≤ xs.length)
  (ax : bx = bz → oz ≤ ox) (hn : n ≤ 1000000) (hy : Wd y) (hr : Wd r) :
  Calls Tryz.prog 177 #[.slice (some ⟨bz, oz, none⟩) n cz, .slice (some ⟨bx, ox, none⟩) n cx, .int .u64 y, .int .u64 r] w fun e w' =>
   e = .returned (.int .u64 (mulC (seg xs ox n) y r)) ∧ Row w' bz (put zs oz (mulD (seg xs ox n) y r)) ∧ Chg (· = bz) w w' := by
 go_enter Tryz.func177, Tryz.ntmps177
 go_wp2_with (go_at_call 206; refine (mulAddVWW_g_any bz oz cz bx ox cx n zs xs y r _ hz hx hzl hxl ax hn hy hr).mono ?_; rintro e w' ⟨rfl, hq, hc⟩)
 go_ret
 exact ⟨rfl, hq, hc⟩
theorem addMulVVWW_g_any (bz oz cz bx ox cx by_ oy cy n : Nat) (zs xs ys : List Int) (m a : Int) (w : World)
  (hz : Row w bz zs) (hx : Row w bx xs) (hy : Row w by_ ys) (hzl : oz + n ≤ zs.length) (hxl : ox + n ≤ xs.length) (hyl : oy + n ≤ ys.length)
  (ax : bx = bz → oz ≤ ox) (ay : by_ = bz → oz ≤ oy) (hn : n ≤ 1000000) (hm : Wd m) (ha : Wd a) :
  Calls Tryz.prog 205 #[.slice (some ⟨bz, oz, none⟩) n cz, .slice (some ⟨bx, ox, none⟩) n cx, .slice (some ⟨by_, oy, none⟩) n cy, .int .u64 m, .int .u64 a] w fun e w' =>
   e = .returned (.int .u64 (amC (seg xs ox n) (seg ys oy n) m a)) ∧ Row w' bz (put zs oz (amD (seg xs ox n) (seg ys oy n) m a)) ∧ Chg (· = bz) w w' := by
 go_enter Tryz.func205, Tryz.ntmps205
 go_wp2
 go_loopw [10, 32] (fun c i wr => ∃ k : Nat, k ≤ n ∧ i = .int .i64 k ∧ c = .int .u64 (amC (seg xs ox k) (seg ys oy k) m a) ∧ Row wr bz (put zs oz (amD (seg xs ox k) (seg ys oy k) m a)) ∧ Chg (· = bz) w wr)
  (fun _ i _ => n - (intOf i).toNat)
 case atStart => exact ⟨0, Nat.zero_le _, rfl, rfl, by simpa [seg, amD, put_nil] using hz, Chg.refl _ _⟩
 case round =>
  obtain ⟨k, hk, rfl, rfl, hzr, hcr⟩ := hrel
  by_cases hlt : k < n
  ·have hlk : (amD (seg xs ox k) (seg ys oy k) m a).length = k := by rw [amD_length, seg_length (by omega), seg_length (by omega)]; omega
   have hcx : wr.cell? ⟨bx, ox + k, none⟩ = some (.int .u64 (xs.getD (ox + k) 0)) := read_ahead hz hx hzr hcr hlk (by omega) (by omega) ax
   have hcy : wr.cell? ⟨by_, oy + k, none⟩ = some (.int .u64 (ys.getD (oy + k) 0)) := read_ahead hz hy hzr hcr hlk (by omega) (by omega) ay
   have hcz := hzr.cell (i := oz + k) (by rw [put_length (by omega)]; omega)
   have hfz := hzr.free (oz + k)
   have hwc := amC_wd (seg xs ox k) (seg ys oy k) m a (seg_wds hx.2 _ _) (seg_wds hy.2 _ _) hm ha
   have hwx := hx.wd (ox + k)
   have hwy := hy.wd (oy + k)
   have hn1 : amD (seg xs ox (k + 1)) (seg ys oy (k + 1)) m a = amD (seg xs ox k) (seg ys oy k) m a ++ [((ys.getD (oy + k) 0) * m + (xs.getD (ox + k) 0) + amC (seg xs ox k) (seg ys oy k) m a) % 18446744073709551616] := by
    rw [seg_succ (by omega), seg_succ (by omega), amD_snoc _ _ _ _ _ _ (by rw [seg_length (by omega), seg_length (by omega)])]
   have hn2 : amC (seg xs ox (k + 1)) (seg ys oy (k + 1)) m a = ((ys.getD (oy + k) 0) * m + (xs.getD (ox + k) 0) + amC (seg xs ox k) (seg ys oy k) m a) / 18446744073709551616 := by
    rw [seg_succ (by omega), seg_succ (by omega), amC_snoc _ _ _ _ _ _ (by rw [seg_length (by omega), seg_length (by omega)])]
   generalize xs.getD (ox + k) 0 = x at *
   generalize ys.getD (oy + k) 0 = y at *
   generalize amC (seg xs ox k) (seg ys oy k) m a = c at *
   generalize amD (seg xs ox k) (seg ys oy k) m a = ds at *
   have hset := (hzr.set (oz + k) (v := (y * m + x + c) % 18446744073709551616) (Wd.mod _))
   have hn3 : (put zs oz ds).set (oz + k) ((y * m + x + c) % 18446744073709551616) = put zs oz (amD (seg xs ox (k + 1)) (seg ys oy (k + 1)) m a) := by
    subst hlk; rw [put_snoc _ (by omega), hn1]
   rw [hn3] at hset
   have hs := am_wd hwx hwy hm hwc
   have h0 : Wd ((y * m + x) / 18446744073709551616) := by have := am_wd hwx hwy hm wd0; simpa using this
   have hq : Wd ((y * m + x) % 18446744073709551616) := Wd.mod _
   have e1 : ((y * m + x) % 18446744073709551616 + c) / 18446744073709551616 + (y * m + x) / 18446744073709551616 = (y * m + x + c) / 18446744073709551616 := by omega
   have e2 : ((y * m + x) % 18446744073709551616 + c) % 18446744073709551616 = (y * m + x + c) % 18446744073709551616 := by omega
   have hb := hs
   rw [← e1] at hb
   unfold Wd at hwc hwx hb hq h0
   obtain ⟨hc0, hc1⟩ := hwc
   obtain ⟨hq0, hq1⟩ := hq
   obtain ⟨hp0, hp1⟩ := h0
   obtain ⟨hb0, hb1⟩ := hb
   have E1 := hid e1
   have HN2 := hid hn2
   clear hn2 hn1 hn3 hlk hs e1 e2
   go_wp2_with fail
   go_quiet ((go_at_call 228; exact quiet_same (mulAddWWW_g_any y m x hwy hm hwx _)))
   go_wp2_with (go_at_call 142; refine (bits_Add _ _ 0 (by omega) (by omega) (by omega) (by omega) _).mono ?_; rintro e w' ⟨rfl, rfl⟩)
   go_roundw
   case rel => exact ⟨k + 1, by omega, by go_num, by rw [HN2.out, E1.out], hset, ((hcr.drewN _).setCell (fun _ => rfl) _)⟩
   case measure => simp [intOf]; omega
  ·go_wp2_with fail
   go_ret
   obtain rfl : k = n := by omega
   exact ⟨rfl, hzr, hcr⟩
theorem addMulVVWW_any (bz oz cz bx ox cx by_ oy cy n : Nat) (zs xs ys : List Int) (m a : Int) (w : World)
  (hz : Row w bz zs) (hx : Row w bx xs) (hy : Row w by_ ys) (hzl : oz + n ≤ zs.length) (hxl : ox + n ≤ xs.length) (hyl : oy + n ≤ ys.length)
  (ax : bx = bz → oz ≤ ox) (ay : by_ = bz → oz ≤ oy) (hn : n ≤ 1000000) (hm : Wd m) (ha : Wd a) :
  Calls Tryz.prog 175 #[.slice (some ⟨bz, oz, none⟩) n cz, .slice (some ⟨bx, ox, none⟩) n cx, .slice (some ⟨by_, oy, none⟩) n cy, .int .u64 m, .int .u64 a] w fun e w' =>
   e = .returned (.int .u64 (amC (seg xs ox n) (seg ys oy n) m a)) ∧ Row w' bz (put zs oz (amD (seg xs ox n) (seg ys oy n) m a)) ∧ Chg (· = bz) w w' := by
 go_enter Tryz.func175, Tryz.ntmps175
 go_wp2_with (go_at_call 205; refine (addMulVVWW_g_any bz oz cz bx ox cx by_ oy cy n zs xs ys m a _ hz hx hy hzl hxl hyl ax ay hn hm ha).mono ?_; rintro e w' ⟨rfl, hq, hc⟩)
 go_ret
 exact ⟨rfl, hq, hc⟩
theorem Row.setRow {w : World} {b : Nat} {xs ys : List Int} (h : Row w b xs) (hy : Wds ys) : Row (w.setRow b (ys.map (Value.int .u64)).toArray) b ys :=
 ⟨setRow_heap w b _ _ _ _ h.1, hy⟩
theorem Chg.setRow {S : Nat → Prop} {a w : World} (h : Chg S a w) {b : Nat} (hb : b < a.heap.size → S b) (cs : Array Value) : Chg S a (w.setRow b cs) :=
 ⟨h.os, h.tape, h.output, by have := h.size; simpa using this, fun k hk hn => by
  have : (w.setRow b cs).heap[k]? = w.heap[k]? := by
   simp only [World.setRow, Array.getElem?_modify]
   rw [if_neg (fun e => hn (by subst e; exact hb hk))]
  rw [this]; exact h.keep k hk hn⟩
theorem run_copy_words (w : World) (ty : TypeId) (bz oz dl dc bx ox sl sc n : Nat) (zs xs : List Int) (dT sT : TypeId)
  (hu : Tryz.prog.underlying dT = some (.slice 136)) (hz : Row w bz zs) (hx : Row w bx xs) (hn : n = Nat.min sl dl) (hzl : oz + n ≤ zs.length) (hxl : ox + n ≤ xs.length) :
  (Builtin.copy_ #[dT, sT] ty #[.slice (some ⟨bz, oz, none⟩) dl dc, .slice (some ⟨bx, ox, none⟩) sl sc]).run Tryz.prog w =
   .ok (goInt n) (w.setRow bz ((put zs oz (seg xs ox n)).map (Value.int .u64)).toArray) := by
 have h := run_copy_row (P := Tryz.prog) w dT sT ty 136 bz oz dl dc ⟨bx, ox, none⟩ sl sc (zs.map (Value.int .u64)).toArray 136 ((seg xs ox n).map (Value.int .u64)) hu kr_ hz.1
  (by rw [List.length_map, seg_length hxl, hn]) ?_ (by simp [seg_length hxl]; omega) (by intro v hv; simp at hv; obtain ⟨a, _, rfl⟩ := hv; rfl)
 ·rw [h]
  simp [seg_length hxl, put, List.map_take, List.map_drop]
 ·intro j v hj
  simp only [List.getElem?_map, Option.map_eq_some_iff] at hj
  obtain ⟨x, hj, rfl⟩ := hj
  have hjn : j < n := by have := (List.getElem?_eq_some_iff.1 hj).1; rw [seg_length hxl] at this; exact this
  have hc := hx.cell (i := ox + j) (by omega)
  have e : ((⟨bx, ox, none⟩ : Addr).add j) = ⟨bx, ox + j, none⟩ := by
   unfold Addr.add; split
   ·rename_i h0; subst h0; rfl
   ·rfl
  rw [e, hc, ← seg_getD hjn, List.getD_eq_getElem?_getD, hj]; rfl
set_option maxHeartbeats 1600000 in
theorem addVW_apart (bz oz cz bx ox cx n : Nat) (zs xs : List Int) (y : Int) (w : World)
  (hz : Row w bz zs) (hx : Row w bx xs) (hzl : oz + n ≤ zs.length) (hxl : ox + n ≤ xs.length)
  (hne : bx ≠ bz) (hn0 : 1 ≤ n) (hn : n ≤ 1000000) (hy : Wd y) (hcz : n ≤ cz) (hcx : n ≤ cx) :
  Calls Tryz.prog 128 #[.slice (some ⟨bz, oz, none⟩) n cz, .slice (some ⟨bx, ox, none⟩) n cx, .int .u64 y] w fun e w' =>
   ∃ (ds : List Int) (c : Int), e = .returned (.int .u64 c) ∧ ds.length = n ∧ Wds ds ∧ 0 ≤ c ∧ c ≤ 1 ∧ val ds + BP n * c = val (seg xs ox n) + y ∧ Row w' bz (put zs oz ds) ∧ Chg (· = bz) w w' := by
 have hx0 := hx.cell (i := ox) (by omega)
 have hz0 := hz.cell (i := oz) (by omega)
 have hf0 := hz.free oz
 have hwx := hx.wd ox
 have hset := hz.set oz (v := (xs.getD ox 0 + y) % 18446744073709551616) (Wd.mod _)
 have hxset := hx.set_ne hne oz (.int .u64 ((xs.getD ox 0 + y) % 18446744073709551616))
 have hchg := (Chg.refl (· = bz) w).setCell (p := ⟨bz, oz, none⟩) (fun _ => rfl) (.int .u64 ((xs.getD ox 0 + y) % 18446744073709551616))
 rw [set_put _ (by omega)] at hset
 have hwy := hy
 obtain ⟨hy0, hy1⟩ := hy
 have hseg1 : seg xs ox 1 = [xs.getD ox 0] := by have := seg_succ (xs := xs) (i := ox) (n := 0) (by omega); simpa [seg_zero] using this
 generalize xs.getD ox 0 = x at *
 obtain ⟨hw0, hw1⟩ := hwx
 have hnz : ((n : Int) == 0) = false := beq_eq_false_iff_ne.2 (by omega)
 have hnp : 0 < n := by omega
 have hnp' : (0 : Int) < (n : Int) := by omega
 have hq0 : 0 ≤ (x + y) / 18446744073709551616 := by omega
 have hq1 : (x + y) / 18446744073709551616 ≤ 1 := by omega
 have hval0 : val [(x + y) % 18446744073709551616] + BP 1 * ((x + y) / 18446744073709551616) = val (seg xs ox 1) + y := by rw [hseg1, BP_one]; simp only [val]; omega
 generalize hd : (x + y) % 18446744073709551616 = d at *
 generalize hcc : (x + y) / 18446744073709551616 = c at *
 have hwd : Wd d := by rw [← hd]; exact Wd.mod _
 have HD := hid hd
 have HC := hid hcc
 clear hd hcc
 have hadd : ∀ w, Calls Tryz.prog 142 #[.int .u64 x, .int .u64 y, .int .u64 0] w fun e w' => e = .returned (.tuple #[.int .u64 d, .int .u64 c]) ∧ w = w' := fun w => by
  have h := bits_Add x y 0 hw0 hy0 (by omega) (by omega) w
  rwa [Int.add_zero, HD.out, HC.out] at h
 have HA := hid hadd
 clear hadd
 by_cases hc0 : c = 0
 ·subst hc0
  have hv0 : val [d] = val (seg xs ox 1) + y := by rw [Int.mul_zero] at hval0; omega
  have HV := hid hv0
  clear hv0 hval0 hseg1
  go_enter Tryz.func128, Tryz.ntmps128
  go_wp2_with (go_at_call 142; refine (HA.out _).mono ?_; rintro e w' ⟨rfl, rfl⟩)
  generalize w.setCell ⟨bz, oz, none⟩ (.int .u64 d) = w1 at *
  have hpn := fun k => ptr_neq_other (w1.drewN k) bz bx oz ox _ _ hset hxset (fun e => hne e.symm)
  go_quiet (fail)
  clear hpn
  go_wp2_with fail
  have hset2 : Row (w1.drewN nq) bz _ := hset
  have hxset2 : Row (w1.drewN nq) bx _ := hxset
  have hchg2 : Chg (· = bz) w (w1.drewN nq) := hchg.drewN nq
  generalize w1.drewN nq = w2 at *
  have hfin : put (put zs oz [d]) (oz + 1) (seg xs (ox + 1) (n - 1)) = put zs oz ([d] ++ seg xs (ox + 1) (n - 1)) := put_put (ds := [d]) (by rw [seg_length (by omega)]; simp; omega)
  have hwds : Wds ([d] ++ seg xs (ox + 1) (n - 1)) := (Wds.cons hwd Wds.nil).append (seg_wds hx.2 _ _)
  have HF := hid hfin
  clear hfin
  by_cases h2 : 2 ≤ n
  ·have hcz1 : ¬ cz = 1 := by omega
   have hcx1 : ¬ cx = 1 := by omega
   have hcz3 : 1 ≤ cz := by omega
   have hcx3 : 1 ≤ cx := by omega
   have hcp := fun ty => run_copy_words w2.drew ty bz (oz + 1) (n - 1) (cz - 1) bx (ox + 1) (n - 1) (cx - 1) (n - 1) _ _ 118 118 Tryz.underlying118 hset2.drew hxset2.drew (by simp) (by rw [put_length (by simp; omega)]; omega) (by omega)
   go_region
   go_wp2_with fail
   go_ret
   refine ⟨[d] ++ seg xs (ox + 1) (n - 1), 0, rfl, by simp only [List.length_append, List.length_singleton]; rw [seg_length (by omega)]; omega, hwds, by omega, by omega, ?_, ?_, hchg2.drew.setRow (fun _ => rfl) _⟩
   ·have := val_rest (xs := xs) (i := ox) (k := 1) (n := n) (ds := [d]) (y := y) rfl (by omega) (by omega) (by have := HV.out; omega)
    rw [this, Int.mul_zero]; omega
   ·rw [← HF.out]
    exact hset2.drew.setRow (put_wds hset2.2 (seg_wds hx.2 _ _) _)
  ·obtain rfl : n = 1 := by omega
   have hcp := fun ty (d a : Option Addr) dc sc => run_copy_none w2.drew 118 118 ty 136 d a 0 dc 0 sc Tryz.underlying118 (by rw [info_word]; simp [word_size]) rfl
   have hcz3 : 1 ≤ cz := by omega
   have hcx3 : 1 ≤ cx := by omega
   go_region
   all_goals go_wp2_with fail
   all_goals
    go_ret
    exact ⟨[d], 0, rfl, rfl, Wds.cons hwd Wds.nil, by omega, by omega, by rw [HV.out, Int.mul_zero]; omega, hset2.drew, hchg2.drew⟩
 ·obtain rfl : c = 1 := by omega
  clear hc0
  rw [Int.mul_one] at hval0
  have HV := hid hval0
  clear hval0 hseg1
  go_enter Tryz.func128, Tryz.ntmps128
  go_wp2_with (go_at_call 142; refine (HA.out _).mono ?_; rintro e w' ⟨rfl, rfl⟩)
  generalize w.setCell ⟨bz, oz, none⟩ (.int .u64 d) = w1 at *
  go_loopw [9] (fun i wr => ∃ (k : Nat) (ds : List Int), 1 ≤ k ∧ k ≤ n ∧ i = .int .i64 k ∧ ds.length = k ∧ Wds ds ∧ val ds + BP k = val (seg xs ox k) + y ∧ Row wr bz (put zs oz ds) ∧ Chg (· = bz) w wr)
   (fun i _ => n - (intOf i).toNat)
  case atStart => exact ⟨1, [d], Nat.le_refl _, hn0, rfl, rfl, Wds.cons hwd Wds.nil, HV.out, hset, hchg⟩
  case round =>
   obtain ⟨k, ds, hk1, hk, rfl, hlk, hwds, hval, hzr, hcr⟩ := hrel
   have HVK := hid hval
   clear hval
   by_cases hlt : k < n
   ·have hcx0 : wr.cell? ⟨bx, ox + k, none⟩ = some (.int .u64 (xs.getD (ox + k) 0)) := read_ahead hz hx hzr hcr hlk (by omega) (by omega) (fun _ => by exact absurd (by assumption) hne)
    have hcz0 := hzr.cell (i := oz + k) (by rw [put_length (by omega)]; omega)
    have hfz := hzr.free (oz + k)
    have hwi := hx.wd (ox + k)
    have hss : seg xs ox (k + 1) = seg xs ox k ++ [xs.getD (ox + k) 0] := seg_succ (by omega)
    generalize xs.getD (ox + k) 0 = xi at *
    obtain ⟨hxi0, hxi1⟩ := hwi
    have hvs : val (seg xs ox (k + 1)) = val (seg xs ox k) + BP k * xi := by rw [hss, val_snoc, seg_length (by omega)]
    have HLK := hid hlk
    have HVS := hid hvs
    clear hss hlk hvs
    by_cases hfull : xi = 18446744073709551615
    ·have hb : (xi != 18446744073709551615) = false := by rw [hfull]; rfl
     have HFU := hid hfull
     clear hfull
     have hset3 := hzr.set (oz + k) (v := 0) (by unfold Wd; omega)
     have hput : (put zs oz ds).set (oz + k) 0 = put zs oz (ds ++ [0]) := by rw [← HLK.out]; exact put_snoc _ (by have := HLK.out; omega)
     rw [hput] at hset3
     clear hput
     go_wp2_with fail
     go_roundw
     case rel => exact ⟨k + 1, ds ++ [0], by omega, by omega, by go_num, by simp [HLK.out], hwds.append (Wds.cons (by unfold Wd; omega) Wds.nil), by rw [val_snoc, HLK.out, HVS.out, BP_succ, HFU.out]; have := HVK.out; omega, hset3, hcr.setCell (fun _ => rfl) _⟩
     case measure => simp [intOf]; omega
    ·have hb : (xi != 18446744073709551615) = true := by rw [bne_iff_ne]; exact hfull
     have hxb : xi + 1 < 18446744073709551616 := by omega
     clear hfull
     have hset3 := hzr.set (oz + k) (v := xi + 1) (by unfold Wd; omega)
     have hput : (put zs oz ds).set (oz + k) (xi + 1) = put zs oz (ds ++ [xi + 1]) := by rw [← HLK.out]; exact put_snoc _ (by have := HLK.out; omega)
     rw [hput] at hset3
     clear hput
     have hxset3 := (hx.kept hcr hne).set_ne hne (oz + k) (.int .u64 (xi + 1))
     have hchg3 := hcr.setCell (p := ⟨bz, oz + k, none⟩) (fun _ => rfl) (.int .u64 (xi + 1))
     have hval3 : val (ds ++ [xi + 1]) = val (seg xs ox (k + 1)) + y := by rw [val_snoc, HLK.out, HVS.out, Int.mul_add, Int.mul_one]; have := HVK.out; omega
     have hlen3 : (ds ++ [xi + 1]).length = k + 1 := by simp [HLK.out]
     have hwds3 : Wds (ds ++ [xi + 1]) := hwds.append (Wds.cons (by unfold Wd; omega) Wds.nil)
     go_wp2_with fail
     generalize wr.setCell ⟨bz, oz + k, none⟩ (.int .u64 (xi + 1)) = w3 at *
     generalize ds ++ [xi + 1] = es at *
     have HL3 := hid hlen3
     have HV3 := hid hval3
     clear hlen3 hval3
     have hpn := fun k => ptr_neq_other (w3.drewN k) bz bx oz ox _ _ hset3 hxset3 (fun e => hne e.symm)
     go_quiet (fail)
     clear hpn
     go_wp2_with fail
     have hset4 : Row (w3.drewN nq) bz _ := hset3
     have hxset4 : Row (w3.drewN nq) bx _ := hxset3
     have hchg4 : Chg (· = bz) w (w3.drewN nq) := hchg3.drewN nq
     generalize w3.drewN nq = w4 at *
     by_cases h2 : k + 2 ≤ n
     ·have hcz1 : ¬ cz = k + 1 := by omega
      have hcx1 : ¬ cx = k + 1 := by omega
      have hcz3 : k + 1 ≤ cz := by omega
      have hcx3 : k + 1 ≤ cx := by omega
      have hcp := fun ty => run_copy_words w4.drew ty bz (oz + (k + 1)) (n - (k + 1)) (cz - (k + 1)) bx (ox + (k + 1)) (n - (k + 1)) (cx - (k + 1)) (n - (k + 1)) _ _ 118 118 Tryz.underlying118 hset4.drew hxset4.drew (by simp) (by have := HL3.out; rw [put_length (by omega)]; omega) (by omega)
      go_region
      go_wp2_with fail
      go_ret
      have hpp := put_put (xs := zs) (i := oz) (ds := es) (es := seg xs (ox + (k + 1)) (n - (k + 1))) (by have := HL3.out; rw [seg_length (by omega)]; omega)
      rw [HL3.out] at hpp
      refine ⟨es ++ seg xs (ox + (k + 1)) (n - (k + 1)), 0, rfl, by have := HL3.out; rw [List.length_append, seg_length (by omega)]; omega, hwds3.append (seg_wds hx.2 _ _), by omega, by omega, ?_, ?_, hchg4.drew.setRow (fun _ => rfl) _⟩
      ·have := val_rest (xs := xs) (i := ox) (k := k + 1) (n := n) (ds := es) (y := y) HL3.out (by omega) (by omega) HV3.out
       rw [this, Int.mul_zero]; omega
      ·rw [← hpp]
       exact hset4.drew.setRow (put_wds hset4.2 (seg_wds hx.2 _ _) _)
     ·obtain rfl : n = k + 1 := by omega
      have hcp := fun ty (d a : Option Addr) dc sc => run_copy_none w4.drew 118 118 ty 136 d a 0 dc 0 sc Tryz.underlying118 (by rw [info_word]; simp [word_size]) rfl
      have hcz3 : k + 1 ≤ cz := by omega
      have hcx3 : k + 1 ≤ cx := by omega
      go_region
      all_goals go_wp2_with fail
      all_goals
       go_ret
       exact ⟨es, 0, rfl, HL3.out, hwds3, by omega, by omega, by rw [HV3.out, Int.mul_zero]; omega, hset4.drew, hchg4.drew⟩
   ·go_wp2_with fail
    go_ret
    obtain rfl : k = n := by omega
    exact ⟨ds, 1, rfl, hlk, hwds, by omega, by omega, by rw [Int.mul_one]; exact HVK.out, hzr, hcr⟩
set_option maxHeartbeats 1600000 in
theorem addVW_same (bz oz cz cx n : Nat) (zs : List Int) (y : Int) (w : World)
  (hz : Row w bz zs) (hzl : oz + n ≤ zs.length) (hn0 : 1 ≤ n) (hn : n ≤ 1000000) (hy : Wd y) :
  Calls Tryz.prog 128 #[.slice (some ⟨bz, oz, none⟩) n cz, .slice (some ⟨bz, oz, none⟩) n cx, .int .u64 y] w fun e w' =>
   ∃ (ds : List Int) (c : Int), e = .returned (.int .u64 c) ∧ ds.length = n ∧ Wds ds ∧ 0 ≤ c ∧ c ≤ 1 ∧ val ds + BP n * c = val (seg zs oz n) + y ∧ Row w' bz (put zs oz ds) ∧ Chg (· = bz) w w' := by
 have hx := hz
 have hxl := hzl
 have hx0 := hx.cell (i := oz) (by omega)
 have hz0 := hz.cell (i := oz) (by omega)
 have hf0 := hz.free oz
 have hwx := hx.wd oz
 have hset := hz.set oz (v := (zs.getD oz 0 + y) % 18446744073709551616) (Wd.mod _)
 have hchg := (Chg.refl (· = bz) w).setCell (p := ⟨bz, oz, none⟩) (fun _ => rfl) (.int .u64 ((zs.getD oz 0 + y) % 18446744073709551616))
 rw [set_put _ (by omega)] at hset
 have hwy := hy
 obtain ⟨hy0, hy1⟩ := hy
 have hseg1 : seg zs oz 1 = [zs.getD oz 0] := by have := seg_succ (xs := zs) (i := oz) (n := 0) (by omega); simpa [seg_zero] using this
 generalize zs.getD oz 0 = x at *
 obtain ⟨hw0, hw1⟩ := hwx
 have hnz : ((n : Int) == 0) = false := beq_eq_false_iff_ne.2 (by omega)
 have hnp : 0 < n := by omega
 have hnp' : (0 : Int) < (n : Int) := by omega
 have hq0 : 0 ≤ (x + y) / 18446744073709551616 := by omega
 have hq1 : (x + y) / 18446744073709551616 ≤ 1 := by omega
 have hval0 : val [(x + y) % 18446744073709551616] + BP 1 * ((x + y) / 18446744073709551616) = val (seg zs oz 1) + y := by rw [hseg1, BP_one]; simp only [val]; omega
 generalize hd : (x + y) % 18446744073709551616 = d at *
 generalize hcc : (x + y) / 18446744073709551616 = c at *
 have hwd : Wd d := by rw [← hd]; exact Wd.mod _
 have HD := hid hd
 have HC := hid hcc
 clear hd hcc
 have hadd : ∀ w, Calls Tryz.prog 142 #[.int .u64 x, .int .u64 y, .int .u64 0] w fun e w' => e = .returned (.tuple #[.int .u64 d, .int .u64 c]) ∧ w = w' := fun w => by
  have h := bits_Add x y 0 hw0 hy0 (by omega) (by omega) w
  rwa [Int.add_zero, HD.out, HC.out] at h
 have HA := hid hadd
 clear hadd
 by_cases hc0 : c = 0
 ·subst hc0
  have hv0 : val [d] = val (seg zs oz 1) + y := by rw [Int.mul_zero] at hval0; omega
  have HV := hid hv0
  clear hv0 hval0 hseg1
  go_enter Tryz.func128, Tryz.ntmps128
  go_wp2_with (go_at_call 142; refine (HA.out _).mono ?_; rintro e w' ⟨rfl, rfl⟩)
  generalize w.setCell ⟨bz, oz, none⟩ (.int .u64 d) = w1 at *
  have hpn := fun k => ptr_neq_same (w1.drewN k) ⟨bz, oz, none⟩
  go_quiet (fail)
  clear hpn
  go_wp2_with fail
  go_ret
  refine ⟨[d] ++ seg zs (oz + 1) (n - 1), 0, rfl, by simp only [List.length_append, List.length_singleton]; rw [seg_length (by omega)]; omega, (Wds.cons hwd Wds.nil).append (seg_wds hx.2 _ _), by omega, by omega, ?_, ?_, hchg.drewN _⟩
  ·have := val_rest (xs := zs) (i := oz) (k := 1) (n := n) (ds := [d]) (y := y) rfl (by omega) (by omega) (by have := HV.out; omega)
   rw [this, Int.mul_zero]; omega
  ·have := put_rest (xs := zs) (i := oz) (n := n) (ds := [d]) (by simp; omega) (by omega)
   simp only [List.length_singleton] at this
   rw [this]; exact hset.drewN _
 ·obtain rfl : c = 1 := by omega
  clear hc0
  rw [Int.mul_one] at hval0
  have HV := hid hval0
  clear hval0 hseg1
  go_enter Tryz.func128, Tryz.ntmps128
  go_wp2_with (go_at_call 142; refine (HA.out _).mono ?_; rintro e w' ⟨rfl, rfl⟩)
  generalize w.setCell ⟨bz, oz, none⟩ (.int .u64 d) = w1 at *
  go_loopw [9] (fun i wr => ∃ (k : Nat) (ds : List Int), 1 ≤ k ∧ k ≤ n ∧ i = .int .i64 k ∧ ds.length = k ∧ Wds ds ∧ val ds + BP k = val (seg zs oz k) + y ∧ Row wr bz (put zs oz ds) ∧ Chg (· = bz) w wr)
   (fun i _ => n - (intOf i).toNat)
  case atStart => exact ⟨1, [d], Nat.le_refl _, hn0, rfl, rfl, Wds.cons hwd Wds.nil, HV.out, hset, hchg⟩
  case round =>
   obtain ⟨k, ds, hk1, hk, rfl, hlk, hwds, hval, hzr, hcr⟩ := hrel
   have HVK := hid hval
   clear hval
   by_cases hlt : k < n
   ·have hcx0 : wr.cell? ⟨bz, oz + k, none⟩ = some (.int .u64 (zs.getD (oz + k) 0)) := read_ahead hz hx hzr hcr hlk (by omega) (by omega) (fun _ => by omega)
    skip
    have hfz := hzr.free (oz + k)
    have hwi := hx.wd (oz + k)
    have hss : seg zs oz (k + 1) = seg zs oz k ++ [zs.getD (oz + k) 0] := seg_succ (by omega)
    generalize zs.getD (oz + k) 0 = xi at *
    obtain ⟨hxi0, hxi1⟩ := hwi
    have hvs : val (seg zs oz (k + 1)) = val (seg zs oz k) + BP k * xi := by rw [hss, val_snoc, seg_length (by omega)]
    have HLK := hid hlk
    have HVS := hid hvs
    clear hss hlk hvs
    by_cases hfull : xi = 18446744073709551615
    ·have hb : (xi != 18446744073709551615) = false := by rw [hfull]; rfl
     have HFU := hid hfull
     clear hfull
     have hset3 := hzr.set (oz + k) (v := 0) (by unfold Wd; omega)
     have hput : (put zs oz ds).set (oz + k) 0 = put zs oz (ds ++ [0]) := by rw [← HLK.out]; exact put_snoc _ (by have := HLK.out; omega)
     rw [hput] at hset3
     clear hput
     go_wp2_with fail
     go_roundw
     case rel => exact ⟨k + 1, ds ++ [0], by omega, by omega, by go_num, by simp [HLK.out], hwds.append (Wds.cons (by unfold Wd; omega) Wds.nil), by rw [val_snoc, HLK.out, HVS.out, BP_succ, HFU.out]; have := HVK.out; omega, hset3, hcr.setCell (fun _ => rfl) _⟩
     case measure => simp [intOf]; omega
    ·have hb : (xi != 18446744073709551615) = true := by rw [bne_iff_ne]; exact hfull
     have hxb : xi + 1 < 18446744073709551616 := by omega
     clear hfull
     have hset3 := hzr.set (oz + k) (v := xi + 1) (by unfold Wd; omega)
     have hput : (put zs oz ds).set (oz + k) (xi + 1) = put zs oz (ds ++ [xi + 1]) := by rw [← HLK.out]; exact put_snoc _ (by have := HLK.out; omega)
     rw [hput] at hset3
     clear hput
     have hchg3 := hcr.setCell (p := ⟨bz, oz + k, none⟩) (fun _ => rfl) (.int .u64 (xi + 1))
     have hval3 : val (ds ++ [xi + 1]) = val (seg zs oz (k + 1)) + y := by rw [val_snoc, HLK.out, HVS.out, Int.mul_add, Int.mul_one]; have := HVK.out; omega
     have hlen3 : (ds ++ [xi + 1]).length = k + 1 := by simp [HLK.out]
     have hwds3 : Wds (ds ++ [xi + 1]) := hwds.append (Wds.cons (by unfold Wd; omega) Wds.nil)
     go_wp2_with fail
     generalize wr.setCell ⟨bz, oz + k, none⟩ (.int .u64 (xi + 1)) = w3 at *
     generalize ds ++ [xi + 1] = es at *
     have HL3 := hid hlen3
     have HV3 := hid hval3
     clear hlen3 hval3
     have hpn := fun k => ptr_neq_same (w3.drewN k) ⟨bz, oz, none⟩
     go_quiet (fail)
     clear hpn
     go_wp2_with fail
     go_ret
     refine ⟨es ++ seg zs (oz + (k + 1)) (n - (k + 1)), 0, rfl, by have := HL3.out; rw [List.length_append, seg_length (by omega)]; omega, hwds3.append (seg_wds hx.2 _ _), by omega, by omega, ?_, ?_, hchg3.drewN _⟩
     ·have := val_rest (xs := zs) (i := oz) (k := k + 1) (n := n) (ds := es) (y := y) HL3.out (by omega) (by omega) HV3.out
      rw [this, Int.mul_zero]; omega
     ·have := put_rest (xs := zs) (i := oz) (n := n) (ds := es) (by have := HL3.out; omega) (by omega)
      rw [HL3.out] at this
      rw [this]; exact hset3.drewN _
   ·go_wp2_with fail
    go_ret
    obtain rfl : k = n := by omega
    exact ⟨ds, 1, rfl, hlk, hwds, by omega, by omega, by rw [Int.mul_one]; exact HVK.out, hzr, hcr⟩
set_option maxHeartbeats 1600000 in
theorem subVW_apart (bz oz cz bx ox cx n : Nat) (zs xs : List Int) (y : Int) (w : World)
  (hz : Row w bz zs) (hx : Row w bx xs) (hzl : oz + n ≤ zs.length) (hxl : ox + n ≤ xs.length)
  (hne : bx ≠ bz) (hn0 : 1 ≤ n) (hn : n ≤ 1000000) (hy : Wd y) (hcz : n ≤ cz) (hcx : n ≤ cx) :
  Calls Tryz.prog 131 #[.slice (some ⟨bz, oz, none⟩) n cz, .slice (some ⟨bx, ox, none⟩) n cx, .int .u64 y] w fun e w' =>
   ∃ (ds : List Int) (c : Int), e = .returned (.int .u64 c) ∧ ds.length = n ∧ Wds ds ∧ 0 ≤ c ∧ c ≤ 1 ∧ val ds = val (seg xs ox n) - y + BP n * c ∧ Row w' bz (put zs oz ds) ∧ Chg (· = bz) w w' := by
 have hx0 := hx.cell (i := ox) (by omega)
 have hz0 := hz.cell (i := oz) (by omega)
 have hf0 := hz.free oz
 have hwx := hx.wd ox
 have hset := hz.set oz (v := (xs.getD ox 0 - y) % 18446744073709551616) (Wd.mod _)
 have hxset := hx.set_ne hne oz (.int .u64 ((xs.getD ox 0 - y) % 18446744073709551616))
 have hchg := (Chg.refl (· = bz) w).setCell (p := ⟨bz, oz, none⟩) (fun _ => rfl) (.int .u64 ((xs.getD ox 0 - y) % 18446744073709551616))
 rw [set_put _ (by omega)] at hset
 have hwy := hy
 obtain ⟨hy0, hy1⟩ := hy
 have hseg1 : seg xs ox 1 = [xs.getD ox 0] := by have := seg_succ (xs := xs) (i := ox) (n := 0) (by omega); simpa [seg_zero] using this
 generalize xs.getD ox 0 = x at *
 obtain ⟨hw0, hw1⟩ := hwx
 have hnz : ((n : Int) == 0) = false := beq_eq_false_iff_ne.2 (by omega)
 have hnp : 0 < n := by omega
 have hnp' : (0 : Int) < (n : Int) := by omega
 obtain ⟨hq0, hq1⟩ := brw_bd x y
 have hval0 : val [(x - y) % 18446744073709551616] = val (seg xs ox 1) - y + BP 1 * (brw x y) := by
  rw [hseg1, BP_one]; simp only [val]; have := brw_spec (x := x) (y := y) (c := 0) ⟨hw0, hw1⟩ hwy (by omega) (by omega); simp only [Int.sub_zero, Int.add_zero] at this; omega
 generalize hd : (x - y) % 18446744073709551616 = d at *
 generalize hcc : brw x y = c at *
 have hwd : Wd d := by rw [← hd]; exact Wd.mod _
 have HD := hid hd
 have HC := hid hcc
 clear hd hcc
 have hadd : ∀ w, Calls Tryz.prog 144 #[.int .u64 x, .int .u64 y, .int .u64 0] w fun e w' => e = .returned (.tuple #[.int .u64 d, .int .u64 c]) ∧ w = w' := fun w => by
  have h := bits_Sub x y 0 ⟨hw0, hw1⟩ hwy (by omega) (by omega) w
  rwa [Int.add_zero, Int.sub_zero, HD.out, HC.out] at h
 have HA := hid hadd
 clear hadd
 by_cases hc0 : c = 0
 ·subst hc0
  have hv0 : val [d] = val (seg xs ox 1) - y := by rw [Int.mul_zero] at hval0; omega
  have HV := hid hv0
  clear hv0 hval0 hseg1
  go_enter Tryz.func131, Tryz.ntmps131
  go_wp2_with (go_at_call 144; refine (HA.out _).mono ?_; rintro e w' ⟨rfl, rfl⟩)
  generalize w.setCell ⟨bz, oz, none⟩ (.int .u64 d) = w1 at *
  have hpn := fun k => ptr_neq_other (w1.drewN k) bz bx oz ox _ _ hset hxset (fun e => hne e.symm)
  go_quiet (fail)
  clear hpn
  go_wp2_with fail
  have hset2 : Row (w1.drewN nq) bz _ := hset
  have hxset2 : Row (w1.drewN nq) bx _ := hxset
  have hchg2 : Chg (· = bz) w (w1.drewN nq) := hchg.drewN nq
  generalize w1.drewN nq = w2 at *
  have hfin : put (put zs oz [d]) (oz + 1) (seg xs (ox + 1) (n - 1)) = put zs oz ([d] ++ seg xs (ox + 1) (n - 1)) := put_put (ds := [d]) (by rw [seg_length (by omega)]; simp; omega)
  have hwds : Wds ([d] ++ seg xs (ox + 1) (n - 1)) := (Wds.cons hwd Wds.nil).append (seg_wds hx.2 _ _)
  have HF := hid hfin
  clear hfin
  by_cases h2 : 2 ≤ n
  ·have hcz1 : ¬ cz = 1 := by omega
   have hcx1 : ¬ cx = 1 := by omega
   have hcz3 : 1 ≤ cz := by omega
   have hcx3 : 1 ≤ cx := by omega
   have hcp := fun ty => run_copy_words w2.drew ty bz (oz + 1) (n - 1) (cz - 1) bx (ox + 1) (n - 1) (cx - 1) (n - 1) _ _ 118 118 Tryz.underlying118 hset2.drew hxset2.drew (by simp) (by rw [put_length (by simp; omega)]; omega) (by omega)
   go_region
   go_wp2_with fail
   go_ret
   refine ⟨[d] ++ seg xs (ox + 1) (n - 1), 0, rfl, by simp only [List.length_append, List.length_singleton]; rw [seg_length (by omega)]; omega, hwds, by omega, by omega, ?_, ?_, hchg2.drew.setRow (fun _ => rfl) _⟩
   ·have := val_rest (xs := xs) (i := ox) (k := 1) (n := n) (ds := [d]) (y := -y) rfl (by omega) (by omega) (by have := HV.out; omega)
    rw [this, Int.mul_zero]; omega
   ·rw [← HF.out]
    exact hset2.drew.setRow (put_wds hset2.2 (seg_wds hx.2 _ _) _)
  ·obtain rfl : n = 1 := by omega
   have hcp := fun ty (d a : Option Addr) dc sc => run_copy_none w2.drew 118 118 ty 136 d a 0 dc 0 sc Tryz.underlying118 (by rw [info_word]; simp [word_size]) rfl
   have hcz3 : 1 ≤ cz := by omega
   have hcx3 : 1 ≤ cx := by omega
   go_region
   all_goals go_wp2_with fail
   all_goals
    go_ret
    exact ⟨[d], 0, rfl, rfl, Wds.cons hwd Wds.nil, by omega, by omega, by rw [HV.out, Int.mul_zero]; omega, hset2.drew, hchg2.drew⟩
 ·obtain rfl : c = 1 := by omega
  clear hc0
  rw [Int.mul_one] at hval0
  have HV := hid hval0
  clear hval0 hseg1
  go_enter Tryz.func131, Tryz.ntmps131
  go_wp2_with (go_at_call 144; refine (HA.out _).mono ?_; rintro e w' ⟨rfl, rfl⟩)
  generalize w.setCell ⟨bz, oz, none⟩ (.int .u64 d) = w1 at *
  go_loopw [9] (fun i wr => ∃ (k : Nat) (ds : List Int), 1 ≤ k ∧ k ≤ n ∧ i = .int .i64 k ∧ ds.length = k ∧ Wds ds ∧ val ds = val (seg xs ox k) - y + BP k ∧ Row wr bz (put zs oz ds) ∧ Chg (· = bz) w wr)
   (fun i _ => n - (intOf i).toNat)
  case atStart => exact ⟨1, [d], Nat.le_refl _, hn0, rfl, rfl, Wds.cons hwd Wds.nil, HV.out, hset, hchg⟩
  case round =>
   obtain ⟨k, ds, hk1, hk, rfl, hlk, hwds, hval, hzr, hcr⟩ := hrel
   have HVK := hid hval
   clear hval
   by_cases hlt : k < n
   ·have hcx0 : wr.cell? ⟨bx, ox + k, none⟩ = some (.int .u64 (xs.getD (ox + k) 0)) := read_ahead hz hx hzr hcr hlk (by omega) (by omega) (fun _ => by exact absurd (by assumption) hne)
    have hcz0 := hzr.cell (i := oz + k) (by rw [put_length (by omega)]; omega)
    have hfz := hzr.free (oz + k)
    have hwi := hx.wd (ox + k)
    have hss : seg xs ox (k + 1) = seg xs ox k ++ [xs.getD (ox + k) 0] := seg_succ (by omega)
    generalize xs.getD (ox + k) 0 = xi at *
    obtain ⟨hxi0, hxi1⟩ := hwi
    have hvs : val (seg xs ox (k + 1)) = val (seg xs ox k) + BP k * xi := by rw [hss, val_snoc, seg_length (by omega)]
    have HLK := hid hlk
    have HVS := hid hvs
    clear hss hlk hvs
    by_cases hfull : xi = 0
    ·have hb : (xi != 0) = false := by rw [hfull]; rfl
     have HFU := hid hfull
     clear hfull
     have hset3 := hzr.set (oz + k) (v := 18446744073709551615) (by unfold Wd; omega)
     have hput : (put zs oz ds).set (oz + k) 18446744073709551615 = put zs oz (ds ++ [18446744073709551615]) := by rw [← HLK.out]; exact put_snoc _ (by have := HLK.out; omega)
     rw [hput] at hset3
     clear hput
     go_wp2_with fail
     go_roundw
     case rel => exact ⟨k + 1, ds ++ [18446744073709551615], by omega, by omega, by go_num, by simp [HLK.out], hwds.append (Wds.cons (by unfold Wd; omega) Wds.nil), by rw [val_snoc, HLK.out, HVS.out, BP_succ, HFU.out]; have := HVK.out; omega, hset3, hcr.setCell (fun _ => rfl) _⟩
     case measure => simp [intOf]; omega
    ·have hb : (xi != 0) = true := by rw [bne_iff_ne]; exact hfull
     have hxb : 1 ≤ xi := by omega
     clear hfull
     have hset3 := hzr.set (oz + k) (v := xi - 1) (by unfold Wd; omega)
     have hput : (put zs oz ds).set (oz + k) (xi - 1) = put zs oz (ds ++ [xi - 1]) := by rw [← HLK.out]; exact put_snoc _ (by have := HLK.out; omega)
     rw [hput] at hset3
     clear hput
     have hxset3 := (hx.kept hcr hne).set_ne hne (oz + k) (.int .u64 (xi - 1))
     have hchg3 := hcr.setCell (p := ⟨bz, oz + k, none⟩) (fun _ => rfl) (.int .u64 (xi - 1))
     have hval3 : val (ds ++ [xi - 1]) = val (seg xs ox (k + 1)) + -y := by rw [val_snoc, HLK.out, HVS.out, Int.mul_sub, Int.mul_one]; have := HVK.out; omega
     have hlen3 : (ds ++ [xi - 1]).length = k + 1 := by simp [HLK.out]
     have hwds3 : Wds (ds ++ [xi - 1]) := hwds.append (Wds.cons (by unfold Wd; omega) Wds.nil)
     go_wp2_with fail
     generalize wr.setCell ⟨bz, oz + k, none⟩ (.int .u64 (xi - 1)) = w3 at *
     generalize ds ++ [xi - 1] = es at *
     have HL3 := hid hlen3
     have HV3 := hid hval3
     clear hlen3 hval3
     have hpn := fun k => ptr_neq_other (w3.drewN k) bz bx oz ox _ _ hset3 hxset3 (fun e => hne e.symm)
     go_quiet (fail)
     clear hpn
     go_wp2_with fail
     have hset4 : Row (w3.drewN nq) bz _ := hset3
     have hxset4 : Row (w3.drewN nq) bx _ := hxset3
     have hchg4 : Chg (· = bz) w (w3.drewN nq) := hchg3.drewN nq
     generalize w3.drewN nq = w4 at *
     by_cases h2 : k + 2 ≤ n
     ·have hcz1 : ¬ cz = k + 1 := by omega
      have hcx1 : ¬ cx = k + 1 := by omega
      have hcz3 : k + 1 ≤ cz := by omega
      have hcx3 : k + 1 ≤ cx := by omega
      have hcp := fun ty => run_copy_words w4.drew ty bz (oz + (k + 1)) (n - (k + 1)) (cz - (k + 1)) bx (ox + (k + 1)) (n - (k + 1)) (cx - (k + 1)) (n - (k + 1)) _ _ 118 118 Tryz.underlying118 hset4.drew hxset4.drew (by simp) (by have := HL3.out; rw [put_length (by omega)]; omega) (by omega)
      go_region
      go_wp2_with fail
      go_ret
      have hpp := put_put (xs := zs) (i := oz) (ds := es) (es := seg xs (ox + (k + 1)) (n - (k + 1))) (by have := HL3.out; rw [seg_length (by omega)]; omega)
      rw [HL3.out] at hpp
      refine ⟨es ++ seg xs (ox + (k + 1)) (n - (k + 1)), 0, rfl, by have := HL3.out; rw [List.length_append, seg_length (by omega)]; omega, hwds3.append (seg_wds hx.2 _ _), by omega, by omega, ?_, ?_, hchg4.drew.setRow (fun _ => rfl) _⟩
      ·have := val_rest (xs := xs) (i := ox) (k := k + 1) (n := n) (ds := es) (y := -y) HL3.out (by omega) (by omega) HV3.out
       rw [this, Int.mul_zero]; omega
      ·rw [← hpp]
       exact hset4.drew.setRow (put_wds hset4.2 (seg_wds hx.2 _ _) _)
     ·obtain rfl : n = k + 1 := by omega
      have hcp := fun ty (d a : Option Addr) dc sc => run_copy_none w4.drew 118 118 ty 136 d a 0 dc 0 sc Tryz.underlying118 (by rw [info_word]; simp [word_size]) rfl
      have hcz3 : k + 1 ≤ cz := by omega
      have hcx3 : k + 1 ≤ cx := by omega
      go_region
      all_goals go_wp2_with fail
      all_goals
       go_ret
       exact ⟨es, 0, rfl, HL3.out, hwds3, by omega, by omega, by rw [HV3.out, Int.mul_zero]; omega, hset4.drew, hchg4.drew⟩
   ·go_wp2_with fail
    go_ret
    obtain rfl : k = n := by omega
    exact ⟨ds, 1, rfl, hlk, hwds, by omega, by omega, by rw [Int.mul_one]; exact HVK.out, hzr, hcr⟩
set_option maxHeartbeats 1600000 in
theorem subVW_same (bz oz cz cx n : Nat) (zs : List Int) (y : Int) (w : World)
  (hz : Row w bz zs) (hzl : oz + n ≤ zs.length) (hn0 : 1 ≤ n) (hn : n ≤ 1000000) (hy : Wd y) :
  Calls Tryz.prog 131 #[.slice (some ⟨bz, oz, none⟩) n cz, .slice (some ⟨bz, oz, none⟩) n cx, .int .u64 y] w fun e w' =>
   ∃ (ds : List Int) (c : Int), e = .returned (.int .u64 c) ∧ ds.length = n ∧ Wds ds ∧ 0 ≤ c ∧ c ≤ 1 ∧ val ds = val (seg zs oz n) - y + BP n * c ∧ Row w' bz (put zs oz ds) ∧ Chg (· = bz) w w' := by
 have hx := hz
 have hxl := hzl
 have hx0 := hx.cell (i := oz) (by omega)
 have hz0 := hz.cell (i := oz) (by omega)
 have hf0 := hz.free oz
 have hwx := hx.wd oz
 have hset := hz.set oz (v := (zs.getD oz 0 - y) % 18446744073709551616) (Wd.mod _)
 have hchg := (Chg.refl (· = bz) w).setCell (p := ⟨bz, oz, none⟩) (fun _ => rfl) (.int .u64 ((zs.getD oz 0 - y) % 18446744073709551616))
 rw [set_put _ (by omega)] at hset
 have hwy := hy
 obtain ⟨hy0, hy1⟩ := hy
 have hseg1 : seg zs oz 1 = [zs.getD oz 0] := by have := seg_succ (xs := zs) (i := oz) (n := 0) (by omega); simpa [seg_zero] using this
 generalize zs.getD oz 0 = x at *
 obtain ⟨hw0, hw1⟩ := hwx
 have hnz : ((n : Int) == 0) = false := beq_eq_false_iff_ne.2 (by omega)
 have hnp : 0 < n := by omega
 have hnp' : (0 : Int) < (n : Int) := by omega
 obtain ⟨hq0, hq1⟩ := brw_bd x y
 have hval0 : val [(x - y) % 18446744073709551616] = val (seg zs oz 1) - y + BP 1 * (brw x y) := by
  rw [hseg1, BP_one]; simp only [val]; have := brw_spec (x := x) (y := y) (c := 0) ⟨hw0, hw1⟩ hwy (by omega) (by omega); simp only [Int.sub_zero, Int.add_zero] at this; omega
 generalize hd : (x - y) % 18446744073709551616 = d at *
 generalize hcc : brw x y = c at *
 have hwd : Wd d := by rw [← hd]; exact Wd.mod _
 have HD := hid hd
 have HC := hid hcc
 clear hd hcc
 have hadd : ∀ w, Calls Tryz.prog 144 #[.int .u64 x, .int .u64 y, .int .u64 0] w fun e w' => e = .returned (.tuple #[.int .u64 d, .int .u64 c]) ∧ w = w' := fun w => by
  have h := bits_Sub x y 0 ⟨hw0, hw1⟩ hwy (by omega) (by omega) w
  rwa [Int.add_zero, Int.sub_zero, HD.out, HC.out] at h
 have HA := hid hadd
 clear hadd
 by_cases hc0 : c = 0
 ·subst hc0
  have hv0 : val [d] = val (seg zs oz 1) - y := by rw [Int.mul_zero] at hval0; omega
  have HV := hid hv0
  clear hv0 hval0 hseg1
  go_enter Tryz.func131, Tryz.ntmps131
  go_wp2_with (go_at_call 144; refine (HA.out _).mono ?_; rintro e w' ⟨rfl, rfl⟩)
  generalize w.setCell ⟨bz, oz, none⟩ (.int .u64 d) = w1 at *
  have hpn := fun k => ptr_neq_same (w1.drewN k) ⟨bz, oz, none⟩
  go_quiet (fail)
  clear hpn
  go_wp2_with fail
  go_ret
  refine ⟨[d] ++ seg zs (oz + 1) (n - 1), 0, rfl, by simp only [List.length_append, List.length_singleton]; rw [seg_length (by omega)]; omega, (Wds.cons hwd Wds.nil).append (seg_wds hx.2 _ _), by omega, by omega, ?_, ?_, hchg.drewN _⟩
  ·have := val_rest (xs := zs) (i := oz) (k := 1) (n := n) (ds := [d]) (y := -y) rfl (by omega) (by omega) (by have := HV.out; omega)
   rw [this, Int.mul_zero]; omega
  ·have := put_rest (xs := zs) (i := oz) (n := n) (ds := [d]) (by simp; omega) (by omega)
   simp only [List.length_singleton] at this
   rw [this]; exact hset.drewN _
 ·obtain rfl : c = 1 := by omega
  clear hc0
  rw [Int.mul_one] at hval0
  have HV := hid hval0
  clear hval0 hseg1
  go_enter Tryz.func131, Tryz.ntmps131
  go_wp2_with (go_at_call 144; refine (HA.out _).mono ?_; rintro e w' ⟨rfl, rfl⟩)
  generalize w.setCell ⟨bz, oz, none⟩ (.int .u64 d) = w1 at *
  go_loopw [9] (fun i wr => ∃ (k : Nat) (ds : List Int), 1 ≤ k ∧ k ≤ n ∧ i = .int .i64 k ∧ ds.length = k ∧ Wds ds ∧ val ds = val (seg zs oz k) - y + BP k ∧ Row wr bz (put zs oz ds) ∧ Chg (· = bz) w wr)
   (fun i _ => n - (intOf i).toNat)
  case atStart => exact ⟨1, [d], Nat.le_refl _, hn0, rfl, rfl, Wds.cons hwd Wds.nil, HV.out, hset, hchg⟩
  case round =>
   obtain ⟨k, ds, hk1, hk, rfl, hlk, hwds, hval, hzr, hcr⟩ := hrel
   have HVK := hid hval
   clear hval
   by_cases hlt : k < n
   ·have hcx0 : wr.cell? ⟨bz, oz + k, none⟩ = some (.int .u64 (zs.getD (oz + k) 0)) := read_ahead hz hx hzr hcr hlk (by omega) (by omega) (fun _ => by omega)
    skip
    have hfz := hzr.free (oz + k)
    have hwi := hx.wd (oz + k)
    have hss : seg zs oz (k + 1) = seg zs oz k ++ [zs.getD (oz + k) 0] := seg_succ (by omega)
    generalize zs.getD (oz + k) 0 = xi at *
    obtain ⟨hxi0, hxi1⟩ := hwi
    have hvs : val (seg zs oz (k + 1)) = val (seg zs oz k) + BP k * xi := by rw [hss, val_snoc, seg_length (by omega)]
    have HLK := hid hlk
    have HVS := hid hvs
    clear hss hlk hvs
    by_cases hfull : xi = 0
    ·have hb : (xi != 0) = false := by rw [hfull]; rfl
     have HFU := hid hfull
     clear hfull
     have hset3 := hzr.set (oz + k) (v := 18446744073709551615) (by unfold Wd; omega)
     have hput : (put zs oz ds).set (oz + k) 18446744073709551615 = put zs oz (ds ++ [18446744073709551615]) := by rw [← HLK.out]; exact put_snoc _ (by have := HLK.out; omega)
     rw [hput] at hset3
     clear hput
     go_wp2_with fail
     go_roundw
     case rel => exact ⟨k + 1, ds ++ [18446744073709551615], by omega, by omega, by go_num, by simp [HLK.out], hwds.append (Wds.cons (by unfold Wd; omega) Wds.nil), by rw [val_snoc, HLK.out, HVS.out, BP_succ, HFU.out]; have := HVK.out; omega, hset3, hcr.setCell (fun _ => rfl) _⟩
     case measure => simp [intOf]; omega
    ·have hb : (xi != 0) = true := by rw [bne_iff_ne]; exact hfull
     have hxb : 1 ≤ xi := by omega
     clear hfull
     have hset3 := hzr.set (oz + k) (v := xi - 1) (by unfold Wd; omega)
     have hput : (put zs oz ds).set (oz + k) (xi - 1) = put zs oz (ds ++ [xi - 1]) := by rw [← HLK.out]; exact put_snoc _ (by have := HLK.out; omega)
     rw [hput] at hset3
     clear hput
     have hchg3 := hcr.setCell (p := ⟨bz, oz + k, none⟩) (fun _ => rfl) (.int .u64 (xi - 1))
     have hval3 : val (ds ++ [xi - 1]) = val (seg zs oz (k + 1)) + -y := by rw [val_snoc, HLK.out, HVS.out, Int.mul_sub, Int.mul_one]; have := HVK.out; omega
     have hlen3 : (ds ++ [xi - 1]).length = k + 1 := by simp [HLK.out]
     have hwds3 : Wds (ds ++ [xi - 1]) := hwds.append (Wds.cons (by unfold Wd; omega) Wds.nil)
     go_wp2_with fail
     generalize wr.setCell ⟨bz, oz + k, none⟩ (.int .u64 (xi - 1)) = w3 at *
     generalize ds ++ [xi - 1] = es at *
     have HL3 := hid hlen3
     have HV3 := hid hval3
     clear hlen3 hval3
     have hpn := fun k => ptr_neq_same (w3.drewN k) ⟨bz, oz, none⟩
     go_quiet (fail)
     clear hpn
     go_wp2_with fail
     go_ret
     refine ⟨es ++ seg zs (oz + (k + 1)) (n - (k + 1)), 0, rfl, by have := HL3.out; rw [List.length_append, seg_length (by omega)]; omega, hwds3.append (seg_wds hx.2 _ _), by omega, by omega, ?_, ?_, hchg3.drewN _⟩
     ·have := val_rest (xs := zs) (i := oz) (k := k + 1) (n := n) (ds := es) (y := -y) HL3.out (by omega) (by omega) HV3.out
      rw [this, Int.mul_zero]; omega
     ·have := put_rest (xs := zs) (i := oz) (n := n) (ds := es) (by have := HL3.out; omega) (by omega)
      rw [HL3.out] at this
      rw [this]; exact hset3.drewN _
   ·go_wp2_with fail
    go_ret
    obtain rfl : k = n := by omega
    exact ⟨ds, 1, rfl, hlk, hwds, by omega, by omega, by rw [Int.mul_one]; exact HVK.out, hzr, hcr⟩
theorem addVW_any (bz oz cz bx ox cx n : Nat) (zs xs : List Int) (y : Int) (w : World)
  (hz : Row w bz zs) (hx : Row w bx xs) (hzl : oz + n ≤ zs.length) (hxl : ox + n ≤ xs.length)
  (ax : bx = bz → ox = oz) (hn0 : 1 ≤ n) (hn : n ≤ 1000000) (hy : Wd y) (hcz : n ≤ cz) (hcx : n ≤ cx) :
  Calls Tryz.prog 128 #[.slice (some ⟨bz, oz, none⟩) n cz, .slice (some ⟨bx, ox, none⟩) n cx, .int .u64 y] w fun e w' =>
   ∃ (ds : List Int) (c : Int), e = .returned (.int .u64 c) ∧ ds.length = n ∧ Wds ds ∧ 0 ≤ c ∧ c ≤ 1 ∧ val ds + BP n * c = val (seg xs ox n) + y ∧ Row w' bz (put zs oz ds) ∧ Chg (· = bz) w w' := by
 by_cases e : bx = bz
 ·subst e
  obtain rfl := ax rfl
  obtain rfl := hz.inj hx
  exact addVW_same bx ox cz cx n zs y w hz hzl hn0 hn hy
 ·exact addVW_apart bz oz cz bx ox cx n zs xs y w hz hx hzl hxl e hn0 hn hy hcz hcx
theorem subVW_any (bz oz cz bx ox cx n : Nat) (zs xs : List Int) (y : Int) (w : World)
  (hz : Row w bz zs) (hx : Row w bx xs) (hzl : oz + n ≤ zs.length) (hxl : ox + n ≤ xs.length)
  (ax : bx = bz → ox = oz) (hn0 : 1 ≤ n) (hn : n ≤ 1000000) (hy : Wd y) (hcz : n ≤ cz) (hcx : n ≤ cx) :
  Calls Tryz.prog 131 #[.slice (some ⟨bz, oz, none⟩) n cz, .slice (some ⟨bx, ox, none⟩) n cx, .int .u64 y] w fun e w' =>
   ∃ (ds : List Int) (c : Int), e = .returned (.int .u64 c) ∧ ds.length = n ∧ Wds ds ∧ 0 ≤ c ∧ c ≤ 1 ∧ val ds = val (seg xs ox n) - y + BP n * c ∧ Row w' bz (put zs oz ds) ∧ Chg (· = bz) w w' := by
 by_cases e : bx = bz
 ·subst e
  obtain rfl := ax rfl
  obtain rfl := hz.inj hx
  exact subVW_same bx ox cz cx n zs y w hz hzl hn0 hn hy
 ·exact subVW_apart bz oz cz bx ox cx n zs xs y w hz hx hzl hxl e hn0 hn hy hcz hcx
end Go.Proofs.YthdkandofddohaaGreatDoor
namespace Go.Proofs.YthdkandofddohaaGreatDoor
open Go.RowKit
set_option linter.unusedVariables false
set_option maxRecDepth 20000
set_option linter.unusedSimpArgs false
def NatAt (w : World) (v : Value) (bo : Option Nat) (ds : List Int) : Prop :=
 match bo with
 | none => v = .slice none 0 0 ∧ ds = []
 | some b => ∃ sp : List Int, v = .slice (some ⟨b, 0, none⟩) ds.length (ds.length + sp.length) ∧ Row w b (ds ++ sp) ∧ 1 ≤ ds.length + sp.length ∧ ds.length + sp.length ≤ 9223372036854775807
theorem NatAt.nil (w : World) : NatAt w (.slice none 0 0) none [] := ⟨rfl, rfl⟩
theorem NatAt.mk {w : World} {b : Nat} {xs : List Int} {n : Nat} (h : Row w b xs) (hn : n ≤ xs.length) (h1 : 1 ≤ xs.length) (h2 : xs.length ≤ 9223372036854775807) :
  NatAt w (.slice (some ⟨b, 0, none⟩) n xs.length) (some b) (xs.take n) := by
 have e : (xs.take n).length = n := by simp; omega
 refine ⟨xs.drop n, ?_, ?_, ?_, ?_⟩
 ·rw [e]; congr 1; simp; omega
 ·rw [List.take_append_drop]; exact h
 ·rw [e]; simp; omega
 ·rw [e]; simp; omega
theorem NatAt.wds {w : World} {v : Value} {bo : Option Nat} {ds : List Int} (h : NatAt w v bo ds) : Wds ds := by
 cases bo with
 | none => rw [h.2]; exact Wds.nil
 | some b => obtain ⟨sp, _, hr, _⟩ := h; exact hr.2.left
theorem NatAt.lt {w : World} {v : Value} {b : Nat} {ds : List Int} (h : NatAt w v (some b) ds) : b < w.heap.size := by
 obtain ⟨sp, _, hr, _⟩ := h; exact hr.lt
theorem NatAt.kept {S : Nat → Prop} {w w' : World} {v : Value} {bo : Option Nat} {ds : List Int} (h : NatAt w v bo ds) (hc : Chg S w w') (hb : ∀ b, bo = some b → ¬ S b) : NatAt w' v bo ds := by
 cases bo with
 | none => exact h
 | some b => obtain ⟨sp, hv, hr, h1, h2⟩ := h; exact ⟨sp, hv, hr.kept hc (hb b rfl), h1, h2⟩
theorem NatAt.drew {w : World} {v : Value} {bo : Option Nat} {ds : List Int} (h : NatAt w v bo ds) : NatAt w.drew v bo ds := by cases bo <;> exact h
theorem NatAt.drewN {w : World} {v : Value} {bo : Option Nat} {ds : List Int} (h : NatAt w v bo ds) (n : Nat) : NatAt (w.drewN n) v bo ds := by cases bo <;> exact h
theorem NatAt.len {w : World} {v : Value} {bo : Option Nat} {ds : List Int} (h : NatAt w v bo ds) : ∃ a cap, v = .slice a ds.length cap := by
 cases bo with
 | none => obtain ⟨rfl, rfl⟩ := h; exact ⟨none, 0, rfl⟩
 | some b => obtain ⟨sp, hv, _⟩ := h; exact ⟨_, _, hv⟩
theorem NatAt.ne_nil {w : World} {v : Value} {bo : Option Nat} {ds : List Int} (h : NatAt w v bo ds) (hd : ds ≠ []) : ∃ b, bo = some b := by
 cases bo with
 | none => exact absurd h.2 hd
 | some b => exact ⟨b, rfl⟩
def PNorm (w : World) (b n : Nat) (x : Int) (e : Ending) (w' : World) : Prop :=
 ∃ (v : Value) (ds : List Int), e = .returned v ∧ NatAt w v (some b) ds ∧ Nrm ds ∧ val ds = x ∧ ds.length ≤ n ∧ w = w'
theorem norm_any (b n : Nat) (xs : List Int) (w : World) (hr : Row w b xs) (hn : n ≤ xs.length) (h1 : 1 ≤ xs.length) (h2 : xs.length ≤ 9223372036854775807) :
  Calls Tryz.prog 129 #[.slice (some ⟨b, 0, none⟩) n xs.length] w (PNorm w b n (val (xs.take n))) := by
 go_enter Tryz.func129, Tryz.ntmps129
 go_wp2
 go_loop [3] (fun i => ∃ k : Nat, k ≤ n ∧ i = .int .i64 k ∧ val (xs.take k) = val (xs.take n)) (fun i => (intOf i).toNat)
 case atStart => exact ⟨n, Nat.le_refl _, rfl, rfl⟩
 case round =>
  obtain ⟨k, hk, rfl, hv⟩ := hrel
  have HV := hid hv
  clear hv
  by_cases h0 : k = 0
  ·subst h0
   go_wp2_with fail
   go_ret
   exact ⟨_, _, rfl, NatAt.mk (n := 0) hr (by omega) h1 h2, Nrm.nil, HV.out, by simp, rfl⟩
  ·have hcell := hr.cell (i := k - 1) (by omega)
   have hgt : (0 : Int) < (k : Int) := by omega
   obtain ⟨q, rfl⟩ : ∃ q, k = q + 1 := ⟨k - 1, by omega⟩
   simp only [Nat.add_sub_cancel] at hcell
   have htk : xs.take (q + 1) = xs.take q ++ [xs.getD q 0] := by
    have := seg_succ (xs := xs) (i := 0) (n := q) (by omega); simpa [seg_take] using this
   generalize xs.getD q 0 = x at *
   by_cases hx : x = 0
   ·subst hx
    have hv2 : val (xs.take q) = val (xs.take n) := by rw [← HV.out, htk, val_snoc]; omega
    have HT := hid htk
    have HV2 := hid hv2
    clear htk hv2
    have hb0 : ((0 : Int) == 0) = true := rfl
    go_wp2_with fail
    go_round
    case rel => exact ⟨q, by omega, by go_num, HV2.out⟩
    case measure => simp [intOf]
   ·have hb0 : (x == 0) = false := beq_eq_false_iff_ne.2 hx
    have HX := hid hx
    have HT := hid htk
    clear hx htk
    go_wp2_with fail
    go_ret
    exact ⟨_, _, rfl, NatAt.mk (n := q + 1) hr (by omega) h1 h2, .inr ⟨_, _, HT.out, HX.out⟩, HV.out, by simp; omega, rfl⟩
def PMake (w : World) (bo : Option Nat) (n : Nat) (e : Ending) (w' : World) : Prop :=
 ∃ (b : Nat) (xs : List Int), e = .returned (.slice (some ⟨b, 0, none⟩) n xs.length) ∧ Row w' b xs ∧ n ≤ xs.length ∧ 1 ≤ xs.length ∧ xs.length ≤ 9223372036854775807 ∧ (bo = some b ∨ w.heap.size ≤ b) ∧ Chg (fun _ => False) w w'
theorem row_new (w : World) (n : Nat) : Row (w.alloc (.cells (List.replicate n (Value.int .u64 0)).toArray 136)) w.heap.size (List.replicate n 0) := by
 refine ⟨?_, Wds.zeros n⟩
 rw [heap_alloc_new]; simp
theorem run_make_words (w : World) (t : TypeId) (ht : Tryz.prog.underlying t = some (.slice 136)) (l c : Nat) (hlc : l ≤ c) (hc : c ≤ 1000004) :
  (Instr.makeSlice t (.int .i64 l) (.int .i64 c)).run Tryz.prog w = .ok (.slice (some ⟨w.heap.size, 0, none⟩) l c) (w.alloc (.cells (List.replicate c (Value.int .u64 0)).toArray 136)) := by
 have h := run_make (P := Tryz.prog) w t 136 wordInfo (.int .u64 0) ht info_word word_zero .i64 .i64 l c (by omega) (by omega) (by rw [word_bytes]; omega) (by omega)
 rw [h, word_size]
 have e : madeCells (Value.int .u64 0).cells c = (List.replicate c (Value.int .u64 0)).toArray := by
  apply Array.toList_inj.1
  rw [show (Value.int .u64 0).cells = #[Value.int .u64 0] from rfl, toList_madeCells_one]
 simp [e]
theorem make_any (v : Value) (bo : Option Nat) (zs : List Int) (n : Nat) (w : World) (hz : NatAt w v bo zs) (hn1 : 1 ≤ n) (hn : n ≤ 1000000) :
  Calls Tryz.prog 121 #[v, .int .i64 n] w (PMake w bo n) := by
 have hnew : ∀ (m : Nat), 1 ≤ m → m ≤ 1000004 → n ≤ m → PMake w bo n (.returned (.slice (some ⟨w.heap.size, 0, none⟩) n m)) (w.alloc (.cells (List.replicate m (Value.int .u64 0)).toArray 136)) :=
  fun m h1 h2 h3 => ⟨w.heap.size, List.replicate m 0, by simp, row_new w m, by simpa using h3, by simpa using h1, by simp; omega, .inr (Nat.le_refl _), (Chg.refl _ _).alloc _⟩
 have HNEW := hid hnew
 clear hnew
 have key : ∀ (a : Option Addr) (len cap : Nat), cap < n → Calls Tryz.prog 121 #[.slice a len cap, .int .i64 n] w (PMake w bo n) := by
  intro a len cap hcap
  have hlt : ¬ (n : Int) ≤ (cap : Int) := by omega
  by_cases h1 : n = 1
  ·subst h1
   have hmk : ∀ w, (Instr.makeSlice 119 (.int .i64 1) (.int .i64 1)).run Tryz.prog w = .ok (.slice (some ⟨w.heap.size, 0, none⟩) 1 1) (w.alloc (.cells #[Value.int .u64 0] 136)) := fun w => run_make_words w 119 Tryz.underlying119 1 1 (by omega) (by omega)
   have hb : ((1 : Int) == 1) = true := rfl
   go_enter Tryz.func121, Tryz.ntmps121
   go_wp2_with fail
   go_ret
   exact HNEW.out 1 (by omega) (by omega) (by omega)
  ·have hmk := run_make_words w 119 Tryz.underlying119 n (n + 4) (by omega) (by omega)
   have hb : ((n : Int) == 1) = false := beq_eq_false_iff_ne.2 (by omega)
   rw [show ((n + 4 : Nat) : Int) = (n : Int) + 4 by omega] at hmk
   go_enter Tryz.func121, Tryz.ntmps121
   go_wp2_with fail
   go_ret
   exact HNEW.out (n + 4) (by omega) (by omega) (by omega)
 cases bo with
 | none =>
  obtain ⟨rfl, rfl⟩ := hz
  exact key none 0 0 (by omega)
 | some b =>
  obtain ⟨sp, rfl, hr, h1, h2⟩ := hz
  by_cases hcap : zs.length + sp.length < n
  ·exact key _ _ _ hcap
  ·have hle : (n : Int) ≤ ((zs.length + sp.length : Nat) : Int) := by omega
   have hfin : PMake w (some b) n (.returned (.slice (some ⟨b, 0, none⟩) n (zs.length + sp.length))) w := ⟨b, zs ++ sp, by simp, hr, by simp; omega, by simp; omega, by simp; omega, .inl rfl, Chg.refl _ _⟩
   have HFIN := hid hfin
   clear hfin key
   generalize zs.length + sp.length = cap at *
   have hle2 : n ≤ cap := by omega
   go_enter Tryz.func121, Tryz.ntmps121
   go_wp2_with fail
   go_ret
   exact HFIN.out
end Go.Proofs.YthdkandofddohaaGreatDoor
namespace Go.Proofs.YthdkandofddohaaGreatDoor
open Go.RowKit
set_option linter.unusedVariables false
set_option linter.unusedSimpArgs false
set_option maxRecDepth 20000
def PNat (w : World) (bo : Option Nat) (x : Int) (e : Ending) (w' : World) : Prop :=
 ∃ (v : Value) (bo' : Option Nat) (ds : List Int), e = .returned v ∧ NatAt w' v bo' ds ∧ Nrm ds ∧ val ds = x ∧ (bo' = bo ∨ ∃ b, bo' = some b ∧ w.heap.size ≤ b) ∧ Chg (fun k => bo = some k) w w'
theorem Chg.mono {S T : Nat → Prop} {a b : World} (h : Chg S a b) (k : ∀ i, S i → T i) : Chg T a b := ⟨h.os, h.tape, h.output, h.size, fun i hi hn => h.keep i hi (fun s => hn (k i s))⟩
theorem NatAt.cut0 {w : World} {a : Option Addr} {n c : Nat} {bo : Option Nat} {zs : List Int} (h : NatAt w (.slice a n c) bo zs) : NatAt w (.slice a 0 c) bo [] := by
 cases bo with
 | none => obtain ⟨h1, h2⟩ := h; simp only [Value.slice.injEq] at h1; obtain ⟨rfl, rfl, rfl⟩ := h1; exact ⟨rfl, rfl⟩
 | some b =>
  obtain ⟨sp, hv, hr, h1, h2⟩ := h
  simp only [Value.slice.injEq] at hv
  obtain ⟨rfl, rfl, rfl⟩ := hv
  exact ⟨zs ++ sp, by simp, by simpa using hr, by simpa using h1, by simpa using h2⟩
theorem make0_any (v : Value) (bo : Option Nat) (zs : List Int) (w : World) (hz : NatAt w v bo zs) :
  Calls Tryz.prog 121 #[v, .int .i64 0] w (fun e w' => ∃ v', e = .returned v' ∧ NatAt w v' bo [] ∧ w = w') := by
 obtain ⟨a, c, rfl⟩ := hz.len
 have h0 := hz.cut0
 have H0 := hid h0
 have HZ := hid hz
 clear h0 hz
 have hle : (0 : Int) ≤ (c : Int) := by omega
 have hle2 : 0 ≤ c := by omega
 go_enter Tryz.func121, Tryz.ntmps121
 go_wp2_with fail
 go_ret
 exact ⟨_, rfl, H0.out, rfl⟩
theorem setWord_any (v : Value) (bo : Option Nat) (zs : List Int) (x : Int) (w : World) (hz : NatAt w v bo zs) (hx : Wd x) :
  Calls Tryz.prog 120 #[v, .int .u64 x] w (PNat w bo x) := by
 by_cases h0 : x = 0
 ·subst h0
  obtain ⟨a, c, rfl⟩ := hz.len
  have hfin : PNat w bo 0 (.returned (.slice a 0 c)) w := ⟨_, _, _, rfl, hz.cut0, Nrm.nil, rfl, .inl rfl, Chg.refl _ _⟩
  have HFIN := hid hfin
  clear hfin hz
  have hb : ((0 : Int) == 0) = true := rfl
  go_enter Tryz.func120, Tryz.ntmps120
  go_wp2_with fail
  go_ret
  exact HFIN.out
 ·have hb : (x == 0) = false := beq_eq_false_iff_ne.2 h0
  have hfin : ∀ (b : Nat) (xs : List Int) (w1 : World), Row w1 b xs → 1 ≤ xs.length → xs.length ≤ 9223372036854775807 → (bo = some b ∨ w.heap.size ≤ b) → Chg (fun _ => False) w w1 →
    PNat w bo x (.returned (.slice (some ⟨b, 0, none⟩) 1 xs.length)) (w1.setCell ⟨b, 0, none⟩ (.int .u64 x)) := by
   intro b xs w1 hr h1 h2 hb hc
   have hs := hr.set 0 hx
   have hl : (xs.set 0 x).length = xs.length := by simp
   have hn := NatAt.mk (n := 1) hs (by omega) (by omega) (by omega)
   rw [hl] at hn
   have ht : (xs.set 0 x).take 1 = [x] := by cases xs with | nil => simp at h1 | cons a t => simp
   rw [ht] at hn
   refine ⟨_, some b, [x], rfl, hn, .inr ⟨[], x, rfl, h0⟩, by simp [val], ?_, ?_⟩
   ·rcases hb with rfl | hb
    ·exact .inl rfl
    ·exact .inr ⟨b, rfl, hb⟩
   ·refine (hc.mono (fun _ h => h.elim)).setCell (fun hlt => ?_) _
    rcases hb with rfl | hb
    ·rfl
    ·simp at hlt; omega
  have HFIN := hid hfin
  have H0 := hid h0
  clear hfin h0
  go_enter Tryz.func120, Tryz.ntmps120
  go_wp2_with (go_at_call 121; refine (make_any v bo zs 1 _ hz (by omega) (by omega)).mono ?_; rintro e w1 ⟨b, xs, rfl, hr, hl1, hl2, hl3, hbo, hc⟩; have hcell := hr.cell (i := 0) (by omega); have hfree := hr.free 0)
  go_ret
  exact HFIN.out b xs w1 hr hl2 hl3 hbo hc
theorem setUint64_any (v : Value) (bo : Option Nat) (zs : List Int) (x : Int) (w : World) (hz : NatAt w v bo zs) (hx : Wd x) :
  Calls Tryz.prog 104 #[v, .int .u64 x] w (PNat w bo x) := by
 have h := fun w hz => setWord_any v bo zs x w hz hx
 have H := hid h
 clear h
 have hb : (x == x) = true := beq_self_eq_true x
 go_enter Tryz.func104, Tryz.ntmps104
 go_wp2_with (go_at_call 120; refine (H.out _ hz).mono ?_; rintro e w1 ⟨v', b', ds, rfl, h1, h2, h3, h4, h5⟩)
 go_ret
 exact ⟨v', b', ds, rfl, h1, h2, h3, h4, h5⟩
theorem set_any (v vx : Value) (bo bx : Option Nat) (zs xs : List Int) (w : World) (hz : NatAt w v bo zs) (hx : NatAt w vx bx xs) (nx : Nrm xs) (hl : xs.length ≤ 1000000) :
    Calls Tryz.prog 126 #[v, vx] w (PNat w bo (val xs)) := by
  cases bx with
  | none =>
    obtain ⟨rfl, rfl⟩ := hx
    have hcp := fun ty (d : Option Addr) dc w => run_copy_none (P := Tryz.prog) w 119 119 ty 136 d none 0 dc 0 0 Tryz.underlying119 (by rw [info_word]; simp [word_size]) rfl
    go_enter Tryz.func126, Tryz.ntmps126
    go_wp2_with (go_at_call 121; refine (make0_any v bo zs _ hz).mono ?_; rintro e w1 ⟨v', rfl, hn, rfl⟩; obtain ⟨a, c, rfl⟩ := hn.len)
    have hfin : PNat w bo (val []) (.returned (.slice a 0 c)) w := ⟨_, _, _, rfl, hn, Nrm.nil, rfl, .inl rfl, Chg.refl _ _⟩
    have HFIN := hid hfin
    clear hfin hn
    go_ret
    exact HFIN.out
  | some b =>
    obtain ⟨sp, rfl, hr, h1, h2⟩ := hx
    by_cases h0 : xs.length = 0
    · obtain rfl : xs = [] := List.length_eq_zero_iff.1 h0
      have hcp := fun ty (d a : Option Addr) dc sc w => run_copy_none (P := Tryz.prog) w 119 119 ty 136 d a 0 dc 0 sc Tryz.underlying119 (by rw [info_word]; simp [word_size]) rfl
      simp only [List.length_nil]
      generalize 0 + sp.length = cx at *
      go_enter Tryz.func126, Tryz.ntmps126
      go_wp2_with (go_at_call 121; refine (make0_any v bo zs _ hz).mono ?_; rintro e w1 ⟨v', rfl, hn, rfl⟩; obtain ⟨a, c, rfl⟩ := hn.len)
      have hfin : PNat w bo (val []) (.returned (.slice a 0 c)) w := ⟨_, _, _, rfl, hn, Nrm.nil, rfl, .inl rfl, Chg.refl _ _⟩
      have HFIN := hid hfin
      clear hfin hn
      go_ret
      exact HFIN.out
    · have hfin : ∀ (g : Nat) (rs : List Int) (w1 : World), Row w1 g rs → xs.length ≤ rs.length → 1 ≤ rs.length → rs.length ≤ 9223372036854775807 → (bo = some g ∨ w.heap.size ≤ g) → Chg (fun _ => False) w w1 →
          PNat w bo (val xs) (.returned (.slice (some ⟨g, 0, none⟩) xs.length rs.length)) (w1.setRow g ((put rs 0 (seg (xs ++ sp) 0 xs.length)).map (Value.int .u64)).toArray) := by
        intro g rs w1 hrr hl1 hl2 hl3 hbo hc
        have e1 : seg (xs ++ sp) 0 xs.length = xs := by simp [seg]
        rw [e1]
        have hr1 := hrr.setRow (put_wds hrr.2 hr.2.left 0)
        have hl : (put rs 0 xs).length = rs.length := put_length (by omega)
        have hn := NatAt.mk (n := xs.length) hr1 (by omega) (by omega) (by omega)
        rw [hl, show (put rs 0 xs).take xs.length = xs by simp [put]] at hn
        refine ⟨_, some g, xs, rfl, hn, nx, rfl, ?_, ?_⟩
        · rcases hbo with rfl | hb
          · exact .inl rfl
          · exact .inr ⟨g, rfl, hb⟩
        · refine (hc.mono (fun _ h => h.elim)).setRow (fun hlt => ?_) _
          rcases hbo with rfl | hb
          · rfl
          · omega
      have HFIN := hid hfin
      clear hfin
      have hcp := fun (w1 : World) (g : Nat) (rs : List Int) ty (hg : Row w1 g rs) (hx : Row w1 b (xs ++ sp)) (hl : xs.length ≤ rs.length) => run_copy_words w1 ty g 0 xs.length rs.length b 0 xs.length (xs.length + sp.length) xs.length rs (xs ++ sp) 119 119 Tryz.underlying119 hg hx (by simp) (by omega) (by simp)
      have HCP := hid hcp
      clear hcp
      go_enter Tryz.func126, Tryz.ntmps126
      go_wp2_with (go_at_call 121; refine (make_any v bo zs xs.length _ hz (by omega) hl).mono ?_; rintro e w1 ⟨g, rs, rfl, hrr, hl1, hl2, hl3, hbo, hc⟩; have hcp := fun ty => HCP.out w1 g rs ty hrr (hr.kept hc (fun h => h)) hl1)
      go_ret
      exact HFIN.out g rs w1 hrr hl1 hl2 hl3 hbo hc
end Go.Proofs.YthdkandofddohaaGreatDoor
