/- Part 11 of the proof. -/
import Derived.Deep.RegionWith
import Derived.Test.YthdkandofddohaaGreatDoorP10
namespace Go.Proofs.YthdkandofddohaaGreatDoor
open Go.RowKit
set_option linter.unusedVariables false
set_option linter.unusedSimpArgs false
set_option maxRecDepth 20000
def oneBlk (bx by_ : Option Nat) : Bool := match bx, by_ with
 | some b, some c => b == c
 | _, _ => false
theorem alias_any (vx vy : Value) (bx by_ : Option Nat) (xs ys : List Int) (w : World) (hx : NatAt w vx bx xs) (hy : NatAt w vy by_ ys) :
  Calls Tryz.prog 151 #[vx, vy] w (fun e w' => e = .returned (.bool (oneBlk bx by_)) ∧ Q w w') := by
 cases bx with
 | none =>
  obtain ⟨rfl, rfl⟩ := hx
  obtain ⟨a, c, rfl⟩ := hy.len
  clear hy
  have hd : decide ((0 : Int) < 0) = false := rfl
  go_enter Tryz.func151, Tryz.ntmps151
  go_wp2_with fail
  go_quiet (fail)
  go_wp2_with fail
  go_ret
  exact ⟨rfl, (Q.refl _).step _⟩
 | some b =>
  obtain ⟨sp, rfl, hr, h1, h2⟩ := hx
  have hl : (xs ++ sp).length = xs.length + sp.length := by simp
  generalize xs.length + sp.length = cx at *
  generalize xs.length = nx at *
  cases by_ with
  | none =>
   obtain ⟨rfl, rfl⟩ := hy
   clear hl hr
   have hd : decide (0 < cx) = true := by simp; omega
   have hd2 : decide ((0 : Int) < 0) = false := rfl
   go_enter Tryz.func151, Tryz.ntmps151
   go_wp2_with fail
   go_quiet (fail)
   go_wp2_with fail
   go_ret
   exact ⟨rfl, (Q.refl _).step _⟩
  | some c =>
   obtain ⟨sq, rfl, hr2, h3, h4⟩ := hy
   have hl2 : (ys ++ sq).length = ys.length + sq.length := by simp
   generalize ys.length + sq.length = cy at *
   generalize ys.length = ny at *
   have hd : decide (0 < cx) = true := by simp; omega
   have hd2 : decide (0 < cy) = true := by simp; omega
   by_cases e : b = c
   ·subst e
    have e2 := hr.inj hr2
    rw [e2, hl2] at hl
    subst hl
    clear hr hr2 hl2 e2
    have hpe := fun k => ptr_eql_same (w.drewN k) ⟨b, cy - 1, none⟩
    have hob : oneBlk (some b) (some b) = true := by simp [oneBlk]
    go_enter Tryz.func151, Tryz.ntmps151
    go_wp2_with fail
    go_quiet (fail)
    go_wp2_with fail
    go_ret
    exact ⟨by rw [hob]; rfl, (Q.refl _).step _⟩
   ·have hpe := fun k => ptr_eql_other (w.drewN k) b c (cx - 1) (cy - 1) _ _ hr hr2 e
    have hob : oneBlk (some b) (some c) = false := by simp [oneBlk, e]
    clear hr hr2 hl hl2 e
    go_enter Tryz.func151, Tryz.ntmps151
    go_wp2_with fail
    go_quiet (fail)
    go_wp2_with fail
    go_ret
    exact ⟨by rw [hob]; rfl, (Q.refl _).step _⟩
def cmpI (x y : Int) : Int := if x < y then -1 else if y < x then 1 else 0
theorem cmp_any (vx vy : Value) (bx by_ : Option Nat) (xs ys : List Int) (w : World) (hx : NatAt w vx bx xs) (hy : NatAt w vy by_ ys) (nx : Nrm xs) (ny : Nrm ys) :
  Calls Tryz.prog 110 #[vx, vy] w (fun e w' => e = .returned (.int .i64 (cmpI (val xs) (val ys))) ∧ Q w w') := by
 by_cases hlen : xs.length = ys.length
 ·by_cases h0 : xs.length = 0
  ·obtain rfl : xs = [] := List.length_eq_zero_iff.1 h0
   obtain rfl : ys = [] := List.length_eq_zero_iff.1 hlen.symm
   obtain ⟨a, c, rfl⟩ := hx.len
   obtain ⟨a', c', rfl⟩ := hy.len
   clear hx hy nx ny hlen h0
   go_enter Tryz.func110, Tryz.ntmps110
   go_wp2_with fail
   go_ret
   exact ⟨rfl, Q.refl _⟩
  ·have hwx := hx.wds
   have hwy := hy.wds
   obtain ⟨b, rfl⟩ := hx.ne_nil (by intro e; subst e; exact h0 rfl)
   obtain ⟨c, rfl⟩ := hy.ne_nil (by intro e; subst e; exact h0 hlen)
   obtain ⟨sp, rfl, hr, h1, h2⟩ := hx
   obtain ⟨sq, rfl, hr2, h3, h4⟩ := hy
   have hm : xs.length ≤ 9223372036854775807 := by omega
   have hcx : ∀ k, k < xs.length → w.cell? ⟨b, k, none⟩ = some (.int .u64 (xs.getD k 0)) := fun k hk => by
    rw [hr.cell (i := k) (by simp; omega)]; simp [List.getD, List.getElem?_append_left hk]
   have hcy : ∀ k, k < xs.length → w.cell? ⟨c, k, none⟩ = some (.int .u64 (ys.getD k 0)) := fun k hk => by
    rw [hr2.cell (i := k) (by simp; omega)]; simp [List.getD, List.getElem?_append_left (show k < ys.length by omega)]
   have hdec : ∀ k, k < xs.length → xs.drop (k + 1) = ys.drop (k + 1) → (xs.getD k 0 < ys.getD k 0 → cmpI (val xs) (val ys) = -1) ∧ (ys.getD k 0 < xs.getD k 0 → cmpI (val xs) (val ys) = 1) ∧ (k = 0 → xs.getD k 0 = ys.getD k 0 → cmpI (val xs) (val ys) = 0) := by
    intro k hk hd
    refine ⟨fun h => ?_, fun h => ?_, fun h h' => ?_⟩
    ·have := val_lt_at hwx hwy hlen hk hd h; unfold cmpI; rw [if_pos this]
    ·have := val_lt_at hwy hwx hlen.symm (by omega) hd.symm h; unfold cmpI; rw [if_neg (by omega), if_pos this]
    ·subst h
     have e1 : xs = ys := by
      cases xs with
      | nil => simp at hk
      | cons x xs => cases ys with
       | nil => simp at hlen
       | cons y ys => simp at hd h'; rw [hd, h']
     subst e1; unfold cmpI; rw [if_neg (by omega), if_neg (by omega)]
   have hdn : ∀ k, k < xs.length → 1 ≤ k → xs.drop (k + 1) = ys.drop (k + 1) → xs.getD k 0 = ys.getD k 0 → xs.drop k = ys.drop k := by
    intro k hk _ hd he
    rw [List.drop_eq_getElem_cons hk, List.drop_eq_getElem_cons (show k < ys.length by omega), hd]
    congr 1
    simpa [List.getD, hk, show k < ys.length by omega] using he
   have hst : xs.drop (xs.length - 1 + 1) = ys.drop (xs.length - 1 + 1) := by
    rw [List.drop_of_length_le (by omega), List.drop_of_length_le (by omega)]
   clear nx ny hr hr2 h1 h2 h3 h4 hwx hwy
   rw [← hlen]
   generalize xs.length + sp.length = cx at *
   generalize xs.length + sq.length = cy at *
   generalize hxl : xs.length = n at *
   clear hlen hxl
   have hb : ((n : Int) != (n : Int)) = false := by simp
   have hb2 : ((n : Int) == 0) = false := beq_eq_false_iff_ne.2 (by omega)
   have HCX := hid hcx
   have HCY := hid hcy
   have HDEC := hid hdec
   have HDN := hid hdn
   have HST := hid hst
   clear hcx hcy hdec hdn hst
   go_enter Tryz.func110, Tryz.ntmps110
   go_wp2_with fail
   go_loopw [7] (fun i wr => ∃ k : Nat, k < n ∧ i = .int .i64 k ∧ xs.drop (k + 1) = ys.drop (k + 1) ∧ Q w wr) (fun i _ => (intOf i).toNat)
   case atStart => exact ⟨n - 1, by omega, by go_num, HST.out, Q.refl _⟩
   case round =>
    obtain ⟨k, hk, rfl, hd, hq⟩ := hrel
    have hcell : ∀ a, wr.cell? a = w.cell? a := by obtain ⟨m, rfl⟩ := hq; intro a; rfl
    have HD := hid hd
    clear hd
    have hcx := HCX.out k hk
    have hcy := HCY.out k hk
    rw [← hcell] at hcx hcy
    clear hcell
    obtain ⟨hd1, hd2, hd3⟩ := HDEC.out k hk HD.out
    have hdn := HDN.out k hk
    generalize xs.getD k 0 = x at *
    generalize ys.getD k 0 = y at *
    have HD1 := hid hd1
    have HD2 := hid hd2
    have HD3 := hid hd3
    have HDNK := hid hdn
    clear hd1 hd2 hd3 hdn
    rcases Int.lt_trichotomy x y with h | h | h
    ·have HR := hid (HD1.out h)
     have hda : decide (x < y) = true := by simpa using h
     have hbb : (x == y) = false := beq_eq_false_iff_ne.2 (by omega)
     by_cases hk0 : k = 0
     ·subst hk0
      have hg : decide ((0 : Int) < 0) = false := rfl
      have hlt0 : 0 < n := hk
      have hlt0' : (0 : Int) < (n : Int) := by omega
      go_wp2_with fail
      go_quiet (fail)
      go_wp2_with fail
      go_quiet (fail)
      go_wp2_with fail
      go_ret
      exact ⟨by rw [HR.out]; rfl, by repeat (first | assumption | apply Q.step)⟩
     ·have hg : decide (0 < k) = true := by simp; omega
      have hltk : (k : Int) < (n : Int) := by omega
      go_wp2_with fail
      go_quiet (fail)
      go_wp2_with fail
      go_quiet (fail)
      go_wp2_with fail
      go_ret
      exact ⟨by rw [HR.out]; rfl, by repeat (first | assumption | apply Q.step)⟩
    ·subst h
     have hda : decide (x < x) = false := by simp
     have hbb : (x == x) = true := beq_self_eq_true x
     by_cases hk0 : k = 0
     ·have HR := hid (HD3.out hk0 rfl)
      subst hk0
      have hg : decide ((0 : Int) < 0) = false := rfl
      have hlt0 : 0 < n := hk
      have hlt0' : (0 : Int) < (n : Int) := by omega
      go_wp2_with fail
      go_quiet (fail)
      go_wp2_with fail
      go_quiet (fail)
      go_wp2_with fail
      go_quiet (fail)
      go_wp2_with fail
      go_ret
      exact ⟨by rw [HR.out]; rfl, by repeat (first | assumption | apply Q.step)⟩
     ·have hg : decide (0 < k) = true := by simp; omega
      have hltk : (k : Int) < (n : Int) := by omega
      have HNX := hid (HDNK.out (by omega) HD.out rfl)
      go_wp2_with fail
      go_quiet (fail)
      go_wp2_with fail
      go_roundw
      case rel => exact ⟨k - 1, by omega, by go_num, by rw [Nat.sub_add_cancel (by omega)]; exact HNX.out, hq.step _⟩
      case measure => simp [intOf]; omega
    ·have HR := hid (HD2.out h)
     have hda : decide (x < y) = false := by simp; omega
     have hda2 : decide (y < x) = true := by simpa using h
     have hbb : (x == y) = false := beq_eq_false_iff_ne.2 (by omega)
     by_cases hk0 : k = 0
     ·subst hk0
      have hg : decide ((0 : Int) < 0) = false := rfl
      have hlt0 : 0 < n := hk
      have hlt0' : (0 : Int) < (n : Int) := by omega
      go_wp2_with fail
      go_quiet (fail)
      go_wp2_with fail
      go_quiet (fail)
      go_wp2_with fail
      go_quiet (fail)
      go_wp2_with fail
      go_ret
      exact ⟨by rw [HR.out]; rfl, by repeat (first | assumption | apply Q.step)⟩
     ·have hg : decide (0 < k) = true := by simp; omega
      have hltk : (k : Int) < (n : Int) := by omega
      go_wp2_with fail
      go_quiet (fail)
      go_wp2_with fail
      go_quiet (fail)
      go_wp2_with fail
      go_quiet (fail)
      go_wp2_with fail
      go_ret
      exact ⟨by rw [HR.out]; rfl, by repeat (first | assumption | apply Q.step)⟩
 ·obtain ⟨a, c, hvx⟩ := hx.len
  obtain ⟨a', c', hvy⟩ := hy.len
  subst hvx
  subst hvy
  have hwx := hx.wds
  have hwy := hy.wds
  have hres : (xs.length < ys.length ∧ cmpI (val xs) (val ys) = -1) ∨ (ys.length < xs.length ∧ cmpI (val xs) (val ys) = 1) := by
   rcases Nat.lt_or_gt_of_ne hlen with h | h
   ·left; have := len_lt_val hwx hwy ny h; exact ⟨h, by unfold cmpI; rw [if_pos this]⟩
   ·right; have := len_lt_val hwy hwx nx h; exact ⟨h, by unfold cmpI; rw [if_neg (by omega), if_pos this]⟩
  clear hx hy nx ny hwx hwy
  generalize cmpI (val xs) (val ys) = r at *
  generalize xs.length = m at *
  generalize ys.length = n at *
  rcases hres with ⟨h, rfl⟩ | ⟨h, rfl⟩
  all_goals
   have hb : ((m : Int) != (n : Int)) = true := by rw [bne_iff_ne]; omega
   clear hlen
   go_enter Tryz.func110, Tryz.ntmps110
   go_wp2_with fail
   go_ret
   exact ⟨rfl, Q.refl _⟩
theorem row_after {w w' : World} {g b : Nat} {rs xs : List Int} {ds : List Int} (hg : Row w g rs) (hx : Row w b xs) (hg' : Row w' g (put rs 0 ds)) (hc : Chg (· = g) w w') (hd : ds.length ≤ rs.length) :
  ∃ xr : List Int, Row w' b xr ∧ xr.length = xs.length ∧ ∀ i n, ds.length ≤ i → seg xr i n = seg xs i n := by
 by_cases e : b = g
 ·subst e
  obtain rfl := hg.inj hx
  exact ⟨_, hg', put_length (by omega), fun i n hi => seg_put_above (by omega) (by omega)⟩
 ·exact ⟨xs, hx.kept hc e, rfl, fun _ _ _ => rfl⟩
theorem nat_fin {w w2 w5 w' : World} {bo : Option Nat} {g k : Nat} {X Y : Int} {e : Ending} (hc : Chg (fun _ => False) w w2) (hbo : bo = some g ∨ w.heap.size ≤ g) (hc5 : Chg (· = g) w2 w5) (hp : PNorm w5 g k X e w') (hXY : X = Y) : PNat w bo Y e w' := by
 obtain ⟨v, ds, he, hn, hnr, hv, hlen, rfl⟩ := hp
 refine ⟨v, some g, ds, he, hn, hnr, hv.trans hXY, ?_, (hc.mono (fun _ h => h.elim)).trans hc5 (fun i hi e => ?_)⟩
 ·rcases hbo with rfl | h
  ·exact .inl rfl
  ·exact .inr ⟨g, rfl, h⟩
 ·subst e
  rcases hbo with rfl | h
  ·rfl
  ·omega
theorem norm_put (g n : Nat) (rs ds : List Int) (w : World) (hr : Row w g (put rs 0 ds)) (hd : ds.length = n) (hn : n ≤ rs.length) (h1 : 1 ≤ rs.length) (h2 : rs.length ≤ 9223372036854775807) :
  Calls Tryz.prog 129 #[.slice (some ⟨g, 0, none⟩) n rs.length] w (PNorm w g n (val ds)) := by
 have hl : (put rs 0 ds).length = rs.length := put_length (by omega)
 have h := norm_any g n (put rs 0 ds) w hr (by omega) (by omega) (by omega)
 have e : (put rs 0 ds).take n = ds := by rw [← hd]; simp [put]
 rwa [hl, e] at h
set_option maxHeartbeats 1000000 in
theorem add_ge (v vx vy : Value) (bo bx by_ : Option Nat) (zs xs ys : List Int) (w : World) (hz : NatAt w v bo zs) (hx : NatAt w vx bx xs) (hy : NatAt w vy by_ ys) (nx : Nrm xs) (ny : Nrm ys)
  (hl : ys.length ≤ xs.length) (hm : xs.length ≤ 100000) : Calls Tryz.prog 109 #[v, vx, vy] w (PNat w bo (val xs + val ys)) := by
 by_cases h0 : xs.length = 0
 ·obtain rfl : xs = [] := List.length_eq_zero_iff.1 h0
  obtain rfl : ys = [] := List.length_eq_zero_iff.1 (by simpa using hl)
  obtain ⟨a, c, rfl⟩ := hz.len
  obtain ⟨a1, c1, rfl⟩ := hx.len
  obtain ⟨a2, c2, rfl⟩ := hy.len
  have hfin : PNat w bo (val [] + val []) (.returned (.slice a 0 c)) w := ⟨_, _, _, rfl, hz.cut0, Nrm.nil, rfl, .inl rfl, Chg.refl _ _⟩
  have HFIN := hid hfin
  clear hfin hz hx hy nx ny hl
  go_enter Tryz.func109, Tryz.ntmps109
  go_wp2_with fail
  go_ret
  exact HFIN.out
 ·by_cases h1 : ys.length = 0
  ·obtain rfl : ys = [] := List.length_eq_zero_iff.1 h1
   have hset := fun w1 hz hx => set_any v vx bo bx zs xs w1 hz hx nx (by omega)
   have HSET := hid hset
   obtain ⟨a1, c1, rfl⟩ := hx.len
   obtain ⟨a2, c2, rfl⟩ := hy.len
   clear hset hy
   have hb0 : ((xs.length : Int) == 0) = false := beq_eq_false_iff_ne.2 (by omega)
   have e : val xs + val [] = val xs := by simp [val]
   rw [e]
   clear e h1 ny
   go_enter Tryz.func109, Tryz.ntmps109
   go_wp2_with (go_at_call 126; refine (HSET.out _ hz hx).mono ?_; rintro e w1 ⟨v', b', ds, rfl, k1, k2, k3, k4, k5⟩)
   go_ret
   exact ⟨v', b', ds, rfl, k1, k2, k3, k4, k5⟩
  ·obtain ⟨b, rfl⟩ := hx.ne_nil (by intro e; subst e; exact h0 rfl)
   obtain ⟨c, rfl⟩ := hy.ne_nil (by intro e; subst e; exact h1 rfl)
   obtain ⟨sp, rfl, hr, hx1, hx2⟩ := hx
   obtain ⟨sq, rfl, hr2, hy1, hy2⟩ := hy
   have hb0 : ((xs.length : Int) == 0) = false := beq_eq_false_iff_ne.2 (by omega)
   have hb1 : ((ys.length : Int) == 0) = false := beq_eq_false_iff_ne.2 (by omega)
   have hmk := fun w1 hz => make_any v bo zs (xs.length + 1) w1 hz (by omega) (by omega)
   have HMK := hid hmk
   clear hmk
   rw [show ((xs.length + 1 : Nat) : Int) = (xs.length : Int) + 1 by omega] at HMK
   generalize hcx : xs.length + sp.length = cx at *
   generalize hcy : ys.length + sq.length = cy at *
   generalize hxm : xs.length = m at *
   generalize hyn : ys.length = n at *
   have hmc : m ≤ cx := by omega
   have hnc : n ≤ cy := by omega
   have HM := hid hxm
   have HN := hid hyn
   have HCX := hid hcx
   have HCY := hid hcy
   clear hxm hyn hcx hcy
   go_enter Tryz.func109, Tryz.ntmps109
   go_wp2_with (go_at_call 121; refine (HMK.out _ hz).mono ?_; rintro e w1 ⟨g, rs, rfl, hrr, hl1, hl2, hl3, hbo, hc⟩)
   have hq1 : (n : Int) ≤ (rs.length : Int) := by omega
   have hq2 : (n : Int) ≤ (cx : Int) := by omega
   have hq3 : (n : Int) ≤ (cy : Int) := by omega
   go_still_tail 9, kr_
   change wpList _ _ _ _ _ w1.drew
   have hrr2 : Row w1.drew g rs := hrr
   have hx2r : Row w1.drew b (xs ++ sp) := (hr.kept hc (fun h => h)).drew
   have hy2r : Row w1.drew c (ys ++ sq) := (hr2.kept hc (fun h => h)).drew
   have hc2 : Chg (fun _ => False) w w1.drew := hc.drew
   generalize w1.drew = w2 at *
   have hav := addVV_any g 0 rs.length b 0 cx c 0 cy n rs (xs ++ sp) (ys ++ sq) w2 hrr2 hx2r hy2r (by omega) (by have := HM.out; simp; omega) (by have := HN.out; simp; omega) (fun _ => Nat.le_refl _) (fun _ => Nat.le_refl _) (by omega)
   have HAV := hid hav
   clear hav
   have hD : (addD (seg (xs ++ sp) 0 n) (seg (ys ++ sq) 0 n) 0).length = n := by rw [addD_length, seg_length (by have := HM.out; simp; omega), seg_length (by have := HN.out; simp; omega)]; omega
   have hDv := addD_val (seg (xs ++ sp) 0 n) (seg (ys ++ sq) 0 n) 0 (by rw [seg_length (by have := HM.out; simp; omega), seg_length (by have := HN.out; simp; omega)])
   rw [seg_length (by have := HM.out; simp; omega)] at hDv
   obtain ⟨hcb0, hcb1⟩ := addC_bd (seg (xs ++ sp) 0 n) (seg (ys ++ sq) 0 n) 0 (seg_wds hr.2 _ _) (seg_wds hr2.2 _ _) (by omega) (by omega)
   have hDw := addD_wds (seg (xs ++ sp) 0 n) (seg (ys ++ sq) 0 n) 0
   have hys : seg (ys ++ sq) 0 n = ys := by have := HN.out; simp [seg, ← this]
   have hxs : val (seg (xs ++ sp) 0 n) + BP n * val (seg (xs ++ sp) n (m - n)) = val xs := by
    have e := seg_append (xs := xs ++ sp) (i := 0) (m := n) (n := m - n)
    rw [show n + (m - n) = m by omega, Nat.zero_add] at e
    have e2 : seg (xs ++ sp) 0 m = xs := by have := HM.out; simp [seg, ← this]
    rw [e2] at e
    conv => rhs; rw [e]
    rw [val_append, seg_length (by have := HM.out; simp; omega)]
   rw [hys] at hDv hD hDw hcb0 hcb1 HAV
   generalize addC (seg (xs ++ sp) 0 n) ys 0 = c1 at *
   generalize addD (seg (xs ++ sp) 0 n) ys 0 = D at *
   have HDV := hid hDv
   have HXS := hid hxs
   have HD := hid hD
   clear hDv hxs hys hD
   by_cases hnm : n < m
   ·have hdn : decide (n < m) = true := by simpa using hnm
    have hfin : ∀ (ds : List Int) (c2 : Int) (w5 : World) e w', ds.length = m - n → Wds ds → 0 ≤ c2 → c2 ≤ 1 → val ds + BP (m - n) * c2 = val (seg (xs ++ sp) n (m - n)) + c1 → Row w5 g (put rs 0 (D ++ ds ++ [c2])) → Chg (· = g) w2 w5 → PNorm w5 g (m + 1) (val (D ++ ds ++ [c2])) e w' → PNat w bo (val xs + val ys) e w' := by
     intro ds c2 w5 e w' h1 h2 h3 h4 h5 h6 h7 h8
     refine nat_fin hc2 hbo h7 h8 ?_
     have a1 := HDV.out
     have a2 := HXS.out
     have a3 := HD.out
     rw [val_append, val_append, List.length_append, a3, h1, BP_add]
     have e1 : BP n * (val ds + BP (m - n) * c2) = BP n * (val (seg (xs ++ sp) n (m - n)) + c1) := by rw [h5]
     rw [Int.mul_add, Int.mul_add, ← Int.mul_assoc] at e1
     simp only [val, Int.mul_zero, Int.add_zero]
     omega
    have HFIN := hid hfin
    clear hfin
    go_wp2_with (go_at_call 127; refine (HAV.out).mono ?_; rintro e w3 ⟨rfl, hr3, hc3⟩)
    have hq4 : (n : Int) ≤ (m : Int) := by omega
    have hq5 : (m : Int) ≤ (rs.length : Int) := by omega
    have hq6 : ¬ rs.length = n := by omega
    have hq7 : ¬ cx = n := by omega
    go_still_tail 8, kr_
    change wpList _ _ _ _ _ w3.drew
    obtain ⟨xr, hxr, hxl, hxs⟩ := row_after hrr2 hx2r hr3 hc3 (by have := HD.out; omega)
    have hr4 : Row w3.drew g (put rs 0 D) := hr3
    have hxr4 : Row w3.drew b xr := hxr
    have hc4 : Chg (· = g) w2 w3.drew := hc3.drew
    generalize w3.drew = w4 at *
    have hvw := addVW_any g n (rs.length - n) b n (cx - n) (m - n) (put rs 0 D) xr c1 w4 hr4 hxr4 (by rw [put_length (by have := HD.out; omega)]; omega) (by rw [hxl]; have := HM.out; simp; omega) (fun _ => rfl) (by omega) (by omega) ⟨hcb0, by omega⟩ (by omega) (by omega)
    rw [hxs n (m - n) (by rw [HD.out]; exact Nat.le_refl _)] at hvw
    have HVW := hid hvw
    clear hvw hxs hxl
    have hpp : ∀ (ds : List Int) (w5 : World), ds.length = m - n → Row w5 g (put (put rs 0 D) n ds) → Row w5 g (put rs 0 (D ++ ds)) := by
     intro ds w5 h1 h2
     have := put_put (xs := rs) (i := 0) (ds := D) (es := ds) (by have := HD.out; omega)
     rw [HD.out, Nat.zero_add] at this
     rwa [this] at h2
    have HPP := hid hpp
    clear hpp
    go_wp2_with (go_at_call 128; refine (HVW.out).mono ?_; rintro e w5 ⟨ds, c2, rfl, k1, k2, k3, k4, k5, k6, k7⟩; have k8 := HPP.out ds w5 k1 k6; have hl9 : (D ++ ds).length = m := (by have := HD.out; simp; omega); have hcell := k8.cell (i := m) (by rw [put_length (by omega)]; omega); have hfree := k8.free m; have K1 := hid k1; have K5 := hid k5; have HL9 := hid hl9; clear k1 k5 hl9 k6)
    have k9 := k8.set m (v := c2) ⟨k3, by omega⟩
    have hsn : (put rs 0 (D ++ ds)).set m c2 = put rs 0 (D ++ ds ++ [c2]) := by
     have := put_snoc (xs := rs) (i := 0) (ds := D ++ ds) c2 (by have := HL9.out; omega)
     rwa [HL9.out, Nat.zero_add] at this
    rw [hsn] at k9
    have hch : Chg (· = g) w2 (w5.setCell ⟨g, m, none⟩ (.int .u64 c2)) := (hc4.trans k7 sb_).setCell (fun _ => rfl) _
    have hno := norm_put g (m + 1) rs (D ++ ds ++ [c2]) _ k9 (by have := HL9.out; simp at this ⊢; omega) hl1 hl2 hl3
    have HNO := hid hno
    have hfi := fun e w' hp => HFIN.out ds c2 _ e w' K1.out k2 k3 k4 K5.out k9 hch hp
    have HFI := hid hfi
    clear hno hsn hfi
    generalize w5.setCell ⟨g, m, none⟩ (.int .u64 c2) = w6 at *
    go_wp2_with (go_at_call 129; refine (HNO.out).mono ?_; rintro e w7 hp; have hp2 := HFI.out _ _ hp; obtain ⟨v', b', ds', rfl, j1, j2, j3, j4, j5⟩ := hp2)
    go_ret
    exact ⟨v', b', ds', rfl, j1, j2, j3, j4, j5⟩
   ·obtain rfl : n = m := by omega
    have hfin : ∀ (w5 : World) e w', Row w5 g (put rs 0 (D ++ [c1])) → Chg (· = g) w2 w5 → PNorm w5 g (n + 1) (val (D ++ [c1])) e w' → PNat w bo (val xs + val ys) e w' := by
     intro w5 e w' h6 h7 h8
     refine nat_fin hc2 hbo h7 h8 ?_
     have a1 := HDV.out
     have a2 := HXS.out
     have a3 := HD.out
     rw [Nat.sub_self, seg_zero, val_nil, Int.mul_zero] at a2
     rw [val_snoc, a3]
     omega
    have HFIN := hid hfin
    have hdn : decide (n < n) = false := by simp
    clear hfin hnm
    go_wp2_with (go_at_call 127; refine (HAV.out).mono ?_; rintro e w3 ⟨rfl, hr3, hc3⟩; have hcell := hr3.cell (i := n) (by rw [put_length (by have := HD.out; omega)]; omega); have hfree := hr3.free n)
    have k9 := hr3.set n (v := c1) ⟨hcb0, by omega⟩
    have hsn : (put rs 0 D).set n c1 = put rs 0 (D ++ [c1]) := by
     have := put_snoc (xs := rs) (i := 0) (ds := D) c1 (by have := HD.out; omega)
     rwa [HD.out, Nat.zero_add] at this
    rw [hsn] at k9
    have hch : Chg (· = g) w2 (w3.setCell ⟨g, n, none⟩ (.int .u64 c1)) := hc3.setCell (fun _ => rfl) _
    have hno := norm_put g (n + 1) rs (D ++ [c1]) _ k9 (by have := HD.out; simp; omega) hl1 hl2 hl3
    have HNO := hid hno
    have hfi := fun e w' hp => HFIN.out _ e w' k9 hch hp
    have HFI := hid hfi
    clear hno hsn hfi
    generalize w3.setCell ⟨g, n, none⟩ (.int .u64 c1) = w6 at *
    go_wp2_with (go_at_call 129; refine (HNO.out).mono ?_; rintro e w7 hp; have hp2 := HFI.out _ _ hp; obtain ⟨v', b', ds', rfl, j1, j2, j3, j4, j5⟩ := hp2)
    go_ret
    exact ⟨v', b', ds', rfl, j1, j2, j3, j4, j5⟩
theorem add_any (v vx vy : Value) (bo bx by_ : Option Nat) (zs xs ys : List Int) (w : World) (hz : NatAt w v bo zs) (hx : NatAt w vx bx xs) (hy : NatAt w vy by_ ys) (nx : Nrm xs) (ny : Nrm ys)
  (hm : xs.length ≤ 100000) (hn : ys.length ≤ 100000) : Calls Tryz.prog 109 #[v, vx, vy] w (PNat w bo (val xs + val ys)) := by
 by_cases hl : ys.length ≤ xs.length
 ·exact add_ge v vx vy bo bx by_ zs xs ys w hz hx hy nx ny hl hm
 ·have hsw := fun w1 hz hx hy => add_ge v vy vx bo by_ bx zs ys xs w1 hz hx hy ny nx (by omega) hn
  have HSW := hid hsw
  have HX := hid hx
  have HY := hid hy
  obtain ⟨a1, c1, rfl⟩ := hx.len
  obtain ⟨a2, c2, rfl⟩ := hy.len
  have hlt : xs.length < ys.length := by omega
  rw [Int.add_comm]
  clear hsw hx hy nx ny hl
  generalize xs.length = m at *
  generalize ys.length = n at *
  go_enter Tryz.func109, Tryz.ntmps109
  go_wp2_with (go_at_call 109; refine (HSW.out _ hz HY.out HX.out).mono ?_; rintro e w1 ⟨v', b', ds, rfl, k1, k2, k3, k4, k5⟩)
  go_ret
  exact ⟨v', b', ds, rfl, k1, k2, k3, k4, k5⟩
set_option maxHeartbeats 1000000 in
theorem sub_any (v vx vy : Value) (bo bx by_ : Option Nat) (zs xs ys : List Int) (w : World) (hz : NatAt w v bo zs) (hx : NatAt w vx bx xs) (hy : NatAt w vy by_ ys) (nx : Nrm xs) (ny : Nrm ys)
  (hle : val ys ≤ val xs) (hm : xs.length ≤ 100000) : Calls Tryz.prog 111 #[v, vx, vy] w (PNat w bo (val xs - val ys)) := by
 have hl : ys.length ≤ xs.length := by
  apply Classical.byContradiction
  intro hc
  have := len_lt_val hx.wds hy.wds ny (by omega)
  omega
 by_cases h0 : xs.length = 0
 ·obtain rfl : xs = [] := List.length_eq_zero_iff.1 h0
  obtain rfl : ys = [] := List.length_eq_zero_iff.1 (by simpa using hl)
  obtain ⟨a, c, rfl⟩ := hz.len
  obtain ⟨a1, c1, rfl⟩ := hx.len
  obtain ⟨a2, c2, rfl⟩ := hy.len
  have hfin : PNat w bo (val [] - val []) (.returned (.slice a 0 c)) w := ⟨_, _, _, rfl, hz.cut0, Nrm.nil, rfl, .inl rfl, Chg.refl _ _⟩
  have HFIN := hid hfin
  clear hfin hz hx hy nx ny hl hle
  go_enter Tryz.func111, Tryz.ntmps111
  go_wp2_with fail
  go_ret
  exact HFIN.out
 ·by_cases h1 : ys.length = 0
  ·obtain rfl : ys = [] := List.length_eq_zero_iff.1 h1
   have hset := fun w1 hz hx => set_any v vx bo bx zs xs w1 hz hx nx (by omega)
   have HSET := hid hset
   obtain ⟨a1, c1, rfl⟩ := hx.len
   obtain ⟨a2, c2, rfl⟩ := hy.len
   clear hset hy
   have hb0 : ((xs.length : Int) == 0) = false := beq_eq_false_iff_ne.2 (by omega)
   have e : val xs - val [] = val xs := by simp [val]
   rw [e]
   clear e h1 ny hle
   go_enter Tryz.func111, Tryz.ntmps111
   go_wp2_with (go_at_call 126; refine (HSET.out _ hz hx).mono ?_; rintro e w1 ⟨v', b', ds, rfl, k1, k2, k3, k4, k5⟩)
   go_ret
   exact ⟨v', b', ds, rfl, k1, k2, k3, k4, k5⟩
  ·obtain ⟨b, rfl⟩ := hx.ne_nil (by intro e; subst e; exact h0 rfl)
   obtain ⟨c, rfl⟩ := hy.ne_nil (by intro e; subst e; exact h1 rfl)
   have hwx := hx.wds
   have hwy := hy.wds
   obtain ⟨sp, rfl, hr, hx1, hx2⟩ := hx
   obtain ⟨sq, rfl, hr2, hy1, hy2⟩ := hy
   have hb0 : ((xs.length : Int) == 0) = false := beq_eq_false_iff_ne.2 (by omega)
   have hb1 : ((ys.length : Int) == 0) = false := beq_eq_false_iff_ne.2 (by omega)
   have hmk := fun w1 hz => make_any v bo zs xs.length w1 hz (by omega) (by omega)
   have HMK := hid hmk
   clear hmk
   have hvl := val_lt hwx
   have HVL := hid hvl
   have hvn := val_nonneg hwy
   clear hvl
   generalize hcx : xs.length + sp.length = cx at *
   generalize hcy : ys.length + sq.length = cy at *
   generalize hxm : xs.length = m at *
   generalize hyn : ys.length = n at *
   have hmc : m ≤ cx := by omega
   have hnc : n ≤ cy := by omega
   have HM := hid hxm
   have HN := hid hyn
   have HCX := hid hcx
   have HCY := hid hcy
   clear hxm hyn hcx hcy
   go_enter Tryz.func111, Tryz.ntmps111
   go_wp2_with (go_at_call 121; refine (HMK.out _ hz).mono ?_; rintro e w1 ⟨g, rs, rfl, hrr, hl1, hl2, hl3, hbo, hc⟩)
   have hq1 : (n : Int) ≤ (rs.length : Int) := by omega
   have hq2 : (n : Int) ≤ (cx : Int) := by omega
   have hq3 : (n : Int) ≤ (cy : Int) := by omega
   go_still_tail 9, kr_
   change wpList _ _ _ _ _ w1.drew
   have hrr2 : Row w1.drew g rs := hrr
   have hx2r : Row w1.drew b (xs ++ sp) := (hr.kept hc (fun h => h)).drew
   have hy2r : Row w1.drew c (ys ++ sq) := (hr2.kept hc (fun h => h)).drew
   have hc2 : Chg (fun _ => False) w w1.drew := hc.drew
   generalize w1.drew = w2 at *
   have hav := subVV_any g 0 rs.length b 0 cx c 0 cy n rs (xs ++ sp) (ys ++ sq) w2 hrr2 hx2r hy2r (by omega) (by have := HM.out; simp; omega) (by have := HN.out; simp; omega) (fun _ => Nat.le_refl _) (fun _ => Nat.le_refl _) (by omega)
   have HAV := hid hav
   clear hav
   have hD : (subD (seg (xs ++ sp) 0 n) (seg (ys ++ sq) 0 n) 0).length = n := by rw [subD_length, seg_length (by have := HM.out; simp; omega), seg_length (by have := HN.out; simp; omega)]; omega
   have hDv := subD_val (seg (xs ++ sp) 0 n) (seg (ys ++ sq) 0 n) 0 (seg_wds hr.2 _ _) (seg_wds hr2.2 _ _) (by omega) (by omega) (by rw [seg_length (by have := HM.out; simp; omega), seg_length (by have := HN.out; simp; omega)])
   rw [seg_length (by have := HM.out; simp; omega)] at hDv
   obtain ⟨hcb0, hcb1⟩ := subC_bd (seg (xs ++ sp) 0 n) (seg (ys ++ sq) 0 n) 0 (by omega) (by omega)
   have hDw := subD_wds (seg (xs ++ sp) 0 n) (seg (ys ++ sq) 0 n) 0
   have hys : seg (ys ++ sq) 0 n = ys := by have := HN.out; simp [seg, ← this]
   have hxs : val (seg (xs ++ sp) 0 n) + BP n * val (seg (xs ++ sp) n (m - n)) = val xs := by
    have e := seg_append (xs := xs ++ sp) (i := 0) (m := n) (n := m - n)
    rw [show n + (m - n) = m by omega, Nat.zero_add] at e
    have e2 : seg (xs ++ sp) 0 m = xs := by have := HM.out; simp [seg, ← this]
    rw [e2] at e
    conv => rhs; rw [e]
    rw [val_append, seg_length (by have := HM.out; simp; omega)]
   rw [hys] at hDv hD hDw hcb0 hcb1 HAV
   generalize subC (seg (xs ++ sp) 0 n) ys 0 = c1 at *
   generalize subD (seg (xs ++ sp) 0 n) ys 0 = D at *
   have HDV := hid hDv
   have HXS := hid hxs
   have HD := hid hD
   clear hDv hxs hys hD
   by_cases hnm : n < m
   ·have hdn : decide (n < m) = true := by simpa using hnm
    have hfin : ∀ (ds : List Int) (c2 : Int) (w5 : World), ds.length = m - n → Wds ds → 0 ≤ c2 → c2 ≤ 1 → val ds = val (seg (xs ++ sp) n (m - n)) - c1 + BP (m - n) * c2 → Row w5 g (put rs 0 (D ++ ds)) → Chg (· = g) w2 w5 → c2 = 0 ∧ ∀ e w', PNorm w5 g m (val (D ++ ds)) e w' → PNat w bo (val xs - val ys) e w' := by
     intro ds c2 w5 h1 h2 h3 h4 h5 h6 h7
     have a1 := HDV.out
     have a2 := HXS.out
     have a3 := HD.out
     have e1 : BP n * val ds = BP n * (val (seg (xs ++ sp) n (m - n)) - c1 + BP (m - n) * c2) := by rw [h5]
     rw [Int.mul_add, Int.mul_sub, ← Int.mul_assoc, ← BP_add, show n + (m - n) = m by omega] at e1
     have e2 : val (D ++ ds) = val D + BP n * val ds := by rw [val_append, a3]
     have hlt := val_lt (hDw.append h2)
     rw [show (D ++ ds).length = m by simp [a3, h1]; omega] at hlt
     have hc20 : c2 = 0 := by
      apply Classical.byContradiction
      intro hne
      obtain rfl : c2 = 1 := by omega
      rw [Int.mul_one] at e1
      omega
     subst hc20
     refine ⟨rfl, fun e w' h8 => nat_fin hc2 hbo h7 h8 ?_⟩
     rw [Int.mul_zero] at e1
     omega
    have HFIN := hid hfin
    clear hfin
    go_wp2_with (go_at_call 130; refine (HAV.out).mono ?_; rintro e w3 ⟨rfl, hr3, hc3⟩)
    have hq4 : (n : Int) ≤ (m : Int) := by omega
    have hq5 : (m : Int) ≤ (rs.length : Int) := by omega
    have hq6 : ¬ rs.length = n := by omega
    have hq7 : ¬ cx = n := by omega
    go_still_tail 7, kr_
    change wpList _ _ _ _ _ w3.drew
    obtain ⟨xr, hxr, hxl, hxs⟩ := row_after hrr2 hx2r hr3 hc3 (by have := HD.out; omega)
    have hr4 : Row w3.drew g (put rs 0 D) := hr3
    have hxr4 : Row w3.drew b xr := hxr
    have hc4 : Chg (· = g) w2 w3.drew := hc3.drew
    generalize w3.drew = w4 at *
    have hvw := subVW_any g n (rs.length - n) b n (cx - n) (m - n) (put rs 0 D) xr c1 w4 hr4 hxr4 (by rw [put_length (by have := HD.out; omega)]; omega) (by rw [hxl]; have := HM.out; simp; omega) (fun _ => rfl) (by omega) (by omega) ⟨hcb0, by omega⟩ (by omega) (by omega)
    rw [hxs n (m - n) (by rw [HD.out]; exact Nat.le_refl _)] at hvw
    have HVW := hid hvw
    clear hvw hxs hxl
    have hpp : ∀ (ds : List Int) (w5 : World), ds.length = m - n → Row w5 g (put (put rs 0 D) n ds) → Row w5 g (put rs 0 (D ++ ds)) := by
     intro ds w5 h1 h2
     have := put_put (xs := rs) (i := 0) (ds := D) (es := ds) (by have := HD.out; omega)
     rw [HD.out, Nat.zero_add] at this
     rwa [this] at h2
    have HPP := hid hpp
    clear hpp
    go_wp2_with (first | (go_at_call 131; refine (HVW.out).mono ?_; rintro e w5 ⟨ds, c2, rfl, k1, k2, k3, k4, k5, k6, k7⟩; have k8 := HPP.out ds w5 k1 k6; obtain ⟨rfl, hpn⟩ := HFIN.out ds c2 w5 k1 k2 k3 k4 k5 k8 (hc4.trans k7 sb_); have hno := norm_put g m rs (D ++ ds) _ k8 (by have := HD.out; simp; omega) hl1 hl2 hl3; have HNO := hid hno; have HPN := hid hpn; have hz0 : ((0 : Int) != 0) = false := rfl; clear hno hpn k1 k5 k6 k7 k8) | (go_at_call 129; refine (HNO.out).mono ?_; rintro e w7 hp; have hp2 := HPN.out _ _ hp; obtain ⟨v', b', ds', rfl, j1, j2, j3, j4, j5⟩ := hp2))
    go_ret
    exact ⟨v', b', ds', rfl, j1, j2, j3, j4, j5⟩
   ·obtain rfl : n = m := by omega
    have hfin : ∀ (w5 : World), Row w5 g (put rs 0 D) → Chg (· = g) w2 w5 → c1 = 0 ∧ ∀ e w', PNorm w5 g n (val D) e w' → PNat w bo (val xs - val ys) e w' := by
     intro w5 h6 h7
     have a1 := HDV.out
     have a2 := HXS.out
     have a3 := HD.out
     rw [Nat.sub_self, seg_zero, val_nil, Int.mul_zero] at a2
     have hlt := val_lt hDw
     rw [a3] at hlt
     have hc20 : c1 = 0 := by
      apply Classical.byContradiction
      intro hne
      obtain rfl : c1 = 1 := by omega
      rw [Int.mul_one] at a1
      omega
     subst hc20
     refine ⟨rfl, fun e w' h8 => nat_fin hc2 hbo h7 h8 ?_⟩
     rw [Int.mul_zero] at a1
     omega
    have HFIN := hid hfin
    have hdn : decide (n < n) = false := by simp
    clear hfin hnm
    go_wp2_with (first | (go_at_call 130; refine (HAV.out).mono ?_; rintro e w3 ⟨rfl, hr3, hc3⟩; obtain ⟨rfl, hpn⟩ := HFIN.out w3 hr3 hc3; have hno := norm_put g n rs D _ hr3 HD.out hl1 hl2 hl3; have HNO := hid hno; have HPN := hid hpn; have hz0 : ((0 : Int) != 0) = false := rfl; clear hno hpn) | (go_at_call 129; refine (HNO.out).mono ?_; rintro e w7 hp; have hp2 := HPN.out _ _ hp; obtain ⟨v', b', ds', rfl, j1, j2, j3, j4, j5⟩ := hp2))
    go_ret
    exact ⟨v', b', ds', rfl, j1, j2, j3, j4, j5⟩
theorem run_clear_words (w : World) (ty : TypeId) (b o n c : Nat) (xs : List Int) (T : TypeId) (hu : Tryz.prog.underlying T = some (.slice 136)) (hr : Row w b xs) (hn : 1 ≤ n) (hl : o + n ≤ xs.length) :
  (Builtin.clear_ #[T] ty #[.slice (some ⟨b, o, none⟩) n c]).run Tryz.prog w = .ok (.tuple #[]) (w.setRow b ((put xs o (List.replicate n 0)).map (Value.int .u64)).toArray) := by
 obtain ⟨k, rfl⟩ : ∃ k, n = k + 1 := ⟨n - 1, by omega⟩
 have hz : (Builtin.zeroCells (Value.int .u64 0).cells (k + 1)).toList = List.replicate (k + 1) (Value.int .u64 0) := by
  apply List.ext_getElem?
  intro j
  by_cases hj : j < k + 1
  ·simp [Builtin.zeroCells, Value.cells, hj, Nat.mod_one]
  ·simp [Builtin.zeroCells, Value.cells, hj]
 have hst := run_storeCells_at Tryz.prog b o 136 (List.replicate (k + 1) (Value.int .u64 0)) 0 (xs.map (Value.int .u64)).toArray w hr.1 (by simp; omega) (by intro v hv; rw [List.eq_of_mem_replicate hv]; rfl)
 simp only [Builtin.clear_, Sem.run_bind]
 simp [run_underlying hu, zeroValue, typeInfo, info_word, word_zero, hz, hst, put, List.map_take, List.map_drop]
theorem mulAddWW_any (v vx : Value) (bo bx : Option Nat) (zs xs : List Int) (y r : Int) (w : World) (hz : NatAt w v bo zs) (hx : NatAt w vx bx xs) (hy : Wd y) (hr : Wd r) (hm : xs.length ≤ 100000) :
  Calls Tryz.prog 157 #[v, vx, .int .u64 y, .int .u64 r] w (PNat w bo (val xs * y + r)) := by
 have hsw := fun w1 hz => setWord_any v bo zs r w1 hz hr
 have HSW := hid hsw
 clear hsw
 by_cases h0 : xs.length = 0
 ·obtain rfl : xs = [] := List.length_eq_zero_iff.1 h0
  obtain ⟨a1, c1, rfl⟩ := hx.len
  rw [show val [] * y + r = r by simp [val]]
  clear hx h0
  go_enter Tryz.func157, Tryz.ntmps157
  go_wp2_with (go_at_call 120; refine (HSW.out _ hz).mono ?_; rintro e w1 ⟨v', b', ds, rfl, k1, k2, k3, k4, k5⟩)
  go_ret
  exact ⟨v', b', ds, rfl, k1, k2, k3, k4, k5⟩
 ·by_cases hy0 : y = 0
  ·subst hy0
   obtain ⟨a1, c1, rfl⟩ := hx.len
   rw [Int.mul_zero, Int.zero_add]
   have hb : ((xs.length : Int) == 0) = false := beq_eq_false_iff_ne.2 (by omega)
   have hb2 : ((0 : Int) == 0) = true := rfl
   clear hx
   generalize xs.length = m at *
   go_enter Tryz.func157, Tryz.ntmps157
   go_wp2_with (go_at_call 120; refine (HSW.out _ hz).mono ?_; rintro e w1 ⟨v', b', ds, rfl, k1, k2, k3, k4, k5⟩)
   go_ret
   exact ⟨v', b', ds, rfl, k1, k2, k3, k4, k5⟩
  ·obtain ⟨b, rfl⟩ := hx.ne_nil (by intro e; subst e; exact h0 rfl)
   obtain ⟨sp, rfl, hrx, hx1, hx2⟩ := hx
   have hb : ((xs.length : Int) == 0) = false := beq_eq_false_iff_ne.2 (by omega)
   have hb2 : (y == 0) = false := beq_eq_false_iff_ne.2 hy0
   have hmk := fun w1 hz => make_any v bo zs (xs.length + 1) w1 hz (by omega) (by omega)
   have HMK := hid hmk
   clear hmk
   rw [show ((xs.length + 1 : Nat) : Int) = (xs.length : Int) + 1 by omega] at HMK
   have hxs : seg (xs ++ sp) 0 xs.length = xs := by simp [seg]
   have hfin : ∀ (g : Nat) (rs : List Int) (w1 w3 : World), Row w1 g rs → xs.length + 1 ≤ rs.length → rs.length ≤ 9223372036854775807 → (bo = some g ∨ w.heap.size ≤ g) → Chg (fun _ => False) w w1 → Row w3 g (put rs 0 (mulD xs y r)) → Chg (· = g) w1 w3 →
     Row (w3.setCell ⟨g, xs.length, none⟩ (.int .u64 (mulC xs y r))) g (put rs 0 (mulD xs y r ++ [mulC xs y r])) ∧
     Calls Tryz.prog 129 #[.slice (some ⟨g, 0, none⟩) (xs.length + 1) rs.length] (w3.setCell ⟨g, xs.length, none⟩ (.int .u64 (mulC xs y r))) (PNat w bo (val xs * y + r)) := by
    intro g rs w1 w3 h1 h2 h3 h4 h5 h6 h7
    have hlen := mulD_length xs y r
    have k9 := h6.set xs.length (v := mulC xs y r) (mulC_wd _ _ _ hrx.2.left hy hr)
    have hsn : (put rs 0 (mulD xs y r)).set xs.length (mulC xs y r) = put rs 0 (mulD xs y r ++ [mulC xs y r]) := by
     have := put_snoc (xs := rs) (i := 0) (ds := mulD xs y r) (mulC xs y r) (by omega)
     rwa [hlen, Nat.zero_add] at this
    rw [hsn] at k9
    refine ⟨k9, (norm_put g (xs.length + 1) rs (mulD xs y r ++ [mulC xs y r]) _ k9 (by simp [hlen]) h2 (by omega) h3).mono fun e w' hp => nat_fin h5 h4 (h7.setCell (fun _ => rfl) _) hp ?_⟩
    have := mulD_val xs y r
    rw [val_snoc, hlen]; omega
   have HFIN := hid hfin
   have hmv := fun (w1 : World) (g : Nat) (rs : List Int) (hg : Row w1 g rs) (hx : Row w1 b (xs ++ sp)) (hl : xs.length + 1 ≤ rs.length) => mulAddVWW_any g 0 rs.length b 0 (xs.length + sp.length) xs.length rs (xs ++ sp) y r w1 hg hx (by omega) (by simp) (fun _ => Nat.le_refl _) (by omega) hy hr
   rw [hxs] at hmv
   have HMV := hid hmv
   have hcw := mulC_wd xs y r hrx.2.left hy hr
   have hml := mulD_length xs y r
   have HML := hid hml
   clear hfin hmv hxs hml
   generalize hcx : xs.length + sp.length = cx at *
   have hmc : xs.length ≤ cx := by omega
   clear hcx
   generalize xs.length = m at *
   generalize mulC xs y r = c at *
   obtain ⟨hcw0, hcw1⟩ := hcw
   go_enter Tryz.func157, Tryz.ntmps157
   go_wp2_with (first | (go_at_call 121; refine (HMK.out _ hz).mono ?_; rintro e w1 ⟨g, rs, rfl, hrr, hl1, hl2, hl3, hbo, hc⟩) | (go_at_call 177; refine (HMV.out _ g rs hrr (hrx.kept hc (fun h => h)) hl1).mono ?_; rintro e w3 ⟨rfl, hr3, hc3⟩; have hcell := hr3.cell (i := m) (by rw [put_length (by have := HML.out; omega)]; omega); have hfree := hr3.free m; obtain ⟨hk9, hno⟩ := HFIN.out g rs w1 w3 hrr hl1 hl3 hbo hc hr3 hc3; have HNO := hid hno; clear hno) | (go_at_call 129; refine (HNO.out).mono ?_; rintro e w7 ⟨v', b', ds', rfl, j1, j2, j3, j4, j5⟩))
   go_ret
   exact ⟨v', b', ds', rfl, j1, j2, j3, j4, j5⟩
def PBasic (w : World) (g : Nat) (rs : List Int) (k : Nat) (x : Int) (e : Ending) (w' : World) : Prop :=
 ∃ ds : List Int, e = .returned (.tuple #[]) ∧ ds.length = k ∧ Wds ds ∧ val ds = x ∧ Row w' g (put rs 0 ds) ∧ Chg (· = g) w w'
theorem basic_round {xs E : List Int} {k m n : Nat} {d V : Int} (hE : E.length = m + k) (hx : xs.length = m) (hk : k < n) (hwE : Wds E) (hwx : Wds xs) (hd : Wd d) (hv : val E = val xs * V) :
    ∃ E1 : List Int, seg (E ++ List.replicate (n - k) 0) k m = E1 ∧ E1.length = m ∧ Wds E1 ∧
      ∃ E' : List Int, E'.length = m + (k + 1) ∧ Wds E' ∧ val E' = val xs * (V + BP k * d) ∧
        (put (E ++ List.replicate (n - k) 0) k (amD E1 xs d 0)).set (m + k) (amC E1 xs d 0) = E' ++ List.replicate (n - (k + 1)) 0 := by
  have e0 : E = E.take k ++ E.drop k := (List.take_append_drop k E).symm
  have l0 : (E.take k).length = k := by simp; omega
  have l1 : (E.drop k).length = m := by simp; omega
  have hz : List.replicate (n - k) (0 : Int) = 0 :: List.replicate (n - (k + 1)) 0 := by rw [← List.replicate_succ]; congr 1; omega
  have hsm : seg (E ++ List.replicate (n - k) 0) k m = E.drop k := by
    have := seg_mid (A := E.take k) (B := E.drop k) (C := List.replicate (n - k) 0)
    rw [l0, l1, ← e0] at this; exact this
  refine ⟨E.drop k, hsm, l1, hwE.drop k, E.take k ++ amD (E.drop k) xs d 0 ++ [amC (E.drop k) xs d 0], ?_, ?_, ?_, ?_⟩
  · rw [List.length_append, List.length_append, amD_length, l0, l1, hx]; simp; omega
  · exact ((hwE.take k).append (amD_wds _ _ _ _)).append (Wds.cons (amC_wd _ _ _ _ (hwE.drop k) hwx hd wd0) Wds.nil)
  · have hv2 := amD_val (E.drop k) xs d 0 (by rw [l1, hx])
    have hv3 : val E = val (E.take k) + BP k * val (E.drop k) := by conv => lhs; rw [e0]
                                                                    rw [val_append, l0]
    rw [val_snoc, val_append, List.length_append, l0, amD_length, l1, hx, Nat.min_self, BP_add]
    have e3 : BP k * (val (amD (E.drop k) xs d 0) + BP m * amC (E.drop k) xs d 0) = BP k * (val (E.drop k) + val xs * d + 0) := by rw [← hv2, l1]
    rw [Int.mul_add, Int.add_zero, Int.mul_add, ← Int.mul_assoc] at e3
    rw [Int.mul_add, ← hv, hv3]
    have e4 : val xs * (BP k * d) = BP k * (val xs * d) := by rw [← Int.mul_assoc, ← Int.mul_assoc, Int.mul_comm (val xs)]
    omega
  · have hp := put_mid (A := E.take k) (B := E.drop k) (C := List.replicate (n - k) 0) (ds := amD (E.drop k) xs d 0) (by rw [amD_length, l1, hx]; omega)
    rw [l0, ← e0] at hp
    rw [hp, hz]
    have hl : (E.take k ++ amD (E.drop k) xs d 0).length = m + k := by rw [List.length_append, l0, amD_length, l1, hx]; omega
    rw [List.set_append_right _ _ (by omega), hl, Nat.sub_self]
    simp
set_option maxHeartbeats 2000000 in
theorem basicMul_any (g cz b cx c cy m n : Nat) (rs xr yr xs ys : List Int) (w : World) (hz : Row w g rs) (hx : Row w b xr) (hy : Row w c yr)
  (hgb : b ≠ g) (hgc : c ≠ g) (hm : xs.length = m) (hn : ys.length = n) (hxs : seg xr 0 m = xs) (hys : seg yr 0 n = ys) (hxl : m ≤ xr.length) (hyl : n ≤ yr.length) (hzl : m + n ≤ rs.length) (hcz : m + n ≤ cz)
  (hm1 : 1 ≤ m) (hn1 : 1 ≤ n) (hm2 : m ≤ 100000) (hn2 : n ≤ 100000) :
  Calls Tryz.prog 152 #[.slice (some ⟨g, 0, none⟩) (m + n) cz, .slice (some ⟨b, 0, none⟩) m cx, .slice (some ⟨c, 0, none⟩) n cy] w (PBasic w g rs (m + n) (val xs * val ys)) := by
 have hwx : Wds xs := by rw [← hxs]; exact seg_wds hx.2 _ _
 have hclr := fun ty => run_clear_words w ty g 0 (m + n) cz rs 119 Tryz.underlying119 hz (by omega) (by omega)
 have hr1 : Row (w.setRow g ((put rs 0 (List.replicate (m + n) 0)).map (Value.int .u64)).toArray) g (put rs 0 (List.replicate (m + n) 0)) := hz.setRow (put_wds hz.2 (Wds.zeros _) _)
 have hc1 : Chg (· = g) w (w.setRow g ((put rs 0 (List.replicate (m + n) 0)).map (Value.int .u64)).toArray) := (Chg.refl (· = g) _).setRow (fun _ => rfl) _
 have hq1 : (m : Int) + (n : Int) ≤ (cz : Int) := by omega
 go_enter Tryz.func152, Tryz.ntmps152
 go_wp2_with fail
 generalize w.setRow g ((put rs 0 (List.replicate (m + n) 0)).map (Value.int .u64)).toArray = w1 at *
 clear hclr
 go_loopw [17] (fun i wr => ∃ (k : Nat) (E : List Int), k ≤ n ∧ i = .int .i64 k ∧ E.length = m + k ∧ Wds E ∧ val E = val xs * val (ys.take k) ∧ Row wr g (put rs 0 (E ++ List.replicate (n - k) 0)) ∧ Chg (· = g) w wr)
  (fun i _ => n - (intOf i).toNat)
 case atStart => exact ⟨0, List.replicate m 0, Nat.zero_le _, rfl, by simp, Wds.zeros _, by simp [val_zeros, val], by rw [Nat.sub_zero, List.replicate_append_replicate]; exact hr1, hc1⟩
 case round =>
  obtain ⟨k, E, hk, rfl, hE, hwE, hvE, hrr, hcr⟩ := hrel
  have HVE := hid hvE
  have HE := hid hE
  clear hvE hE
  by_cases hlt : k < n
  ·have hyk : (yr.getD k 0) = ys.getD k 0 := by rw [← hys, seg_getD hlt, Nat.zero_add]
   have hcy0 := (hy.kept hcr hgc).cell (i := k) (by omega)
   have hwd := hy.wd k
   have htk : val (ys.take (k + 1)) = val (ys.take k) + BP k * (yr.getD k 0) := by
    have := seg_succ (xs := ys) (i := 0) (n := k) (by omega)
    rw [seg_take, seg_take, Nat.zero_add] at this
    rw [this, val_snoc, hyk, show (ys.take k).length = k by simp; omega]
   generalize yr.getD k 0 = d at *
   obtain ⟨E1, h1, h2, h3, E', h4, h5, h6, h7⟩ := basic_round (xs := xs) (E := E) (k := k) (m := m) (n := n) (d := d) HE.out hm hlt hwE hwx hwd HVE.out
   have HTK := hid htk
   clear htk hyk
   have hlen : (E ++ List.replicate (n - k) 0).length = m + n := by have := HE.out; simp; omega
   have hfin : Row wr g (put rs 0 (E ++ List.replicate (n - k) 0)) → d = 0 → ∃ E2 : List Int, E2.length = m + (k + 1) ∧ Wds E2 ∧ val E2 = val xs * val (ys.take (k + 1)) ∧ Row wr g (put rs 0 (E2 ++ List.replicate (n - (k + 1)) 0)) := by
    intro hr hd
    refine ⟨E ++ [0], by have := HE.out; simp; omega, hwE.append (Wds.cons wd0 Wds.nil), ?_, ?_⟩
    ·rw [val_snoc, HTK.out, hd, HVE.out]; simp
    ·rw [List.append_assoc, show [0] ++ List.replicate (n - (k + 1)) (0 : Int) = List.replicate (n - k) 0 by rw [List.singleton_append, ← List.replicate_succ]; congr 1; omega]; exact hr
   have HFIN := hid hfin
   clear hfin
   by_cases hd0 : d = 0
   ·have hb : (d != 0) = false := by rw [hd0]; rfl
    have HD0 := hid hd0
    clear hd0 h7 h6 h5 h4 h3 h2 h1
    go_wp2_with fail
    go_roundw
    case rel =>
     obtain ⟨E2, j1, j2, j3, j4⟩ := HFIN.out hrr HD0.out
     exact ⟨k + 1, E2, by omega, by go_num, j1, j2, j3, j4, hcr⟩
    case measure => simp [intOf]; omega
   ·have hb : (d != 0) = true := by rw [bne_iff_ne]; exact hd0
    clear hd0
    have hr4 : Row wr.drew g (put rs 0 (E ++ List.replicate (n - k) 0)) := hrr
    have hx4 : Row wr.drew b xr := (hx.kept hcr hgb).drew
    have hc4 : Chg (· = g) w wr.drew := hcr.drew
    have ham := addMulVVWW_any g k (cz - k) g k (cz - k) b 0 cx m (put rs 0 (E ++ List.replicate (n - k) 0)) (put rs 0 (E ++ List.replicate (n - k) 0)) xr d 0 wr.drew hr4 hr4 hx4 (by rw [put_length (by omega)]; omega) (by rw [put_length (by omega)]; omega) (by omega) (fun _ => Nat.le_refl _) (fun e => absurd e hgb) (by omega) hwd wd0
    rw [seg_in (by omega), h1, hxs] at ham
    have HAM := hid ham
    have hfc : ∀ w3, Row w3 g (put (put rs 0 (E ++ List.replicate (n - k) 0)) k (amD E1 xs d 0)) → Row (w3.setCell ⟨g, m + k, none⟩ (.int .u64 (amC E1 xs d 0))) g (put rs 0 (E' ++ List.replicate (n - (k + 1)) 0)) := by
     intro w3 hr
     have hla : (amD E1 xs d 0).length = m := by rw [amD_length, h2, hm, Nat.min_self]
     rw [put_in (by omega) (by omega)] at hr
     have hs := hr.set (m + k) (v := amC E1 xs d 0) (amC_wd _ _ _ _ h3 hwx hwd wd0)
     rw [set_in (by rw [put_length (by omega)]; omega) (by rw [put_length (by omega)]; omega), h7] at hs
     exact hs
    have HFC := hid hfc
    have hla : (amD E1 xs d 0).length = m := by rw [amD_length, h2, hm, Nat.min_self]
    have hpl : (put (put rs 0 (E ++ List.replicate (n - k) 0)) k (amD E1 xs d 0)).length = rs.length := by rw [put_length (by rw [put_length (by omega)]; omega), put_length (by omega)]
    have HPL := hid hpl
    have H4 := hid h4
    have H6 := hid h6
    have hcw := amC_wd E1 xs d 0 h3 hwx hwd wd0
    clear ham hfc hla hpl h4 h6 h7 h1 h2
    generalize amC E1 xs d 0 = c1 at *
    obtain ⟨hcw0, hcw1⟩ := hcw
    have hq2 : (m : Int) + (k : Int) < (m : Int) + (n : Int) := by omega
    have hq3 : ¬ cz = k := by omega
    have hq4 : (k : Int) + (m : Int) ≤ (cz : Int) := by omega
    have hq5 : (k : Int) ≤ (k : Int) + (m : Int) := by omega
    have hw1 : IntKind.i64.wrap ((m : Int) + (k : Int)) = (m : Int) + (k : Int) := IntWalk.i64_in _ (by omega)
    have hw2 : IntKind.i64.wrap ((k : Int) + (m : Int)) = (k : Int) + (m : Int) := IntWalk.i64_in _ (by omega)
    have ht1 : ((m : Int) + (k : Int)).toNat = m + k := by omega
    have ht2 : ((k : Int) + (m : Int)).toNat = k + m := by omega
    have hn1 : (0 : Int) ≤ (k : Int) + (m : Int) := by omega
    have hn2 : k + m - k = m := by omega
    go_wp2_with fail
    go_region_with (go_at_call 175; refine (HAM.out).mono ?_; rintro e w3 ⟨rfl, hr3, hc3⟩; have hcell := hr3.cell (i := m + k) (by rw [HPL.out]; omega); have hfree := hr3.free (m + k))
    clear hw1 hw2 ht1 ht2 hn1 hn2
    go_wp2_with fail
    go_roundw
    case rel => exact ⟨k + 1, E', by omega, by go_num, H4.out, h5, by rw [H6.out, HTK.out], HFC.out _ hr3, (hc4.trans hc3 sb_).setCell (fun _ => rfl) _⟩
    case measure => simp [intOf]; omega
  ·go_wp2_with fail
   go_end0
   obtain rfl : k = n := by omega
   refine ⟨E, rfl, HE.out, hwE, ?_, ?_, hcr⟩
   ·rw [HVE.out, List.take_of_length_le (by omega)]
   ·rw [Nat.sub_self] at hrr; simpa using hrr
theorem cell_kept {S : Nat → Prop} {w w' : World} {a : Addr} {v : Value} (h : w.cell? a = some v) (hc : Chg S w w') (hs : ¬ S a.block) : w'.cell? a = some v := by
 have hlt := World.block_lt_of_cell? w a h
 rw [← h]; exact World.cell?_of_block (hc.keep a.block hlt hs)
theorem NatAt.q {w w' : World} {v : Value} {bo : Option Nat} {ds : List Int} (h : NatAt w v bo ds) (hq : Q w w') : NatAt w' v bo ds := by
 obtain ⟨n, rfl⟩ := hq; exact h.drewN n
theorem PNat.ofQ {w w1 w' : World} {bo : Option Nat} {x : Int} {e : Ending} (hq : Q w w1) (h : PNat w1 bo x e w') : PNat w bo x e w' := by
 obtain ⟨n, rfl⟩ := hq
 obtain ⟨v, bo', ds, h1, h2, h3, h4, h5, h6⟩ := h
 exact ⟨v, bo', ds, h1, h2, h3, h4, h5, ((Chg.refl _ w).drewN n).trans h6 sb_⟩
theorem mul_ge (v vs vx vy : Value) (bo bx by_ : Option Nat) (zs xs ys : List Int) (w : World) (hz : NatAt w v bo zs) (hx : NatAt w vx bx xs) (hy : NatAt w vy by_ ys) (nx : Nrm xs) (ny : Nrm ys)
  (hl : ys.length ≤ xs.length) (hm : xs.length ≤ 100000) (hn : ys.length < 40) (hkt : w.cell? ⟨5, 0, none⟩ = some (.int .i64 40)) :
  Calls Tryz.prog 139 #[v, vs, vx, vy] w (PNat w bo (val xs * val ys)) := by
 by_cases h0 : ys.length = 0
 ·obtain rfl : ys = [] := List.length_eq_zero_iff.1 h0
  obtain ⟨a, c, rfl⟩ := hz.len
  obtain ⟨a1, c1, rfl⟩ := hx.len
  obtain ⟨a2, c2, rfl⟩ := hy.len
  have hfin : PNat w bo (val xs * val []) (.returned (.slice a 0 c)) w := ⟨_, _, _, rfl, hz.cut0, Nrm.nil, by simp [val], .inl rfl, Chg.refl _ _⟩
  have HFIN := hid hfin
  clear hfin hz hx hy nx ny hl
  generalize xs.length = m at *
  by_cases hm0 : m = 0
  ·subst hm0
   go_enter Tryz.func139, Tryz.ntmps139
   go_wp2_with fail
   go_ret
   exact HFIN.out
  ·have hb0 : ((m : Int) == 0) = false := beq_eq_false_iff_ne.2 (by omega)
   go_enter Tryz.func139, Tryz.ntmps139
   go_wp2_with fail
   go_ret
   exact HFIN.out
 ·obtain ⟨c, rfl⟩ := hy.ne_nil (by intro e; subst e; exact h0 rfl)
  obtain ⟨b, rfl⟩ := hx.ne_nil (by intro e; subst e; simp at hl; exact h0 (by simp [hl]))
  have hwx := hx.wds
  have hwy := hy.wds
  by_cases h1 : ys.length = 1
  ·obtain ⟨y, rfl⟩ : ∃ y, ys = [y] := List.length_eq_one_iff.1 h1
   have hmw := fun w1 hz hx => mulAddWW_any v vx bo (some b) zs xs y 0 w1 hz hx (hwy y (by simp)) wd0 hm
   have HMW := hid hmw
   have hx' := hx
   have HX := hid hx'
   obtain ⟨a1, c1, rfl⟩ := hx.len
   obtain ⟨sq, rfl, hr2, hy1, hy2⟩ := hy
   have hcell := hr2.cell (i := 0) (by simp)
   have hb0 : ((xs.length : Int) == 0) = false := beq_eq_false_iff_ne.2 (by simp at hl; omega)
   have hb1 : ((1 : Int) == 1) = true := rfl
   rw [show val xs * val [y] = val xs * y + 0 by simp [val]]
   simp only [List.length_singleton] at *
   simp only [List.getD_cons_zero, List.cons_append] at hcell
   clear hmw hr2 hx' nx ny hwy hx
   generalize xs.length = m at *
   go_enter Tryz.func139, Tryz.ntmps139
   go_wp2_with (go_at_call 157; refine (HMW.out _ hz HX.out).mono ?_; rintro e w1 ⟨v', b', ds, rfl, k1, k2, k3, k4, k5⟩)
   go_ret
   exact ⟨v', b', ds, rfl, k1, k2, k3, k4, k5⟩
  ·have hal1 := fun w1 hz hx => alias_any v vx bo (some b) zs xs w1 hz hx
   have hal2 := fun w1 hz hy => alias_any v vy bo (some c) zs ys w1 hz hy
   have HAL1 := hid hal1
   have HAL2 := hid hal2
   have hmk := fun (w1 : World) (v1 : Value) (bo1 : Option Nat) (zs1 : List Int) (hz : NatAt w1 v1 bo1 zs1) => make_any v1 bo1 zs1 (xs.length + ys.length) w1 hz (by omega) (by omega)
   have HMK := hid hmk
   rw [show ((xs.length + ys.length : Nat) : Int) = (xs.length : Int) + (ys.length : Int) by omega] at HMK
   have HX := hid hx
   have HY := hid hy
   have HZ := hid hz
   obtain ⟨sp, rfl, hr1, hx1, hx2⟩ := hx
   obtain ⟨sq, rfl, hr2, hy1, hy2⟩ := hy
   have hfin : ∀ (g : Nat) (rs : List Int) (w2 w3 : World), Q w w2 → (bo = some g ∧ oneBlk bo (some b) = false ∧ oneBlk bo (some c) = false ∨ w.heap.size ≤ g) → Chg (fun _ => False) w2 w3 → Row w3 g rs → xs.length + ys.length ≤ rs.length → rs.length ≤ 9223372036854775807 →
     Calls Tryz.prog 152 #[.slice (some ⟨g, 0, none⟩) (xs.length + ys.length) rs.length, .slice (some ⟨b, 0, none⟩) xs.length (xs.length + sp.length), .slice (some ⟨c, 0, none⟩) ys.length (ys.length + sq.length)] w3
      (fun e w4 => e = .returned (.tuple #[]) ∧ Calls Tryz.prog 129 #[.slice (some ⟨g, 0, none⟩) (xs.length + ys.length) rs.length] w4 (PNat w bo (val xs * val ys))) := by
    intro g rs w2 w3 hq hg hc hr hl1 hl2
    have hcw : Chg (fun _ => False) w w3 := (hq.chg _).trans hc sb_
    have hgb : b ≠ g := by
     rcases hg with ⟨rfl, h, _⟩ | h
     ·simp [oneBlk] at h; exact fun e => h e.symm
     ·have := hr1.lt; omega
    have hgc : c ≠ g := by
     rcases hg with ⟨rfl, _, h⟩ | h
     ·simp [oneBlk] at h; exact fun e => h e.symm
     ·have := hr2.lt; omega
    refine (basicMul_any g rs.length b _ c _ xs.length ys.length rs (xs ++ sp) (ys ++ sq) xs ys w3 hr (hr1.kept hcw (fun h => h)) (hr2.kept hcw (fun h => h)) hgb hgc rfl rfl (by simp [seg]) (by simp [seg]) (by simp) (by simp) hl1 hl1 (by omega) (by omega) (by omega) (by omega)).mono ?_
    rintro e w4 ⟨ds, rfl, k1, k2, k3, k4, k5⟩
    refine ⟨rfl, (norm_put g _ rs ds w4 k4 k1 hl1 (by omega) hl2).mono fun e w' hp => ?_⟩
    exact nat_fin hcw (by rcases hg with ⟨h, _⟩ | h; exact .inl h; exact .inr h) k5 hp k3
   have HFIN := hid hfin
   clear hfin hmk hal1 hal2 hr1 hr2 hz nx ny hwx hwy
   generalize hcx : xs.length + sp.length = cx at *
   generalize hcy : ys.length + sq.length = cy at *
   generalize hxl : xs.length = m at *
   generalize hyl : ys.length = n at *
   clear hcx hcy hxl hyl
   have hb0 : ((m : Int) == 0) = false := beq_eq_false_iff_ne.2 (by omega)
   have hb1 : ((n : Int) == 0) = false := beq_eq_false_iff_ne.2 (by omega)
   have hb2 : ((n : Int) == 1) = false := beq_eq_false_iff_ne.2 (by omega)
   have hn40 : (n : Int) < 40 := by omega
   have hqn : ∀ (w1 : World), Q w w1 → w1.heap.size = w.heap.size := fun w1 hq => by obtain ⟨n, rfl⟩ := hq; rfl
   have HQN := hid hqn
   clear hqn
   cases ho1 : oneBlk bo (some b) with
   | true =>
    rw [ho1] at HAL1
    have HO := hid ho1
    clear ho1
    go_enter Tryz.func139, Tryz.ntmps139
    go_wp2_with (first | (go_at_call 151; refine (HAL1.out _ HZ.out HX.out).mono ?_; rintro e w1 ⟨rfl, hq⟩) | (go_at_call 121; refine (HMK.out _ _ _ _ (NatAt.nil _)).mono ?_; rintro e w3 ⟨g, rs, rfl, hrr, hl1, hl2, hl3, hbo, hc⟩; have hkt3 := cell_kept (cell_kept hkt (hq.chg (fun _ => False)) (fun h => h)) hc (fun h => h); have hsz := HQN.out _ hq; have hge : w.heap.size ≤ g := (by rcases hbo with h | h; cases h; omega); clear hsz) | (go_at_call 152; refine (HFIN.out g rs _ w3 hq (.inr hge) hc hrr hl1 hl3).mono ?_; rintro e w4 ⟨rfl, hno⟩; have HNO := hid hno; clear hno) | (go_at_call 129; refine (HNO.out).mono ?_; rintro e w7 ⟨v', b', ds', rfl, j1, j2, j3, j4, j5⟩))
    go_ret
    exact ⟨v', b', ds', rfl, j1, j2, j3, j4, j5⟩
   | false =>
    rw [ho1] at HAL1
    have HO1 := hid ho1
    clear ho1
    cases ho2 : oneBlk bo (some c) with
    | true =>
     rw [ho2] at HAL2
     have HO := hid ho2
     clear ho2
     go_enter Tryz.func139, Tryz.ntmps139
     go_wp2_with fail
     refine (HAL1.out _ HZ.out HX.out).mono ?_
     rintro e w1 ⟨rfl, hq1⟩
     have hz1 := HZ.out.q hq1
     have hy1' := HY.out.q hq1
     have HZ1 := hid hz1
     have HY1 := hid hy1'
     clear hz1 hy1'
     go_wp2_with fail
     refine (HAL2.out _ HZ1.out HY1.out).mono ?_
     rintro e w2 ⟨rfl, hq2⟩
     have hq : Q w w2 := by obtain ⟨a, rfl⟩ := hq1; obtain ⟨b, rfl⟩ := hq2; exact ((Q.refl w).step a).step b
     clear hq1 hq2
     go_wp2_with (first | (go_at_call 121; refine (HMK.out _ _ _ _ (NatAt.nil _)).mono ?_; rintro e w3 ⟨g, rs, rfl, hrr, hl1, hl2, hl3, hbo, hc⟩; have hkt3 := cell_kept (cell_kept hkt (hq.chg (fun _ => False)) (fun h => h)) hc (fun h => h); have hsz := HQN.out _ hq; have hge : w.heap.size ≤ g := (by rcases hbo with h | h; cases h; omega); clear hsz) | (go_at_call 152; refine (HFIN.out g rs _ w3 hq (.inr hge) hc hrr hl1 hl3).mono ?_; rintro e w4 ⟨rfl, hno⟩; have HNO := hid hno; clear hno) | (go_at_call 129; refine (HNO.out).mono ?_; rintro e w7 ⟨v', b', ds', rfl, j1, j2, j3, j4, j5⟩))
     go_ret
     exact ⟨v', b', ds', rfl, j1, j2, j3, j4, j5⟩
    | false =>
     rw [ho2] at HAL2
     have HO2 := hid ho2
     clear ho2
     go_enter Tryz.func139, Tryz.ntmps139
     go_wp2_with fail
     refine (HAL1.out _ HZ.out HX.out).mono ?_
     rintro e w1 ⟨rfl, hq1⟩
     have hz1 := HZ.out.q hq1
     have hy1' := HY.out.q hq1
     have HZ1 := hid hz1
     have HY1 := hid hy1'
     clear hz1 hy1'
     go_wp2_with fail
     refine (HAL2.out _ HZ1.out HY1.out).mono ?_
     rintro e w2 ⟨rfl, hq2⟩
     have hz2 := HZ1.out.q hq2
     have HZ2 := hid hz2
     have hq : Q w w2 := by obtain ⟨a, rfl⟩ := hq1; obtain ⟨b, rfl⟩ := hq2; exact ((Q.refl w).step a).step b
     clear hq1 hq2 hz2
     go_wp2_with (first | (go_at_call 121; refine (HMK.out _ v bo zs HZ2.out).mono ?_; rintro e w3 ⟨g, rs, rfl, hrr, hl1, hl2, hl3, hbo, hc⟩; have hkt3 := cell_kept (cell_kept hkt (hq.chg (fun _ => False)) (fun h => h)) hc (fun h => h); have hsz := HQN.out _ hq; have hge : bo = some g ∧ oneBlk bo (some b) = false ∧ oneBlk bo (some c) = false ∨ w.heap.size ≤ g := (by rcases hbo with h | h; exact .inl ⟨h, HO1.out, HO2.out⟩; right; omega); have HGE := hid hge; clear hsz hbo hge) | (go_at_call 152; refine (HFIN.out g rs _ w3 hq HGE.out hc hrr hl1 hl3).mono ?_; rintro e w4 ⟨rfl, hno⟩; have HNO := hid hno; clear hno) | (go_at_call 129; refine (HNO.out).mono ?_; rintro e w7 ⟨v', b', ds', rfl, j1, j2, j3, j4, j5⟩))
     go_ret
     exact ⟨v', b', ds', rfl, j1, j2, j3, j4, j5⟩
theorem mul_any (v vs vx vy : Value) (bo bx by_ : Option Nat) (zs xs ys : List Int) (w : World) (hz : NatAt w v bo zs) (hx : NatAt w vx bx xs) (hy : NatAt w vy by_ ys) (nx : Nrm xs) (ny : Nrm ys)
  (hm : xs.length < 40) (hn : ys.length < 40) (hkt : w.cell? ⟨5, 0, none⟩ = some (.int .i64 40)) :
  Calls Tryz.prog 139 #[v, vs, vx, vy] w (PNat w bo (val xs * val ys)) := by
 by_cases hl : ys.length ≤ xs.length
 ·exact mul_ge v vs vx vy bo bx by_ zs xs ys w hz hx hy nx ny hl (by omega) hn hkt
 ·have hsw := fun w1 hz hx hy hkt => mul_ge v vs vy vx bo by_ bx zs ys xs w1 hz hx hy ny nx (by omega) (by omega) hm hkt
  have HSW := hid hsw
  have HX := hid hx
  have HY := hid hy
  obtain ⟨a1, c1, rfl⟩ := hx.len
  obtain ⟨a2, c2, rfl⟩ := hy.len
  have hlt : xs.length < ys.length := by omega
  rw [Int.mul_comm]
  clear hsw hx hy nx ny hl
  generalize xs.length = m at *
  generalize ys.length = n at *
  go_enter Tryz.func139, Tryz.ntmps139
  go_wp2_with (go_at_call 139; refine (HSW.out _ hz HY.out HX.out hkt).mono ?_; rintro e w1 ⟨v', b', ds, rfl, k1, k2, k3, k4, k5⟩)
  go_ret
  exact ⟨v', b', ds, rfl, k1, k2, k3, k4, k5⟩
end Go.Proofs.YthdkandofddohaaGreatDoor
