/- The walk of 'FnHex4OrderIsTextOrder'. -/
import Derived.Test.Qxb6619245aHex
namespace Go.Proofs.Qxb6619245a.Bytes
open Go.RowKit

theorem val4 (zs : List Int) : val zs 4 = ((dv (zs.getD 0 0) * 16 + dv (zs.getD 1 0)) * 16 + dv (zs.getD 2 0)) * 16 + dv (zs.getD 3 0) := by
  simp only [val]; omega
/-- The first k digits are the same. -/
def Same (zs ys : List Int) (k : Nat) : Prop := ∀ j, j < k → low (zs.getD j 0) = low (ys.getD j 0)
def Hex4 (zs : List Int) : Prop := ∀ j, j < 4 → hexB (zs.getD j 0) = true
theorem Same.step {zs ys : List Int} {k : Nat} (h : Same zs ys k) (he : low (zs.getD k 0) = low (ys.getD k 0)) : Same zs ys (k + 1) := by
  intro j hj
  by_cases e : j = k
  · rw [e]; exact he
  · exact h j (by omega)
theorem val_lt {zs ys : List Int} {k : Nat} (hz : Hex4 zs) (hy : Hex4 ys) (hk : k < 4) (hs : Same zs ys k) (hl : low (zs.getD k 0) < low (ys.getD k 0)) : val zs 4 < val ys 4 := by
  have r0 := dv_range (hz 0 (by omega)); have r1 := dv_range (hz 1 (by omega)); have r2 := dv_range (hz 2 (by omega)); have r3 := dv_range (hz 3 (by omega))
  have s0 := dv_range (hy 0 (by omega)); have s1 := dv_range (hy 1 (by omega)); have s2 := dv_range (hy 2 (by omega)); have s3 := dv_range (hy 3 (by omega))
  have hd : ∀ j, j < k → dv (zs.getD j 0) = dv (ys.getD j 0) := fun j hj => (low_eq (hz j (by omega)) (hy j (by omega))).1 (hs j hj)
  have hv := (low_lt (hz k hk) (hy k hk)).1 hl
  rw [val4, val4]
  rcases (show k = 0 ∨ k = 1 ∨ k = 2 ∨ k = 3 by omega) with rfl | rfl | rfl | rfl
  · omega
  · have := hd 0 (by omega); omega
  · have := hd 0 (by omega); have := hd 1 (by omega); omega
  · have := hd 0 (by omega); have := hd 1 (by omega); have := hd 2 (by omega); omega
theorem val_eq {zs ys : List Int} (hz : Hex4 zs) (hy : Hex4 ys) (hs : Same zs ys 4) : val zs 4 = val ys 4 := by
  have hd : ∀ j, j < 4 → dv (zs.getD j 0) = dv (ys.getD j 0) := fun j hj => (low_eq (hz j hj) (hy j hj)).1 (hs j hj)
  rw [val4, val4, hd 0 (by omega), hd 1 (by omega), hd 2 (by omega), hd 3 (by omega)]
theorem Same.symm {zs ys : List Int} {k : Nat} (h : Same zs ys k) : Same ys zs k := fun j hj => (h j hj).symm

theorem Bts.old {w : World} {a : Option Addr} {n : Nat} {zs : List Int} (h : Bts w a n zs) : ∀ x, a = some x → 0 < n → x.block < w.heap.size := by
  intro x e h0
  rcases h.2 with h | ⟨b, off, e2, hc⟩
  · omega
  · rw [e2] at e
    simp only [Option.some.injEq] at e
    subst e
    exact World.block_lt_of_cell? w ⟨b, off + 0, none⟩ (hc 0 h0)

set_option maxRecDepth 100000 in
set_option maxHeartbeats 2000000 in
theorem order_some (w : World) (ba oa n c bb ob m d : Nat) (zs ys : List Int) (hn : n ≤ 524288) (hm : m ≤ 524288) (hn4 : 4 ≤ n) (hm4 : 4 ≤ m)
    (hx : Bts w (some ⟨ba, oa, none⟩) n zs) (hy : Bts w (some ⟨bb, ob, none⟩) m ys)
    (cx : ∀ j, j < 4 → w.cell? ⟨ba, oa + j, none⟩ = some (.int .u8 (zs.getD j 0))) (cy : ∀ j, j < 4 → w.cell? ⟨bb, ob + j, none⟩ = some (.int .u8 (ys.getD j 0))) :
    Calls Try.prog 4 #[.slice (some ⟨ba, oa, none⟩) n c, .slice (some ⟨bb, ob, none⟩) m d] w fun e w' => e = .returned (.bool true) ∧ Below w.heap.size w w' := by
  have HX : Hid (Bts w (some ⟨ba, oa, none⟩) n zs) := hx
  have HY : Hid (Bts w (some ⟨bb, ob, none⟩) m ys) := hy
  have LX : Hid (zs.length = n) := hx.1
  have LY : Hid (ys.length = m) := hy.1
  have hn1 := fun (w : World) (n' c' : Nat) => run_neq_slice_nil_any (P := Try.prog) w 22 5 (some ⟨ba, oa, none⟩) n c n' c' Try.underlying22
  have hn2 := fun (w : World) (n' c' : Nat) => run_neq_slice_nil_any (P := Try.prog) w 22 5 (some ⟨bb, ob, none⟩) m d n' c' Try.underlying22
  have hm1 := mk_len n (by omega)
  have hm2 := mk_len m (by omega)
  have x0 := cx 0 (by omega); have x1 := cx 1 (by omega); have x2 := cx 2 (by omega); have x3 := cx 3 (by omega)
  have y0 := cy 0 (by omega); have y1 := cy 1 (by omega); have y2 := cy 2 (by omega); have y3 := cy 3 (by omega)
  rw [Nat.add_zero] at x0 y0
  have g0 : decide ((524288 : Int) < (n : Int)) = false := decide_eq_false (by omega)
  have g1 : decide ((524288 : Int) < (m : Int)) = false := decide_eq_false (by omega)
  have g2 : decide ((n : Int) < 4) = false := decide_eq_false (by omega)
  have g3 : decide ((m : Int) < 4) = false := decide_eq_false (by omega)
  have i0 : (0 : Int) < (n : Int) := by omega
  have i1 : (1 : Int) < (n : Int) := by omega
  have i2 : (2 : Int) < (n : Int) := by omega
  have i3 : (3 : Int) < (n : Int) := by omega
  have j0 : (0 : Int) < (m : Int) := by omega
  have j1 : (1 : Int) < (m : Int) := by omega
  have j2 : (2 : Int) < (m : Int) := by omega
  have j3 : (3 : Int) < (m : Int) := by omega
  clear hx hy cx cy
  obtain ⟨p0, hp0⟩ : ∃ v, zs.getD 0 0 = v := ⟨_, rfl⟩
  rw [hp0] at x0
  have HP0 : Hid (zs.getD 0 0 = p0) := hp0
  obtain ⟨p1, hp1⟩ : ∃ v, zs.getD 1 0 = v := ⟨_, rfl⟩
  rw [hp1] at x1
  have HP1 : Hid (zs.getD 1 0 = p1) := hp1
  obtain ⟨p2, hp2⟩ : ∃ v, zs.getD 2 0 = v := ⟨_, rfl⟩
  rw [hp2] at x2
  have HP2 : Hid (zs.getD 2 0 = p2) := hp2
  obtain ⟨p3, hp3⟩ : ∃ v, zs.getD 3 0 = v := ⟨_, rfl⟩
  rw [hp3] at x3
  have HP3 : Hid (zs.getD 3 0 = p3) := hp3
  obtain ⟨q0, hq0⟩ : ∃ v, ys.getD 0 0 = v := ⟨_, rfl⟩
  rw [hq0] at y0
  have HQ0 : Hid (ys.getD 0 0 = q0) := hq0
  obtain ⟨q1, hq1⟩ : ∃ v, ys.getD 1 0 = v := ⟨_, rfl⟩
  rw [hq1] at y1
  have HQ1 : Hid (ys.getD 1 0 = q1) := hq1
  obtain ⟨q2, hq2⟩ : ∃ v, ys.getD 2 0 = v := ⟨_, rfl⟩
  rw [hq2] at y2
  have HQ2 : Hid (ys.getD 2 0 = q2) := hq2
  obtain ⟨q3, hq3⟩ : ∃ v, ys.getD 3 0 = v := ⟨_, rfl⟩
  rw [hq3] at y3
  have HQ3 : Hid (ys.getD 3 0 = q3) := hq3
  clear hp0 hp1 hp2 hp3 hq0 hq1 hq2 hq3
  go_enter Try.func4, Try.ntmps4
  go_wp2_with fail
  refine (bytes12_any _ n c _ m d _ (by unfold maxLen; omega) (by unfold maxLen; omega)).mono ?_
  rintro e w1 ⟨r, rfl, rfl, hr⟩
  clear hr
  cases r with
  | false => go_wp2_with fail; go_ret; exact ⟨rfl, Below.refl _ _⟩
  | true =>
  go_wp2_with fail
  refine (isHex_any p0 _).mono ?_
  rintro e w' ⟨rfl, rfl⟩
  obtain ⟨r, hr⟩ : ∃ r, hexB p0 = r := ⟨_, rfl⟩
  rw [hr]
  have Kp0 : Hid (hexB p0 = r) := hr
  clear hr
  cases r with
  | false => go_wp2_with fail; go_ret; exact ⟨rfl, Below.refl _ _⟩
  | true =>
  go_wp2_with fail
  refine (isHex_any p1 _).mono ?_
  rintro e w' ⟨rfl, rfl⟩
  obtain ⟨r, hr⟩ : ∃ r, hexB p1 = r := ⟨_, rfl⟩
  rw [hr]
  have Kp1 : Hid (hexB p1 = r) := hr
  clear hr
  cases r with
  | false => go_wp2_with fail; go_ret; exact ⟨rfl, Below.refl _ _⟩
  | true =>
  go_wp2_with fail
  refine (isHex_any p2 _).mono ?_
  rintro e w' ⟨rfl, rfl⟩
  obtain ⟨r, hr⟩ : ∃ r, hexB p2 = r := ⟨_, rfl⟩
  rw [hr]
  have Kp2 : Hid (hexB p2 = r) := hr
  clear hr
  cases r with
  | false => go_wp2_with fail; go_ret; exact ⟨rfl, Below.refl _ _⟩
  | true =>
  go_wp2_with fail
  refine (isHex_any p3 _).mono ?_
  rintro e w' ⟨rfl, rfl⟩
  obtain ⟨r, hr⟩ : ∃ r, hexB p3 = r := ⟨_, rfl⟩
  rw [hr]
  have Kp3 : Hid (hexB p3 = r) := hr
  clear hr
  cases r with
  | false => go_wp2_with fail; go_ret; exact ⟨rfl, Below.refl _ _⟩
  | true =>
  go_wp2_with fail
  refine (isHex_any q0 _).mono ?_
  rintro e w' ⟨rfl, rfl⟩
  obtain ⟨r, hr⟩ : ∃ r, hexB q0 = r := ⟨_, rfl⟩
  rw [hr]
  have Kq0 : Hid (hexB q0 = r) := hr
  clear hr
  cases r with
  | false => go_wp2_with fail; go_ret; exact ⟨rfl, Below.refl _ _⟩
  | true =>
  go_wp2_with fail
  refine (isHex_any q1 _).mono ?_
  rintro e w' ⟨rfl, rfl⟩
  obtain ⟨r, hr⟩ : ∃ r, hexB q1 = r := ⟨_, rfl⟩
  rw [hr]
  have Kq1 : Hid (hexB q1 = r) := hr
  clear hr
  cases r with
  | false => go_wp2_with fail; go_ret; exact ⟨rfl, Below.refl _ _⟩
  | true =>
  go_wp2_with fail
  refine (isHex_any q2 _).mono ?_
  rintro e w' ⟨rfl, rfl⟩
  obtain ⟨r, hr⟩ : ∃ r, hexB q2 = r := ⟨_, rfl⟩
  rw [hr]
  have Kq2 : Hid (hexB q2 = r) := hr
  clear hr
  cases r with
  | false => go_wp2_with fail; go_ret; exact ⟨rfl, Below.refl _ _⟩
  | true =>
  go_wp2_with fail
  refine (isHex_any q3 _).mono ?_
  rintro e w' ⟨rfl, rfl⟩
  obtain ⟨r, hr⟩ : ∃ r, hexB q3 = r := ⟨_, rfl⟩
  rw [hr]
  have Kq3 : Hid (hexB q3 = r) := hr
  clear hr
  cases r with
  | false => go_wp2_with fail; go_ret; exact ⟨rfl, Below.refl _ _⟩
  | true =>
  have HZ : Hid (Hex4 zs) := by
    intro j hj
    rcases (show j = 0 ∨ j = 1 ∨ j = 2 ∨ j = 3 by omega) with rfl | rfl | rfl | rfl
    · rw [HP0.out]; exact Kp0.out
    · rw [HP1.out]; exact Kp1.out
    · rw [HP2.out]; exact Kp2.out
    · rw [HP3.out]; exact Kp3.out
  have HW : Hid (Hex4 ys) := by
    intro j hj
    rcases (show j = 0 ∨ j = 1 ∨ j = 2 ∨ j = 3 by omega) with rfl | rfl | rfl | rfl
    · rw [HQ0.out]; exact Kq0.out
    · rw [HQ1.out]; exact Kq1.out
    · rw [HQ2.out]; exact Kq2.out
    · rw [HQ3.out]; exact Kq3.out
  clear x0 x1 x2 x3 y0 y1 y2 y3 HP0 HP1 HP2 HP3 HQ0 HQ1 HQ2 HQ3 Kp0 Kp1 Kp2 Kp3 Kq0 Kq1 Kq2 Kq3
  obtain ⟨wa, hwa⟩ : ∃ wa, wa = w' := ⟨_, rfl⟩
  subst hwa
  go_wp2_with (first
    | (refine copy_bytes wa n c ⟨ba, oa, none⟩ zs HX.out rfl (.tmp 90) (.tmp 91) rfl rfl rfl ?_; intro w2 HR2 hB2; have hz2 := HR2.out.lt; have HY2 : Hid (Bts w2 (some ⟨bb, ob, none⟩) m ys) := HY.out.keep hB2 (HY.out.old))
    | (refine copy_bytes w2 m d ⟨bb, ob, none⟩ ys HY2.out rfl (.tmp 99) (.tmp 100) rfl rfl rfl ?_; intro w3 HR3 hB3; have hz3 := HR3.out.lt))
  have RA : Row w3 wa.heap.size zs := HR2.out.keep hB3 hz2
  have RB : Row w3 w2.heap.size ys := HR3.out
  have HB : Hid (Below wa.heap.size wa w3) := hB2.trans (hB3.mono hB2.size)
  have HN : Hid (n ≤ maxLen) := by show _ ≤ _; unfold maxLen; omega
  have HM : Hid (m ≤ maxLen) := by show _ ≤ _; unfold maxLen; omega
  clear HR2 HR3 hB2 hB3 HY2 HX HY hz2 hz3 hn1 hn2 hm1 hm2 g0 g1 g2 g3
  obtain ⟨va, hva⟩ : ∃ v, val zs 4 = v := ⟨_, rfl⟩
  obtain ⟨vb, hvb⟩ : ∃ v, val ys 4 = v := ⟨_, rfl⟩
  have HVA : Hid (val zs 4 = va) := hva
  have HVB : Hid (val ys 4 = vb) := hvb
  clear hva hvb
  generalize wa.heap.size = ga at RA ⊢
  generalize w2.heap.size = gb at RB ⊢
  go_loop [7, 8] (fun cv iv => ∃ k : Nat, k ≤ 4 ∧ iv = .int .i64 k ∧ cv = .int .i64 0 ∧ Hid (Same zs ys k)) (fun _ iv => 4 - (intOf iv).toNat)
  case atStart => exact ⟨0, by omega, rfl, rfl, fun j h => absurd h (Nat.not_lt_zero _)⟩
  case round =>
    obtain ⟨k, hk, rfl, rfl, hs⟩ := hrel
    by_cases hlt : k < 4
    · have ca := RA.cell (i := k) (by rw [LX.out]; omega)
      have cb := RB.cell (i := k) (by rw [LY.out]; omega)
      have hxa := hex_cases (HZ.out k hlt)
      have hxb := hex_cases (HW.out k hlt)
      obtain ⟨x, hx⟩ : ∃ x, zs.getD k 0 = x := ⟨_, rfl⟩
      obtain ⟨y, hy⟩ : ∃ y, ys.getD k 0 = y := ⟨_, rfl⟩
      rw [hx] at ca hxa
      rw [hy] at cb hxb
      have EX : Hid (zs.getD k 0 = x) := hx
      have EY : Hid (ys.getD k 0 = y) := hy
      have bx : 0 ≤ x ∧ x ≤ 255 := by omega
      have bY : 0 ≤ y ∧ y ≤ 255 := by omega
      obtain ⟨bx0, bx1⟩ := bx
      obtain ⟨by0, by1⟩ := bY
      have ki : (k : Int) < (n : Int) := by omega
      have kj : (k : Int) < (m : Int) := by omega
      obtain ⟨lx, hlx⟩ : ∃ l, low x = l := ⟨_, rfl⟩
      obtain ⟨ly, hly⟩ : ∃ l, low y = l := ⟨_, rfl⟩
      have ELX : Hid (low x = lx) := hlx
      have ELY : Hid (low y = ly) := hly
      clear hx hy hxa hxb hlx hly
      rcases Int.lt_trichotomy lx ly with hl | hl | hl
      · have hne : (lx != ly) = true := bne_iff_ne.2 (by omega)
        have hv : va < vb := by rw [← HVA.out, ← HVB.out]; exact val_lt HZ.out HW.out hlt hs.out (by rw [EX.out, EY.out, ELX.out, ELY.out]; exact hl)
        have e1 : decide (va < vb) = true := decide_eq_true hv
        have e2 : (va == vb) = false := beq_eq_false_iff_ne.2 (by omega)
        go_wp2_with fail
        refine (lower_any x _ bx0 bx1).mono ?_
        rintro e w4 ⟨rfl, rfl⟩
        rw [ELX.out]
        go_wp2_with fail
        refine (lower_any y _ by0 by1).mono ?_
        rintro e w5 ⟨rfl, rfl⟩
        rw [ELY.out]
        go_wp2_with fail
        refine (zhex4_any ga n zs _ RA LX.out hn4 HN.out HZ.out va HVA.out).mono ?_
        rintro e w6 ⟨rfl, rfl⟩
        go_wp2_with fail
        refine (zhex4_any gb m ys _ RB LY.out hm4 HM.out HW.out vb HVB.out).mono ?_
        rintro e w7 ⟨rfl, rfl⟩
        go_wp2_with fail
        go_ret
        exact ⟨rfl, HB.out⟩
      · subst hl
        go_wp2_with fail
        refine (lower_any x _ bx0 bx1).mono ?_
        rintro e w4 ⟨rfl, rfl⟩
        rw [ELX.out]
        go_wp2_with fail
        refine (lower_any y _ by0 by1).mono ?_
        rintro e w5 ⟨rfl, rfl⟩
        rw [ELY.out]
        go_wp2_with fail
        go_round
        case rel => exact ⟨k + 1, by omega, by go_num, rfl, hs.out.step (by rw [EX.out, EY.out, ELX.out, ELY.out])⟩
        case measure => simp [intOf]; omega
      · have hne : (lx != ly) = true := bne_iff_ne.2 (by omega)
        have hnl : ¬ lx < ly := by omega
        have hv : vb < va := by rw [← HVA.out, ← HVB.out]; exact val_lt HW.out HZ.out hlt hs.out.symm (by rw [EX.out, EY.out, ELX.out, ELY.out]; exact hl)
        have e1 : decide (va < vb) = false := decide_eq_false (by omega)
        have e2 : (va == vb) = false := beq_eq_false_iff_ne.2 (by omega)
        go_wp2_with fail
        refine (lower_any x _ bx0 bx1).mono ?_
        rintro e w4 ⟨rfl, rfl⟩
        rw [ELX.out]
        go_wp2_with fail
        refine (lower_any y _ by0 by1).mono ?_
        rintro e w5 ⟨rfl, rfl⟩
        rw [ELY.out]
        go_wp2_with fail
        refine (zhex4_any ga n zs _ RA LX.out hn4 HN.out HZ.out va HVA.out).mono ?_
        rintro e w6 ⟨rfl, rfl⟩
        go_wp2_with fail
        refine (zhex4_any gb m ys _ RB LY.out hm4 HM.out HW.out vb HVB.out).mono ?_
        rintro e w7 ⟨rfl, rfl⟩
        go_wp2_with fail
        go_ret
        exact ⟨rfl, HB.out⟩
    · obtain rfl : va = vb := by
        have e : k = 4 := by omega
        rw [← HVA.out, ← HVB.out]
        exact val_eq HZ.out HW.out (e ▸ hs.out)
      go_wp2_with fail
      refine (zhex4_any ga n zs _ RA LX.out hn4 HN.out HZ.out va HVA.out).mono ?_
      rintro e w6 ⟨rfl, rfl⟩
      go_wp2_with fail
      refine (zhex4_any gb m ys _ RB LY.out hm4 HM.out HW.out va HVB.out).mono ?_
      rintro e w7 ⟨rfl, rfl⟩
      go_wp2_with fail
      go_ret
      exact ⟨rfl, HB.out⟩
end Go.Proofs.Qxb6619245a.Bytes
