/- The walk of 'FnHex4MatchesItsDigits'. -/
import Derived.Test.Qxb6619245aHex
namespace Go.Proofs.Qxb6619245a.Bytes
open Go.RowKit

theorem val4' (zs : List Int) : val zs 4 = ((dv (zs.getD 0 0) * 16 + dv (zs.getD 1 0)) * 16 + dv (zs.getD 2 0)) * 16 + dv (zs.getD 3 0) := by
  simp only [val]; omega

set_option maxRecDepth 100000 in
set_option maxHeartbeats 2000000 in
theorem match_some (w : World) (ba oa n c : Nat) (zs : List Int) (hn : n ≤ 1048576) (hn4 : 4 ≤ n)
    (hx : Bts w (some ⟨ba, oa, none⟩) n zs) (cx : ∀ j, j < 4 → w.cell? ⟨ba, oa + j, none⟩ = some (.int .u8 (zs.getD j 0))) :
    Calls Try.prog 3 #[.slice (some ⟨ba, oa, none⟩) n c] w fun e w' => e = .returned (.bool true) ∧ Below w.heap.size w w' := by
  have HX : Hid (Bts w (some ⟨ba, oa, none⟩) n zs) := hx
  have LX : Hid (zs.length = n) := hx.1
  have hn1 := fun (w : World) (n' c' : Nat) => run_neq_slice_nil_any (P := Try.prog) w 22 5 (some ⟨ba, oa, none⟩) n c n' c' Try.underlying22
  have hm1 := mk_len n (by omega)
  have x0 := cx 0 (by omega); have x1 := cx 1 (by omega); have x2 := cx 2 (by omega); have x3 := cx 3 (by omega)
  rw [Nat.add_zero] at x0
  have i0 : (0 : Int) < (n : Int) := by omega
  have i1 : (1 : Int) < (n : Int) := by omega
  have i2 : (2 : Int) < (n : Int) := by omega
  have i3 : (3 : Int) < (n : Int) := by omega
  have HD : Hid (decide (n ≤ 1048576) = true) := decide_eq_true hn
  have HN : Hid (n ≤ maxLen) := by show _ ≤ _; unfold maxLen; omega
  clear hx cx
  obtain ⟨p0, hp0⟩ : ∃ v, zs.getD 0 0 = v := ⟨_, rfl⟩
  rw [hp0] at x0
  have HP0 : Hid (zs.getD 0 0 = p0) := hp0
  obtain ⟨p1, hp1⟩ : ∃ v, zs.getD 1 0 = v := ⟨_, rfl⟩
  rw [hp1] at x1
  have HP1 : Hid (zs.getD 1 0 = p1) := hp1
  obtain ⟨p2, hp2⟩ : ∃ v, zs.getD 2 0 = v := ⟨_, rfl⟩
  rw [hp2] at x2
  have HP2 : Hid (zs.getD 2 0 = p2) := hp2
  obtain ⟨p3, hp3⟩ : ∃ v, zs.getD 3 0 = v := ⟨_, rfl⟩
  rw [hp3] at x3
  have HP3 : Hid (zs.getD 3 0 = p3) := hp3
  clear hp0 hp1 hp2 hp3
  go_enter Try.func3, Try.ntmps3
  go_wp2_with fail
  refine (bytes7_any _ n c _ HN.out).mono ?_
  rintro e w1 ⟨rfl, rfl⟩
  rw [HD.out]
  go_wp2_with fail
  refine (isHex_any p0 _).mono ?_
  rintro e w' ⟨rfl, rfl⟩
  obtain ⟨r, hr⟩ : ∃ r, hexB p0 = r := ⟨_, rfl⟩
  rw [hr]
  have K0 : Hid (hexB p0 = r) := hr
  clear hr
  cases r with
  | false => go_wp2_with fail; go_ret; exact ⟨rfl, Below.refl _ _⟩
  | true =>
  go_wp2_with fail
  refine (isHex_any p1 _).mono ?_
  rintro e w' ⟨rfl, rfl⟩
  obtain ⟨r, hr⟩ : ∃ r, hexB p1 = r := ⟨_, rfl⟩
  rw [hr]
  have K1 : Hid (hexB p1 = r) := hr
  clear hr
  cases r with
  | false => go_wp2_with fail; go_ret; exact ⟨rfl, Below.refl _ _⟩
  | true =>
  go_wp2_with fail
  refine (isHex_any p2 _).mono ?_
  rintro e w' ⟨rfl, rfl⟩
  obtain ⟨r, hr⟩ : ∃ r, hexB p2 = r := ⟨_, rfl⟩
  rw [hr]
  have K2 : Hid (hexB p2 = r) := hr
  clear hr
  cases r with
  | false => go_wp2_with fail; go_ret; exact ⟨rfl, Below.refl _ _⟩
  | true =>
  go_wp2_with fail
  refine (isHex_any p3 _).mono ?_
  rintro e w' ⟨rfl, rfl⟩
  obtain ⟨r, hr⟩ : ∃ r, hexB p3 = r := ⟨_, rfl⟩
  rw [hr]
  have K3 : Hid (hexB p3 = r) := hr
  clear hr
  cases r with
  | false => go_wp2_with fail; go_ret; exact ⟨rfl, Below.refl _ _⟩
  | true =>
  have HZ : Hid (∀ j, j < 4 → hexB (zs.getD j 0) = true) := by
    intro j hj
    rcases (show j = 0 ∨ j = 1 ∨ j = 2 ∨ j = 3 by omega) with rfl | rfl | rfl | rfl
    · rw [HP0.out]; exact K0.out
    · rw [HP1.out]; exact K1.out
    · rw [HP2.out]; exact K2.out
    · rw [HP3.out]; exact K3.out
  obtain ⟨wa, hwa⟩ : ∃ wa, wa = w' := ⟨_, rfl⟩
  subst hwa
  clear x0 x1 x2 x3
  go_wp2_with (refine copy_bytes wa n c ⟨ba, oa, none⟩ zs HX.out rfl (.tmp 49) (.tmp 50) rfl rfl rfl ?_; intro w2 HR2 hB2; have x0 := HR2.out.cell (i := 0) (by rw [LX.out]; omega); have x1 := HR2.out.cell (i := 1) (by rw [LX.out]; omega); have x2 := HR2.out.cell (i := 2) (by rw [LX.out]; omega); have x3 := HR2.out.cell (i := 3) (by rw [LX.out]; omega); rw [HP0.out] at x0; rw [HP1.out] at x1; rw [HP2.out] at x2; rw [HP3.out] at x3)
  obtain ⟨d0, hd0⟩ : ∃ v, dv p0 = v := ⟨_, rfl⟩
  obtain ⟨l0, hl0⟩ : ∃ v, low p0 = v := ⟨_, rfl⟩
  have hb0 := dv_range K0.out
  have EL0 : Hid (low p0 = l0) := hl0
  have ED0 : Hid (dg d0 = l0) := by show _ = _; rw [← hd0, ← hl0]; exact dg_dv K0.out
  rw [hd0] at hb0
  obtain ⟨b00, b01⟩ := hb0
  obtain ⟨d1, hd1⟩ : ∃ v, dv p1 = v := ⟨_, rfl⟩
  obtain ⟨l1, hl1⟩ : ∃ v, low p1 = v := ⟨_, rfl⟩
  have hb1 := dv_range K1.out
  have EL1 : Hid (low p1 = l1) := hl1
  have ED1 : Hid (dg d1 = l1) := by show _ = _; rw [← hd1, ← hl1]; exact dg_dv K1.out
  rw [hd1] at hb1
  obtain ⟨b10, b11⟩ := hb1
  obtain ⟨d2, hd2⟩ : ∃ v, dv p2 = v := ⟨_, rfl⟩
  obtain ⟨l2, hl2⟩ : ∃ v, low p2 = v := ⟨_, rfl⟩
  have hb2 := dv_range K2.out
  have EL2 : Hid (low p2 = l2) := hl2
  have ED2 : Hid (dg d2 = l2) := by show _ = _; rw [← hd2, ← hl2]; exact dg_dv K2.out
  rw [hd2] at hb2
  obtain ⟨b20, b21⟩ := hb2
  obtain ⟨d3, hd3⟩ : ∃ v, dv p3 = v := ⟨_, rfl⟩
  obtain ⟨l3, hl3⟩ : ∃ v, low p3 = v := ⟨_, rfl⟩
  have hb3 := dv_range K3.out
  have EL3 : Hid (low p3 = l3) := hl3
  have ED3 : Hid (dg d3 = l3) := by show _ = _; rw [← hd3, ← hl3]; exact dg_dv K3.out
  rw [hd3] at hb3
  obtain ⟨b30, b31⟩ := hb3
  obtain ⟨v, hv⟩ : ∃ v, val zs 4 = v := ⟨_, rfl⟩
  have hv4 : v = ((d0 * 16 + d1) * 16 + d2) * 16 + d3 := by rw [← hv, val4', HP0.out, HP1.out, HP2.out, HP3.out, hd0, hd1, hd2, hd3]
  have HV : Hid (val zs 4 = v) := hv
  have v0 : 0 ≤ v := by omega
  have v1 : v ≤ 65535 := by omega
  have e0 : bits .and .i32 (v / 4096) 15 = d0 := by rw [and15 _ (by omega) (by omega)]; omega
  have e1 : bits .and .i32 (v / 256) 15 = d1 := by rw [and15 _ (by omega) (by omega)]; omega
  have e2 : bits .and .i32 (v / 16) 15 = d2 := by rw [and15 _ (by omega) (by omega)]; omega
  have e3 : bits .and .i32 v 15 = d3 := by rw [and15 _ (by omega) (by omega)]; omega
  have z0 : decide (v < 0) = false := decide_eq_false (by omega)
  have z1 : decide ((65535 : Int) < v) = false := decide_eq_false (by omega)
  have HB : Hid (Below wa.heap.size wa w2) := hB2
  clear hv hv4 hd0 hd1 hd2 hd3 hl0 hl1 hl2 hl3 hn1 hm1
  refine (lower_any p0 _ (by have := hex_cases K0.out; omega) (by have := hex_cases K0.out; omega)).mono ?_
  rintro e w9 ⟨rfl, rfl⟩
  rw [EL0.out]
  go_wp2_with fail
  refine (lower_any p1 _ (by have := hex_cases K1.out; omega) (by have := hex_cases K1.out; omega)).mono ?_
  rintro e w9 ⟨rfl, rfl⟩
  rw [EL1.out]
  go_wp2_with fail
  refine (lower_any p2 _ (by have := hex_cases K2.out; omega) (by have := hex_cases K2.out; omega)).mono ?_
  rintro e w9 ⟨rfl, rfl⟩
  rw [EL2.out]
  go_wp2_with fail
  refine (lower_any p3 _ (by have := hex_cases K3.out; omega) (by have := hex_cases K3.out; omega)).mono ?_
  rintro e w9 ⟨rfl, rfl⟩
  rw [EL3.out]
  go_wp2_with fail
  refine (zhex4_any _ n zs _ HR2.out LX.out hn4 HN.out HZ.out v HV.out).mono ?_
  rintro e w9 ⟨rfl, rfl⟩
  go_wp2_with fail
  refine (digit_any d0 _ b00 b01).mono ?_
  rintro e w9 ⟨rfl, rfl⟩
  rw [ED0.out]
  go_wp2_with fail
  refine (digit_any d1 _ b10 b11).mono ?_
  rintro e w9 ⟨rfl, rfl⟩
  rw [ED1.out]
  go_wp2_with fail
  refine (digit_any d2 _ b20 b21).mono ?_
  rintro e w9 ⟨rfl, rfl⟩
  rw [ED2.out]
  go_wp2_with fail
  refine (digit_any d3 _ b30 b31).mono ?_
  rintro e w9 ⟨rfl, rfl⟩
  rw [ED3.out]
  go_wp2_with fail
  go_ret
  exact ⟨rfl, HB.out⟩

set_option maxRecDepth 100000 in
set_option maxHeartbeats 1000000 in
theorem match_early (w : World) (a : Option Addr) (n c : Nat) (hn : n ≤ maxLen) (h : 1048576 < n ∨ n < 4) :
    Calls Try.prog 3 #[.slice a n c] w fun e w' => e = .returned (.bool true) ∧ Below w.heap.size w w' := by
  have HN : Hid (n ≤ maxLen) := hn
  unfold maxLen at hn
  by_cases h1 : 1048576 < n
  · have HD : Hid (decide (n ≤ 1048576) = false) := decide_eq_false (by omega)
    clear h
    go_enter Try.func3, Try.ntmps3
    go_wp2_with fail
    refine (bytes7_any _ n c _ HN.out).mono ?_
    rintro e w1 ⟨rfl, rfl⟩
    rw [HD.out]
    go_wp2_with fail
    go_ret
    exact ⟨rfl, Below.refl _ _⟩
  · have HD : Hid (decide (n ≤ 1048576) = true) := decide_eq_true (by omega)
    have h4 : n < 4 := by omega
    clear h
    go_enter Try.func3, Try.ntmps3
    go_wp2_with fail
    refine (bytes7_any _ n c _ HN.out).mono ?_
    rintro e w1 ⟨rfl, rfl⟩
    rw [HD.out]
    go_wp2_with fail
    go_ret
    exact ⟨rfl, Below.refl _ _⟩
end Go.Proofs.Qxb6619245a.Bytes
