/- Hexadecimal digits: the plain functions and the walks of isHexB1, lowerHexB1, digitOfB1, isDigit, hex4, ZZHex4 and of the bounds on sizes. -/
import Derived.Test.Qxb6619245aRowsOwn
import Derived.Laws.BitsAllLaws
namespace Go.Proofs.Qxb6619245a.Bytes
open Go.RowKit

theorem ret_int {k : IntKind} {a b : Int} (h : a = b) : Ending.returned (.int k a) = .returned (.int k b) := by rw [h]

def hexB (c : Int) : Bool := decide (48 ≤ c ∧ c ≤ 57) || decide (97 ≤ c ∧ c ≤ 102) || decide (65 ≤ c ∧ c ≤ 70)
/-- Folded to lower case. -/
def low (c : Int) : Int := if 65 ≤ c ∧ c ≤ 70 then c + 32 else c
/-- A digit's value. -/
def dv (c : Int) : Int := if c ≤ 57 then c - 48 else if 97 ≤ c then c - 87 else c - 55
/-- The digit that stands for a number. -/
def dg (n : Int) : Int := if n < 10 then 48 + n else 87 + n

theorem hex_cases {c : Int} (h : hexB c = true) : (48 ≤ c ∧ c ≤ 57) ∨ (97 ≤ c ∧ c ≤ 102) ∨ (65 ≤ c ∧ c ≤ 70) := by
  unfold hexB at h; simp at h; omega
theorem hex_no {c : Int} (h : hexB c = false) : ¬ ((48 ≤ c ∧ c ≤ 57) ∨ (97 ≤ c ∧ c ≤ 102) ∨ (65 ≤ c ∧ c ≤ 70)) := by
  unfold hexB at h; simp at h; omega
theorem hex_yes {c : Int} (h : (48 ≤ c ∧ c ≤ 57) ∨ (97 ≤ c ∧ c ≤ 102) ∨ (65 ≤ c ∧ c ≤ 70)) : hexB c = true := by
  unfold hexB; simp; omega
theorem hex_not {c : Int} (h : ¬ ((48 ≤ c ∧ c ≤ 57) ∨ (97 ≤ c ∧ c ≤ 102) ∨ (65 ≤ c ∧ c ≤ 70))) : hexB c = false := by
  unfold hexB; simp; omega
theorem dv_range {c : Int} (h : hexB c = true) : 0 ≤ dv c ∧ dv c < 16 := by
  have := hex_cases h
  unfold dv; split
  · omega
  · split <;> omega
theorem dg_dv {c : Int} (h : hexB c = true) : dg (dv c) = low c := by
  have := hex_cases h
  unfold dg dv low; repeat' split
  all_goals omega
theorem low_lt {c d : Int} (hc : hexB c = true) (hd : hexB d = true) : low c < low d ↔ dv c < dv d := by
  have := hex_cases hc
  have := hex_cases hd
  unfold dv low; repeat' split
  all_goals omega
theorem low_eq {c d : Int} (hc : hexB c = true) (hd : hexB d = true) : low c = low d ↔ dv c = dv d := by
  have := hex_cases hc
  have := hex_cases hd
  unfold dv low; repeat' split
  all_goals omega
theorem low_range {c : Int} (h0 : 0 ≤ c) (h1 : c ≤ 255) : 0 ≤ low c ∧ low c ≤ 255 := by unfold low; split <;> omega

/-! ### Bits of an int32 -/
theorem or16 (a d : Int) (h0 : 0 ≤ a) (h1 : a ≤ 65535) (hd : 0 ≤ d ∧ d < 16) : bits .or .i32 (a * 16) d = a * 16 + d := by
  obtain ⟨A, rfl⟩ := Int.eq_ofNat_of_zero_le h0
  obtain ⟨D, rfl⟩ := Int.eq_ofNat_of_zero_le hd.1
  have e : ((A : Int) * 16) = ((A * 16 : Nat) : Int) := by omega
  rw [e]
  show IntKind.i32.wrap ((BitVec.ofInt 32 ((A * 16 : Nat) : Int) ||| BitVec.ofInt 32 (D : Int)).toNat : Int) = _
  rw [BitVec.toNat_or, ofInt_u32 _ (by omega), ofInt_u32 D (by omega), nat_join 4 (A * 16) D (by omega) (by omega), IntKind.wrap_i32]
  omega
theorem and15 (a : Int) (h0 : 0 ≤ a) (h1 : a ≤ 65535) : bits .and .i32 a 15 = a % 16 := by
  obtain ⟨A, rfl⟩ := Int.eq_ofNat_of_zero_le h0
  show IntKind.i32.wrap ((BitVec.ofInt 32 (A : Int) &&& BitVec.ofInt 32 ((15 : Nat) : Int)).toNat : Int) = _
  rw [BitVec.toNat_and, ofInt_u32 A (by omega), ofInt_u32 15 (by omega), nat_mask4, IntKind.wrap_i32]
  omega

set_option maxHeartbeats 1000000 in
theorem isHex_any (c : Int) (w : World) : Calls Try.prog 8 #[.int .u8 c] w fun e w' => e = .returned (.bool (hexB c)) ∧ w' = w := by
  rcases (show (48 ≤ c ∧ c ≤ 57) ∨ (97 ≤ c ∧ c ≤ 102) ∨ (65 ≤ c ∧ c ≤ 70) ∨ (c < 48 ∧ c < 49) ∨ (58 ≤ c ∧ c ≤ 64) ∨ (71 ≤ c ∧ c ≤ 96) ∨ (102 < c ∧ 101 < c) by omega) with ⟨h1, h2⟩ | ⟨h1, h2⟩ | ⟨h1, h2⟩ | ⟨h1, h2⟩ | ⟨h1, h2⟩ | ⟨h1, h2⟩ | ⟨h1, h2⟩
  all_goals first | have HR : Hid (hexB c = true) := hex_yes (by omega) | have HR : Hid (hexB c = false) := hex_not (by omega)
  all_goals first | have d0 : decide (48 ≤ c) = true := decide_eq_true (by omega) | have d0 : decide (48 ≤ c) = false := decide_eq_false (by omega)
  all_goals first | have d1 : decide (c ≤ 57) = true := decide_eq_true (by omega) | have d1 : decide (c ≤ 57) = false := decide_eq_false (by omega)
  all_goals first | have d2 : decide (97 ≤ c) = true := decide_eq_true (by omega) | have d2 : decide (97 ≤ c) = false := decide_eq_false (by omega)
  all_goals first | have d3 : decide (c ≤ 102) = true := decide_eq_true (by omega) | have d3 : decide (c ≤ 102) = false := decide_eq_false (by omega)
  all_goals first | have d4 : decide (65 ≤ c) = true := decide_eq_true (by omega) | have d4 : decide (65 ≤ c) = false := decide_eq_false (by omega)
  all_goals first | have d5 : decide (c ≤ 70) = true := decide_eq_true (by omega) | have d5 : decide (c ≤ 70) = false := decide_eq_false (by omega)
  all_goals
    rw [HR.out]
    go_enter Try.func8, Try.ntmps8
    go_wp2
    go_ret
    exact ⟨rfl, rfl⟩

theorem isDigit_any (c : Int) (w : World) : Calls Try.prog 18 #[.int .u8 c] w fun e w' => e = .returned (.bool (decide (48 ≤ c ∧ c ≤ 57))) ∧ w' = w := by
  rcases (show (48 ≤ c ∧ c ≤ 57) ∨ (c < 48 ∧ c < 49) ∨ (57 < c ∧ 56 < c) by omega) with ⟨h1, h2⟩ | ⟨h1, h2⟩ | ⟨h1, h2⟩
  all_goals first | have HR : Hid (decide (48 ≤ c ∧ c ≤ 57) = true) := decide_eq_true (by omega) | have HR : Hid (decide (48 ≤ c ∧ c ≤ 57) = false) := decide_eq_false (by omega)
  all_goals first | have d0 : decide (48 ≤ c) = true := decide_eq_true (by omega) | have d0 : decide (48 ≤ c) = false := decide_eq_false (by omega)
  all_goals first | have d1 : decide (c ≤ 57) = true := decide_eq_true (by omega) | have d1 : decide (c ≤ 57) = false := decide_eq_false (by omega)
  all_goals
    rw [HR.out]
    go_enter Try.func18, Try.ntmps18
    go_wp2
    go_ret
    exact ⟨rfl, rfl⟩

theorem lower_any (c : Int) (w : World) (h0 : 0 ≤ c) (h255 : c ≤ 255) : Calls Try.prog 9 #[.int .u8 c] w fun e w' => e = .returned (.int .u8 (low c)) ∧ w' = w := by
  rcases (show (65 ≤ c ∧ c ≤ 70) ∨ (c < 65 ∧ c < 66) ∨ (70 < c ∧ 69 < c) by omega) with ⟨h1, h2⟩ | ⟨h1, h2⟩ | ⟨h1, h2⟩
  all_goals first | have HR : Hid (low c = c + 32) := if_pos (by omega) | have HR : Hid (low c = c) := if_neg (by omega)
  all_goals first | have d0 : decide (65 ≤ c) = true := decide_eq_true (by omega) | have d0 : decide (65 ≤ c) = false := decide_eq_false (by omega)
  all_goals first | have d1 : decide (c ≤ 70) = true := decide_eq_true (by omega) | have d1 : decide (c ≤ 70) = false := decide_eq_false (by omega)
  all_goals
    rw [HR.out]
    go_enter Try.func9, Try.ntmps9
    go_wp2
    go_ret
    exact ⟨rfl, rfl⟩

theorem digit_any (n : Int) (w : World) (h0 : 0 ≤ n) (h15 : n < 16) : Calls Try.prog 11 #[.int .i32 n] w fun e w' => e = .returned (.int .u8 (dg n)) ∧ w' = w := by
  by_cases h : n < 10
  · have HR : Hid (dg n = 48 + n) := if_pos h
    rw [HR.out]
    go_enter Try.func11, Try.ntmps11
    go_wp2
    go_ret
    exact ⟨rfl, rfl⟩
  · have HR : Hid (dg n = 87 + n) := if_neg h
    rw [HR.out]
    go_enter Try.func11, Try.ntmps11
    go_wp2
    go_ret
    exact ⟨ret_int (by omega), rfl⟩

/-- The number of the first k digits. -/
def val (zs : List Int) : Nat → Int
  | 0 => 0
  | k + 1 => val zs k * 16 + dv (zs.getD k 0)
theorem val_range {zs : List Int} {m : Nat} (h : ∀ j, j < m → hexB (zs.getD j 0) = true) : ∀ k, k ≤ m → 0 ≤ val zs k ∧ val zs k < 16 ^ k
  | 0, _ => by simp [val]
  | k + 1, hk => by
    have ih := val_range h k (by omega)
    have hd := dv_range (h k (by omega))
    rw [val, Int.pow_succ]
    omega

set_option maxHeartbeats 1000000 in
theorem hex4_any (g n : Nat) (zs : List Int) (w : World) (hR : Row w g zs) (hn : zs.length = n) (h4 : 4 ≤ n) (hm : n ≤ maxLen) (hh : ∀ j, j < 4 → hexB (zs.getD j 0) = true) :
    Calls Try.prog 16 #[.slice (some ⟨g, 0, none⟩) n n] w fun e w' => e = .returned (.int .i32 (val zs 4)) ∧ w' = w := by
  have HH : Hid (∀ j, j < 4 → hexB (zs.getD j 0) = true) := hh
  unfold maxLen at hm
  have h4i : (4 : Int) ≤ (n : Int) := by omega
  clear hh
  go_enter Try.func16, Try.ntmps16
  go_wp2
  go_loop [3, 9] (fun r i => ∃ k : Nat, k ≤ 4 ∧ i = .int .i64 k ∧ r = .int .i32 (val zs k)) (fun _ i => 4 - (intOf i).toNat)
  case atStart => exact ⟨0, by omega, rfl, rfl⟩
  case round =>
    obtain ⟨k, hk, rfl, rfl⟩ := hrel
    by_cases hlt : k < 4
    · have cx := hR.cell (i := k) (by omega)
      have hx := HH.out k hlt
      have HV : Hid (val zs (k + 1) = val zs k * 16 + dv (zs.getD k 0)) := rfl
      have hv := val_range HH.out k hk
      have hp : (16 : Int) ^ k ≤ 4096 := by
        rcases (show k = 0 ∨ k = 1 ∨ k = 2 ∨ k = 3 by omega) with rfl | rfl | rfl | rfl <;> decide
      have hv0 : 0 ≤ val zs k := hv.1
      have hv1 : val zs k < 4096 := by omega
      have hki : (k : Int) < 4 := by omega
      obtain ⟨c, hc⟩ : ∃ c, zs.getD k 0 = c := ⟨_, rfl⟩
      rw [hc] at cx hx HV
      obtain ⟨v, hvv⟩ : ∃ v, val zs k = v := ⟨_, rfl⟩
      rw [hvv] at HV hv0 hv1 ⊢
      clear hc hv hp hvv
      rcases hex_cases hx with ⟨c1, c2⟩ | ⟨c1, c2⟩ | ⟨c1, c2⟩
      · have HD : Hid (dv c = c - 48) := if_pos (by omega)
        have HI : Hid (decide (48 ≤ c ∧ c ≤ 57) = true) := decide_eq_true (by omega)
        have HO : Hid (bits .or .i32 (v * 16) (c - 48) = v * 16 + (c - 48)) := or16 v (c - 48) hv0 (by omega) (by omega)
        clear hx
        go_wp2_with fail
        refine (isDigit_any _ _).mono ?_
        rintro e w' ⟨rfl, rfl⟩
        rw [HI.out]
        go_wp2_with fail
        go_round
        case rel => exact ⟨k + 1, by omega, by go_num, by rw [HV.out, HD.out, ← HO.out]⟩
        case measure => simp [intOf]; omega
      · have HD : Hid (dv c = c - 87) := by show _ = _; unfold dv; rw [if_neg (by omega), if_pos (by omega)]
        have HI : Hid (decide (48 ≤ c ∧ c ≤ 57) = false) := decide_eq_false (by omega)
        have HO : Hid (bits .or .i32 (v * 16) (c - 87) = v * 16 + (c - 87)) := or16 v (c - 87) hv0 (by omega) (by omega)
        have d0 : decide (97 ≤ c) = true := decide_eq_true c1
        have d1 : decide (c ≤ 102) = true := decide_eq_true c2
        clear hx
        go_wp2_with fail
        refine (isDigit_any _ _).mono ?_
        rintro e w' ⟨rfl, rfl⟩
        rw [HI.out]
        go_wp2_with fail
        go_round
        case rel => exact ⟨k + 1, by omega, by go_num, by rw [HV.out, HD.out, ← HO.out]⟩
        case measure => simp [intOf]; omega
      · have HD : Hid (dv c = c - 55) := by show _ = _; unfold dv; rw [if_neg (by omega), if_neg (by omega)]
        have HI : Hid (decide (48 ≤ c ∧ c ≤ 57) = false) := decide_eq_false (by omega)
        have HO : Hid (bits .or .i32 (v * 16) (c - 55) = v * 16 + (c - 55)) := or16 v (c - 55) hv0 (by omega) (by omega)
        have d0 : decide (97 ≤ c) = false := decide_eq_false (by omega)
        clear hx
        go_wp2_with fail
        refine (isDigit_any _ _).mono ?_
        rintro e w' ⟨rfl, rfl⟩
        rw [HI.out]
        go_wp2_with fail
        go_round
        case rel => exact ⟨k + 1, by omega, by go_num, by rw [HV.out, HD.out, ← HO.out]⟩
        case measure => simp [intOf]; omega
    · obtain rfl : k = 4 := by omega
      go_wp2
      go_ret
      exact ⟨rfl, rfl⟩

theorem zhex4_any (g n : Nat) (zs : List Int) (w : World) (hR : Row w g zs) (hn : zs.length = n) (h4 : 4 ≤ n) (hm : n ≤ maxLen) (hh : ∀ j, j < 4 → hexB (zs.getD j 0) = true) (v : Int) (hv : val zs 4 = v) :
    Calls Try.prog 10 #[.slice (some ⟨g, 0, none⟩) n n] w fun e w' => e = .returned (.int .i32 v) ∧ w' = w := by
  have HV : Hid (val zs 4 = v) := hv
  clear hv
  go_enter Try.func10, Try.ntmps10
  go_wp2_with fail
  refine (hex4_any g n zs w hR hn h4 hm hh).mono ?_
  rintro e w' ⟨rfl, rfl⟩
  rw [HV.out]
  go_wp2_with fail
  go_ret
  exact ⟨rfl, rfl⟩

theorem bytes7_any (a : Option Addr) (n c : Nat) (w : World) (hn : n ≤ maxLen) :
    Calls Try.prog 7 #[.slice a n c] w fun e w' => e = .returned (.bool (decide (n ≤ 1048576))) ∧ w' = w := by
  unfold maxLen at hn
  by_cases h : n ≤ 1048576
  · rw [decide_eq_true h]
    go_enter Try.func7, Try.ntmps7
    go_wp2
    go_ret
    exact ⟨rfl, rfl⟩
  · rw [decide_eq_false h]
    go_enter Try.func7, Try.ntmps7
    go_wp2
    go_ret
    exact ⟨rfl, rfl⟩
set_option maxHeartbeats 1000000 in
theorem bytes12_any (a : Option Addr) (n c : Nat) (b : Option Addr) (m d : Nat) (w : World) (hn : n ≤ maxLen) (hm : m ≤ maxLen) :
    Calls Try.prog 12 #[.slice a n c, .slice b m d] w fun e w' => ∃ r, e = .returned (.bool r) ∧ w' = w ∧ Hid (r = decide (n + m ≤ 1048576)) := by
  unfold maxLen at hn hm
  by_cases h1 : n ≤ 1048576
  · by_cases h2 : m ≤ 1048576
    · by_cases h3 : n + m ≤ 1048576
      · have H : Hid (true = decide (n + m ≤ 1048576)) := (decide_eq_true h3).symm
        go_enter Try.func12, Try.ntmps12
        go_wp2
        go_ret
        exact ⟨_, rfl, rfl, H⟩
      · have H : Hid (false = decide (n + m ≤ 1048576)) := (decide_eq_false h3).symm
        go_enter Try.func12, Try.ntmps12
        go_wp2
        go_ret
        exact ⟨_, rfl, rfl, H⟩
    · have H : Hid (false = decide (n + m ≤ 1048576)) := (decide_eq_false (by omega)).symm
      go_enter Try.func12, Try.ntmps12
      go_wp2
      go_ret
      exact ⟨_, rfl, rfl, H⟩
  · have H : Hid (false = decide (n + m ≤ 1048576)) := (decide_eq_false (by omega)).symm
    go_enter Try.func12, Try.ntmps12
    go_wp2
    go_ret
    exact ⟨_, rfl, rfl, H⟩
end Go.Proofs.Qxb6619245a.Bytes
