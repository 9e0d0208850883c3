/- The walks of 'zzIn', 'IsIdentifier', 'zzIdent' and the bound on sizes: each computes its plain function. -/
import Derived.Test.Qxb6619231aRows
import Derived.Test.Qxb6619231aIdentPlain
import Derived.WalkKit
import Derived.ProofKit
namespace Go.Proofs.Qxb6619231a.Ident
open Go.RowKit Go.PlainAid

theorem ret_bool {a b : Bool} (h : a = b) : Ending.returned (.bool a) = .returned (.bool b) := by rw [h]

set_option maxHeartbeats 400000 in
theorem zzIn_any (c : Int) (s : ByteArray) (hs : s.size ≤ maxLen) (w : World) :
    Calls Try.prog 14 #[.int .u8 c, .string s] w fun e w' => e = .returned (.bool (inB c s)) ∧ w' = w := by
  unfold maxLen at hs
  have hb := get_bt s
  go_enter Try.func14, Try.ntmps14
  go_wp2
  go_loop [5] (fun i => ∃ k : Nat, k ≤ s.size ∧ i = .int .i64 k ∧ ∀ j, j < k → bt s j ≠ c) (fun i => s.size - (intOf i).toNat)
  case atStart => exact ⟨0, Nat.zero_le _, rfl, fun j h => absurd h (Nat.not_lt_zero _)⟩
  case round =>
    obtain ⟨k, hk, rfl, hn⟩ := hrel
    have HN : Hid (∀ j, j < k → bt s j ≠ c) := hn
    clear hn
    by_cases hlt : k < s.size
    · by_cases hc : (bt s k == c) = true
      · go_wp2
        go_ret
        exact ⟨ret_bool (inB_yes hlt (by simpa using hc)).symm, rfl⟩
      · have hc' : (bt s k == c) = false := by simpa using hc
        clear hc
        go_wp2
        go_round
        case rel =>
          refine ⟨k + 1, by omega, by go_num, fun j hj => ?_⟩
          by_cases e : j = k
          · subst e; simpa using hc'
          · exact HN.out j (by omega)
        case measure => simp [intOf]; omega
    · go_wp2
      go_ret
      exact ⟨ret_bool (inB_no fun j hj => HN.out j (by omega)).symm, rfl⟩

theorem classes (c : Int) : (97 ≤ c ∧ c ≤ 122) ∨ (65 ≤ c ∧ c ≤ 90) ∨ (95 ≤ c ∧ c ≤ 95) ∨ (48 ≤ c ∧ c ≤ 57) ∨ (45 ≤ c ∧ c ≤ 45) ∨ (46 ≤ c ∧ c ≤ 46) ∨ (c < 45 ∧ c < 46) ∨ (47 ≤ c ∧ c ≤ 47) ∨ (58 ≤ c ∧ c ≤ 64) ∨ (91 ≤ c ∧ c ≤ 94) ∨ (96 ≤ c ∧ c ≤ 96) ∨ (122 < c ∧ 121 < c) := by omega
theorem ltr_yes {c : Int} (h : (97 ≤ c ∧ c ≤ 122) ∨ (65 ≤ c ∧ c ≤ 90) ∨ (95 ≤ c ∧ c ≤ 95)) : ltr c = true := by unfold ltr; simp; omega
theorem ltr_no {c : Int} (h : ¬ ((97 ≤ c ∧ c ≤ 122) ∨ (65 ≤ c ∧ c ≤ 90) ∨ (95 ≤ c ∧ c ≤ 95))) : ltr c = false := by unfold ltr; simp; omega
theorem tlc_yes {c : Int} (h : (97 ≤ c ∧ c ≤ 122) ∨ (65 ≤ c ∧ c ≤ 90) ∨ (95 ≤ c ∧ c ≤ 95) ∨ (48 ≤ c ∧ c ≤ 57) ∨ (45 ≤ c ∧ c ≤ 46)) : tlc c = true := by unfold tlc ltr; simp; omega
theorem tlc_no {c : Int} (h : ¬ ((97 ≤ c ∧ c ≤ 122) ∨ (65 ≤ c ∧ c ≤ 90) ∨ (95 ≤ c ∧ c ≤ 95) ∨ (48 ≤ c ∧ c ≤ 57) ∨ (45 ≤ c ∧ c ≤ 46))) : tlc c = false := by unfold tlc ltr; simp; omega
/-- What has been seen behind k rounds. -/
def Seen (s : ByteArray) (k : Nat) : Prop := (0 < k → ltr (bt s 0) = true) ∧ ∀ j, j < k → tlc (bt s j) = true
theorem Seen.zero (s : ByteArray) : Seen s 0 := ⟨fun h => absurd h (Nat.lt_irrefl _), fun _ h => absurd h (Nat.not_lt_zero _)⟩
theorem Seen.step {s : ByteArray} {k : Nat} (h : Seen s k) (h0 : k = 0 → ltr (bt s k) = true) (ht : tlc (bt s k) = true) : Seen s (k + 1) := by
  refine ⟨fun _ => ?_, fun j hj => ?_⟩
  · by_cases e : k = 0
    · subst e; exact h0 rfl
    · exact h.1 (by omega)
  · by_cases e : j = k
    · rw [e]; exact ht
    · exact h.2 j (by omega)
theorem Seen.done {s : ByteArray} {k : Nat} (h : Seen s k) (hk : k = s.size) (h0 : 0 < s.size) : idB s = true := (idB_iff s).2 ⟨h0, h.1 (by omega), fun j hj => h.2 j (by omega)⟩


theorem not_empty {s : ByteArray} (h : 0 < s.size) : s.toList.isEmpty = false := by
  rw [ByteArray.toList_eq]
  cases hl : s.data.toList with
  | nil => have : s.size = 0 := by show s.data.size = 0; rw [← Array.length_toList, hl]; rfl
           omega
  | cons _ _ => rfl

set_option maxHeartbeats 4000000 in
theorem isId_any (s : ByteArray) (hs : s.size ≤ maxLen) (w : World) :
    Calls Try.prog 7 #[.string s] w fun e w' => e = .returned (.bool (idB s)) ∧ w' = w := by
  unfold maxLen at hs
  have hb := get_bt s
  by_cases h0 : s.size = 0
  · obtain rfl : s = ByteArray.empty := by cases s with | mk d => simp [ByteArray.size] at h0; subst h0; rfl
    go_enter Try.func7, Try.ntmps7
    go_wp2
    go_ret
    exact ⟨ret_bool (idB_no_size rfl).symm, rfl⟩
  · have hp : 0 < s.size := by omega
    have he : s.toList.isEmpty = false := not_empty hp
    clear h0
    go_enter Try.func7, Try.ntmps7
    go_wp2
    go_loop [3] (fun i => ∃ k : Nat, k ≤ s.size ∧ i = .int .i64 k ∧ Seen s k) (fun i => s.size - (intOf i).toNat)
    case atStart => exact ⟨0, Nat.zero_le _, rfl, Seen.zero s⟩
    case round =>
      obtain ⟨k, hk, rfl, hn⟩ := hrel
      by_cases hlt : k < s.size
      · by_cases hz : k = 0
        · subst hz
          rcases classes (bt s 0) with ⟨c1, c2⟩ | ⟨c1, c2⟩ | ⟨c1, c2⟩ | ⟨c1, c2⟩ | ⟨c1, c2⟩ | ⟨c1, c2⟩ | ⟨c1, c2⟩ | ⟨c1, c2⟩ | ⟨c1, c2⟩ | ⟨c1, c2⟩ | ⟨c1, c2⟩ | ⟨c1, c2⟩
          all_goals first | have d0 : decide (97 ≤ bt s 0) = true := decide_eq_true (by omega) | have d0 : decide (97 ≤ bt s 0) = false := decide_eq_false (by omega)
          all_goals first | have d1 : decide (bt s 0 ≤ 122) = true := decide_eq_true (by omega) | have d1 : decide (bt s 0 ≤ 122) = false := decide_eq_false (by omega)
          all_goals first | have d2 : decide (65 ≤ bt s 0) = true := decide_eq_true (by omega) | have d2 : decide (65 ≤ bt s 0) = false := decide_eq_false (by omega)
          all_goals first | have d3 : decide (bt s 0 ≤ 90) = true := decide_eq_true (by omega) | have d3 : decide (bt s 0 ≤ 90) = false := decide_eq_false (by omega)
          all_goals first | have d4 : decide (48 ≤ bt s 0) = true := decide_eq_true (by omega) | have d4 : decide (48 ≤ bt s 0) = false := decide_eq_false (by omega)
          all_goals first | have d5 : decide (bt s 0 ≤ 57) = true := decide_eq_true (by omega) | have d5 : decide (bt s 0 ≤ 57) = false := decide_eq_false (by omega)
          all_goals first | have q1 : (bt s 0 == 95) = false := beq_eq_false_iff_ne.2 (by omega) | have q1 : (bt s 0 == 95) = true := beq_iff_eq.2 (by omega)
          all_goals first | have q2 : (bt s 0 != 45) = true := bne_iff_ne.2 (by omega) | have q2 : (bt s 0 != 45) = false := bne_eq_false_iff_eq.2 (by omega)
          all_goals first | have q3 : (bt s 0 != 46) = true := bne_iff_ne.2 (by omega) | have q3 : (bt s 0 != 46) = false := bne_eq_false_iff_eq.2 (by omega)
          all_goals first
            | (have hl : Hid (ltr (bt s 0) = true) := ltr_yes (by omega)
               go_wp2
               go_round
               case rel => exact ⟨1, by omega, by go_num, hn.step (fun _ => hl.out) (tlc_of_ltr hl.out)⟩
               case measure => simp [intOf]; omega)
            | (have hl : Hid (ltr (bt s 0) = false) := ltr_no (by omega)
               go_wp2
               go_ret
               exact ⟨ret_bool (idB_no_head hl.out).symm, rfl⟩)
        · have hz' : 0 < k := by omega
          clear hz
          rcases classes (bt s k) with ⟨c1, c2⟩ | ⟨c1, c2⟩ | ⟨c1, c2⟩ | ⟨c1, c2⟩ | ⟨c1, c2⟩ | ⟨c1, c2⟩ | ⟨c1, c2⟩ | ⟨c1, c2⟩ | ⟨c1, c2⟩ | ⟨c1, c2⟩ | ⟨c1, c2⟩ | ⟨c1, c2⟩
          all_goals first | have d0 : decide (97 ≤ bt s k) = true := decide_eq_true (by omega) | have d0 : decide (97 ≤ bt s k) = false := decide_eq_false (by omega)
          all_goals first | have d1 : decide (bt s k ≤ 122) = true := decide_eq_true (by omega) | have d1 : decide (bt s k ≤ 122) = false := decide_eq_false (by omega)
          all_goals first | have d2 : decide (65 ≤ bt s k) = true := decide_eq_true (by omega) | have d2 : decide (65 ≤ bt s k) = false := decide_eq_false (by omega)
          all_goals first | have d3 : decide (bt s k ≤ 90) = true := decide_eq_true (by omega) | have d3 : decide (bt s k ≤ 90) = false := decide_eq_false (by omega)
          all_goals first | have d4 : decide (48 ≤ bt s k) = true := decide_eq_true (by omega) | have d4 : decide (48 ≤ bt s k) = false := decide_eq_false (by omega)
          all_goals first | have d5 : decide (bt s k ≤ 57) = true := decide_eq_true (by omega) | have d5 : decide (bt s k ≤ 57) = false := decide_eq_false (by omega)
          all_goals first | have q1 : (bt s k == 95) = false := beq_eq_false_iff_ne.2 (by omega) | have q1 : (bt s k == 95) = true := beq_iff_eq.2 (by omega)
          all_goals first | have q2 : (bt s k != 45) = true := bne_iff_ne.2 (by omega) | have q2 : (bt s k != 45) = false := bne_eq_false_iff_eq.2 (by omega)
          all_goals first | have q3 : (bt s k != 46) = true := bne_iff_ne.2 (by omega) | have q3 : (bt s k != 46) = false := bne_eq_false_iff_eq.2 (by omega)
          all_goals first
            | (have hl : Hid (tlc (bt s k) = true) := tlc_yes (by omega)
               go_wp2
               go_round
               case rel => exact ⟨k + 1, by omega, by go_num, hn.step (fun h => absurd h (by omega)) hl.out⟩
               case measure => simp [intOf]; omega)
            | (have hl : Hid (tlc (bt s k) = false) := tlc_no (by omega)
               go_wp2
               go_ret
               exact ⟨ret_bool (idB_no_tail hlt hl.out).symm, rfl⟩)
      · go_wp2
        go_ret
        exact ⟨ret_bool (hn.done (by omega) hp).symm, rfl⟩
theorem zzIn_at (c : Int) (s S : ByteArray) (b : Bool) (e : s = S) (hS : S.size ≤ 1000) (hb : inB c S = b) (w : World) :
    Calls Try.prog 14 #[.int .u8 c, .string s] w fun e w' => e = .returned (.bool b) ∧ w' = w := by
  subst e; subst hb; exact zzIn_any c s (by unfold maxLen; omega) w

set_option maxHeartbeats 1000000 in
theorem zzIdent_any (s : ByteArray) (hs : s.size ≤ maxLen) (hp : 0 < s.size) (w : World) :
    Calls Try.prog 8 #[.string s] w fun e w' => e = .returned (.bool (idB s)) ∧ w' = w := by
  unfold maxLen at hs
  have hb := get_bt s
  have hz : ((s.size : Int) == 0) = false := beq_eq_false_iff_ne.2 (by omega)
  by_cases hl : ltr (bt s 0) = true
  · have HL : Hid (ltr (bt s 0) = true) := hl
    clear hl
    go_enter Try.func8, Try.ntmps8
    go_wp2_with fail
    refine (zzIn_at (bt s 0) _ headS true rfl (by rw [headS_size]; omega) ((in_head (bt_nonneg s 0) (bt_le s 0)).trans HL.out) _).mono ?_
    rintro e w' ⟨rfl, rfl⟩
    go_wp2_with fail
    go_loop [3] (fun i => ∃ k : Nat, 1 ≤ k ∧ k ≤ s.size ∧ i = .int .i64 k ∧ Seen s k) (fun i => s.size - (intOf i).toNat)
    case atStart => exact ⟨1, Nat.le_refl _, hp, rfl, (Seen.zero s).step (fun _ => HL.out) (tlc_of_ltr HL.out)⟩
    case round =>
      obtain ⟨k, hk1, hk, rfl, hn⟩ := hrel
      by_cases hlt : k < s.size
      · by_cases ht : tlc (bt s k) = true
        · have HT : Hid (tlc (bt s k) = true) := ht
          clear ht
          go_wp2_with fail
          refine (zzIn_at (bt s k) _ tailS true rfl (by rw [tailS_size]; omega) ((in_tail (bt_nonneg s k) (bt_le s k)).trans HT.out) _).mono ?_
          rintro e w' ⟨rfl, rfl⟩
          go_wp2_with fail
          go_round
          case rel => exact ⟨k + 1, by omega, by omega, by go_num, hn.step (fun h => absurd h (by omega)) HT.out⟩
          case measure => simp [intOf]; omega
        · have HT : Hid (tlc (bt s k) = false) := Bool.eq_false_iff.2 ht
          clear ht
          go_wp2_with fail
          refine (zzIn_at (bt s k) _ tailS false rfl (by rw [tailS_size]; omega) ((in_tail (bt_nonneg s k) (bt_le s k)).trans HT.out) _).mono ?_
          rintro e w' ⟨rfl, rfl⟩
          go_wp2_with fail
          go_ret
          exact ⟨ret_bool (idB_no_tail hlt HT.out).symm, rfl⟩
      · go_wp2
        go_ret
        exact ⟨ret_bool (hn.done (by omega) hp).symm, rfl⟩
  · have HL : Hid (ltr (bt s 0) = false) := Bool.eq_false_iff.2 hl
    clear hl
    go_enter Try.func8, Try.ntmps8
    go_wp2_with fail
    refine (zzIn_at (bt s 0) _ headS false rfl (by rw [headS_size]; omega) ((in_head (bt_nonneg s 0) (bt_le s 0)).trans HL.out) _).mono ?_
    rintro e w' ⟨rfl, rfl⟩
    go_wp2_with fail
    go_ret
    exact ⟨ret_bool (idB_no_head HL.out).symm, rfl⟩

/-- The bound on sizes. -/
def fitB (a b : ByteArray) : Bool := decide (a.size + b.size ≤ 1048576)
theorem sizes_any (a b : ByteArray) (ha : a.size ≤ maxLen) (hb : b.size ≤ maxLen) (w : World) :
    Calls Try.prog 6 #[.string a, .string b] w fun e w' => e = .returned (.bool (fitB a b)) ∧ w' = w := by
  unfold maxLen at ha hb
  by_cases h1 : a.size ≤ 1048576
  · by_cases h2 : b.size ≤ 1048576
    · by_cases h3 : a.size + b.size ≤ 1048576
      · go_enter Try.func6, Try.ntmps6
        go_wp2
        go_ret
        exact ⟨ret_bool (by unfold fitB; simp; omega), rfl⟩
      · go_enter Try.func6, Try.ntmps6
        go_wp2
        go_ret
        exact ⟨ret_bool (by unfold fitB; simp; omega), rfl⟩
    · go_enter Try.func6, Try.ntmps6
      go_wp2
      go_ret
      exact ⟨ret_bool (by unfold fitB; simp; omega), rfl⟩
  · go_enter Try.func6, Try.ntmps6
    go_wp2
    go_ret
    exact ⟨ret_bool (by unfold fitB; simp; omega), rfl⟩
end Go.Proofs.Qxb6619231a.Ident
