/- The plain law of 'FnIsIdentifierJoinAtAnyCut': identifiers as a Bool function of a string's bytes; no Go in sight. -/
import Derived.PlainAid
namespace Go.Proofs.Qxb6619231a.Ident
open Go.PlainAid

def ltr (c : Int) : Bool := decide (97 ≤ c ∧ c ≤ 122) || decide (65 ≤ c ∧ c ≤ 90) || decide (c = 95)
def tlc (c : Int) : Bool := ltr c || decide (48 ≤ c ∧ c ≤ 57) || decide (c = 45) || decide (c = 46)
def allT (s : ByteArray) : Bool := (List.range s.size).all fun k => tlc (bt s k)
def idB (s : ByteArray) : Bool := decide (0 < s.size) && ltr (bt s 0) && allT s
/-- Is c among the bytes of s? -/
def inB (c : Int) (s : ByteArray) : Bool := (List.range s.size).any fun k => decide (bt s k = c)

theorem allT_iff (s : ByteArray) : allT s = true ↔ ∀ k, k < s.size → tlc (bt s k) = true := by
  unfold allT; simp [List.all_eq_true]
theorem idB_iff (s : ByteArray) : idB s = true ↔ 0 < s.size ∧ ltr (bt s 0) = true ∧ ∀ k, k < s.size → tlc (bt s k) = true := by
  unfold idB; simp [allT_iff, and_assoc]
theorem idB_no_size {s : ByteArray} (h : s.size = 0) : idB s = false := by unfold idB; simp [h]
theorem idB_no_head {s : ByteArray} (h : ltr (bt s 0) = false) : idB s = false := by unfold idB; simp [h]
theorem idB_no_tail {s : ByteArray} {k : Nat} (hk : k < s.size) (h : tlc (bt s k) = false) : idB s = false := by
  rw [Bool.eq_false_iff]; intro e; have := ((idB_iff s).1 e).2.2 k hk; rw [h] at this; cases this
theorem inB_yes {c : Int} {s : ByteArray} {k : Nat} (hk : k < s.size) (h : bt s k = c) : inB c s = true := by
  unfold inB; simp only [List.any_eq_true, List.mem_range, decide_eq_true_eq]; exact ⟨k, hk, h⟩
theorem inB_no {c : Int} {s : ByteArray} (h : ∀ k, k < s.size → bt s k ≠ c) : inB c s = false := by
  unfold inB; simp only [List.any_eq_false, List.mem_range, decide_eq_true_eq]; exact h

theorem bt_append_left (a b : ByteArray) {k : Nat} (h : k < a.size) : bt (a ++ b) k = bt a k := by
  unfold bt; rw [dif_pos (by rw [ByteArray.size_append]; omega), dif_pos h, ByteArray.getElem_append_left h]
theorem bt_append_right (a b : ByteArray) (k : Nat) : bt (a ++ b) (a.size + k) = bt b k := by
  unfold bt
  by_cases h : k < b.size
  · rw [dif_pos (by rw [ByteArray.size_append]; omega), dif_pos h, ByteArray.getElem_append_right (by omega)]
    simp
  · rw [dif_neg (by rw [ByteArray.size_append]; omega), dif_neg h]

theorem allT_append (a b : ByteArray) : allT (a ++ b) = (allT a && allT b) := by
  rw [Bool.eq_iff_iff, Bool.and_eq_true, allT_iff, allT_iff, allT_iff]
  constructor
  · intro h
    refine ⟨fun k hk => ?_, fun k hk => ?_⟩
    · rw [← bt_append_left a b hk]; exact h k (by rw [ByteArray.size_append]; omega)
    · rw [← bt_append_right a b k]; exact h _ (by rw [ByteArray.size_append]; omega)
  · rintro ⟨h1, h2⟩ k hk
    by_cases h : k < a.size
    · rw [bt_append_left a b h]; exact h1 k h
    · obtain ⟨j, rfl⟩ : ∃ j, k = a.size + j := ⟨k - a.size, by omega⟩
      rw [bt_append_right]; exact h2 j (by rw [ByteArray.size_append] at hk; omega)

theorem under_size : (ByteArray.mk #[95]).size = 1 := rfl
theorem bt_under : bt (ByteArray.mk #[95]) 0 = 95 := by decide

/-- THE LAW: with a not empty, 'a+b' is one exactly when a is one and '_'+b is one. -/
theorem join_law (a b : ByteArray) (ha : 0 < a.size) : idB (a ++ b) = (idB a && idB (ByteArray.mk #[95] ++ b)) := by
  have e1 : bt (a ++ b) 0 = bt a 0 := bt_append_left a b ha
  have e2 : bt (ByteArray.mk #[95] ++ b) 0 = 95 := by rw [bt_append_left _ _ (by rw [under_size]; omega)]; exact bt_under
  have e3 : allT (ByteArray.mk #[95]) = true := by decide
  have e4 : ltr 95 = true := by decide
  have s1 : 0 < (a ++ b).size := by rw [ByteArray.size_append]; omega
  have s2 : 0 < (ByteArray.mk #[95] ++ b).size := by rw [ByteArray.size_append, under_size]; omega
  unfold idB
  rw [e1, e2, allT_append, allT_append, e3, e4]
  simp only [ha, s1, s2, decide_true, Bool.true_and]
  cases ltr (bt a 0) <;> cases allT a <;> cases allT b <;> rfl

/-! ### The two alphabets -/
def headL : List UInt8 := [97, 98, 99, 100, 101, 102, 103, 104, 105, 106, 107, 108, 109, 110, 111, 112, 113, 114, 115, 116, 117, 118, 119, 120, 121, 122, 65, 66, 67, 68, 69, 70, 71, 72, 73, 74, 75, 76, 77, 78, 79, 80, 81, 82, 83, 84, 85, 86, 87, 88, 89, 90, 95]
def tailL : List UInt8 := [97, 98, 99, 100, 101, 102, 103, 104, 105, 106, 107, 108, 109, 110, 111, 112, 113, 114, 115, 116, 117, 118, 119, 120, 121, 122, 65, 66, 67, 68, 69, 70, 71, 72, 73, 74, 75, 76, 77, 78, 79, 80, 81, 82, 83, 84, 85, 86, 87, 88, 89, 90, 95, 48, 49, 50, 51, 52, 53, 54, 55, 56, 57, 45, 46]
def headS : ByteArray := ⟨headL.toArray⟩
def tailS : ByteArray := ⟨tailL.toArray⟩
theorem headS_size : headS.size = 53 := by decide +kernel
theorem tailS_size : tailS.size = 65 := by decide +kernel
theorem in_head_nat : ∀ n : Nat, n < 256 → inB (n : Int) headS = ltr (n : Int) := by decide +kernel
theorem in_tail_nat : ∀ n : Nat, n < 256 → inB (n : Int) tailS = tlc (n : Int) := by decide +kernel
theorem in_head {c : Int} (h0 : 0 ≤ c) (h1 : c ≤ 255) : inB c headS = ltr c := by
  obtain ⟨n, rfl⟩ := Int.eq_ofNat_of_zero_le h0; exact in_head_nat n (by omega)
theorem in_tail {c : Int} (h0 : 0 ≤ c) (h1 : c ≤ 255) : inB c tailS = tlc c := by
  obtain ⟨n, rfl⟩ := Int.eq_ofNat_of_zero_le h0; exact in_tail_nat n (by omega)
theorem tlc_of_ltr {c : Int} (h : ltr c = true) : tlc c = true := by unfold tlc; simp [h]
end Go.Proofs.Qxb6619231a.Ident
