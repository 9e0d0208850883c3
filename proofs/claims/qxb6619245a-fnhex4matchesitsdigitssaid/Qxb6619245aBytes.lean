/- Rows of bytes as the walk reads them; the walks of isSpace, blank, ZZBlank and of the bounds on sizes. -/
import Derived.Test.Qxb6619245aRows
import Derived.WalkKit
import Derived.ProofKit
import Derived.OpenShut
import Derived.WalkLawsBesides
import Derived.WalkSpells
import Derived.Deep.OwnRows
import Derived.Laws.CopyOwn
namespace Go.Proofs.Qxb6619245a.Bytes
open Go.RowKit

theorem ret_bool {a b : Bool} (h : a = b) : Ending.returned (.bool a) = .returned (.bool b) := by rw [h]

/-- A slice of n bytes, the numbers zs. -/
def Bts (w : World) (a : Option Addr) (n : Nat) (zs : List Int) : Prop :=
  zs.length = n ∧ (n = 0 ∨ ∃ b off, a = some ⟨b, off, none⟩ ∧ ∀ i, i < n → w.cell? ⟨b, off + i, none⟩ = some (.int .u8 (zs.getD i 0)))

/-- White space. -/
def sp (c : Int) : Bool := decide (c = 32) || decide (c = 9) || decide (c = 10) || decide (c = 13)

set_option maxHeartbeats 400000 in
theorem space_any (c : Int) (w : World) : Calls Try.prog 19 #[.int .u8 c] w fun e w' => e = .returned (.bool (sp c)) ∧ w' = w := by
  by_cases h1 : c = 32
  · have HR : Hid (sp c = true) := by show _ = _; unfold sp; simp [h1]
    rw [HR.out]
    have q : (c == 32) = true := beq_iff_eq.2 h1
    clear h1
    go_enter Try.func19, Try.ntmps19
    go_wp2
    go_ret
    exact ⟨rfl, rfl⟩
  have q1 : (c == 32) = false := beq_eq_false_iff_ne.2 h1
  by_cases h2 : c = 9
  · have HR : Hid (sp c = true) := by show _ = _; unfold sp; simp [h2]
    rw [HR.out]
    have q : (c == 9) = true := beq_iff_eq.2 h2
    clear h1 h2
    go_enter Try.func19, Try.ntmps19
    go_wp2
    go_ret
    exact ⟨rfl, rfl⟩
  have q2 : (c == 9) = false := beq_eq_false_iff_ne.2 h2
  by_cases h3 : c = 10
  · have HR : Hid (sp c = true) := by show _ = _; unfold sp; simp [h3]
    rw [HR.out]
    have q : (c == 10) = true := beq_iff_eq.2 h3
    clear h1 h2 h3
    go_enter Try.func19, Try.ntmps19
    go_wp2
    go_ret
    exact ⟨rfl, rfl⟩
  have q3 : (c == 10) = false := beq_eq_false_iff_ne.2 h3
  by_cases h4 : c = 13
  · have HR : Hid (sp c = true) := by show _ = _; unfold sp; simp [h4]
    rw [HR.out]
    have q : (c == 13) = true := beq_iff_eq.2 h4
    clear h1 h2 h3 h4
    go_enter Try.func19, Try.ntmps19
    go_wp2
    go_ret
    exact ⟨rfl, rfl⟩
  have q4 : (c == 13) = false := beq_eq_false_iff_ne.2 h4
  have HR : Hid (sp c = false) := by show _ = _; unfold sp; simp [h1, h2, h3, h4]
  rw [HR.out]
  clear h1 h2 h3 h4
  go_enter Try.func19, Try.ntmps19
  go_wp2
  go_ret
  exact ⟨rfl, rfl⟩

theorem all_no {zs : List Int} {k : Nat} (hk : k < zs.length) (h : sp (zs.getD k 0) = false) : zs.all sp = false := by
  rw [List.all_eq_false]
  refine ⟨zs.getD k 0, ?_, by rw [h]; simp⟩
  rw [List.getD_eq_getElem?_getD, List.getElem?_eq_getElem hk]; exact List.getElem_mem hk
theorem all_yes {zs : List Int} (h : ∀ j, j < zs.length → sp (zs.getD j 0) = true) : zs.all sp = true := by
  rw [List.all_eq_true]
  intro x hx
  obtain ⟨i, hi, e⟩ := List.mem_iff_getElem.1 hx
  have := h i hi
  rw [List.getD_eq_getElem?_getD, List.getElem?_eq_getElem hi] at this
  rw [← e]; exact this

set_option maxHeartbeats 400000 in
theorem blank_any (a : Option Addr) (n c : Nat) (zs : List Int) (w : World) (hn : n ≤ maxLen) (hx : Bts w a n zs) :
    Calls Try.prog 17 #[.slice a n c] w fun e w' => e = .returned (.bool (zs.all sp)) ∧ w' = w := by
  unfold maxLen at hn
  obtain ⟨lx, hx⟩ := hx
  by_cases h0 : n = 0
  · subst h0
    have hxe : zs = [] := List.eq_nil_of_length_eq_zero lx
    clear hx lx
    subst hxe
    go_enter Try.func17, Try.ntmps17
    go_wp2
    refine wp_loop_rounds 1 ?_
    rw [rounds_succ]
    go_wp2
    go_ret
    exact ⟨rfl, rfl⟩
  · obtain ⟨b, off, rfl, gx⟩ := hx.resolve_left h0
    have LX : Hid (zs.length = n) := lx
    clear hx lx h0
    go_enter Try.func17, Try.ntmps17
    go_wp2
    go_loop [7] (fun i => ∃ k : Nat, k ≤ n ∧ i = .int .i64 k ∧ Hid (∀ j, j < k → sp (zs.getD j 0) = true)) (fun i => n - (intOf i).toNat)
    case atStart => exact ⟨0, Nat.zero_le _, rfl, fun j h => absurd h (Nat.not_lt_zero _)⟩
    case round =>
      obtain ⟨k, hk, rfl, hs⟩ := hrel
      by_cases hlt : k < n
      · have cx := gx k hlt
        have hki : (k : Int) < (n : Int) := by omega
        clear gx
        by_cases hc : sp (zs.getD k 0) = true
        · have HC : Hid (sp (zs.getD k 0) = true) := hc
          have HC2 := HC
          clear hc
          generalize zs.getD k 0 = x at cx HC2
          go_wp2_with fail
          refine (space_any _ _).mono ?_
          rintro e w' ⟨rfl, rfl⟩
          rw [HC2.out]
          go_wp2_with fail
          go_round
          case rel =>
            refine ⟨k + 1, by omega, by go_num, fun j hj => ?_⟩
            by_cases e : j = k
            · rw [e]; exact HC.out
            · exact hs.out j (by omega)
          case measure => simp [intOf]; omega
        · have HC : Hid (sp (zs.getD k 0) = false) := Bool.eq_false_iff.2 hc
          have HC2 := HC
          clear hc
          generalize zs.getD k 0 = x at cx HC2
          go_wp2_with fail
          refine (space_any _ _).mono ?_
          rintro e w' ⟨rfl, rfl⟩
          rw [HC2.out]
          go_wp2_with fail
          go_ret
          exact ⟨ret_bool (all_no (by rw [LX.out]; exact hlt) HC.out).symm, rfl⟩
      · clear gx
        go_wp2
        go_ret
        exact ⟨ret_bool (all_yes fun j hj => hs.out j (by have := LX.out; omega)).symm, rfl⟩

theorem zblank_any (a : Option Addr) (n c : Nat) (zs : List Int) (r : Bool) (hr : zs.all sp = r) (w : World) (hn : n ≤ maxLen) (hx : Bts w a n zs) :
    Calls Try.prog 14 #[.slice a n c] w fun e w' => e = .returned (.bool r) ∧ w' = w := by
  have HR : Hid (zs.all sp = r) := hr
  clear hr
  go_enter Try.func14, Try.ntmps14
  go_wp2_with fail
  refine (blank_any a n c zs w hn hx).mono ?_
  rintro e w' ⟨rfl, rfl⟩
  rw [HR.out]
  go_wp2_with fail
  go_ret
  exact ⟨rfl, rfl⟩

/-- The bounds on sizes. -/
theorem bytes13_any (a : Option Addr) (n c : Nat) (i : Int) (w : World) (hn : n ≤ maxLen) :
    Calls Try.prog 13 #[.slice a n c, .int .i64 i] w fun e w' => e = .returned (.bool (decide (n ≤ 1048576))) ∧ w' = w := by
  unfold maxLen at hn
  by_cases h : n ≤ 1048576
  · rw [decide_eq_true h]
    go_enter Try.func13, Try.ntmps13
    go_wp2
    go_ret
    exact ⟨rfl, rfl⟩
  · rw [decide_eq_false h]
    go_enter Try.func13, Try.ntmps13
    go_wp2
    go_ret
    exact ⟨rfl, rfl⟩
theorem bytes15_any (a : Option Addr) (n c : Nat) (w : World) (hn : n ≤ maxLen) :
    Calls Try.prog 15 #[.slice a n c] w fun e w' => e = .returned (.bool (decide (n ≤ 1048576))) ∧ w' = w := by
  unfold maxLen at hn
  by_cases h : n ≤ 1048576
  · rw [decide_eq_true h]
    go_enter Try.func15, Try.ntmps15
    go_wp2
    go_ret
    exact ⟨rfl, rfl⟩
  · rw [decide_eq_false h]
    go_enter Try.func15, Try.ntmps15
    go_wp2
    go_ret
    exact ⟨rfl, rfl⟩
end Go.Proofs.Qxb6619245a.Bytes
