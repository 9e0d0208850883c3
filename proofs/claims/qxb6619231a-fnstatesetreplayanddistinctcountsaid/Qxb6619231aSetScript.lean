/- The script of states as the walk reads it; the bound on sizes (functions 9 and 12). -/
import Derived.Test.Qxb6619231aSetAdd
namespace Go.Proofs.Qxb6619231a.StateSet
open Go.RowKit

/-- Element i of the script: its two cells, its counters. All of it lies below block B. -/
structure OpAt (w : World) (B b off : Nat) (i : Nat) (PC : Int) (A : Option Addr) (N C : Nat) (Z : List Int) : Prop where
  pc : w.cell? ⟨b, off + i * 2, none⟩ = some (.int .i64 PC)
  ct : w.cell? ⟨b, off + i * 2 + 1, none⟩ = some (.slice A N C)
  ints : Ints w A N Z
  nil : A = none → N = 0 ∧ C = 0
  old : ∀ x, A = some x → 0 < N → x.block < B
  len : N ≤ maxLen

/-- What the bound on sizes answers. -/
def Fits (n : Nat) (N : Nat → Nat) (w : World) (e : Ending) (w' : World) : Prop := ∃ r : Bool, e = .returned (.bool r) ∧ w' = w ∧ (r = true → n ≤ 1048576 ∧ ∀ i, i < n → N i ≤ 1048576)
theorem Fits.no {n : Nat} {N : Nat → Nat} {w : World} {e : Ending} (h : e = .returned (.bool false)) : Fits n N w e w := ⟨false, h, rfl, fun h => by cases h⟩
theorem Fits.yes {n : Nat} {N : Nat → Nat} {w : World} {e : Ending} (h : e = .returned (.bool true)) (h1 : n ≤ 1048576) (h2 : ∀ i, i < n → N i ≤ 1048576) : Fits n N w e w := ⟨true, h, rfl, fun _ => ⟨h1, h2⟩⟩

set_option maxHeartbeats 400000 in
theorem bytes9_any (w : World) (B b off n c : Nat) (PC : Nat → Int) (A : Nat → Option Addr) (N C : Nat → Nat) (Z : Nat → List Int) (hn : n ≤ maxLen) (h : ∀ i, i < n → OpAt w B b off i (PC i) (A i) (N i) (C i) (Z i)) :
    Calls Try.prog 9 #[.slice (some ⟨b, off, none⟩) n c] w (Fits n N w) := by
  unfold maxLen at hn
  by_cases h1 : n ≤ 1048576
  · go_enter Try.func9, Try.ntmps9
    go_wp2_with fail
    go_loop [3, 4] (fun s i => ∃ k t : Nat, k ≤ n ∧ t ≤ 1048576 ∧ i = .int .i64 k ∧ s = .int .i64 t ∧ ∀ j, j < k → N j ≤ 1048576) (fun _ i => n - (intOf i).toNat)
    case atStart => exact ⟨0, n, Nat.zero_le _, h1, rfl, rfl, fun j h => absurd h (Nat.not_lt_zero _)⟩
    case round =>
      obtain ⟨k, t, hk, ht, rfl, rfl, hs⟩ := hrel
      have HS : Hid (∀ j, j < k → N j ≤ 1048576) := hs
      clear hs
      by_cases hlt : k < n
      · have hc := (h k hlt).ct
        have hl := (h k hlt).len
        unfold maxLen at hl
        have hki : (k : Int) < (n : Int) := by omega
        clear h
        by_cases h2 : N k ≤ 1048576
        · by_cases h3 : t + N k ≤ 1048576
          · go_wp2
            go_round
            case rel =>
              refine ⟨k + 1, t + N k, by omega, h3, by go_num, by go_num, fun j hj => ?_⟩
              by_cases e : j = k
              · rw [e]; exact h2
              · exact HS.out j (by omega)
            case measure => simp [intOf]; omega
          · go_wp2
            go_ret
            exact Fits.no rfl
        · go_wp2
          go_ret
          exact Fits.no rfl
      · clear h
        go_wp2
        go_ret
        exact Fits.yes rfl h1 (fun j hj => HS.out j (by omega))
  · go_enter Try.func9, Try.ntmps9
    go_wp2_with fail
    go_ret
    exact Fits.no rfl
set_option maxHeartbeats 400000 in
theorem bytes9_nil (w : World) (a : Option Addr) (c : Nat) (N : Nat → Nat) :
    Calls Try.prog 9 #[.slice a 0 c] w (Fits 0 N w) := by
  go_enter Try.func9, Try.ntmps9
  go_wp2_with fail
  refine wp_loop_rounds 1 ?_
  rw [rounds_succ]
  go_wp2
  go_ret
  exact Fits.yes rfl (by omega) (fun j hj => absurd hj (Nat.not_lt_zero _))

set_option maxHeartbeats 400000 in
theorem bytes12_any (w : World) (B b off n c : Nat) (PC : Nat → Int) (A : Nat → Option Addr) (N C : Nat → Nat) (Z : Nat → List Int) (hn : n ≤ maxLen) (h : ∀ i, i < n → OpAt w B b off i (PC i) (A i) (N i) (C i) (Z i)) :
    Calls Try.prog 12 #[.slice (some ⟨b, off, none⟩) n c] w (Fits n N w) := by
  unfold maxLen at hn
  by_cases h1 : n ≤ 1048576
  · go_enter Try.func12, Try.ntmps12
    go_wp2_with fail
    go_loop [3, 4] (fun s i => ∃ k t : Nat, k ≤ n ∧ t ≤ 1048576 ∧ i = .int .i64 k ∧ s = .int .i64 t ∧ ∀ j, j < k → N j ≤ 1048576) (fun _ i => n - (intOf i).toNat)
    case atStart => exact ⟨0, n, Nat.zero_le _, h1, rfl, rfl, fun j h => absurd h (Nat.not_lt_zero _)⟩
    case round =>
      obtain ⟨k, t, hk, ht, rfl, rfl, hs⟩ := hrel
      have HS : Hid (∀ j, j < k → N j ≤ 1048576) := hs
      clear hs
      by_cases hlt : k < n
      · have hc := (h k hlt).ct
        have hl := (h k hlt).len
        unfold maxLen at hl
        have hki : (k : Int) < (n : Int) := by omega
        clear h
        by_cases h2 : N k ≤ 1048576
        · by_cases h3 : t + N k ≤ 1048576
          · go_wp2
            go_round
            case rel =>
              refine ⟨k + 1, t + N k, by omega, h3, by go_num, by go_num, fun j hj => ?_⟩
              by_cases e : j = k
              · rw [e]; exact h2
              · exact HS.out j (by omega)
            case measure => simp [intOf]; omega
          · go_wp2
            go_ret
            exact Fits.no rfl
        · go_wp2
          go_ret
          exact Fits.no rfl
      · clear h
        go_wp2
        go_ret
        exact Fits.yes rfl h1 (fun j hj => HS.out j (by omega))
  · go_enter Try.func12, Try.ntmps12
    go_wp2_with fail
    go_ret
    exact Fits.no rfl
set_option maxHeartbeats 400000 in
theorem bytes12_nil (w : World) (a : Option Addr) (c : Nat) (N : Nat → Nat) :
    Calls Try.prog 12 #[.slice a 0 c] w (Fits 0 N w) := by
  go_enter Try.func12, Try.ntmps12
  go_wp2_with fail
  refine wp_loop_rounds 1 ?_
  rw [rounds_succ]
  go_wp2
  go_ret
  exact Fits.yes rfl (by omega) (fun j hj => absurd hj (Nat.not_lt_zero _))

end Go.Proofs.Qxb6619231a.StateSet
