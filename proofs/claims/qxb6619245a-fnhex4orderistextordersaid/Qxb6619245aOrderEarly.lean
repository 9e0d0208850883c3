/- The ways on which 'FnHex4OrderIsTextOrder' returns early. -/
import Derived.Test.Qxb6619245aHex
namespace Go.Proofs.Qxb6619245a.Bytes
open Go.RowKit

set_option maxRecDepth 100000 in
set_option maxHeartbeats 1000000 in
theorem order_early (w : World) (a : Option Addr) (n c : Nat) (b : Option Addr) (m d : Nat) (hn : n ≤ maxLen) (hm : m ≤ maxLen) (h : 524288 < n ∨ 524288 < m ∨ n < 4 ∨ m < 4) :
    Calls Try.prog 4 #[.slice a n c, .slice b m d] w fun e w' => e = .returned (.bool true) ∧ Below w.heap.size w w' := by
  have HN : Hid (n ≤ maxLen) := hn
  have HM : Hid (m ≤ maxLen) := hm
  unfold maxLen at hn hm
  by_cases h1 : 524288 < n
  · have g0 : decide ((524288 : Int) < (n : Int)) = true := decide_eq_true (by omega)
    clear h
    go_enter Try.func4, Try.ntmps4
    go_wp2_with fail
    refine (bytes12_any _ n c _ m d _ HN.out HM.out).mono ?_
    rintro e w1 ⟨r, rfl, rfl, hr⟩
    clear hr
    cases r <;> (go_wp2_with fail; go_ret; exact ⟨rfl, Below.refl _ _⟩)
  have g0 : decide ((524288 : Int) < (n : Int)) = false := decide_eq_false (by omega)
  by_cases h2 : 524288 < m
  · have g1 : decide ((524288 : Int) < (m : Int)) = true := decide_eq_true (by omega)
    clear h
    go_enter Try.func4, Try.ntmps4
    go_wp2_with fail
    refine (bytes12_any _ n c _ m d _ HN.out HM.out).mono ?_
    rintro e w1 ⟨r, rfl, rfl, hr⟩
    clear hr
    cases r <;> (go_wp2_with fail; go_ret; exact ⟨rfl, Below.refl _ _⟩)
  have g1 : decide ((524288 : Int) < (m : Int)) = false := decide_eq_false (by omega)
  by_cases h3 : n < 4
  · have g2 : decide ((n : Int) < 4) = true := decide_eq_true (by omega)
    clear h
    go_enter Try.func4, Try.ntmps4
    go_wp2_with fail
    refine (bytes12_any _ n c _ m d _ HN.out HM.out).mono ?_
    rintro e w1 ⟨r, rfl, rfl, hr⟩
    clear hr
    cases r <;> (go_wp2_with fail; go_ret; exact ⟨rfl, Below.refl _ _⟩)
  have g2 : decide ((n : Int) < 4) = false := decide_eq_false (by omega)
  have h4 : m < 4 := by omega
  have g3 : decide ((m : Int) < 4) = true := decide_eq_true (by omega)
  clear h
  go_enter Try.func4, Try.ntmps4
  go_wp2_with fail
  refine (bytes12_any _ n c _ m d _ HN.out HM.out).mono ?_
  rintro e w1 ⟨r, rfl, rfl, hr⟩
  clear hr
  cases r <;> (go_wp2_with fail; go_ret; exact ⟨rfl, Below.refl _ _⟩)
end Go.Proofs.Qxb6619245a.Bytes
