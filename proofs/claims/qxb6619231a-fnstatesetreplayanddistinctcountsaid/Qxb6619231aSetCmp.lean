/- Walks of 'zzSameState' and 'zzCmpState'. -/
import Derived.Test.Qxb6619231aSetLeaf
namespace Go.Proofs.Qxb6619231a.StateSet
open Go.RowKit

theorem Ints.lt {w : World} {b off n : Nat} {zs : List Int} (h0 : 0 < n) (h : ∀ i, i < n → w.cell? ⟨b, off + i, none⟩ = some (.int .i64 (zs.getD i 0))) : b < w.heap.size :=
  World.block_lt_of_cell? w ⟨b, off + 0, none⟩ (h 0 h0)

theorem below_two (w : World) (o1 o2 : Obj) (m : Nat) : Below w.heap.size w (((w.alloc o1).alloc o2).drewN m) :=
  below_drewN (((Below.refl _ _).alloc (Nat.le_refl _) _).alloc (by simp) _) m

set_option maxHeartbeats 1000000 in
theorem same_any (p1 p2 : Int) (a1 a2 : Option Addr) (n c1 c2 : Nat) (xs ys : List Int) (w : World) (hn : n ≤ maxLen) (hx : Ints w a1 n xs) (hy : Ints w a2 n ys) :
    Calls Try.prog 11 #[.agg #[.int .i64 p1, .slice a1 n c1], .agg #[.int .i64 p2, .slice a2 n c2]] w fun e w' => e = .returned (.bool (decide (p1 :: xs = p2 :: ys))) ∧ Below w.heap.size w w' := by
  unfold maxLen at hn
  obtain ⟨lx, hx⟩ := hx
  obtain ⟨ly, hy⟩ := hy
  by_cases hp : p1 = p2
  · subst hp
    by_cases h0 : n = 0
    · subst h0
      have hxe : xs = [] := List.eq_nil_of_length_eq_zero lx
      have hye : ys = [] := List.eq_nil_of_length_eq_zero ly
      clear hx hy lx ly
      subst hxe hye
      go_enter Try.func11, Try.ntmps11
      go_wp2
      refine wp_loop_rounds 1 ?_
      rw [rounds_succ]
      go_wp2
      go_ret
      exact ⟨ret_bool (by simp), below_two w _ _ 0⟩
    · obtain ⟨b1, o1, rfl, gx⟩ := hx.resolve_left h0
      obtain ⟨b2, o2, rfl, gy⟩ := hy.resolve_left h0
      have hb1 := Ints.lt (by omega) gx
      have hb2 := Ints.lt (by omega) gy
      have LX : Hid (xs.length = n) := lx
      have LY : Hid (ys.length = n) := ly
      clear hx hy lx ly h0
      go_enter Try.func11, Try.ntmps11
      go_wp2
      go_loopw [5] (fun i wr => ∃ k m : Nat, k ≤ n ∧ i = .int .i64 k ∧ wr = ((w.alloc (.cells #[.int .i64 p1, .slice (some ⟨b1, o1, none⟩) n c1] 28)).alloc (.cells #[.int .i64 p1, .slice (some ⟨b2, o2, none⟩) n c2] 28)).drewN m ∧ ∀ j, j < k → xs.getD j 0 = ys.getD j 0) (fun i _ => n - (intOf i).toNat)
      case atStart => exact ⟨0, 0, Nat.zero_le _, rfl, rfl, fun j h => absurd h (Nat.not_lt_zero _)⟩
      case round =>
        obtain ⟨k, m, hk, rfl, rfl, hn⟩ := hrel
        have HN : Hid (∀ j, j < k → xs.getD j 0 = ys.getD j 0) := hn
        clear hn
        by_cases hlt : k < n
        · have cx := gx k hlt
          have cy := gy k hlt
          have hlt' : (k : Int) < (n : Int) := by omega
          clear gx gy
          by_cases hc : xs.getD k 0 = ys.getD k 0
          · rw [← hc] at cy
            have HC : Hid (xs.getD k 0 = ys.getD k 0) := hc
            clear hc
            generalize xs.getD k 0 = x at cx cy
            go_wp2
            go_quiet (fail)
            go_wp2
            go_roundw
            case rel =>
              refine ⟨k + 1, m + nq, by omega, by go_num, rfl, fun j hj => ?_⟩
              by_cases e : j = k
              · rw [e]; exact HC.out
              · exact HN.out j (by omega)
            case measure => simp [intOf]; omega
          · have NE : Hid (xs.getD k 0 ≠ ys.getD k 0) := hc
            have hne : (xs.getD k 0 != ys.getD k 0) = true := bne_iff_ne.2 hc
            clear hc
            generalize xs.getD k 0 = x at cx hne
            generalize ys.getD k 0 = y at cy hne
            go_wp2
            go_quiet (fail)
            go_wp2
            go_ret
            exact ⟨ret_bool (decide_eq_false (fun e => NE.out (by rw [(List.cons.inj e).2]))).symm, below_drewN (below_two w _ _ m) nq⟩
        · clear gx gy
          go_wp2
          go_ret
          exact ⟨ret_bool (decide_eq_true (by rw [eq_of_getD LX.out LY.out fun j hj => HN.out j (by omega)])).symm, below_two w _ _ m⟩
  · have hne : (p1 != p2) = true := bne_iff_ne.2 hp
    have HP : Hid (p1 ≠ p2) := hp
    clear hp hx hy lx ly
    go_enter Try.func11, Try.ntmps11
    go_wp2
    go_ret
    exact ⟨ret_bool (decide_eq_false (fun e => HP.out (by simpa using (List.cons.inj e).1))).symm, below_two w _ _ 0⟩

/-! ### The order of states -/
def cmpL : List Int → List Int → Int
  | x :: xs, y :: ys => if x < y then -1 else if y < x then 1 else cmpL xs ys
  | _, _ => 0
theorem cmpL_self (xs : List Int) : cmpL xs xs = 0 := by
  induction xs with
  | nil => rfl
  | cons x xs ih => simp [cmpL, ih]
theorem cmpL_lt : ∀ (k n : Nat) (xs ys : List Int), xs.length = n → ys.length = n → k < n → (∀ j, j < k → xs.getD j 0 = ys.getD j 0) → xs.getD k 0 < ys.getD k 0 → cmpL xs ys = -1
  | 0, n, x :: xs, y :: ys, _, _, _, _, h => by simp at h; simp [cmpL, h]
  | k + 1, n, x :: xs, y :: ys, h1, h2, h3, h4, h => by
    have e : x = y := by simpa using h4 0 (by omega)
    subst e
    simp only [cmpL, Int.lt_irrefl, if_false]
    exact cmpL_lt k (n - 1) xs ys (by simp at h1; omega) (by simp at h2; omega) (by omega) (fun j hj => by simpa using h4 (j + 1) (by omega)) (by simpa using h)
  | _, n, [], _, h1, _, h3, _, _ => by simp at h1; omega
  | _, n, _ :: _, [], _, h2, h3, _, _ => by simp at h2; omega
theorem cmpL_gt : ∀ (k n : Nat) (xs ys : List Int), xs.length = n → ys.length = n → k < n → (∀ j, j < k → xs.getD j 0 = ys.getD j 0) → ys.getD k 0 < xs.getD k 0 → cmpL xs ys = 1
  | 0, n, x :: xs, y :: ys, _, _, _, _, h => by
    simp at h
    have : ¬ x < y := by omega
    simp [cmpL, h, this]
  | k + 1, n, x :: xs, y :: ys, h1, h2, h3, h4, h => by
    have e : x = y := by simpa using h4 0 (by omega)
    subst e
    simp only [cmpL, Int.lt_irrefl, if_false]
    exact cmpL_gt k (n - 1) xs ys (by simp at h1; omega) (by simp at h2; omega) (by omega) (fun j hj => by simpa using h4 (j + 1) (by omega)) (by simpa using h)
  | _, n, [], _, h1, _, h3, _, _ => by simp at h1; omega
  | _, n, _ :: _, [], _, h2, h3, _, _ => by simp at h2; omega

set_option maxHeartbeats 1000000 in
theorem cmp_any (p1 p2 : Int) (a1 a2 : Option Addr) (n c1 c2 : Nat) (xs ys : List Int) (w : World) (hn : n ≤ maxLen) (hx : Ints w a1 n xs) (hy : Ints w a2 n ys) :
    Calls Try.prog 13 #[.agg #[.int .i64 p1, .slice a1 n c1], .agg #[.int .i64 p2, .slice a2 n c2]] w fun e w' => e = .returned (.int .i64 (cmpL (p1 :: xs) (p2 :: ys))) ∧ Below w.heap.size w w' := by
  unfold maxLen at hn
  obtain ⟨lx, hx⟩ := hx
  obtain ⟨ly, hy⟩ := hy
  by_cases hp : p1 < p2
  · have HP : Hid (p1 < p2) := hp
    clear hx hy lx ly
    go_enter Try.func13, Try.ntmps13
    go_wp2
    go_ret
    exact ⟨ret_int (by simp [cmpL, HP.out]), below_two w _ _ 0⟩
  by_cases hq : p2 < p1
  · have HP : Hid (p2 < p1) := hq
    have HQ : Hid (¬ p1 < p2) := hp
    clear hx hy lx ly
    go_enter Try.func13, Try.ntmps13
    go_wp2
    go_ret
    exact ⟨ret_int (by simp [cmpL, HP.out, HQ.out]), below_two w _ _ 0⟩
  obtain rfl : p1 = p2 := by omega
  have hcons : cmpL (p1 :: xs) (p1 :: ys) = cmpL xs ys := by simp [cmpL]
  have HC0 : Hid (cmpL (p1 :: xs) (p1 :: ys) = cmpL xs ys) := hcons
  clear hp hq hcons
  by_cases h0 : n = 0
  · subst h0
    have hxe : xs = [] := List.eq_nil_of_length_eq_zero lx
    have hye : ys = [] := List.eq_nil_of_length_eq_zero ly
    clear hx hy lx ly
    subst hxe hye
    go_enter Try.func13, Try.ntmps13
    go_wp2
    refine wp_loop_rounds 1 ?_
    rw [rounds_succ]
    go_wp2
    go_ret
    exact ⟨ret_int (by rw [HC0.out]; rfl), below_two w _ _ 0⟩
  · obtain ⟨b1, o1, rfl, gx⟩ := hx.resolve_left h0
    obtain ⟨b2, o2, rfl, gy⟩ := hy.resolve_left h0
    have hb1 := Ints.lt (by omega) gx
    have hb2 := Ints.lt (by omega) gy
    have LX : Hid (xs.length = n) := lx
    have LY : Hid (ys.length = n) := ly
    clear hx hy lx ly h0
    go_enter Try.func13, Try.ntmps13
    go_wp2
    go_loopw [5] (fun i wr => ∃ k m : Nat, k ≤ n ∧ i = .int .i64 k ∧ wr = ((w.alloc (.cells #[.int .i64 p1, .slice (some ⟨b1, o1, none⟩) n c1] 28)).alloc (.cells #[.int .i64 p1, .slice (some ⟨b2, o2, none⟩) n c2] 28)).drewN m ∧ ∀ j, j < k → xs.getD j 0 = ys.getD j 0) (fun i _ => n - (intOf i).toNat)
    case atStart => exact ⟨0, 0, Nat.zero_le _, rfl, rfl, fun j h => absurd h (Nat.not_lt_zero _)⟩
    case round =>
      obtain ⟨k, m, hk, rfl, rfl, hn⟩ := hrel
      have HN : Hid (∀ j, j < k → xs.getD j 0 = ys.getD j 0) := hn
      clear hn
      by_cases hlt : k < n
      · have cx := gx k hlt
        have cy := gy k hlt
        have hlt' : (k : Int) < (n : Int) := by omega
        have hd : decide ((k : Int) < (n : Int)) = true := decide_eq_true hlt'
        clear gx gy
        rcases Int.lt_trichotomy (xs.getD k 0) (ys.getD k 0) with hc | hc | hc
        · have NE : Hid (xs.getD k 0 < ys.getD k 0) := hc
          generalize xs.getD k 0 = x at cx hc
          generalize ys.getD k 0 = y at cy hc
          go_wp2
          go_quiet (fail)
          go_wp2
          go_ret
          exact ⟨ret_int (by rw [HC0.out, cmpL_lt k n xs ys LX.out LY.out hlt HN.out NE.out]), below_drewN (below_two w _ _ m) nq⟩
        · rw [← hc] at cy
          have HC : Hid (xs.getD k 0 = ys.getD k 0) := hc
          clear hc
          generalize xs.getD k 0 = x at cx cy
          go_wp2
          go_quiet (fail)
          go_wp2
          go_quiet (fail)
          go_wp2
          go_roundw
          case rel =>
            refine ⟨k + 1, _, by omega, by go_num, rfl, fun j hj => ?_⟩
            by_cases e : j = k
            · rw [e]; exact HC.out
            · exact HN.out j (by omega)
          case measure => simp [intOf]; omega
        · have NE : Hid (ys.getD k 0 < xs.getD k 0) := hc
          generalize xs.getD k 0 = x at cx hc
          generalize ys.getD k 0 = y at cy hc
          have hc' : ¬ x < y := by omega
          go_wp2
          go_quiet (fail)
          go_wp2
          go_quiet (fail)
          go_wp2
          go_ret
          exact ⟨ret_int (by rw [HC0.out, cmpL_gt k n xs ys LX.out LY.out hlt HN.out NE.out]), below_drewN (below_drewN (below_two w _ _ m) _) nq⟩
      · have hd : decide ((k : Int) < (n : Int)) = false := decide_eq_false (by omega)
        clear gx gy
        go_wp2
        go_ret
        exact ⟨ret_int (by rw [HC0.out, eq_of_getD LX.out LY.out fun j hj => HN.out j (by omega), cmpL_self]), below_two w _ _ m⟩
end Go.Proofs.Qxb6619231a.StateSet
