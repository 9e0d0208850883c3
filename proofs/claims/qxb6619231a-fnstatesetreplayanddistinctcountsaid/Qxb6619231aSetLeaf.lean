/- Walks of the leaves on the road of the state set: slices.Equal, (*stateSet).slot. -/
import Derived.Test.Qxb6619231aRows
import Derived.WalkKit
import Derived.ProofKit
import Derived.Deep.QuietTactic
import Derived.BigQuiet
import Derived.WalkLawsBesides
import Derived.OpenShut
namespace Go.Proofs.Qxb6619231a.StateSet
open Go.RowKit

theorem ret_bool {a b : Bool} (h : a = b) : Ending.returned (.bool a) = .returned (.bool b) := by rw [h]

/-- A slice of n integers, the numbers zs, as the walk reads it. -/
def Ints (w : World) (a : Option Addr) (n : Nat) (zs : List Int) : Prop :=
  zs.length = n ∧ (n = 0 ∨ ∃ b off, a = some ⟨b, off, none⟩ ∧ ∀ i, i < n → w.cell? ⟨b, off + i, none⟩ = some (.int .i64 (zs.getD i 0)))

theorem eq_of_getD {xs ys : List Int} {n : Nat} (hx : xs.length = n) (hy : ys.length = n) (h : ∀ j, j < n → xs.getD j 0 = ys.getD j 0) : xs = ys := by
  apply List.ext_getElem (by omega)
  intro i h1 h2
  have := h i (by omega)
  simpa [List.getD_eq_getElem?_getD, h1, h2] using this

set_option maxHeartbeats 400000 in
theorem equal_any (a1 a2 : Option Addr) (n c1 c2 : Nat) (xs ys : List Int) (w : World) (hn : n ≤ maxLen) (hx : Ints w a1 n xs) (hy : Ints w a2 n ys) :
    Calls Try.prog 18 #[.slice a1 n c1, .slice a2 n c2] w fun e w' => e = .returned (.bool (decide (xs = ys))) ∧ ∃ m, w' = w.drewN m := by
  unfold maxLen at hn
  obtain ⟨lx, hx⟩ := hx
  obtain ⟨ly, hy⟩ := hy
  by_cases h0 : n = 0
  · subst h0
    have hxe : xs = [] := List.eq_nil_of_length_eq_zero lx
    have hye : ys = [] := List.eq_nil_of_length_eq_zero ly
    clear hx hy lx ly
    subst hxe hye
    go_enter Try.func18, Try.ntmps18
    go_wp2
    refine wp_loop_rounds 1 ?_
    rw [rounds_succ]
    go_wp2
    go_ret
    exact ⟨rfl, 0, rfl⟩
  · obtain ⟨b1, o1, rfl, gx⟩ := hx.resolve_left h0
    obtain ⟨b2, o2, rfl, gy⟩ := hy.resolve_left h0
    clear hx hy
    have LX : Hid (xs.length = n) := lx
    have LY : Hid (ys.length = n) := ly
    clear lx ly h0
    go_enter Try.func18, Try.ntmps18
    go_wp2
    go_loopw [13] (fun i wr => ∃ k m : Nat, k ≤ n ∧ i = .int .i64 k ∧ wr = w.drewN m ∧ ∀ j, j < k → xs.getD j 0 = ys.getD j 0) (fun i _ => n - (intOf i).toNat)
    case atStart => exact ⟨0, 0, Nat.zero_le _, rfl, rfl, fun j h => absurd h (Nat.not_lt_zero _)⟩
    case round =>
      obtain ⟨k, m, hk, rfl, rfl, hn⟩ := hrel
      have HN : Hid (∀ j, j < k → xs.getD j 0 = ys.getD j 0) := hn
      clear hn
      by_cases hlt : k < n
      · have cx := gx k hlt
        have cy := gy k hlt
        have hlt' : (k : Int) < (n : Int) := by omega
        clear gx gy
        by_cases hc : xs.getD k 0 = ys.getD k 0
        · rw [← hc] at cy
          have HC : Hid (xs.getD k 0 = ys.getD k 0) := hc
          clear hc
          generalize xs.getD k 0 = x at cx cy
          go_wp2
          go_quiet (fail)
          go_wp2
          go_roundw
          case rel =>
            refine ⟨k + 1, m + nq, by omega, by go_num, rfl, fun j hj => ?_⟩
            by_cases e : j = k
            · rw [e]; exact HC.out
            · exact HN.out j (by omega)
          case measure => simp [intOf]; omega
        · have NE : Hid (xs.getD k 0 ≠ ys.getD k 0) := hc
          have hne : (xs.getD k 0 != ys.getD k 0) = true := bne_iff_ne.2 hc
          clear hc
          generalize xs.getD k 0 = x at cx hne
          generalize ys.getD k 0 = y at cy hne
          go_wp2
          go_quiet (fail)
          go_wp2
          go_ret
          exact ⟨ret_bool (decide_eq_false (fun e => NE.out (by rw [e]))).symm, m + nq, World.drewN_drewN ..⟩
      · clear gx gy
        go_wp2
        go_ret
        exact ⟨ret_bool (decide_eq_true (eq_of_getD LX.out LY.out fun j hj => HN.out j (by omega))).symm, m, rfl⟩

/-! ### The hash, in the walk's own spelling -/
def mix (h c : Int) : Int := IntKind.u64.wrap (bits BinOp.xor IntKind.u64 h (IntKind.u64.wrap c) * 1099511628211)
def hashOf (pc : Int) (zs : List Int) : Int := zs.foldl mix (mix 14695981039346656037 pc)
def slotX (h : Int) (L : Nat) : Int := wrap64 ((bits BinOp.xor IntKind.u64 h (h / 4294967296)).tmod (L : Int))
def slotI (pc : Int) (zs : List Int) (L : Nat) : Int := slotX (hashOf pc zs) L
theorem slotX_range (h : Int) (L : Nat) (hL : 0 < L) (hL2 : L ≤ 9223372036854775807) : 0 ≤ slotX h L ∧ slotX h L < L := by
  obtain ⟨b0, b1⟩ := bounds_u64 (wf_bits BinOp.xor IntKind.u64 h (h / 4294967296))
  have t1 := Int.tmod_lt_of_pos (bits BinOp.xor IntKind.u64 h (h / 4294967296)) (show 0 < (L : Int) by omega)
  have t0 := Int.tmod_nonneg (L : Int) b0
  unfold slotX wrap64
  omega
theorem hashOf_snoc (pc : Int) (zs : List Int) (k : Nat) (hk : k < zs.length) : hashOf pc (zs.take (k + 1)) = mix (hashOf pc (zs.take k)) (zs.getD k 0) := by
  unfold hashOf
  rw [List.take_succ_eq_append_getElem hk, List.foldl_append]
  simp [List.getD_eq_getElem?_getD, hk]
theorem ret_int {k : IntKind} {a b : Int} (h : a = b) : Ending.returned (.int k a) = .returned (.int k b) := by rw [h]

set_option maxHeartbeats 400000 in
theorem slot_any (B : Nat) (pc : Int) (a sa : Option Addr) (n c L sc : Nat) (zs : List Int) (w : World) (hn : n ≤ maxLen) (hL : 0 < L) (hL2 : L ≤ maxLen) (hx : Ints w a n zs)
    (hs : w.cell? ⟨B, 0, none⟩ = some (.slice sa L sc)) :
    Calls Try.prog 17 #[.pointer (some ⟨B, 0, none⟩), .int .i64 pc, .slice a n c] w fun e w' => e = .returned (.int .i64 (slotI pc zs L)) ∧ w' = w := by
  unfold maxLen at hn hL2
  obtain ⟨lx, hx⟩ := hx
  by_cases h0 : n = 0
  · subst h0
    have hxe : zs = [] := List.eq_nil_of_length_eq_zero lx
    clear hx lx
    subst hxe
    go_enter Try.func17, Try.ntmps17
    go_wp2
    refine wp_loop_rounds 1 ?_
    rw [rounds_succ]
    go_wp2
    go_ret
    exact ⟨rfl, rfl⟩
  · obtain ⟨b1, o1, rfl, gx⟩ := hx.resolve_left h0
    have LX : Hid (zs.length = n) := lx
    clear hx lx h0
    go_enter Try.func17, Try.ntmps17
    go_wp2
    go_loop [7, 17] (fun h i => ∃ k : Nat, k ≤ n ∧ i = .int .i64 k ∧ h = .int .u64 (hashOf pc (zs.take k))) (fun _ i => n - (intOf i).toNat)
    case atStart => exact ⟨0, Nat.zero_le _, rfl, rfl⟩
    case round =>
      obtain ⟨k, hk, rfl, rfl⟩ := hrel
      by_cases hlt : k < n
      · have cx := gx k hlt
        have hlt' : (k : Int) < (n : Int) := by omega
        have HS : Hid (hashOf pc (zs.take (k + 1)) = mix (hashOf pc (zs.take k)) (zs.getD k 0)) := hashOf_snoc pc zs k (by rw [LX.out]; exact hlt)
        clear gx
        generalize zs.getD k 0 = x at cx HS
        generalize hashOf pc (zs.take k) = hh at HS
        go_wp2
        go_round
        case rel => exact ⟨k + 1, by omega, by go_num, by rw [HS.out]; rfl⟩
        case measure => simp [intOf]; omega
      · clear gx
        have HT : Hid (zs.take k = zs) := List.take_of_length_le (by rw [LX.out]; omega)
        go_wp2
        go_ret
        exact ⟨ret_int (by rw [HT.out]; rfl), rfl⟩
end Go.Proofs.Qxb6619231a.StateSet
