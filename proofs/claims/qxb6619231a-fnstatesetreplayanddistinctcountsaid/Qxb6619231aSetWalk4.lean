/- The walk of 'FnStateSetAddAnswersFirstSighting'. -/
import Derived.Test.Qxb6619231aSetScript
import Derived.Test.Qxb6619231aSetSeq
import Derived.Deep.RegionWith
namespace Go.Proofs.Qxb6619231a.StateSet
open Go.RowKit

theorem zadd_any (w : World) (B wd : Nat) (ks : List (List Int)) (hS : St w B wd ks) (pc : Int) (a : Option Addr) (c : Nat) (zs : List Int) (hx : Ints w a wd zs) (hnil : a = none → wd = 0 ∧ c = 0)
    (hab : ∀ x, a = some x → 0 < wd → x.block < B) (hsz : (ks.length + 1) * (1 + wd) ≤ 1048576) :
    Calls Try.prog 10 #[.pointer (some ⟨B, 0, none⟩), .int .i64 pc, .slice a wd c] w (Added w B wd ks (pc :: zs)) := by
  go_enter Try.func10, Try.ntmps10
  go_wp2_with fail
  refine (add_any w B wd ks hS pc a c zs hx hnil hab hsz).mono ?_
  rintro e w' ⟨he, h2, h3⟩
  obtain ⟨r, hr⟩ : ∃ r, decide ((pc :: zs) ∉ ks) = r := ⟨_, rfl⟩
  rw [hr] at he
  subst he
  have HR : Hid (decide ((pc :: zs) ∉ ks) = r) := hr
  clear hr
  go_wp2_with fail
  go_ret
  exact ⟨ret_bool HR.out.symm, h2, h3⟩

theorem St.drew {w : World} {B wd : Nat} {ks : List (List Int)} (h : St w B wd ks) : St w.drew B wd ks := by
  obtain ⟨sa, L, sc, sl, ka, kn, kc, hM, r⟩ := h
  exact ⟨sa, L, sc, sl, ka, kn, kc, hM.drew, r⟩
theorem grown_of_below {w w' : World} (h : Below w.heap.size w w') : w.grownBy w' none := ⟨h.os, h.tape, h.output, h.size, fun k hk _ => h.block k hk⟩
theorem St.keep {w w' : World} {B wd : Nat} {ks : List (List Int)} (h : St w B wd ks) (hb : Below w.heap.size w w') : St w' B wd ks := by
  obtain ⟨sa, L, sc, sl, ka, kn, kc, hM, r⟩ := h
  refine ⟨sa, L, sc, sl, ka, kn, kc, ⟨by rw [hb.block B hM.lt]; exact hM.blk, hM.slots.kept (grown_of_below hb) ?_, hM.keys.kept (grown_of_below hb) ?_⟩, r⟩
  · cases (Value.slice sa L sc).ownBlock <;> simp
  · cases (Value.slice ka kn kc).ownBlock <;> simp
theorem St.lt {w : World} {B wd : Nat} {ks : List (List Int)} (h : St w B wd ks) : B < w.heap.size := by
  obtain ⟨_, _, _, _, _, _, _, hM, _⟩ := h
  exact hM.lt
/-- The same, the answer behind a name. -/
theorem zadd_first (w : World) (B wd : Nat) (ks : List (List Int)) (hS : St w B wd ks) (pc : Int) (a : Option Addr) (c : Nat) (zs : List Int) (hx : Ints w a wd zs) (hnil : a = none → wd = 0 ∧ c = 0)
    (hab : ∀ x, a = some x → 0 < wd → x.block < B) (hsz : (ks.length + 1) * (1 + wd) ≤ 1048576) :
    Calls Try.prog 10 #[.pointer (some ⟨B, 0, none⟩), .int .i64 pc, .slice a wd c] w fun e w' => ∃ r : Bool, e = .returned (.bool r) ∧ Hid (r = decide ((pc :: zs) ∉ ks) ∧ St w' B wd (if (pc :: zs) ∈ ks then ks else ks ++ [pc :: zs]) ∧ Below B w w') :=
  (zadd_any w B wd ks hS pc a c zs hx hnil hab hsz).mono fun _ _ h => ⟨_, h.1, rfl, h.2.1, h.2.2⟩

theorem St.init (w : World) (wd : Nat) (m : Nat) : St ((w.drewN m).alloc (.cells #[.slice none 0 0, .slice none 0 0, .int .i64 0] 31)) w.heap.size wd [] := by
  refine ⟨none, 0, 0, [], none, 0, 0, ⟨?_, World.ownsRow_nil _ _ _ _, World.ownsRow_nil _ _ _ _⟩, Tab.empty wd 0 (hs 0), by simp, by simp, .inl rfl, by simp⟩
  exact heap_alloc_new (w.drewN m) _

set_option maxRecDepth 100000 in
set_option maxHeartbeats 1000000 in
theorem walk4 (w : World) (b off n c : Nat) (PC : Nat → Int) (A : Nat → Option Addr) (N C : Nat → Nat) (Z : Nat → List Int) (hn : n ≤ maxLen) (hn0 : 0 < n) (hb : b < w.heap.size)
    (h : ∀ i, i < n → OpAt w w.heap.size b off i (PC i) (A i) (N i) (C i) (Z i)) :
    Calls Try.prog 4 #[.slice (some ⟨b, off, none⟩) n c] w fun e w' => e = .returned (.bool true) ∧ Below w.heap.size w w' := by
  have HO : Hid (∀ i, i < n → OpAt w w.heap.size b off i (PC i) (A i) (N i) (C i) (Z i)) := h
  have HN : Hid (n ≤ maxLen) := hn
  unfold maxLen at hn
  clear h
  by_cases h4 : n ≤ 4096
  · go_enter Try.func4, Try.ntmps4
    go_wp2_with fail
    refine (bytes9_any w w.heap.size b off n c PC A N C Z HN.out HO.out).mono ?_
    rintro e w1 ⟨r, rfl, rfl, hr⟩
    cases r with
    | false =>
      clear hr
      go_wp2_with fail
      go_ret
      exact ⟨rfl, Below.refl _ _⟩
    | true =>
      have HR : Hid (∀ i, i < n → N i ≤ 1048576) := (hr rfl).2
      clear hr
      go_wp2_with fail
      go_loop [3, 4] (fun s i => ∃ k t : Nat, k ≤ n ∧ t ≤ 1048576 ∧ i = .int .i64 k ∧ s = .int .i64 t ∧ Hid (t = tot N k)) (fun _ i => n - (intOf i).toNat)
      case atStart => exact ⟨0, 0, Nat.zero_le _, by omega, rfl, rfl, rfl⟩
      case round =>
        obtain ⟨k, t, hk, ht, rfl, rfl, hs⟩ := hrel
        by_cases hlt : k < n
        · have hc := (HO.out k hlt).ct
          have hl := HR.out k hlt
          have hki : (k : Int) < (n : Int) := by omega
          by_cases h3 : t + (8 + 8 * N k) ≤ 1048576
          · go_wp2
            go_round
            case rel => exact ⟨k + 1, t + (8 + 8 * N k), by omega, h3, by go_num, by go_num, by show _ = _; rw [tot, ← hs.out]⟩
            case measure => simp [intOf]; omega
          · go_wp2
            go_ret
            exact ⟨rfl, Below.refl _ _⟩
        · have HT : Hid (tot N n ≤ 1048576) := by show _ ≤ _; have e : k = n := by omega
                                                  rw [← e, ← hs.out]; exact ht
          clear hs
          go_wp2
          go_loopw [5] (fun i wr => ∃ k m : Nat, 1 ≤ k ∧ k ≤ n ∧ i = .int .i64 k ∧ wr = w1.drewN m ∧ Hid (∀ j, j < k → N j = N 0)) (fun i _ => n - (intOf i).toNat)
          case atStart => exact ⟨1, 0, Nat.le_refl _, hn0, rfl, rfl, fun j hj => by have : j = 0 := by omega
                                                                                    rw [this]⟩
          case round =>
            obtain ⟨k, m, hk1, hk, rfl, rfl, hs⟩ := hrel
            by_cases hlt : k < n
            · have c1 := (HO.out k hlt).ct
              have c0 := (HO.out 0 hn0).ct
              rw [Nat.zero_mul, Nat.add_zero] at c0
              have hki : (k : Int) < (n : Int) := by omega
              have hk0 : (0 : Int) < (n : Int) := by omega
              by_cases hw : N k = N 0
              · have HW : Hid (N k = N 0) := hw
                rw [hw] at c1
                clear hw
                generalize N 0 = wd at c0 c1 hs HW
                go_wp2
                go_quiet (fail)
                go_wp2
                go_roundw
                case rel =>
                  refine ⟨k + 1, m + nq, by omega, by omega, by go_num, rfl, fun j hj => ?_⟩
                  by_cases e : j = k
                  · rw [e]; exact HW.out
                  · exact hs.out j (by omega)
                case measure => simp [intOf]; omega
              · have hwb : ((N k : Int) != (N 0 : Int)) = true := bne_iff_ne.2 (by omega)
                clear hw hs
                go_wp2
                go_quiet (fail)
                go_wp2
                go_ret
                exact ⟨rfl, below_drewN (below_drewN (Below.refl _ _) _) _⟩
            · have HW : Hid (∀ j, j < n → N j = N 0) := fun j hj => hs.out j (by omega)
              clear hs
              go_wp2
              obtain ⟨wd, hwd⟩ : ∃ wd, N 0 = wd := ⟨_, rfl⟩
              rw [hwd] at HW
              have HO2 : Hid (∀ i, i < n → OpAt w1 w1.heap.size b off i (PC i) (A i) wd (C i) (Z i)) := fun i hi => by have := HO.out i hi; rw [HW.out i hi] at this; exact this
              have HSZ : Hid (n * (1 + wd) ≤ 131072) := by
                have h1 := tot_const N wd n HW.out
                have h2 := HT.out
                show _ ≤ _
                omega
              have hwl : wd ≤ 1048576 := by have := HR.out 0 hn0; omega
              clear HO HR HT HW HN hwd
              go_loopw [7] (fun i wr => ∃ k : Nat, k ≤ n ∧ i = .int .i64 k ∧ St wr w1.heap.size wd (sofar (fun j => PC j :: Z j) k) ∧ Below w1.heap.size w1 wr) (fun i _ => n - (intOf i).toNat)
              case atStart => exact ⟨0, Nat.zero_le _, rfl, St.init w1 wd m, Below.alloc (below_drewN (Below.refl _ _) m) (Nat.le_refl _) _⟩
              case round =>
                obtain ⟨k, hk, rfl, hS, hb1⟩ := hrel
                by_cases hlt : k < n
                · have O := HO2.out k hlt
                  have cp := (hb1.cell (p := ⟨b, off + k * 2, none⟩) hb).trans O.pc
                  have cc := (hb1.cell (p := ⟨b, off + k * 2 + 1, none⟩) hb).trans O.ct
                  have hki : (k : Int) < (n : Int) := by omega
                  have HS : Hid (St wr w1.heap.size wd (sofar (fun j => PC j :: Z j) k)) := hS
                  have hsz : ((sofar (fun j => PC j :: Z j) k).length + 1) * (1 + wd) ≤ 1048576 := by
                    have h1 := len_sofar (fun j => PC j :: Z j) k
                    have h2 : ((sofar (fun j => PC j :: Z j) k).length + 1) * (1 + wd) ≤ n * (1 + wd) := Nat.mul_le_mul_right _ (by omega)
                    have h3 := HSZ.out
                    omega
                  have HZ : Hid (((sofar (fun j => PC j :: Z j) k).length + 1) * (1 + wd) ≤ 1048576) := hsz
                  clear hS hsz
                  go_wp2
                  go_region_with ((go_at_call 10; refine (zadd_first wr.drew _ wd _ HS.out.drew (PC k) (A k) (C k) (Z k) (ints_below O.ints (hb1.drew) O.old) O.nil O.old HZ.out).mono ?_; rintro e w2 ⟨r, rfl, hA⟩))
                  all_goals
                    obtain ⟨hr, hS2, hB2⟩ := hA.out
                    have HR2 : Hid (r = decide ((PC k :: Z k) ∉ sofar (fun j => PC j :: Z j) k)) := hr
                    have HS2 : Hid (St w2 w1.heap.size wd (sofar (fun j => PC j :: Z j) (k + 1))) := hS2
                    have hb2 : Below w1.heap.size w1 w2 := hb1.drew.trans hB2
                    have hlt2 := hS2.lt
                    clear hr hS2 hB2 hA HS HZ cp cc
                    go_wp2
                    go_loopw [9, 10] (fun wa j wv => ∃ q : Nat, q ≤ k ∧ j = .int .i64 q ∧ wa = .bool true ∧ Below w2.heap.size w2 wv ∧ Hid (∀ j', j' < q → PC j' :: Z j' ≠ PC k :: Z k)) (fun _ j _ => k - (intOf j).toNat)
                    case atStart => exact ⟨0, Nat.zero_le _, rfl, rfl, Below.refl _ _, fun j h => absurd h (Nat.not_lt_zero _)⟩
                    case round =>
                      obtain ⟨wv, hwv⟩ : ∃ wv, wv = wr := ⟨_, rfl⟩
                      subst hwv
                      obtain ⟨q, hq, rfl, rfl, hb3, hd⟩ := hrel
                      by_cases hqk : q < k
                      · have Oq := HO2.out q (by omega)
                        have hb4 : Below w1.heap.size w1 wv := hb2.trans (hb3.mono (Nat.le_of_lt hlt2))
                        have x0 := (hb4.cell (p := ⟨b, off + k * 2, none⟩) hb).trans O.pc
                        have x1 := (hb4.cell (p := ⟨b, off + k * 2 + 1, none⟩) hb).trans O.ct
                        have y0 := (hb4.cell (p := ⟨b, off + q * 2, none⟩) hb).trans Oq.pc
                        have y1 := (hb4.cell (p := ⟨b, off + q * 2 + 1, none⟩) hb).trans Oq.ct
                        have hqi : (q : Int) < (n : Int) := by omega
                        have hqk' : (q : Int) < (k : Int) := by omega
                        have HI1 : Hid (Ints wv (A q) wd (Z q)) := ints_below Oq.ints hb4 Oq.old
                        have HI2 : Hid (Ints wv (A k) wd (Z k)) := ints_below O.ints hb4 O.old
                        by_cases heq : PC q :: Z q = PC k :: Z k
                        · obtain rfl : r = false := by
                            rw [HR2.out, decide_eq_false]
                            exact fun h => h ((mem_sofar _ _ k).2 ⟨q, hqk, heq⟩)
                          have HE : Hid (PC q :: Z q = PC k :: Z k) := heq
                          clear heq hd
                          go_wp2
                          go_region_with ((go_at_call 11; refine (same_any (PC q) (PC k) (A q) (A k) wd (C q) (C k) (Z q) (Z k) wv.drew (by unfold maxLen; omega) HI1.out HI2.out).mono ?_; rintro e w3 ⟨rfl, hb5⟩; rw [decide_eq_true HE.out]))
                          all_goals
                            have hb6 : Below w2.heap.size w2 w3 := hb3.drew.trans (hb5.mono hb3.size)
                            clear hb5 x0 x1 y0 y1
                            go_wp2
                            go_roundw
                            case rel => exact ⟨k + 1, by omega, by go_num, HS2.out.keep hb6, hb2.trans (hb6.mono (Nat.le_of_lt hlt2))⟩
                            case measure => simp [intOf]; omega
                        · have HE : Hid (PC q :: Z q ≠ PC k :: Z k) := heq
                          have HD : Hid (∀ j', j' < q → PC j' :: Z j' ≠ PC k :: Z k) := hd
                          clear heq hd
                          go_wp2
                          go_region_with ((go_at_call 11; refine (same_any (PC q) (PC k) (A q) (A k) wd (C q) (C k) (Z q) (Z k) wv.drew (by unfold maxLen; omega) HI1.out HI2.out).mono ?_; rintro e w3 ⟨rfl, hb5⟩; rw [decide_eq_false HE.out]))
                          all_goals
                            have hb6 : Below w2.heap.size w2 w3 := hb3.drew.trans (hb5.mono hb3.size)
                            clear hb5 x0 x1 y0 y1
                            go_wp2
                            go_roundw
                            case rel =>
                              refine ⟨q + 1, by omega, by go_num, rfl, hb6, fun j' hj' => ?_⟩
                              by_cases e : j' = q
                              · rw [e]; exact HE.out
                              · exact HD.out j' (by omega)
                            case measure => simp [intOf]; omega
                      · obtain rfl : r = true := by
                          rw [HR2.out, decide_eq_true]
                          intro h
                          obtain ⟨j', hj', e'⟩ := (mem_sofar _ _ k).1 h
                          exact hd.out j' (by omega) e'
                        clear hd
                        go_wp2
                        go_roundw
                        case rel => exact ⟨k + 1, by omega, by go_num, HS2.out.keep hb3, hb2.trans (hb3.mono (Nat.le_of_lt hlt2))⟩
                        case measure => simp [intOf]; omega
                · go_wp2
                  go_ret
                  exact ⟨rfl, hb1⟩
  · go_enter Try.func4, Try.ntmps4
    go_wp2_with fail
    refine (bytes9_any w w.heap.size b off n c PC A N C Z HN.out HO.out).mono ?_
    rintro e w1 ⟨r, rfl, rfl, hr⟩
    clear hr
    cases r <;> (go_wp2_with fail; go_ret; exact ⟨rfl, Below.refl _ _⟩)

set_option maxRecDepth 100000 in
set_option maxHeartbeats 1000000 in
theorem walk4_nil (w : World) (a : Option Addr) (c : Nat) : Calls Try.prog 4 #[.slice a 0 c] w fun e w' => e = .returned (.bool true) ∧ Below w.heap.size w w' := by
  go_enter Try.func4, Try.ntmps4
  go_wp2_with fail
  refine (bytes9_nil w a c (fun _ => 0)).mono ?_
  rintro e w1 ⟨r, rfl, rfl, hr⟩
  clear hr
  cases r with
  | false =>
    go_wp2_with fail
    go_ret
    exact ⟨rfl, Below.refl _ _⟩
  | true =>
    go_wp2_with fail
    refine wp_loop_rounds 1 ?_
    rw [rounds_succ]
    go_wp2
    refine wp_loop_rounds 1 ?_
    rw [rounds_succ]
    go_wp2
    refine wp_loop_rounds 1 ?_
    rw [rounds_succ]
    go_wp2
    go_ret
    exact ⟨rfl, (Below.refl _ _).alloc (Nat.le_refl _) _⟩
end Go.Proofs.Qxb6619231a.StateSet
