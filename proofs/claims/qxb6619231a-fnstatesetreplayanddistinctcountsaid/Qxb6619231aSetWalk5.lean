/- The walk of 'FnStateSetReplayAndDistinctCount'. -/
import Derived.Test.Qxb6619231aSetWalk4
import Derived.Test.Qxb6619231aSetSort
import Derived.Deep.RegionHeld3
namespace Go.Proofs.Qxb6619231a.StateSet
open Go.RowKit

/-- The row of indices, of the call's own: block g, n numbers. -/
def RowI (w : World) (g n : Nat) (ys : List Nat) : Prop := w.ownsRow g 3 1 (.slice (some ⟨g, 0, none⟩) n n) n (ys.map fun (y : Nat) => Value.int .i64 (y : Int))
theorem RowI.len {w : World} {g n : Nat} {ys : List Nat} (h : RowI w g n ys) : ys.length = n := by simpa using h.1
theorem RowI.lt {w : World} {g n : Nat} {ys : List Nat} (h : RowI w g n ys) : g < w.heap.size := (World.ownsRow.lt h g rfl).2
theorem RowI.cell {w : World} {g n : Nat} {ys : List Nat} (h : RowI w g n ys) {j : Nat} (hj : j < n) : w.cell? ⟨g, j, none⟩ = some (.int .i64 ((ys.getD j 0 : Nat) : Int)) := by
  have hl := h.len
  rw [World.ownsRow.cellAt h j (by omega), List.getElem?_map, List.getD_eq_getElem?_getD, List.getElem?_eq_getElem (by omega)]; rfl
theorem RowI.fz {w : World} {g n : Nat} {ys : List Nat} (h : RowI w g n ys) (j : Nat) : w.frozen? ⟨g, j, none⟩ = false := World.ownsRow.frozenAt h j
theorem RowI.set {w : World} {g n : Nat} {ys : List Nat} (h : RowI w g n ys) (j v : Nat) : RowI (w.setCell ⟨g, j, none⟩ (.int .i64 (v : Int))) g n (ys.set j v) := by
  have := (World.ownsRow.stored h j (.int .i64 (v : Int))).1
  unfold RowI
  rw [List.map_set]; exact this
theorem RowI.keep {w w' : World} {g n : Nat} {ys : List Nat} (h : RowI w g n ys) (hb : Below w.heap.size w w') : RowI w' g n ys := World.ownsRow.kept h (grown_of_below hb) (.inr (by simp [Value.ownBlock]))
theorem RowI.drewN {w : World} {g n : Nat} {ys : List Nat} (h : RowI w g n ys) (m : Nat) : RowI (w.drewN m) g n ys := h
theorem RowI.drew {w : World} {g n : Nat} {ys : List Nat} (h : RowI w g n ys) : RowI w.drew g n ys := h
theorem RowI.made (w : World) (n : Nat) (hn : n ≤ maxLen) : RowI (w.alloc (.cells (madeCells #[.int .i64 0] n) 3)) w.heap.size n (List.replicate n 0) := by
  have := World.ownsRow_lit (base := w.heap.size) (e := 3) (size := 1) w (madeCells #[.int .i64 0] n) n (Nat.le_refl _) hn (by simp [madeCells])
  rw [toList_madeCells_one] at this
  unfold RowI
  simpa [List.map_replicate] using this

/-- Element k has found its place. -/
theorem ins_done {K : Nat → List Int} {ys : List Nat} {k j x v g n l : Nat} {w : World} (hR : RowI w g n (cur ys k j x)) (hP : ys.Perm (List.range n)) (hO : Ord K ys k) (hkn : k < n) (hj : j ≤ k) (hv : ys.getD k 0 = v)
    (hl : ∀ y, y < n → (K y).length = l) (hgt : ∀ e ∈ (ys.take k).drop j, 0 < cmpL (K e) (K v)) (hle : 0 < j → cmpL (K (ys.getD (j - 1) 0)) (K v) ≤ 0) :
    RowI (w.setCell ⟨g, j, none⟩ (.int .i64 (v : Int))) g n (cur ys k j v) ∧ Hid ((cur ys k j v).Perm (List.range n)) ∧ Hid (Ord K (cur ys k j v) (k + 1)) := by
  have hyl := perm_len hP
  subst hv
  refine ⟨?_, (cur_perm (by omega)).trans hP, cur_ord (fun y hy => hl y ((perm_mem hP).1 hy)) (by omega) hj hO hgt hle⟩
  have := hR.set j (ys.getD k 0)
  rw [cur_set (by omega) hj] at this
  exact this
/-- The hole moves one place down. -/
theorem ins_step {ys : List Nat} {k i x y g n : Nat} {w : World} (hR : RowI w g n (cur ys k (i + 1) x)) (hkn : k < n) (hyl : ys.length = n) (hi : i + 1 ≤ k) (hy : ys.getD i 0 = y) :
    RowI (w.setCell ⟨g, i + 1, none⟩ (.int .i64 (y : Int))) g n (cur ys k i y) := by
  have hl : k < ys.length := by omega
  have h1 := hR.set (i + 1) y
  rw [cur_set hl hi] at h1
  have h2 := cur_step (ys := ys) (i := k) (j := i + 1) hl hi (by omega)
  rw [Nat.add_sub_cancel, hy] at h2
  rw [h2] at h1
  exact h1
theorem gt_step {K : Nat → List Int} {ys : List Nat} {k i y v : Nat} (hgt : ∀ e ∈ (ys.take k).drop (i + 1), 0 < cmpL (K e) (K v)) (hy : ys.getD i 0 = y) (hi : i < k ∧ k < ys.length) (hq : 0 < cmpL (K y) (K v)) :
    ∀ e ∈ (ys.take k).drop i, 0 < cmpL (K e) (K v) := by
  intro e he
  have hk : i < (ys.take k).length := by simp; omega
  rw [List.drop_eq_getElem_cons hk] at he
  rcases List.mem_cons.1 he with rfl | he
  · have e1 : (ys.take k)[i] = y := by rw [← hy, List.getD_eq_getElem?_getD, List.getElem?_eq_getElem (by omega)]; simp
    rw [e1]; exact hq
  · exact hgt e he
theorem ord_one (K : Nat → List Int) (ys : List Nat) : Ord K ys 1 := by
  unfold Ord
  cases ys <;> simp

set_option maxRecDepth 100000 in
set_option maxHeartbeats 4000000 in
theorem walk5 (w : World) (b off n c : Nat) (PC : Nat → Int) (A : Nat → Option Addr) (N C : Nat → Nat) (Z : Nat → List Int) (hn : n ≤ maxLen) (hn0 : 0 < n) (hb : b < w.heap.size)
    (h : ∀ i, i < n → OpAt w w.heap.size b off i (PC i) (A i) (N i) (C i) (Z i)) :
    Calls Try.prog 5 #[.slice (some ⟨b, off, none⟩) n c] w fun e w' => e = .returned (.bool true) ∧ Below w.heap.size w w' := by
  have HO : Hid (∀ i, i < n → OpAt w w.heap.size b off i (PC i) (A i) (N i) (C i) (Z i)) := h
  have HN : Hid (n ≤ maxLen) := hn
  unfold maxLen at hn
  clear h
  by_cases h4 : n ≤ 4096
  · have hmk := run_make_row' (P := Try.prog) 26 3 (.int .i64 0) 8 Try.underlying26 Try.info3 rfl .i64 .i64 n (by omega) (by omega)
    go_enter Try.func5, Try.ntmps5
    go_wp2_with fail
    refine (bytes12_any w w.heap.size b off n c PC A N C Z HN.out HO.out).mono ?_
    rintro e w1 ⟨r, rfl, rfl, hr⟩
    cases r with
    | false =>
      clear hr
      go_wp2_with fail
      go_ret
      exact ⟨rfl, Below.refl _ _⟩
    | true =>
      have HR : Hid (∀ i, i < n → N i ≤ 1048576) := (hr rfl).2
      clear hr
      go_wp2_with fail
      go_loop [3, 4] (fun s i => ∃ k t : Nat, k ≤ n ∧ t ≤ 1048576 ∧ i = .int .i64 k ∧ s = .int .i64 t ∧ Hid (t = tot N k)) (fun _ i => n - (intOf i).toNat)
      case atStart => exact ⟨0, 0, Nat.zero_le _, by omega, rfl, rfl, rfl⟩
      case round =>
        obtain ⟨k, t, hk, ht, rfl, rfl, hs⟩ := hrel
        by_cases hlt : k < n
        · have hc := (HO.out k hlt).ct
          have hl := HR.out k hlt
          have hki : (k : Int) < (n : Int) := by omega
          by_cases h3 : t + (8 + 8 * N k) ≤ 1048576
          · go_wp2
            go_round
            case rel => exact ⟨k + 1, t + (8 + 8 * N k), by omega, h3, by go_num, by go_num, by show _ = _; rw [tot, ← hs.out]⟩
            case measure => simp [intOf]; omega
          · go_wp2
            go_ret
            exact ⟨rfl, Below.refl _ _⟩
        · have HT : Hid (tot N n ≤ 1048576) := by show _ ≤ _; have e : k = n := by omega
                                                  rw [← e, ← hs.out]; exact ht
          clear hs
          go_wp2
          go_loopw [5] (fun i wr => ∃ k m : Nat, 1 ≤ k ∧ k ≤ n ∧ i = .int .i64 k ∧ wr = w1.drewN m ∧ Hid (∀ j, j < k → N j = N 0)) (fun i _ => n - (intOf i).toNat)
          case atStart => exact ⟨1, 0, Nat.le_refl _, hn0, rfl, rfl, fun j hj => by have : j = 0 := by omega
                                                                                    rw [this]⟩
          case round =>
            obtain ⟨k, m, hk1, hk, rfl, rfl, hs⟩ := hrel
            by_cases hlt : k < n
            · have c1 := (HO.out k hlt).ct
              have c0 := (HO.out 0 hn0).ct
              rw [Nat.zero_mul, Nat.add_zero] at c0
              have hki : (k : Int) < (n : Int) := by omega
              have hk0 : (0 : Int) < (n : Int) := by omega
              by_cases hw : N k = N 0
              · have HW : Hid (N k = N 0) := hw
                rw [hw] at c1
                clear hw
                generalize N 0 = wd at c0 c1 hs HW
                go_wp2
                go_quiet (fail)
                go_wp2
                go_roundw
                case rel =>
                  refine ⟨k + 1, m + nq, by omega, by omega, by go_num, rfl, fun j hj => ?_⟩
                  by_cases e : j = k
                  · rw [e]; exact HW.out
                  · exact hs.out j (by omega)
                case measure => simp [intOf]; omega
              · have hwb : ((N k : Int) != (N 0 : Int)) = true := bne_iff_ne.2 (by omega)
                clear hw hs
                go_wp2
                go_quiet (fail)
                go_wp2
                go_ret
                exact ⟨rfl, below_drewN (below_drewN (Below.refl _ _) _) _⟩
            · have HW : Hid (∀ j, j < n → N j = N 0) := fun j hj => hs.out j (by omega)
              clear hs
              go_wp2
              obtain ⟨wd, hwd⟩ : ∃ wd, N 0 = wd := ⟨_, rfl⟩
              rw [hwd] at HW
              have HO2 : Hid (∀ i, i < n → OpAt w1 w1.heap.size b off i (PC i) (A i) wd (C i) (Z i)) := fun i hi => by have := HO.out i hi; rw [HW.out i hi] at this; exact this
              have HSZ : Hid (n * (1 + wd) ≤ 131072) := by
                have h1 := tot_const N wd n HW.out
                have h2 := HT.out
                show _ ≤ _
                omega
              have hwl : wd ≤ 131072 := by have h1 := HSZ.out; have h2 := Nat.le_mul_of_pos_left (1 + wd) hn0; omega
              clear HO HR HT HW HN hwd
              obtain ⟨K, hK⟩ : ∃ K : Nat → List Int, ∀ j, PC j :: Z j = K j := ⟨fun j => PC j :: Z j, fun _ => rfl⟩
              have HK : Hid (∀ j, PC j :: Z j = K j) := hK
              clear hK
              have HLS : Hid (∀ k, k ≤ n → ((sofar K k).length) * (1 + wd) ≤ 131072) := fun k hk => by
                have h1 := len_sofar K k
                have h2 : (sofar K k).length * (1 + wd) ≤ n * (1 + wd) := Nat.mul_le_mul_right _ (by omega)
                have h3 := HSZ.out
                omega
              go_loopw [7, 8] (fun tr i wr => ∃ k l : Nat, k ≤ n ∧ i = .int .i64 k ∧ tr = .int .i64 l ∧ l ≤ k ∧ Hid (l = (sofar K k).length) ∧ St wr w1.heap.size wd (sofar K k) ∧ Below w1.heap.size w1 wr) (fun _ i _ => n - (intOf i).toNat)
              case atStart => exact ⟨0, 0, Nat.zero_le _, rfl, rfl, Nat.le_refl _, rfl, St.init w1 wd m, Below.alloc (below_drewN (Below.refl _ _) m) (Nat.le_refl _) _⟩
              case round =>
                obtain ⟨k, l, hk, rfl, rfl, hlk, hl, hS, hb1⟩ := hrel
                by_cases hlt : k < n
                · have O := HO2.out k hlt
                  have cp := (hb1.cell (p := ⟨b, off + k * 2, none⟩) hb).trans O.pc
                  have cc := (hb1.cell (p := ⟨b, off + k * 2 + 1, none⟩) hb).trans O.ct
                  have hki : (k : Int) < (n : Int) := by omega
                  have HS : Hid (St wr w1.heap.size wd (sofar K k)) := hS
                  have HZ : Hid (((sofar K k).length + 1) * (1 + wd) ≤ 1048576) := by
                    have h1 := HLS.out k (by omega)
                    show _ ≤ _
                    rw [Nat.add_mul]
                    omega
                  clear hS
                  go_wp2
                  go_region_with ((go_at_call 10; refine (zadd_first wr.drew _ wd _ HS.out.drew (PC k) (A k) (C k) (Z k) (ints_below O.ints (hb1.drew) O.old) O.nil O.old HZ.out).mono ?_; rintro e w2 ⟨r, rfl, hA⟩))
                  all_goals
                    rw [HK.out k] at hA
                    obtain ⟨hr, hS2, hB2⟩ := hA.out
                    have HR2 : Hid (r = decide (K k ∉ sofar K k)) := hr
                    have HS2 : Hid (St w2 w1.heap.size wd (sofar K (k + 1))) := hS2
                    have hb2 : Below w1.heap.size w1 w2 := hb1.drew.trans hB2
                    clear hr hS2 hB2 hA HS HZ cp cc
                    cases r with
                    | false =>
                      go_wp2
                      go_roundw
                      case rel =>
                        refine ⟨k + 1, l, by omega, by go_num, rfl, by omega, ?_, HS2.out, hb2⟩
                        show l = _
                        rw [sofar_len_in (by simpa using HR2.out)]; exact hl.out
                      case measure => simp [intOf]; omega
                    | true =>
                      go_wp2
                      go_roundw
                      case rel =>
                        refine ⟨k + 1, l + 1, by omega, by go_num, by go_num, by omega, ?_, HS2.out, hb2⟩
                        show l + 1 = _
                        rw [sofar_len_out (by simpa using HR2.out), hl.out]
                      case measure => simp [intOf]; omega
                · have e : k = n := by omega
                  have HL : Hid (l = (sofar K n).length) := by show l = _; rw [hl.out, e]
                  have HS : Hid (St wr w1.heap.size wd (sofar K n)) := by show St _ _ _ _; rw [← e]; exact hS
                  clear hl hS e
                  go_wp2
                  have HSN := HS
                  clear HS
                  go_loopw [9, 10] (fun rc i wv => ∃ k : Nat, k ≤ n ∧ i = .int .i64 k ∧ rc = .bool true ∧ St wv w1.heap.size wd (sofar K n) ∧ Below w1.heap.size w1 wv) (fun _ i _ => n - (intOf i).toNat)
                  case atStart => exact ⟨0, Nat.zero_le _, rfl, rfl, HSN.out, hb1⟩
                  case round =>
                    clear hb1 HSN
                    obtain ⟨k, hk, rfl, rfl, hS, hb1⟩ := hrel
                    by_cases hlt : k < n
                    · have O := HO2.out k hlt
                      have cp := (hb1.cell (p := ⟨b, off + k * 2, none⟩) hb).trans O.pc
                      have cc := (hb1.cell (p := ⟨b, off + k * 2 + 1, none⟩) hb).trans O.ct
                      have hki : (k : Int) < (n : Int) := by omega
                      have HS : Hid (St wr w1.heap.size wd (sofar K n)) := hS
                      have HZ : Hid (((sofar K n).length + 1) * (1 + wd) ≤ 1048576) := by
                        have h1 := HLS.out n (Nat.le_refl _)
                        show _ ≤ _
                        rw [Nat.add_mul]
                        omega
                      clear hS
                      go_wp2
                      go_region_with ((go_at_call 10; refine (zadd_first wr.drew _ wd _ HS.out.drew (PC k) (A k) (C k) (Z k) (ints_below O.ints (hb1.drew) O.old) O.nil O.old HZ.out).mono ?_; rintro e w2 ⟨r, rfl, hA⟩))
                      all_goals
                        rw [HK.out k] at hA
                        obtain ⟨hr, hS2, hB2⟩ := hA.out
                        have hin : K k ∈ sofar K n := sofar_old hlt
                        rw [if_pos hin] at hS2
                        rw [decide_eq_false (fun h => h hin)] at hr
                        subst hr
                        have hb2 : Below w1.heap.size w1 w2 := hb1.drew.trans hB2
                        have HS2 : Hid (St w2 w1.heap.size wd (sofar K n)) := hS2
                        clear hS2 hB2 hA HS HZ cp cc hin
                        go_wp2
                        go_roundw
                        case rel => exact ⟨k + 1, by omega, by go_num, rfl, HS2.out, hb2⟩
                        case measure => simp [intOf]; omega
                    · clear hS
                      go_wp2
                      obtain ⟨g, hg⟩ : ∃ g, wr.heap.size = g := ⟨_, rfl⟩
                      have hgB : w1.heap.size ≤ g := by rw [← hg]; exact hb1.size
                      have hR0 : RowI (wr.alloc (.cells (madeCells #[.int .i64 0] n) 3)) g n (List.replicate n 0) := by rw [← hg]; exact RowI.made wr n (by unfold maxLen; omega)
                      have hB0 : Below w1.heap.size w1 (wr.alloc (.cells (madeCells #[.int .i64 0] n) 3)) := hb1.alloc hb1.size _
                      rw [hg]
                      generalize wr.alloc (.cells (madeCells #[.int .i64 0] n) 3) = W0 at hR0 hB0 ⊢
                      clear hg hb1 hmk
                      go_loopw [12] (fun i wv => ∃ (k : Nat) (ys : List Nat), k ≤ n ∧ i = .int .i64 k ∧ RowI wv g n ys ∧ Hid (∀ j, j < k → ys.getD j 0 = j) ∧ Below w1.heap.size w1 wv) (fun i _ => n - (intOf i).toNat)
                      case atStart => exact ⟨0, _, Nat.zero_le _, rfl, hR0, fun j h => absurd h (Nat.not_lt_zero _), hB0⟩
                      case round =>
                        clear hR0 hB0
                        obtain ⟨k, ys, hk, rfl, hR, hs, hb1⟩ := hrel
                        by_cases hlt : k < n
                        · have ck := hR.cell hlt
                          have fk := hR.fz k
                          have hki : (k : Int) < (n : Int) := by omega
                          have HRW := hR
                          have hyl := hR.len
                          clear hR
                          go_wp2
                          go_roundw
                          case rel =>
                            refine ⟨k + 1, ys.set k k, by omega, by go_num, HRW.set k k, fun j hj => ?_, Below.setCell (p := ⟨g, k, none⟩) hb1 hgB _⟩
                            rw [List.getD_eq_getElem?_getD, List.getElem?_set]
                            by_cases e : k = j
                            · subst e; rw [if_pos rfl, if_pos (by omega)]; rfl
                            · rw [if_neg e, ← List.getD_eq_getElem?_getD]; exact hs.out j (by omega)
                          case measure => simp [intOf]; omega
                        · have HP : Hid (ys.Perm (List.range n)) := by
                            have e : ys = List.range n := by
                              have hl := hR.len
                              apply List.ext_getElem (by simpa using hl)
                              intro i h1 h2
                              have := hs.out i (by omega)
                              rw [List.getD_eq_getElem?_getD, List.getElem?_eq_getElem h1] at this
                              simpa using this
                            rw [e]; exact List.Perm.refl _
                          have HKL : Hid (∀ y, y < n → (K y).length = 1 + wd) := fun y hy => by
                            have := (HO2.out y hy).ints.1
                            rw [← HK.out y, List.length_cons]; omega
                          have hn1 : 1 ≤ n := hn0
                          clear hs
                          go_wp2
                          go_loopw [13] (fun i wv => ∃ (k : Nat) (ys : List Nat), 1 ≤ k ∧ k ≤ n ∧ i = .int .i64 k ∧ RowI wv g n ys ∧ Hid (ys.Perm (List.range n)) ∧ Hid (Ord K ys k) ∧ Below w1.heap.size w1 wv) (fun i _ => n - (intOf i).toNat)
                          case atStart => exact ⟨1, ys, Nat.le_refl _, hn1, rfl, hR, HP, ord_one K ys, hb1⟩
                          case round =>
                            clear hR HP hb1
                            obtain ⟨k, ys, hk1, hk, rfl, hR, HP, HOrd, hb1⟩ := hrel
                            by_cases hlt : k < n
                            · have hvn := perm_lt HP.out hlt
                              have hyl := hR.len
                              have ck := hR.cell hlt
                              obtain ⟨v, hv⟩ : ∃ v, ys.getD k 0 = v := ⟨_, rfl⟩
                              have HV : Hid (ys.getD k 0 = v) := hv
                              rw [hv] at ck hvn
                              have hki : (k : Int) < (n : Int) := by omega
                              have HR0 := hR
                              clear hR hv
                              go_wp2
                              go_loopw [15] (fun jv wv => ∃ j x : Nat, j ≤ k ∧ jv = .int .i64 j ∧ RowI wv g n (cur ys k j x) ∧ Hid (∀ e ∈ (ys.take k).drop j, 0 < cmpL (K e) (K v)) ∧ Below w1.heap.size w1 wv) (fun jv _ => (intOf jv).toNat)
                              case atStart => exact ⟨k, v, Nat.le_refl _, rfl, by rw [← HV.out, cur_start (by omega)]; exact HR0, by intro e he; simp at he, hb1⟩
                              case round =>
                                clear ck HR0 hb1
                                obtain ⟨j, x, hj, rfl, hR, hgt, hb1⟩ := hrel
                                have cj := hR.cell (j := j) (by omega)
                                have fj := hR.fz j
                                have hji : (j : Int) < (n : Int) := by omega
                                have HRC := hR
                                clear hR
                                by_cases hj0 : j = 0
                                · subst hj0
                                  go_wp2
                                  go_quiet (fail)
                                  go_wp2
                                  have D := ins_done (HRC.drewN nq) HP.out HOrd.out hlt (Nat.zero_le _) HV.out HKL.out hgt.out (fun h => absurd h (Nat.lt_irrefl _))
                                  go_roundw
                                  case rel => exact ⟨k + 1, _, by omega, by omega, by go_num, D.1, D.2.1, D.2.2, Below.setCell (p := ⟨g, 0, none⟩) (below_drewN hb1 nq) hgB _⟩
                                  case measure => simp [intOf]; omega
                                · obtain ⟨i, rfl⟩ : ∃ i, j = i + 1 := ⟨j - 1, by omega⟩
                                  clear hj0
                                  have ci := HRC.cell (j := i) (by omega)
                                  have ei : (cur ys k (i + 1) x).getD i 0 = ys.getD i 0 := cur_read (by omega) hj (by omega)
                                  rw [ei] at ci
                                  have hyn := perm_lt HP.out (show i < n by omega)
                                  obtain ⟨y, hy⟩ : ∃ y, ys.getD i 0 = y := ⟨_, rfl⟩
                                  have HY : Hid (ys.getD i 0 = y) := hy
                                  rw [hy] at ci hyn
                                  have Oy := HO2.out y hyn
                                  have Ov := HO2.out v hvn
                                  have y0 := (hb1.cell (p := ⟨b, off + y * 2, none⟩) hb).trans Oy.pc
                                  have y1 := (hb1.cell (p := ⟨b, off + y * 2 + 1, none⟩) hb).trans Oy.ct
                                  have v0 := (hb1.cell (p := ⟨b, off + v * 2, none⟩) hb).trans Ov.pc
                                  have v1 := (hb1.cell (p := ⟨b, off + v * 2 + 1, none⟩) hb).trans Ov.ct
                                  have HI1 : Hid (Ints wr (A y) wd (Z y)) := ints_below Oy.ints hb1 Oy.old
                                  have HI2 : Hid (Ints wr (A v) wd (Z v)) := ints_below Ov.ints hb1 Ov.old
                                  have hyi : (y : Int) < (n : Int) := by omega
                                  have hvi : (v : Int) < (n : Int) := by omega
                                  have hii : (i : Int) < (n : Int) := by omega
                                  have hgd : decide ((0 : Int) < (i : Int) + 1) = true := decide_eq_true (by omega)
                                  have hgw := HRC.lt
                                  have hbw : b < wr.heap.size := Nat.lt_of_lt_of_le hb hb1.size
                                  have hwi : IntKind.i64.wrap (i : Int) = (i : Int) := IntWalk.i64_in _ ⟨by omega, by omega⟩
                                  have hwj : IntKind.i64.wrap ((i : Int) + 1 - 1) = (i : Int) := by rw [Int.add_sub_cancel]; exact hwi
                                  obtain ⟨qv, hqv⟩ : ∃ qv, cmpL (K y) (K v) = qv := ⟨_, rfl⟩
                                  have HQ : Hid (cmpL (PC y :: Z y) (PC v :: Z v) = qv) := by show _ = _; rw [HK.out y, HK.out v]; exact hqv
                                  have HQV : Hid (cmpL (K y) (K v) = qv) := hqv
                                  clear hqv ei hy Oy Ov
                                  by_cases hq : 0 < qv
                                  · go_wp2
                                    go_region_held3 (fun w' => w'.cell? ⟨g, i, none⟩ = some (.int .i64 (y : Int)) ∧ w'.cell? ⟨b, off + y * 2, none⟩ = some (.int .i64 (PC y)) ∧ w'.cell? ⟨b, off + y * 2 + 1, none⟩ = some (.slice (A y) wd (C y)) ∧ w'.cell? ⟨b, off + v * 2, none⟩ = some (.int .i64 (PC v)) ∧ w'.cell? ⟨b, off + v * 2 + 1, none⟩ = some (.slice (A v) wd (C v))) (go_keep) ((go_at_call 13; refine (cmp_any (PC y) (PC v) (A y) (A v) wd (C y) (C v) (Z y) (Z v) wr.drew (by unfold maxLen; omega) HI1.out HI2.out).mono ?_; rintro e w3 ⟨rfl, hb5⟩; rw [HQ.out]; have z0 := (hb5.cell (p := ⟨g, i, none⟩) hgw).trans ci; have z1 := (hb5.cell (p := ⟨b, off + y * 2, none⟩) hbw).trans y0; have z2 := (hb5.cell (p := ⟨b, off + y * 2 + 1, none⟩) hbw).trans y1; have z3 := (hb5.cell (p := ⟨b, off + v * 2, none⟩) hbw).trans v0; have z4 := (hb5.cell (p := ⟨b, off + v * 2 + 1, none⟩) hbw).trans v1))
                                    have R3 := HRC.drew.keep hb5
                                    have hb6 : Below w1.heap.size w1 w3 := hb1.drew.trans (hb5.mono hb1.size)
                                    have c3 := R3.cell (j := i + 1) (by omega)
                                    have f3 := R3.fz (i + 1)
                                    clear hb5 z1 z2 z3 z4 y0 y1 v0 v1 HI1 HI2 ci cj fj
                                    go_wp2
                                    go_roundw
                                    case rel => exact ⟨i, y, by omega, by go_num, ins_step R3 hlt hyl hj HY.out, gt_step hgt.out HY.out (by omega) (by rw [HQV.out]; exact hq), Below.setCell (p := ⟨g, i + 1, none⟩) hb6 hgB _⟩
                                    case measure => simp [intOf]
                                  · go_wp2
                                    go_region_held3 (fun w' => w'.cell? ⟨g, i, none⟩ = some (.int .i64 (y : Int)) ∧ w'.cell? ⟨b, off + y * 2, none⟩ = some (.int .i64 (PC y)) ∧ w'.cell? ⟨b, off + y * 2 + 1, none⟩ = some (.slice (A y) wd (C y)) ∧ w'.cell? ⟨b, off + v * 2, none⟩ = some (.int .i64 (PC v)) ∧ w'.cell? ⟨b, off + v * 2 + 1, none⟩ = some (.slice (A v) wd (C v))) (go_keep) ((go_at_call 13; refine (cmp_any (PC y) (PC v) (A y) (A v) wd (C y) (C v) (Z y) (Z v) wr.drew (by unfold maxLen; omega) HI1.out HI2.out).mono ?_; rintro e w3 ⟨rfl, hb5⟩; rw [HQ.out]; have z0 := (hb5.cell (p := ⟨g, i, none⟩) hgw).trans ci; have z1 := (hb5.cell (p := ⟨b, off + y * 2, none⟩) hbw).trans y0; have z2 := (hb5.cell (p := ⟨b, off + y * 2 + 1, none⟩) hbw).trans y1; have z3 := (hb5.cell (p := ⟨b, off + v * 2, none⟩) hbw).trans v0; have z4 := (hb5.cell (p := ⟨b, off + v * 2 + 1, none⟩) hbw).trans v1))
                                    have R3 := HRC.drew.keep hb5
                                    have hb6 : Below w1.heap.size w1 w3 := hb1.drew.trans (hb5.mono hb1.size)
                                    have c3 := R3.cell (j := i + 1) (by omega)
                                    have f3 := R3.fz (i + 1)
                                    have D := ins_done R3 HP.out HOrd.out hlt hj HV.out HKL.out hgt.out (fun _ => by rw [Nat.add_sub_cancel, HY.out, HQV.out]; omega)
                                    clear hb5 z0 z1 z2 z3 z4 y0 y1 v0 v1 HI1 HI2 ci cj fj
                                    go_wp2
                                    go_roundw
                                    case rel => exact ⟨k + 1, _, by omega, by omega, by go_num, D.1, D.2.1, D.2.2, Below.setCell (p := ⟨g, i + 1, none⟩) hb6 hgB _⟩
                                    case measure => simp [intOf]; omega
                            · have HOn : Hid (Ord K ys n) := (show k = n by omega) ▸ HOrd
                              clear HOrd
                              go_wp2
                              obtain ⟨S, hSd⟩ : ∃ S : Nat → List Int, ∀ p, K (ys.getD p 0) = S p := ⟨fun p => K (ys.getD p 0), fun _ => rfl⟩
                              have HSd : Hid (∀ p, K (ys.getD p 0) = S p) := hSd
                              have HSL : Hid (∀ p, p < n → (S p).length = 1 + wd) := fun p hp => by rw [← hSd p]; exact HKL.out _ (perm_lt HP.out hp)
                              have HSO : Hid (∀ a b, a < b → b < n → cmpL (S a) (S b) ≤ 0) := fun a b hab hbn => by
                                have hyl := perm_len HP.out
                                rw [← hSd a, ← hSd b]
                                exact ord_all (by rw [hyl]; exact HOn.out) hab (by omega)
                              have HLN : Hid ((sofar K n).length = (sofar S n).length) := by
                                have e : (fun p => K (ys.getD p 0)) = S := funext hSd
                                show _ = _
                                rw [← e]; exact perm_count K HP.out
                              have HR1 := hR
                              clear hSd hR HOn
                              go_loopw [16, 17] (fun d i wv => ∃ k l : Nat, k ≤ n ∧ i = .int .i64 k ∧ d = .int .i64 l ∧ l ≤ k ∧ Hid (l = (sofar S k).length) ∧ RowI wv g n ys ∧ Below w1.heap.size w1 wv) (fun _ i _ => n - (intOf i).toNat)
                              case atStart => exact ⟨0, 0, Nat.zero_le _, rfl, rfl, Nat.le_refl _, rfl, HR1, hb1⟩
                              case round =>
                                clear hb1 HR1
                                obtain ⟨k, l2, hk, rfl, rfl, hlk2, hl2, hR, hb1⟩ := hrel
                                by_cases hlt : k < n
                                · have HRC := hR
                                  have ck := hR.cell hlt
                                  have hki : (k : Int) < (n : Int) := by omega
                                  clear hR
                                  by_cases hk0 : k = 0
                                  · subst hk0
                                    go_wp2
                                    go_quiet (fail)
                                    go_wp2
                                    go_roundw
                                    case rel => exact ⟨1, l2 + 1, by omega, by go_num, by go_num, by omega, by show l2 + 1 = _; rw [sofar_len_out (by simp [sofar]), hl2.out], HRC.drewN _, below_drewN hb1 _⟩
                                    case measure => simp [intOf]; omega
                                  · obtain ⟨i, rfl⟩ : ∃ i, k = i + 1 := ⟨k - 1, by omega⟩
                                    clear hk0
                                    have ci := HRC.cell (j := i) (by omega)
                                    have hyn := perm_lt HP.out (show i < n by omega)
                                    have hvn := perm_lt HP.out (show i + 1 < n by omega)
                                    have HM : Hid (S (i + 1) ∈ sofar S (i + 1) ↔ cmpL (S i) (S (i + 1)) = 0) := by
                                      have := sorted_first (S := S) (l := 1 + wd) (k := i + 1) (fun j hj => HSL.out j (by omega)) (fun a b hab hbk => HSO.out a b hab (by omega)) (by omega)
                                      rwa [Nat.add_sub_cancel] at this
                                    rw [← HSd.out i, ← HSd.out (i + 1)] at HM
                                    obtain ⟨y, hy⟩ : ∃ y, ys.getD i 0 = y := ⟨_, rfl⟩
                                    obtain ⟨v, hv⟩ : ∃ v, ys.getD (i + 1) 0 = v := ⟨_, rfl⟩
                                    rw [hy] at ci hyn HM
                                    rw [hv] at ck hvn HM
                                    have HSv : Hid (S (i + 1) = K v) := by show _ = _; rw [← HSd.out (i + 1), hv]
                                    have Oy := HO2.out y hyn
                                    have Ov := HO2.out v hvn
                                    have y0 := (hb1.cell (p := ⟨b, off + y * 2, none⟩) hb).trans Oy.pc
                                    have y1 := (hb1.cell (p := ⟨b, off + y * 2 + 1, none⟩) hb).trans Oy.ct
                                    have v0 := (hb1.cell (p := ⟨b, off + v * 2, none⟩) hb).trans Ov.pc
                                    have v1 := (hb1.cell (p := ⟨b, off + v * 2 + 1, none⟩) hb).trans Ov.ct
                                    have HI1 : Hid (Ints wr (A y) wd (Z y)) := ints_below Oy.ints hb1 Oy.old
                                    have HI2 : Hid (Ints wr (A v) wd (Z v)) := ints_below Ov.ints hb1 Ov.old
                                    have hyi : (y : Int) < (n : Int) := by omega
                                    have hvi : (v : Int) < (n : Int) := by omega
                                    have hii : (i : Int) < (n : Int) := by omega
                                    have hgd : ((i : Int) + 1 == 0) = false := beq_eq_false_iff_ne.2 (by omega)
                                    have hk1i : (i : Int) + 1 < (n : Int) := by omega
                                    have hk1p : (0 : Int) ≤ (i : Int) + 1 := by omega
                                    have hgw := HRC.lt
                                    have hbw : b < wr.heap.size := Nat.lt_of_lt_of_le hb hb1.size
                                    have hwi : IntKind.i64.wrap (i : Int) = (i : Int) := IntWalk.i64_in _ ⟨by omega, by omega⟩
                                    have hwj : IntKind.i64.wrap ((i : Int) + 1 - 1) = (i : Int) := by rw [Int.add_sub_cancel]; exact hwi
                                    have HQ : Hid (cmpL (PC y :: Z y) (PC v :: Z v) = cmpL (K y) (K v)) := by show _ = _; rw [HK.out y, HK.out v]
                                    clear hy hv Oy Ov
                                    by_cases hq : cmpL (K y) (K v) = 0
                                    · have HQ0 : Hid (cmpL (K y) (K v) = 0) := hq
                                      clear hq
                                      go_wp2
                                      go_region_held3 (fun w' => w'.cell? ⟨g, i, none⟩ = some (.int .i64 (y : Int)) ∧ w'.cell? ⟨g, i + 1, none⟩ = some (.int .i64 (v : Int)) ∧ w'.cell? ⟨b, off + y * 2, none⟩ = some (.int .i64 (PC y)) ∧ w'.cell? ⟨b, off + y * 2 + 1, none⟩ = some (.slice (A y) wd (C y)) ∧ w'.cell? ⟨b, off + v * 2, none⟩ = some (.int .i64 (PC v)) ∧ w'.cell? ⟨b, off + v * 2 + 1, none⟩ = some (.slice (A v) wd (C v))) (go_keep) ((go_at_call 13; refine (cmp_any (PC y) (PC v) (A y) (A v) wd (C y) (C v) (Z y) (Z v) wr.drew (by unfold maxLen; omega) HI1.out HI2.out).mono ?_; rintro e w3 ⟨rfl, hb5⟩; rw [HQ.out, HQ0.out]; have z0 := (hb5.cell (p := ⟨g, i, none⟩) hgw).trans ci; have z9 := (hb5.cell (p := ⟨g, i + 1, none⟩) hgw).trans ck; have z1 := (hb5.cell (p := ⟨b, off + y * 2, none⟩) hbw).trans y0; have z2 := (hb5.cell (p := ⟨b, off + y * 2 + 1, none⟩) hbw).trans y1; have z3 := (hb5.cell (p := ⟨b, off + v * 2, none⟩) hbw).trans v0; have z4 := (hb5.cell (p := ⟨b, off + v * 2 + 1, none⟩) hbw).trans v1))
                                      have R3 := HRC.drew.keep hb5
                                      have hb6 : Below w1.heap.size w1 w3 := hb1.drew.trans (hb5.mono hb1.size)
                                      clear hb5 z0 z9 z1 z2 z3 z4 y0 y1 v0 v1 HI1 HI2 ci ck
                                      go_wp2
                                      go_roundw
                                      case rel => exact ⟨i + 1 + 1, l2, by omega, by go_num, rfl, by omega, by show l2 = _; rw [sofar_len_in (by rw [HSv.out]; exact HM.out.2 HQ0.out)]; exact hl2.out, R3, hb6⟩
                                      case measure => simp [intOf]; omega
                                    · have HQ0 : Hid (¬ cmpL (K y) (K v) = 0) := hq
                                      clear hq
                                      obtain ⟨qv, hqv⟩ : ∃ qv, cmpL (K y) (K v) = qv := ⟨_, rfl⟩
                                      rw [hqv] at HQ
                                      have hqb : (qv != 0) = true := bne_iff_ne.2 (fun e => HQ0.out (by rw [hqv, e]))
                                      clear hqv
                                      go_wp2
                                      go_region_held3 (fun w' => w'.cell? ⟨g, i, none⟩ = some (.int .i64 (y : Int)) ∧ w'.cell? ⟨g, i + 1, none⟩ = some (.int .i64 (v : Int)) ∧ w'.cell? ⟨b, off + y * 2, none⟩ = some (.int .i64 (PC y)) ∧ w'.cell? ⟨b, off + y * 2 + 1, none⟩ = some (.slice (A y) wd (C y)) ∧ w'.cell? ⟨b, off + v * 2, none⟩ = some (.int .i64 (PC v)) ∧ w'.cell? ⟨b, off + v * 2 + 1, none⟩ = some (.slice (A v) wd (C v))) (go_keep) ((go_at_call 13; refine (cmp_any (PC y) (PC v) (A y) (A v) wd (C y) (C v) (Z y) (Z v) wr.drew (by unfold maxLen; omega) HI1.out HI2.out).mono ?_; rintro e w3 ⟨rfl, hb5⟩; rw [HQ.out]; have z0 := (hb5.cell (p := ⟨g, i, none⟩) hgw).trans ci; have z9 := (hb5.cell (p := ⟨g, i + 1, none⟩) hgw).trans ck; have z1 := (hb5.cell (p := ⟨b, off + y * 2, none⟩) hbw).trans y0; have z2 := (hb5.cell (p := ⟨b, off + y * 2 + 1, none⟩) hbw).trans y1; have z3 := (hb5.cell (p := ⟨b, off + v * 2, none⟩) hbw).trans v0; have z4 := (hb5.cell (p := ⟨b, off + v * 2 + 1, none⟩) hbw).trans v1))
                                      have R3 := HRC.drew.keep hb5
                                      have hb6 : Below w1.heap.size w1 w3 := hb1.drew.trans (hb5.mono hb1.size)
                                      clear hb5 z0 z9 z1 z2 z3 z4 y0 y1 v0 v1 HI1 HI2 ci ck
                                      go_wp2
                                      go_roundw
                                      case rel => exact ⟨i + 1 + 1, l2 + 1, by omega, by go_num, by go_num, by omega, by show l2 + 1 = _; rw [sofar_len_out (by rw [HSv.out]; exact fun h => HQ0.out (HM.out.1 h)), hl2.out], R3, hb6⟩
                                      case measure => simp [intOf]; omega
                                · obtain rfl : l2 = l := by
                                    have e : k = n := by omega
                                    have h1 := hl2.out
                                    rw [e] at h1
                                    rw [h1, HL.out]; exact HLN.out.symm
                                  clear hl2
                                  go_wp2
                                  go_ret
                                  exact ⟨rfl, hb1⟩
  · go_enter Try.func5, Try.ntmps5
    go_wp2_with fail
    refine (bytes12_any w w.heap.size b off n c PC A N C Z HN.out HO.out).mono ?_
    rintro e w1 ⟨r, rfl, rfl, hr⟩
    clear hr
    cases r <;> (go_wp2_with fail; go_ret; exact ⟨rfl, Below.refl _ _⟩)

set_option maxRecDepth 100000 in
set_option maxHeartbeats 1000000 in
theorem walk5_nil (w : World) (a : Option Addr) (c : Nat) : Calls Try.prog 5 #[.slice a 0 c] w fun e w' => e = .returned (.bool true) ∧ Below w.heap.size w w' := by
  have hmk : ∀ w, (Instr.makeSlice 26 (.int .i64 0) (.int .i64 0)).run Try.prog w = .ok (.slice (some ⟨w.heap.size, 0, none⟩) 0 0) (w.alloc (.cells (madeCells #[.int .i64 0] 0) 3)) := fun w => run_make_row' (P := Try.prog) 26 3 (.int .i64 0) 8 Try.underlying26 Try.info3 rfl .i64 .i64 0 (by omega) (by omega) w
  go_enter Try.func5, Try.ntmps5
  go_wp2_with fail
  refine (bytes12_nil w a c (fun _ => 0)).mono ?_
  rintro e w1 ⟨r, rfl, rfl, hr⟩
  clear hr
  cases r with
  | false =>
    go_wp2_with fail
    go_ret
    exact ⟨rfl, Below.refl _ _⟩
  | true =>
    go_wp2_with fail
    refine wp_loop_rounds 1 ?_
    rw [rounds_succ]
    go_wp2
    refine wp_loop_rounds 1 ?_
    rw [rounds_succ]
    go_wp2
    refine wp_loop_rounds 1 ?_
    rw [rounds_succ]
    go_wp2
    refine wp_loop_rounds 1 ?_
    rw [rounds_succ]
    go_wp2
    refine wp_loop_rounds 1 ?_
    rw [rounds_succ]
    go_wp2
    refine wp_loop_rounds 1 ?_
    rw [rounds_succ]
    go_wp2
    refine wp_loop_rounds 1 ?_
    rw [rounds_succ]
    go_wp2
    go_ret
    exact ⟨rfl, ((Below.refl _ _).alloc (Nat.le_refl _) _).alloc (by simp) _⟩
end Go.Proofs.Qxb6619231a.StateSet
