/- The walk of 'FnBlankPadsCutsAndLetters'. -/
import Derived.Test.Qxb6619245aRowsOwn
import Derived.Deep.DeepMust
namespace Go.Proofs.Qxb6619245a.Bytes
open Go.RowKit

theorem pad_step {ps : List Int} {n k : Nat} (h : ps.length = n ∧ ∀ j, j < k → ps.getD j 0 = 32) (hk : k < n) : Hid ((ps.set k 32).length = n ∧ ∀ j, j < k + 1 → (ps.set k 32).getD j 0 = 32) := by
  refine ⟨by rw [List.length_set]; exact h.1, fun j hj => ?_⟩
  rw [List.getD_eq_getElem?_getD, List.getElem?_set]
  by_cases e : k = j
  · subst e; rw [if_pos rfl, if_pos (by omega)]; rfl
  · rw [if_neg e, ← List.getD_eq_getElem?_getD]; exact h.2 j (by omega)
theorem pad_done {ps : List Int} {n k : Nat} (h : ps.length = n ∧ ∀ j, j < k → ps.getD j 0 = 32) (hk : n ≤ k) : ps = List.replicate n 32 := by
  apply List.ext_getElem (by simpa using h.1)
  intro j h1 h2
  have := h.2 j (by omega)
  rw [List.getD_eq_getElem?_getD, List.getElem?_eq_getElem h1] at this
  simpa using this
theorem Row.bts' {w : World} {g n : Nat} (h : Row w g (List.replicate n 32)) : Bts w (some ⟨g, 0, none⟩) n (List.replicate n 32) := by
  have := h.bts
  rwa [List.length_replicate] at this
theorem Row.part0 {w : World} {g i : Nat} {zs : List Int} (h : Row w g zs) (hi : i ≤ zs.length) : Bts w (some ⟨g, 0, none⟩) i (zs.take i) := by
  have := h.part 0 i (by omega)
  rwa [List.drop_zero] at this
theorem one_new (w : World) (x : Int) : Bts (w.alloc (.cells #[.int .u8 x] 5)) (some ⟨w.heap.size, 0, none⟩) 1 [x] := by
  refine ⟨rfl, .inr ⟨w.heap.size, 0, rfl, fun i hi => ?_⟩⟩
  obtain rfl : i = 0 := by omega
  have := heap_alloc_new w (.cells #[.int .u8 x] 5)
  exact cell_of_one this
theorem Row.btsN {w : World} {g n : Nat} {zs : List Int} (h : Row w g zs) (hn : zs.length = n) : Bts w (some ⟨g, 0, none⟩) n zs := hn ▸ h.bts

set_option maxRecDepth 100000 in
set_option maxHeartbeats 1000000 in
theorem pads_some (w : World) (ad : Addr) (n c i : Nat) (zs : List Int) (hn : n ≤ 262144) (hi : i ≤ n) (hx : Bts w (some ad) n zs) :
    Calls Try.prog 5 #[.slice (some ad) n c, .int .i64 (i : Int)] w fun e w' => e = .returned (.bool true) ∧ Below w.heap.size w w' := by
  have HX : Hid (Bts w (some ad) n zs) := hx
  have hne := fun (w : World) (n' c' : Nat) => run_neq_slice_nil_any (P := Try.prog) w 22 5 (some ad) n c n' c' Try.underlying22
  have hm1 := mk_len n (by omega)
  have hm2 := mk_cap (2 * n) (2 * (n : Int)) (by omega) (by omega)
  have hm3 := mk_cap (n + 1) ((n : Int) + 1) (by omega) (by omega)
  have hdec : decide (n ≤ 1048576) = true := decide_eq_true (by omega)
  have HD : Hid (decide (n ≤ 1048576) = true) := hdec
  have hi0 : (0 : Int) ≤ (i : Int) := by omega
  have hin : (i : Int) ≤ (n : Int) := by omega
  have g1 : decide ((i : Int) < 0) = false := decide_eq_false (by omega)
  have g2 : decide ((n : Int) < (i : Int)) = false := decide_eq_false (by omega)
  have LX : Hid (zs.length = n) := hx.1
  obtain ⟨r1, hr1⟩ : ∃ r, (zs.take i).all sp = r := ⟨_, rfl⟩
  obtain ⟨r2, hr2⟩ : ∃ r, (zs.drop i).all sp = r := ⟨_, rfl⟩
  have hw : zs.all sp = (r1 && r2) := by rw [← hr1, ← hr2, ← List.all_append, List.take_append_drop]
  have hpd : (List.replicate n 32).all sp = true := by rw [List.all_eq_true]; intro x hx; rw [List.eq_of_mem_replicate hx]; decide
  have H1 : Hid ((zs.take i).all sp = r1) := hr1
  have H2 : Hid ((zs.drop i).all sp = r2) := hr2
  have HW : Hid (zs.all sp = (r1 && r2)) := hw
  have HPD : Hid ((List.replicate n 32).all sp = true) := hpd
  have HPP : Hid ((List.replicate n 32 ++ zs).all sp = (r1 && r2)) := by show _ = _; rw [List.all_append, hpd, hw, Bool.true_and]
  have HM : Hid ((zs.take i ++ [120] ++ zs.drop i).all sp = false) := by show _ = _; rw [List.all_append, List.all_append, show [120].all sp = false by decide]; simp
  clear hx hdec hr1 hr2 hw hpd
  go_enter Try.func5, Try.ntmps5
  go_wp2_with fail
  refine (bytes13_any _ n c _ _ (by unfold maxLen; omega)).mono ?_
  rintro e w1 ⟨rfl, rfl⟩
  rw [HD.out]
  go_wp2_with (refine copy_bytes w1 n c ad zs HX.out rfl (.tmp 31) (.tmp 32) rfl rfl rfl ?_; intro w2 HR2 hB2; have hz2 := HR2.out.lt)
  obtain ⟨g, hg⟩ : ∃ g, w1.heap.size = g := ⟨_, rfl⟩
  have HG : Hid (w1.heap.size = g) := hg
  rw [hg] at HR2 hz2
  rw [hg]
  clear hg
  obtain ⟨gp, hgp⟩ : ∃ gp, w2.heap.size = gp := ⟨_, rfl⟩
  have hP0 : Row (w2.alloc (.cells (madeCells #[.int .u8 0] n) 5)) gp (List.replicate n 0) := by rw [← hgp]; exact Row.made w2 n
  have hL0 : Row (w2.alloc (.cells (madeCells #[.int .u8 0] n) 5)) g zs := HR2.out.alloc _
  have hB0 : Below w1.heap.size w1 (w2.alloc (.cells (madeCells #[.int .u8 0] n) 5)) := hB2.alloc hB2.size _
  rw [hgp]
  rw [hgp] at hz2
  have hgB : w1.heap.size ≤ gp := by have := HG.out; omega
  generalize w2.alloc (.cells (madeCells #[.int .u8 0] n) 5) = W0 at hP0 hL0 hB0 ⊢
  clear hgp HR2 hB2 HX hne
  go_loopw [7] (fun kv wv => ∃ (k : Nat) (ps : List Int), k ≤ n ∧ kv = .int .i64 k ∧ Row wv gp ps ∧ Hid (ps.length = n ∧ ∀ j, j < k → ps.getD j 0 = 32) ∧ Row wv g zs ∧ Below w1.heap.size w1 wv) (fun kv _ => n - (intOf kv).toNat)
  case atStart => exact ⟨0, _, Nat.zero_le _, rfl, hP0, ⟨by simp, fun j h => absurd h (Nat.not_lt_zero _)⟩, hL0, hB0⟩
  case round =>
    clear hP0 hL0 hB0
    obtain ⟨k, ps, hk, rfl, hP, hs, hL, hb⟩ := hrel
    by_cases hlt : k < n
    · have ck := hP.cell (i := k) (by rw [hs.out.1]; exact hlt)
      have fk := hP.fz k
      have hki : (k : Int) < (n : Int) := by omega
      have HP := hP
      have HL := hL
      clear hP hL
      go_wp2
      go_roundw
      case rel => exact ⟨k + 1, ps.set k 32, by omega, by go_num, HP.set k 32, pad_step hs.out hlt, HL.other (by show g ≠ gp; omega) _, Below.setCell (p := ⟨gp, k, none⟩) hb hgB _⟩
      case measure => simp [intOf]; omega
    · have hps : ps = List.replicate n 32 := pad_done hs.out (by omega)
      subst hps
      clear hs
      have HP := hP
      have HL := hL
      clear hP hL
      have hwx := HP.lt
      obtain ⟨A, hA, hIA⟩ : ∃ A, (if n = i then some (⟨g, 0, none⟩ : Addr) else some ⟨g, i, none⟩) = some A ∧ ∀ wy, Row wy g zs → Bts wy (some A) (n - i) (zs.drop i) := by
        by_cases e : n = i
        · refine ⟨⟨g, 0, none⟩, by rw [if_pos e], fun wy _ => ⟨by rw [List.length_drop, LX.out], .inl (by omega)⟩⟩
        · refine ⟨⟨g, i, none⟩, by rw [if_neg e], fun wy hy => ?_⟩
          have := hy.part i (n - i) (by rw [LX.out]; omega)
          rwa [List.take_of_length_le (by rw [List.length_drop, LX.out]; omega)] at this
      have HIA : Hid (∀ wy, Row wy g zs → Bts wy (some A) (n - i) (zs.drop i)) := hIA
      clear hIA
      go_wp2_with (first
        | (at_builtin; refine append_bytes _ wr.heap.size _ _ _ [] (Own.made wr (2 * n) (by omega)) ⟨gp, 0, none⟩ n n (List.replicate n 32) (HP.alloc _).bts' (by omega) (by simp) rfl (.tmp 51) (.tmp 52) rfl rfl rfl ?_; intro a1 c1 w3 O1 B1; simp only [Nat.zero_add, List.nil_append] at O1; have B1' : Below wr.heap.size wr w3 := ((Below.refl _ _).alloc (Nat.le_refl _) _).trans B1; have L3 := HL.keep B1' (by omega); clear B1)
        | (at_builtin; refine append_bytes w3 wr.heap.size a1 n c1 (List.replicate n 32) O1.out ⟨g, 0, none⟩ n n zs (L3.btsN LX.out) (by omega) B1'.size rfl (.tmp 54) (.tmp 55) rfl rfl rfl ?_; intro a2 c2 w4 O2 B2; have B2' : Below wr.heap.size wr w4 := B1'.trans B2; have L4 := HL.keep B2' (by omega); have hw4 := L4.lt; clear B2)
        | (at_builtin; refine append_bytes _ w4.heap.size _ _ _ [] (Own.made w4 (n + 1) (by omega)) ⟨g, 0, none⟩ i n (zs.take i) ((L4.alloc _).part0 (by rw [LX.out]; exact hi)) (by omega) (by simp) rfl (.tmp 61) (.tmp 64) rfl rfl rfl ?_; intro a3 c3 w5 O3 B3; simp only [Nat.zero_add, List.nil_append] at O3; have B3' : Below w4.heap.size w4 w5 := ((Below.refl _ _).alloc (Nat.le_refl _) _).trans B3; clear B3)
        | (at_builtin; refine append_bytes _ w4.heap.size a3 i c3 (zs.take i) (O3.out.alloc _) ⟨w5.heap.size, 0, none⟩ 1 1 [120] (one_new w5 120) (by omega) (by have := B3'.size; simp; omega) rfl (.tmp 66) (.tmp 67) rfl rfl rfl ?_; intro a4 c4 w6 O4 B4; have B4' : Below w4.heap.size w4 w6 := (B3'.alloc B3'.size _).trans B4; have L6 := L4.keep B4' hw4; clear B4)
        | (at_builtin; go_must (refine append_bytes w6 w4.heap.size a4 (i + 1) c4 (zs.take i ++ [120]) O4.out A (n - i) (n - i) (zs.drop i) (HIA.out w6 L6) (by omega) B4'.size rfl (.tmp 69) (.tmp 72) rfl rfl rfl ?_; intro a5 c5 w7 O5 B5; have B5' : Below w4.heap.size w4 w7 := B4'.trans B5; clear B5)))
      have L7 := L4.keep B5' hw4
      have hgw4 : gp < w4.heap.size := Nat.lt_of_lt_of_le hwx B2'.size
      have P7 : Row w7 gp (List.replicate n 32) := (HP.keep B2' hwx).keep B5' hgw4
      have HB7 : Hid (Below w1.heap.size w1 w7) := hb.trans ((B2'.mono hb.size).trans (B5'.mono (Nat.le_trans hb.size B2'.size)))
      have HQ2 : Hid (Bts w7 a2 (n + n) (List.replicate n 32 ++ zs)) := O2.out.bts.keep B5' O2.out.block
      have HQ5 : Hid (Bts w7 a5 (i + 1 + (n - i)) (zs.take i ++ [120] ++ zs.drop i)) := O5.out.bts
      have hmx : n ≤ maxLen := by unfold maxLen; omega
      have HMX : Hid (n ≤ maxLen) := hmx
      clear O1 O2 O3 O4 O5 B1' B2' B3' B4' B5' L3 L4 L6 HP HL hb hmx
      refine (zblank_any _ _ _ zs _ HW.out w7 HMX.out (L7.btsN LX.out)).mono ?_
      rintro e w8 ⟨rfl, rfl⟩
      go_wp2_with fail
      refine (zblank_any _ _ _ (List.replicate n 32) _ HPD.out w8 HMX.out P7.bts').mono ?_
      rintro e w9 ⟨rfl, rfl⟩
      go_wp2_with fail
      refine (zblank_any _ _ _ (zs.take i) _ H1.out w9 (by unfold maxLen; omega) (L7.part0 (by rw [LX.out]; exact hi))).mono ?_
      rintro e w10 ⟨rfl, rfl⟩
      cases r1 with
      | false =>
        go_wp2_with fail
        refine (zblank_any _ _ _ (List.replicate n 32 ++ zs) _ HPP.out w10 (by unfold maxLen; omega) HQ2.out).mono ?_
        rintro e w11 ⟨rfl, rfl⟩
        go_wp2_with fail
        refine (zblank_any _ _ _ (zs.take i ++ [120] ++ zs.drop i) _ HM.out w11 (by unfold maxLen; omega) HQ5.out).mono ?_
        rintro e w12 ⟨rfl, rfl⟩
        go_wp2_with fail
        go_ret
        exact ⟨rfl, HB7.out⟩
      | true =>
        go_wp2_with fail
        refine (zblank_any _ _ _ (zs.drop i) _ H2.out w10 (by unfold maxLen; omega) (HIA.out w10 L7)).mono ?_
        rintro e w11 ⟨rfl, rfl⟩
        cases r2 <;>
        · go_wp2_with fail
          refine (zblank_any _ _ _ (List.replicate n 32 ++ zs) _ HPP.out w11 (by unfold maxLen; omega) HQ2.out).mono ?_
          rintro e w12 ⟨rfl, rfl⟩
          go_wp2_with fail
          refine (zblank_any _ _ _ (zs.take i ++ [120] ++ zs.drop i) _ HM.out w12 (by unfold maxLen; omega) HQ5.out).mono ?_
          rintro e w13 ⟨rfl, rfl⟩
          go_wp2_with fail
          go_ret
          exact ⟨rfl, HB7.out⟩

set_option maxRecDepth 100000 in
set_option maxHeartbeats 400000 in
theorem pads_big (w : World) (a : Option Addr) (n c : Nat) (i : Int) (hn : n ≤ maxLen) (hb : 262144 < n) :
    Calls Try.prog 5 #[.slice a n c, .int .i64 i] w fun e w' => e = .returned (.bool true) ∧ Below w.heap.size w w' := by
  have HN : Hid (n ≤ maxLen) := hn
  unfold maxLen at hn
  go_enter Try.func5, Try.ntmps5
  go_wp2_with fail
  refine (bytes13_any _ n c _ _ HN.out).mono ?_
  rintro e w1 ⟨rfl, rfl⟩
  obtain ⟨r, hr⟩ : ∃ r, decide (n ≤ 1048576) = r := ⟨_, rfl⟩
  rw [hr]
  clear hr
  cases r <;> (go_wp2_with fail; go_ret; exact ⟨rfl, Below.refl _ _⟩)

set_option maxRecDepth 100000 in
set_option maxHeartbeats 400000 in
theorem pads_out (w : World) (a : Option Addr) (n c : Nat) (i : Int) (hn : n ≤ 262144) (hi : i < 0 ∨ (n : Int) < i) :
    Calls Try.prog 5 #[.slice a n c, .int .i64 i] w fun e w' => e = .returned (.bool true) ∧ Below w.heap.size w w' := by
  have HD : Hid (decide (n ≤ 1048576) = true) := decide_eq_true (by omega)
  by_cases h0 : i < 0
  · have g1 : decide (i < 0) = true := decide_eq_true h0
    clear hi
    go_enter Try.func5, Try.ntmps5
    go_wp2_with fail
    refine (bytes13_any _ n c _ _ (by unfold maxLen; omega)).mono ?_
    rintro e w1 ⟨rfl, rfl⟩
    rw [HD.out]
    go_wp2_with fail
    go_ret
    exact ⟨rfl, Below.refl _ _⟩
  · have h1 : (n : Int) < i := by omega
    have g1 : decide (i < 0) = false := decide_eq_false h0
    have g2 : decide ((n : Int) < i) = true := decide_eq_true h1
    clear hi
    go_enter Try.func5, Try.ntmps5
    go_wp2_with fail
    refine (bytes13_any _ n c _ _ (by unfold maxLen; omega)).mono ?_
    rintro e w1 ⟨rfl, rfl⟩
    rw [HD.out]
    go_wp2_with fail
    go_ret
    exact ⟨rfl, Below.refl _ _⟩

theorem one_new' (w : World) (o : Obj) (x : Int) : Bts ((w.alloc o).alloc (.cells #[.int .u8 x] 5)) (some ⟨w.heap.size + 1, 0, none⟩) 1 [x] := by
  have := one_new (w.alloc o) x
  rwa [show (w.alloc o).heap.size = w.heap.size + 1 by simp] at this
theorem nil_bts (w : World) (a : Option Addr) : Bts w a 0 [] := ⟨rfl, .inl rfl⟩
set_option maxRecDepth 100000 in
set_option maxHeartbeats 1000000 in
theorem pads_nil (w : World) : Calls Try.prog 5 #[.slice none 0 0, .int .i64 0] w fun e w' => e = .returned (.bool true) ∧ Below w.heap.size w w' := by
  have hne := fun (w : World) (n' c' : Nat) => run_neq_slice_nil_any (P := Try.prog) w 22 5 none 0 0 n' c' Try.underlying22
  have hm1 := mk_len 0 (by omega)
  have hm2 := mk_cap 0 0 rfl (by omega)
  have hm3 := mk_cap 1 1 rfl (by omega)
  go_enter Try.func5, Try.ntmps5
  go_wp2_with fail
  refine (bytes13_any _ 0 0 _ _ (by unfold maxLen; omega)).mono ?_
  rintro e w1 ⟨rfl, rfl⟩
  go_wp2_with fail
  refine wp_loop_rounds 1 ?_
  rw [rounds_succ]
  have hB0 : Below w1.heap.size w1 (w1.alloc (.cells (madeCells #[.int .u8 0] 0) 5)) := (Below.refl _ _).alloc (Nat.le_refl _) _
  generalize w1.alloc (.cells (madeCells #[.int .u8 0] 0) 5) = wr at hB0 ⊢
  go_wp2_with (first
    | (at_builtin; refine append_bytes _ wr.heap.size _ _ _ [] (Own.made wr 0 (by omega)) ⟨w1.heap.size, 0, none⟩ 0 0 [] (nil_bts _ _) (by omega) (by simp) rfl (.tmp 51) (.tmp 52) rfl rfl rfl ?_; intro a1 c1 w3 O1 B1; simp only [Nat.zero_add, List.nil_append] at O1; have B1' : Below wr.heap.size wr w3 := ((Below.refl _ _).alloc (Nat.le_refl _) _).trans B1; clear B1)
    | (at_builtin; refine append_bytes_nil w3 wr.heap.size a1 0 c1 [] O1.out rfl (.tmp 54) (.tmp 55) rfl rfl rfl ?_)
    | (at_builtin; refine append_bytes_nil _ w3.heap.size _ _ _ [] (Own.made w3 1 (by omega)) rfl (.tmp 61) (.tmp 64) rfl rfl rfl ?_)
    | (at_builtin; refine append_bytes _ w3.heap.size _ _ _ [] ((Own.made w3 1 (by omega)).alloc _) ⟨w3.heap.size + 1, 0, none⟩ 1 1 [120] (one_new' w3 _ 120) (by omega) (by simp; omega) rfl (.tmp 66) (.tmp 67) rfl rfl rfl ?_; intro a4 c4 w6 O4 B4; simp only [Nat.zero_add, List.nil_append] at O4; have B4' : Below w3.heap.size w3 w6 := (((Below.refl _ _).alloc (Nat.le_refl _) _).alloc (by simp) _).trans B4; clear B4)
    | (at_builtin; go_must (refine append_bytes_nil w6 w3.heap.size a4 1 c4 [120] O4.out rfl (.tmp 69) (.tmp 72) rfl rfl rfl ?_)))
  have HB7 : Hid (Below w1.heap.size w1 w6) := hB0.trans ((B1'.mono hB0.size).trans (B4'.mono (Nat.le_trans hB0.size B1'.size)))
  have HQ5 : Hid (Bts w6 a4 1 [120]) := O4.out.bts
  refine (zblank_any _ _ _ [] true rfl w6 (by unfold maxLen; omega) (nil_bts _ _)).mono ?_
  rintro e w8 ⟨rfl, rfl⟩
  go_wp2_with fail
  refine (zblank_any _ _ _ [] true rfl w8 (by unfold maxLen; omega) (nil_bts _ _)).mono ?_
  rintro e w9 ⟨rfl, rfl⟩
  go_wp2_with fail
  refine (zblank_any _ _ _ [] true rfl w9 (by unfold maxLen; omega) (nil_bts _ _)).mono ?_
  rintro e w10 ⟨rfl, rfl⟩
  go_wp2_with fail
  refine (zblank_any _ _ _ [] true rfl w10 (by unfold maxLen; omega) (nil_bts _ _)).mono ?_
  rintro e w11 ⟨rfl, rfl⟩
  go_wp2_with fail
  refine (zblank_any _ _ _ [] true rfl w11 (by unfold maxLen; omega) (nil_bts _ _)).mono ?_
  rintro e w12 ⟨rfl, rfl⟩
  go_wp2_with fail
  refine (zblank_any _ _ _ [120] false (by decide) w12 (by unfold maxLen; omega) HQ5.out).mono ?_
  rintro e w13 ⟨rfl, rfl⟩
  go_wp2_with fail
  go_ret
  exact ⟨rfl, HB7.out⟩
end Go.Proofs.Qxb6619245a.Bytes
