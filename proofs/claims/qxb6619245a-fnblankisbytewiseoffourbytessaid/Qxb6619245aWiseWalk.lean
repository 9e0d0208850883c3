/- The walk of 'FnBlankIsByteWiseOfFourBytes'. -/
import Derived.Test.Qxb6619245aRowsOwn
namespace Go.Proofs.Qxb6619245a.Bytes
open Go.RowKit

/-- How many of the one-byte lines below k are blank. -/
def cnt (k : Nat) : Nat := (List.range k).countP fun (c : Nat) => sp (c : Int)
theorem cnt_step (k : Nat) : cnt (k + 1) = cnt k + if sp (k : Int) = true then 1 else 0 := by
  unfold cnt
  rw [List.range_succ, List.countP_append]
  simp [List.countP_cons]
theorem cnt_le (k : Nat) : cnt k ≤ k := by
  have := List.countP_le_length (p := fun c : Nat => sp (c : Int)) (l := List.range k)
  simpa [cnt] using this
theorem cnt_256 : cnt 256 = 4 := by decide +kernel

theorem one_bts {w : World} {g : Nat} {x : Int} (h : Row w g [x]) : Bts w (some ⟨g, 0, none⟩) 1 [x] := h.bts
theorem Row.btsN {w : World} {g n : Nat} {zs : List Int} (h : Row w g zs) (hn : zs.length = n) : Bts w (some ⟨g, 0, none⟩) n zs := hn ▸ h.bts
theorem one_all (x : Int) : [x].all sp = sp x := by simp

set_option maxRecDepth 100000 in
set_option maxHeartbeats 1000000 in
theorem wise_some (w : World) (ad : Addr) (n c : Nat) (zs : List Int) (hn : n ≤ 1048576) (hx : Bts w (some ad) n zs) :
    Calls Try.prog 6 #[.slice (some ad) n c] w fun e w' => e = .returned (.bool true) ∧ Below w.heap.size w w' := by
  have HX : Hid (Bts w (some ad) n zs) := hx
  have hne := fun (w : World) (n' c' : Nat) => run_neq_slice_nil_any (P := Try.prog) w 22 5 (some ad) n c n' c' Try.underlying22
  have hm1 := mk_len n (by omega)
  have hm2 : ∀ w, (Instr.makeSlice 22 (.int .i64 1) (.int .i64 1)).run Try.prog w = .ok (.slice (some ⟨w.heap.size, 0, none⟩) 1 1) (w.alloc (.cells (madeCells #[.int .u8 0] 1) 5)) := mk_len 1 (by omega)
  have HD : Hid (decide (n ≤ 1048576) = true) := decide_eq_true hn
  have LX : Hid (zs.length = n) := hx.1
  clear hx
  go_enter Try.func6, Try.ntmps6
  go_wp2_with fail
  refine (bytes15_any _ n c _ (by unfold maxLen; omega)).mono ?_
  rintro e w1 ⟨rfl, rfl⟩
  rw [HD.out]
  go_wp2_with (refine copy_bytes w1 n c ad zs HX.out rfl (.tmp 20) (.tmp 21) rfl rfl rfl ?_; intro w2 HR2 hB2; have hz2 := HR2.out.lt)
  obtain ⟨g, hg⟩ : ∃ g, w1.heap.size = g := ⟨_, rfl⟩
  have HG : Hid (w1.heap.size = g) := hg
  rw [hg] at HR2 hz2
  rw [hg]
  clear hg
  obtain ⟨go, hgo⟩ : ∃ go, w2.heap.size = go := ⟨_, rfl⟩
  have hP0 : Row (w2.alloc (.cells (madeCells #[.int .u8 0] 1) 5)) go [0] := by rw [← hgo]; exact Row.made w2 1
  have hL0 : Row (w2.alloc (.cells (madeCells #[.int .u8 0] 1) 5)) g zs := HR2.out.alloc _
  have hB0 : Below w1.heap.size w1 (w2.alloc (.cells (madeCells #[.int .u8 0] 1) 5)) := hB2.alloc hB2.size _
  rw [hgo]
  rw [hgo] at hz2
  have hgB : w1.heap.size ≤ go := by have := HG.out; omega
  generalize w2.alloc (.cells (madeCells #[.int .u8 0] 1) 5) = W0 at hP0 hL0 hB0 ⊢
  clear hgo HR2 hB2 HX hne hm1 hm2
  go_loopw [5, 6] (fun ct kv wv => ∃ (k l : Nat) (x : Int), k ≤ 256 ∧ kv = .int .i64 k ∧ ct = .int .i64 l ∧ l ≤ k ∧ Hid (l = cnt k) ∧ Row wv go [x] ∧ Row wv g zs ∧ Below w1.heap.size w1 wv) (fun _ kv _ => 256 - (intOf kv).toNat)
  case atStart => exact ⟨0, 0, 0, by omega, rfl, rfl, Nat.le_refl _, rfl, hP0, hL0, hB0⟩
  case round =>
    clear hP0 hL0 hB0
    obtain ⟨k, l, x, hk, rfl, rfl, hl, hc, hP, hL, hb⟩ := hrel
    by_cases hlt : k < 256
    · have ck := hP.cell (i := 0) (by simp)
      have fk := hP.fz 0
      have HP := hP.set 0 (k : Int)
      have HL := hL.other (a := ⟨go, 0, none⟩) (by show g ≠ go; omega) (.int .u8 (k : Int))
      have hb2 := Below.setCell (p := ⟨go, 0, none⟩) hb hgB (.int .u8 (k : Int))
      clear hP hL
      by_cases hs : sp (k : Int) = true
      · have HS : Hid (sp (k : Int) = true) := hs
        clear hs
        go_wp2_with fail
        refine (zblank_any _ _ _ [(k : Int)] true (by rw [one_all]; exact HS.out) _ (by unfold maxLen; omega) (one_bts HP)).mono ?_
        rintro e w3 ⟨rfl, rfl⟩
        go_wp2_with fail
        go_roundw
        case rel => exact ⟨k + 1, l + 1, _, by omega, by go_num, by go_num, by omega, by show l + 1 = _; rw [cnt_step, if_pos HS.out, hc.out], HP, HL, hb2⟩
        case measure => simp [intOf]; omega
      · have HS : Hid (sp (k : Int) = false) := Bool.eq_false_iff.2 hs
        clear hs
        go_wp2_with fail
        refine (zblank_any _ _ _ [(k : Int)] false (by rw [one_all]; exact HS.out) _ (by unfold maxLen; omega) (one_bts HP)).mono ?_
        rintro e w3 ⟨rfl, rfl⟩
        go_wp2_with fail
        go_roundw
        case rel => exact ⟨k + 1, l, _, by omega, by go_num, rfl, by omega, by show l = _; rw [cnt_step, if_neg (by rw [HS.out]; simp), hc.out]; rfl, HP, HL, hb2⟩
        case measure => simp [intOf]; omega
    · have HL4 : Hid (l = 4) := by have e : k = 256 := by omega
                                   show l = 4
                                   rw [hc.out, e]; exact cnt_256
      clear hc hl
      go_wp2_with fail
      go_loopw [7, 8] (fun al kv wv => ∃ (k : Nat) (r : Bool) (x : Int), k ≤ n ∧ kv = .int .i64 k ∧ al = .bool r ∧ Hid (r = (zs.take k).all sp) ∧ Row wv go [x] ∧ Row wv g zs ∧ Below w1.heap.size w1 wv) (fun _ kv _ => n - (intOf kv).toNat)
      case atStart => exact ⟨0, true, x, Nat.zero_le _, rfl, rfl, rfl, hP, hL, hb⟩
      case round =>
        clear hP hL hb
        obtain ⟨k, r, x, hk, rfl, rfl, hr, hP, hL, hb⟩ := hrel
        by_cases hlt : k < n
        · have cl := hL.cell (i := k) (by rw [LX.out]; exact hlt)
          have HT : Hid ((zs.take (k + 1)).all sp = ((zs.take k).all sp && sp (zs.getD k 0))) := by
            show _ = _
            have hk' : k < zs.length := by rw [LX.out]; exact hlt
            rw [List.take_succ_eq_append_getElem hk', List.all_append, List.getD_eq_getElem?_getD, List.getElem?_eq_getElem hk']
            simp
          obtain ⟨y, hy⟩ : ∃ y, zs.getD k 0 = y := ⟨_, rfl⟩
          rw [hy] at cl HT
          have ck := hP.cell (i := 0) (by simp)
          have fk := hP.fz 0
          have HP := hP.set 0 y
          have HL := hL.other (a := ⟨go, 0, none⟩) (by show g ≠ go; omega) (.int .u8 y)
          have hb2 := Below.setCell (p := ⟨go, 0, none⟩) hb hgB (.int .u8 y)
          have hki : (k : Int) < (n : Int) := by omega
          clear hP hL hy
          by_cases hs : sp y = true
          · have HS : Hid (sp y = true) := hs
            clear hs
            go_wp2_with fail
            refine (zblank_any _ _ _ [y] true (by rw [one_all]; exact HS.out) _ (by unfold maxLen; omega) (one_bts HP)).mono ?_
            rintro e w3 ⟨rfl, rfl⟩
            go_wp2_with fail
            go_roundw
            case rel => exact ⟨k + 1, r, _, by omega, by go_num, rfl, by show r = _; rw [HT.out, HS.out, Bool.and_true]; exact hr.out, HP, HL, hb2⟩
            case measure => simp [intOf]; omega
          · have HS : Hid (sp y = false) := Bool.eq_false_iff.2 hs
            clear hs
            go_wp2_with fail
            refine (zblank_any _ _ _ [y] false (by rw [one_all]; exact HS.out) _ (by unfold maxLen; omega) (one_bts HP)).mono ?_
            rintro e w3 ⟨rfl, rfl⟩
            go_wp2_with fail
            go_roundw
            case rel => exact ⟨k + 1, false, _, by omega, by go_num, rfl, by show false = _; rw [HT.out, HS.out, Bool.and_false], HP, HL, hb2⟩
            case measure => simp [intOf]; omega
        · have HR : Hid (zs.all sp = r) := by show _ = _; rw [hr.out, List.take_of_length_le (by rw [LX.out]; omega)]
          clear hr
          have hl4 : ((l : Int) == 4) = true := beq_iff_eq.2 (by have := HL4.out; omega)
          go_wp2_with fail
          refine (zblank_any _ _ _ zs r HR.out _ (by unfold maxLen; omega) (hL.btsN LX.out)).mono ?_
          rintro e w3 ⟨rfl, rfl⟩
          clear HR
          obtain rfl : l = 4 := HL4.out
          cases r <;> (go_wp2_with fail; go_ret; exact ⟨rfl, hb⟩)

set_option maxRecDepth 100000 in
set_option maxHeartbeats 400000 in
theorem wise_big (w : World) (a : Option Addr) (n c : Nat) (hn : n ≤ maxLen) (hb : 1048576 < n) :
    Calls Try.prog 6 #[.slice a n c] w fun e w' => e = .returned (.bool true) ∧ Below w.heap.size w w' := by
  have HD : Hid (decide (n ≤ 1048576) = false) := decide_eq_false (by omega)
  go_enter Try.func6, Try.ntmps6
  go_wp2_with fail
  refine (bytes15_any _ n c _ hn).mono ?_
  rintro e w1 ⟨rfl, rfl⟩
  rw [HD.out]
  go_wp2_with fail
  go_ret
  exact ⟨rfl, Below.refl _ _⟩

set_option maxRecDepth 100000 in
set_option maxHeartbeats 1000000 in
theorem wise_nil (w : World) : Calls Try.prog 6 #[.slice none 0 0] w fun e w' => e = .returned (.bool true) ∧ Below w.heap.size w w' := by
  have hne := fun (w : World) (n' c' : Nat) => run_neq_slice_nil_any (P := Try.prog) w 22 5 none 0 0 n' c' Try.underlying22
  have hm2 : ∀ w, (Instr.makeSlice 22 (.int .i64 1) (.int .i64 1)).run Try.prog w = .ok (.slice (some ⟨w.heap.size, 0, none⟩) 1 1) (w.alloc (.cells (madeCells #[.int .u8 0] 1) 5)) := mk_len 1 (by omega)
  go_enter Try.func6, Try.ntmps6
  go_wp2_with fail
  refine (bytes15_any _ 0 0 _ (by unfold maxLen; omega)).mono ?_
  rintro e w1 ⟨rfl, rfl⟩
  go_wp2_with fail
  obtain ⟨go, hgo⟩ : ∃ go, w1.heap.size = go := ⟨_, rfl⟩
  have hP0 : Row (w1.alloc (.cells (madeCells #[.int .u8 0] 1) 5)) go [0] := by rw [← hgo]; exact Row.made w1 1
  have hB0 : Below w1.heap.size w1 (w1.alloc (.cells (madeCells #[.int .u8 0] 1) 5)) := (Below.refl _ _).alloc (Nat.le_refl _) _
  have hgB : w1.heap.size ≤ go := Nat.le_of_eq hgo
  have HB0 : Hid (Below w1.heap.size w1 (w1.alloc (.cells (madeCells #[.int .u8 0] 1) 5))) := hB0
  have HGB : Hid (w1.heap.size ≤ go) := hgB
  clear hB0 hgB
  rw [hgo]
  generalize w1.alloc (.cells (madeCells #[.int .u8 0] 1) 5) = W0 at hP0 HB0 ⊢
  clear hgo hne hm2
  go_loopw [5, 6] (fun ct kv wv => ∃ (k l : Nat) (x : Int), k ≤ 256 ∧ kv = .int .i64 k ∧ ct = .int .i64 l ∧ l ≤ k ∧ Hid (l = cnt k) ∧ Row wv go [x] ∧ Hid (Below w1.heap.size w1 wv)) (fun _ kv _ => 256 - (intOf kv).toNat)
  case atStart => exact ⟨0, 0, 0, by omega, rfl, rfl, Nat.le_refl _, rfl, hP0, HB0⟩
  case round =>
    clear hP0 HB0
    obtain ⟨k, l, x, hk, rfl, rfl, hl, hc, hP, hb⟩ := hrel
    by_cases hlt : k < 256
    · have ck := hP.cell (i := 0) (by simp)
      have fk := hP.fz 0
      have HP := hP.set 0 (k : Int)
      have hb2 : Hid (Below w1.heap.size w1 (wr.setCell ⟨go, 0, none⟩ (.int .u8 (k : Int)))) := Below.setCell (p := ⟨go, 0, none⟩) hb.out HGB.out (.int .u8 (k : Int))
      clear hP
      by_cases hs : sp (k : Int) = true
      · have HS : Hid (sp (k : Int) = true) := hs
        clear hs
        go_wp2_with fail
        refine (zblank_any _ _ _ [(k : Int)] true (by rw [one_all]; exact HS.out) _ (by unfold maxLen; omega) (one_bts HP)).mono ?_
        rintro e w3 ⟨rfl, rfl⟩
        go_wp2_with fail
        go_roundw
        case rel => exact ⟨k + 1, l + 1, _, by omega, by go_num, by go_num, by omega, by show l + 1 = _; rw [cnt_step, if_pos HS.out, hc.out], HP, hb2⟩
        case measure => simp [intOf]; omega
      · have HS : Hid (sp (k : Int) = false) := Bool.eq_false_iff.2 hs
        clear hs
        go_wp2_with fail
        refine (zblank_any _ _ _ [(k : Int)] false (by rw [one_all]; exact HS.out) _ (by unfold maxLen; omega) (one_bts HP)).mono ?_
        rintro e w3 ⟨rfl, rfl⟩
        go_wp2_with fail
        go_roundw
        case rel => exact ⟨k + 1, l, _, by omega, by go_num, rfl, by omega, by show l = _; rw [cnt_step, if_neg (by rw [HS.out]; simp), hc.out]; rfl, HP, hb2⟩
        case measure => simp [intOf]; omega
    · have HL4 : Hid (l = 4) := by have e : k = 256 := by omega
                                   show l = 4
                                   rw [hc.out, e]; exact cnt_256
      clear hc hl
      have hl4 : ((l : Int) == 4) = true := beq_iff_eq.2 (by have := HL4.out; omega)
      go_wp2_with fail
      refine wp_loop_rounds 1 ?_
      rw [rounds_succ]
      go_wp2_with fail
      refine (zblank_any none 0 0 [] true rfl _ (by unfold maxLen; omega) ⟨rfl, .inl rfl⟩).mono ?_
      rintro e w3 ⟨rfl, rfl⟩
      go_wp2_with fail
      go_ret
      exact ⟨rfl, hb.out⟩
end Go.Proofs.Qxb6619245a.Bytes
