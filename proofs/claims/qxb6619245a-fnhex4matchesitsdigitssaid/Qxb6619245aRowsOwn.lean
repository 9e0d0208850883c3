/- Rows of bytes of the call's own: made, copied into, appended to. -/
import Derived.Test.Qxb6619245aBytes
import Derived.Laws.AppendOwnNone
namespace Go.Proofs.Qxb6619245a.Bytes
open Go.RowKit

theorem Try.info5 : (Try.prog.info? 5).map (fun i => (i.zero, i.size, i.bytes)) = some (some (.int .u8 0), 1, 1) := by kernel_rfl
theorem Try.size5 : (Try.prog.info? 5).map (·.size) = some 1 := by kernel_rfl

/-- 'make([]byte, 0, c)'. -/
theorem mk_cap (c : Nat) (x : Int) (hx : x = (c : Int)) (hc : c ≤ 1000000000) (w : World) :
    (Instr.makeSlice 22 (.int .i64 0) (.int .i64 x)).run Try.prog w = .ok (.slice (some ⟨w.heap.size, 0, none⟩) 0 c) (w.alloc (.cells (madeCells #[.int .u8 0] c) 5)) := by
  obtain ⟨i, hi, hz0, hz1, hz2⟩ := info_parts Try.info5
  have h := run_make (P := Try.prog) w 22 5 i (.int .u8 0) Try.underlying22 hi hz0 .i64 .i64 0 (c : Int) (Int.le_refl _) (by omega) (by rw [hz2]; omega) (by omega)
  rw [hz1, Nat.mul_one] at h
  rw [hx]
  exact h
/-- 'make([]byte, n)'. -/
theorem mk_len (n : Nat) (hn : n ≤ 1000000000) (w : World) :
    (Instr.makeSlice 22 (.int .i64 (n : Int)) (.int .i64 (n : Int))).run Try.prog w = .ok (.slice (some ⟨w.heap.size, 0, none⟩) n n) (w.alloc (.cells (madeCells #[.int .u8 0] n) 5)) :=
  run_make_row' (P := Try.prog) 22 5 (.int .u8 0) 1 Try.underlying22 Try.info5 rfl .i64 .i64 n (by omega) (by omega) w

theorem map_get (l : List Int) (i : Nat) (h : i < l.length) : (l.map (Value.int .u8))[i]? = some (.int .u8 (l.getD i 0)) := by
  simp [List.getD_eq_getElem?_getD, h]

/-- A row of bytes that begins its block: block g, the bytes zs. -/
def Row (w : World) (g : Nat) (zs : List Int) : Prop := w.heap[g]? = some (.cells (zs.map (Value.int .u8)).toArray 5 (0, 0))
section
variable {w w' : World} {g : Nat} {zs : List Int}
theorem Row.lt (h : Row w g zs) : g < w.heap.size := lt_of_block h
theorem Row.cell (h : Row w g zs) {i : Nat} (hi : i < zs.length) : w.cell? ⟨g, i, none⟩ = some (.int .u8 (zs.getD i 0)) := by
  rw [cell_of_row w g i _ 5 (0, 0) h]; simpa using map_get zs i hi
theorem Row.fz (h : Row w g zs) (i : Nat) : w.frozen? ⟨g, i, none⟩ = false := frozen_of_row w g i _ 5 h
theorem Row.keep {B : Nat} (h : Row w g zs) (hb : Below B w w') (hg : g < B) : Row w' g zs := by unfold Row; rw [hb.block g hg]; exact h
theorem Row.alloc (h : Row w g zs) (o : Obj) : Row (w.alloc o) g zs := by unfold Row; rw [Below.heap_alloc w o g h.lt]; exact h
theorem Row.other (h : Row w g zs) {a : Addr} (ha : g ≠ a.block) (u : Value) : Row (w.setCell a u) g zs := by unfold Row; rw [Below.heap_setCell _ _ _ _ ha]; exact h
theorem Row.set (h : Row w g zs) (i : Nat) (v : Int) : Row (w.setCell ⟨g, i, none⟩ (.int .u8 v)) g (zs.set i v) := by
  unfold Row
  rw [heap_setCell_same w g i _ 5 _ h]
  simp [List.map_set]
theorem Row.bts (h : Row w g zs) : Bts w (some ⟨g, 0, none⟩) zs.length zs := ⟨rfl, .inr ⟨g, 0, rfl, fun i hi => by rw [Nat.zero_add]; exact h.cell hi⟩⟩
/-- A stretch of the row. -/
theorem Row.part (h : Row w g zs) (o n : Nat) (ho : o + n ≤ zs.length) : Bts w (some ⟨g, o, none⟩) n ((zs.drop o).take n) := by
  refine ⟨by simp; omega, .inr ⟨g, o, rfl, fun i hi => ?_⟩⟩
  rw [h.cell (by omega), List.getD_eq_getElem?_getD, List.getD_eq_getElem?_getD, List.getElem?_take, if_pos hi, List.getElem?_drop]
theorem Row.made (w : World) (n : Nat) : Row (w.alloc (.cells (madeCells #[.int .u8 0] n) 5)) w.heap.size (List.replicate n 0) := by
  unfold Row
  rw [heap_alloc_new w _, List.map_replicate]
  congr 2
  apply Array.toList_inj.1
  rw [toList_madeCells_one]
end

theorem Bts.keep {w w' : World} {B : Nat} {a : Option Addr} {n : Nat} {zs : List Int} (h : Bts w a n zs) (hb : Below B w w') (ha : ∀ x, a = some x → 0 < n → x.block < B) : Bts w' a n zs := by
  refine ⟨h.1, ?_⟩
  rcases h.2 with h0 | ⟨b, off, e, hc⟩
  · exact .inl h0
  · by_cases h0 : n = 0
    · exact .inl h0
    · refine .inr ⟨b, off, e, fun i hi => ?_⟩
      rw [hb.cell (p := ⟨b, off + i, none⟩) (ha ⟨b, off, none⟩ e (by omega))]; exact hc i hi

/-- The cells of a slice of bytes, as the laws on copy and append ask them. -/
theorem Bts.news {w : World} {ad : Addr} {n : Nat} {zs : List Int} (h : Bts w (some ad) n zs) : ∀ j u, (zs.map (Value.int .u8))[j]? = some u → w.cell? (ad.add j) = some u := by
  intro j u hu
  have hj : j < zs.length := by
    rcases Nat.lt_or_ge j zs.length with h' | h'
    · exact h'
    · rw [List.getElem?_eq_none (by simpa using h')] at hu; cases hu
  rw [map_get _ _ hj] at hu
  rcases h.2 with h0 | ⟨b, off, e, hc⟩
  · have := h.1; omega
  · simp only [Option.some.injEq] at e
    subst e
    rw [WideShapes.add_plain, hc j (by rw [← h.1]; exact hj)]
    exact hu

theorem own_shape {w : World} {base n : Nat} {v : Value} {x : List Value} (h : w.ownsRow base 5 1 v n x) : ∃ a c, v = .slice a n c := by
  rcases h.2 with ⟨rfl, h0⟩ | ⟨g, cap, cur, rfl, _⟩
  · exact ⟨none, 0, by rw [h0]⟩
  · exact ⟨_, _, rfl⟩
/-- What was built by append reads as its bytes. -/
theorem own_bts {w : World} {base n c : Nat} {a : Option Addr} {zs : List Int} (h : w.ownsRow base 5 1 (.slice a n c) n (zs.map (Value.int .u8))) : Bts w a n zs := by
  have hl : zs.length = n := by simpa using h.1
  refine ⟨hl, ?_⟩
  rcases h.2 with ⟨_, h0⟩ | ⟨g, cap, cur, hv, _⟩
  · exact .inl h0
  · simp only [Value.slice.injEq] at hv
    obtain ⟨rfl, _, rfl⟩ := hv
    refine .inr ⟨g, 0, rfl, fun i hi => ?_⟩
    rw [Nat.zero_add, h.cellAt i (by omega)]
    exact map_get zs i (by omega)
theorem own_block {w : World} {base n c : Nat} {a : Option Addr} {xs : List Value} (h : w.ownsRow base 5 1 (.slice a n c) n xs) : ∀ x, a = some x → 0 < n → x.block < w.heap.size := by
  intro x e _
  subst e
  exact (h.lt x.block rfl).2

/-- 'zzc := make([]byte, len(b)); copy(zzc, b)': the new row holds b's bytes. -/
theorem copy_bytes {ops : Array Oper} {rest : List Oper} {o : Oper} {a : Act} {Q : Exit → Act → World → Prop} (w0 : World) (n c : Nat) (ad : Addr) (zs : List Int) (hx : Bts w0 (some ad) n zs) (hgd : o.guard = none) (d s : Operand)
    (ho : o.op = .call { callee := .builtin .copy, args := #[d, s], argTypes := #[22, 22] }) (hd : a.eval d = .slice (some ⟨w0.heap.size, 0, none⟩) n n) (hs : a.eval s = .slice (some ad) n c)
    (h : ∀ w', Hid (Row w' w0.heap.size zs) → Below w0.heap.size w0 w' → wpList Try.prog ops Q rest (a.put o.dst (goInt n)) w') :
    wpList Try.prog ops Q (o :: rest) a (w0.alloc (.cells (madeCells #[.int .u8 0] n) 5)) := by
  have hl : (zs.map (Value.int .u8)).length = n := by simpa using hx.1
  have hrow : (w0.alloc (.cells (madeCells #[.int .u8 0] n) 5)).heap[w0.heap.size]? = some (.cells (List.replicate n (.int .u8 0)).toArray 5 (0, 0)) := by
    have := Row.made w0 n
    unfold Row at this
    rw [List.map_replicate] at this
    exact this
  refine wpList_copy_splice hgd d s 22 22 ho 5 Try.underlying22 Try.size5 _ _ n n n c hd hs w0.heap.size 0 (List.replicate n (.int .u8 0)) 5 hrow (zs.map (Value.int .u8)) (by rw [hl]; exact (Nat.min_self n).symm)
    (fun _ => ⟨rfl, ad, rfl, fun j v hv => ?_⟩) (by simp; simpa using Nat.le_of_eq hl) (ints_oneCell _ _) w0.heap.size w0 ((Below.refl _ _).alloc (Nat.le_refl _) _) (Nat.le_refl _) ?_
  · have := hx.news j v hv
    have hlt := World.block_lt_of_cell? w0 _ this
    rw [Below.cell (B := w0.heap.size) (w := w0) ((Below.refl _ _).alloc (Nat.le_refl _) _) hlt]
    exact this
  · intro w' hr hb
    rw [hl]
    refine h w' ?_ hb
    show w'.heap[w0.heap.size]? = _
    rw [hr.out]
    have e : splice (List.replicate n (Value.int .u8 0)) 0 (zs.map (Value.int .u8)) = zs.map (Value.int .u8) := by
      unfold splice
      rw [List.take_zero, List.nil_append, List.drop_of_length_le (by rw [hl]; simp), List.append_nil]
    rw [e]

/-- The bytes xs, built by append, in blocks from 'base' on. -/
def Own (w : World) (base : Nat) (a : Option Addr) (n c : Nat) (xs : List Int) : Prop := w.ownsRow base 5 1 (.slice a n c) n (xs.map (Value.int .u8))
theorem Own.bts {w : World} {base n c : Nat} {a : Option Addr} {xs : List Int} (h : Own w base a n c xs) : Bts w a n xs := own_bts h
theorem Own.block {w : World} {base n c : Nat} {a : Option Addr} {xs : List Int} (h : Own w base a n c xs) : ∀ x, a = some x → 0 < n → x.block < w.heap.size := own_block h
theorem Own.made (w : World) (c : Nat) (hc : c ≤ 1000000000) : Own (w.alloc (.cells (madeCells #[.int .u8 0] c) 5)) w.heap.size (some ⟨w.heap.size, 0, none⟩) 0 c [] :=
  World.ownsRow_made (base := w.heap.size) (e := 5) (size := 1) w (madeCells #[.int .u8 0] c) c (Nat.le_refl _) (by unfold maxLen; omega) (by simp [madeCells])
theorem Own.alloc {w : World} {base n c : Nat} {a : Option Addr} {xs : List Int} (h : Own w base a n c xs) (o : Obj) : Own (w.alloc o) base a n c xs := World.ownsRow.alloc h o

theorem append_bytes {ops : Array Oper} {rest : List Oper} {o : Oper} {a : Act} {Q : Exit → Act → World → Prop} (w : World) (base : Nat) (va : Option Addr) (n vc : Nat) (xs : List Int) (hown : Own w base va n vc xs)
    (ad : Addr) (m c : Nat) (zs : List Int) (hx : Bts w (some ad) m zs) (hnm : n + m ≤ 1000000000) (hbase : base ≤ w.heap.size) (hgd : o.guard = none) (s x : Operand)
    (ho : o.op = .call { callee := .builtin .append, args := #[s, x], argTypes := #[22, 22] }) (hs : a.eval s = .slice va n vc) (hxe : a.eval x = .slice (some ad) m c)
    (h : ∀ a' c' w', Hid (Own w' base a' (n + m) c' (xs ++ zs)) → Below base w w' → wpList Try.prog ops Q rest (a.put o.dst (.slice a' (n + m) c')) w') :
    wpList Try.prog ops Q (o :: rest) a w := by
  obtain ⟨i0, hi, hz0, hz1, hz2⟩ := info_parts Try.info5
  refine wpList_append_own (P := Try.prog) w hgd s x 22 ho base 5 i0 (.int .u8 0) 1 1 Try.underlying22 hi hz0 hz1 hz2 rfl (by decide) _ n (xs.map (Value.int .u8)) hs hown ad m c (zs.map (Value.int .u8)) hxe (by simpa using hx.1) hx.news (ints_oneCell _ _) (by unfold maxLen; omega) (by omega) hbase ?_
  intro v' w' ho' hg' _
  obtain ⟨a', c', rfl⟩ := own_shape ho'
  refine h a' c' w' (show w'.ownsRow _ _ _ _ _ _ by rw [List.map_append]; exact ho') ((Below.refl _ _).grown hg' hbase (fun k e => (hown.lt k e).1))

theorem append_bytes_nil {ops : Array Oper} {rest : List Oper} {o : Oper} {a : Act} {Q : Exit → Act → World → Prop} (w : World) (base : Nat) (va : Option Addr) (n vc : Nat) (xs : List Int) (hown : Own w base va n vc xs)
    (hgd : o.guard = none) (s x : Operand) (ho : o.op = .call { callee := .builtin .append, args := #[s, x], argTypes := #[22, 22] }) (hs : a.eval s = .slice va n vc) (hxe : a.eval x = .slice none 0 0)
    (h : wpList Try.prog ops Q rest (a.put o.dst (.slice va n vc)) w) : wpList Try.prog ops Q (o :: rest) a w := by
  obtain ⟨i0, hi, hz0, hz1, hz2⟩ := info_parts Try.info5
  exact wpList_append_own_none (P := Try.prog) hgd s x 22 ho base 5 i0 1 Try.underlying22 hi _ n (xs.map (Value.int .u8)) hs hown hxe h
end Go.Proofs.Qxb6619245a.Bytes
