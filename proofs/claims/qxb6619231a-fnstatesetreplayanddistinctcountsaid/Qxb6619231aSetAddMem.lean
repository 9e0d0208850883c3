/- What 'add' does to the set's memory, outside the walk. -/
import Derived.Test.Qxb6619231aSetGrow
namespace Go.Proofs.Qxb6619231a.StateSet
open Go.RowKit

theorem rows_apart {w : World} {base e1 e2 n1 n2 : Nat} {v1 v2 : Value} {x1 x2 : List Value} (h1 : w.ownsRow base e1 1 v1 n1 x1) (h2 : w.ownsRow base e2 1 v2 n2 x2) (he : e1 ≠ e2) :
    v1.ownBlock = none ∨ v1.ownBlock ≠ v2.ownBlock := by
  rcases h1.2 with ⟨rfl, _⟩ | ⟨g1, cap1, cur1, rfl, _, hh1, _⟩
  · exact .inl rfl
  · right
    intro e
    rcases h2.2 with ⟨rfl, _⟩ | ⟨g2, cap2, cur2, rfl, _, hh2, _⟩
    · simp [Value.ownBlock] at e
    · simp [Value.ownBlock] at e
      rw [← e, hh1] at hh2
      simp at hh2
      exact he hh2.2

theorem own_shape {w : World} {base e n : Nat} {v : Value} {x : List Value} (h : w.ownsRow base e 1 v n x) : ∃ a c, v = .slice a n c := by
  rcases h.2 with ⟨rfl, h0⟩ | ⟨g, cap, cur, rfl, _⟩
  · exact ⟨none, 0, by rw [h0]⟩
  · exact ⟨_, _, rfl⟩

section
variable {w : World} {B : Nat} {sa : Option Addr} {L sc : Nat} {sl : List Int} {ka : Option Addr} {kn kc : Nat} {fl : List Int} {n : Nat}

/-- Behind the two appends: the header's block is as it was; the slots' row too; the keys' row is the new one. -/
structure Mid (w4 : World) (B : Nat) (sa : Option Addr) (L sc : Nat) (sl : List Int) (ka : Option Addr) (kn kc : Nat) (v4 : Value) (k4 : Nat) (fl4 : List Int) (n : Nat) : Prop where
  blk : w4.heap[B]? = some (.cells #[.slice sa L sc, .slice ka kn kc, .int .i64 n] 31 (0, 0))
  slots : w4.ownsRow (B + 1) 21 1 (.slice sa L sc) L (sl.map (Value.int .i32))
  keys : w4.ownsRow (B + 1) 3 1 v4 k4 (fl4.map (Value.int .i64))

theorem own_ne {w : World} {B e n : Nat} {v : Value} {x : List Value} (h : w.ownsRow (B + 1) e 1 v n x) : some B ≠ v.ownBlock := by
  intro e
  have := (h.lt B e.symm).1
  omega

theorem Mem.mid (h : Mem w B sa L sc sl ka kn kc fl n) : Mid w B sa L sc sl ka kn kc (.slice ka kn kc) kn fl n := ⟨h.blk, h.slots, h.keys⟩
theorem Mid.lt {v4 : Value} {k4 : Nat} {fl4 : List Int} (h : Mid w B sa L sc sl ka kn kc v4 k4 fl4 n) : B < w.heap.size := lt_of_block h.blk
theorem Mid.alloc {v4 : Value} {k4 : Nat} {fl4 : List Int} (h : Mid w B sa L sc sl ka kn kc v4 k4 fl4 n) (o : Obj) : Mid (w.alloc o) B sa L sc sl ka kn kc v4 k4 fl4 n :=
  ⟨by rw [Below.heap_alloc w o B h.lt]; exact h.blk, h.slots.alloc o, h.keys.alloc o⟩
theorem Mid.append {v4 v5 : Value} {k4 k5 : Nat} {fl4 fl5 : List Int} {w' : World} (h : Mid w B sa L sc sl ka kn kc v4 k4 fl4 n) (hg : w.grownBy w' v4.ownBlock)
    (ho : w'.ownsRow (B + 1) 3 1 v5 k5 (fl5.map (Value.int .i64))) : Mid w' B sa L sc sl ka kn kc v5 k5 fl5 n :=
  ⟨by rw [hg.block B h.lt (own_ne h.keys)]; exact h.blk, h.slots.kept hg (rows_apart h.slots h.keys (by decide)), ho⟩
theorem Mid.appBelow {w0 w' : World} {v4 : Value} {k4 : Nat} {fl4 : List Int} (h : Mid w B sa L sc sl ka kn kc v4 k4 fl4 n) (hb : Below B w0 w) (hg : w.grownBy w' v4.ownBlock) : Below B w0 w' :=
  hb.grown hg (Nat.le_of_lt h.lt) (fun k e => by have := (h.keys.lt k e).1; omega)
theorem Mid.c1 {v4 : Value} {k4 : Nat} {fl4 : List Int} (h : Mid w B sa L sc sl ka kn kc v4 k4 fl4 n) : w.cell? ⟨B, 1, none⟩ = some (.slice ka kn kc) := by simp [World.cell?, h.blk]
theorem Mid.c2 {v4 : Value} {k4 : Nat} {fl4 : List Int} (h : Mid w B sa L sc sl ka kn kc v4 k4 fl4 n) : w.cell? ⟨B, 2, none⟩ = some (.int .i64 n) := by simp [World.cell?, h.blk]
theorem Mid.fz {v4 : Value} {k4 : Nat} {fl4 : List Int} (h : Mid w B sa L sc sl ka kn kc v4 k4 fl4 n) (j : Nat) : w.frozen? ⟨B, j, none⟩ = false := frozen_of_row w B j _ _ h.blk
/-- 's.keys = ..; s.n++'. -/
theorem Mid.done {a4 : Option Addr} {c4 k4 : Nat} {fl4 : List Int} (h : Mid w B sa L sc sl ka kn kc (.slice a4 k4 c4) k4 fl4 n) :
    Mem ((w.setCell ⟨B, 1, none⟩ (.slice a4 k4 c4)).setCell ⟨B, 2, none⟩ (.int .i64 ((n : Int) + 1))) B sa L sc sl a4 k4 c4 fl4 (n + 1) := by
  have b1 := heap_setCell_same w B 1 _ 31 (.slice a4 k4 c4) h.blk
  have b2 := heap_setCell_same _ B 2 _ 31 (.int .i64 ((n : Int) + 1)) b1
  refine ⟨?_, ownsRow_setCell_below (ownsRow_setCell_below h.slots (by show B < B + 1; omega) _) (by show B < B + 1; omega) _, ownsRow_setCell_below (ownsRow_setCell_below h.keys (by show B < B + 1; omega) _) (by show B < B + 1; omega) _⟩
  rw [b2]; simp
end

/-- The set, with the keys ks in it. -/
def St (w : World) (B wd : Nat) (ks : List (List Int)) : Prop :=
  ∃ sa L sc sl ka kn kc, Mem w B sa L sc sl ka kn kc ks.flatten ks.length ∧ Tab wd L (hs L) sl ks ∧ (∀ k ∈ ks, k.length = 1 + wd) ∧ 2 * ks.length ≤ L ∧ (L = 0 ∨ 16 ≤ L) ∧ L ≤ 4 * ks.length + 16

theorem ints_below {w w' : World} {B : Nat} {a : Option Addr} {n : Nat} {zs : List Int} (h : Ints w a n zs) (hb : Below B w w') (ha : ∀ x, a = some x → 0 < n → x.block < B) : Ints w' a n zs := by
  refine ⟨h.1, ?_⟩
  rcases h.2 with h0 | ⟨b, off, e, hc⟩
  · exact .inl h0
  · by_cases h0 : n = 0
    · exact .inl h0
    · refine .inr ⟨b, off, e, fun i hi => ?_⟩
      rw [hb.cell (p := ⟨b, off + i, none⟩) (ha ⟨b, off, none⟩ e (by omega))]; exact hc i hi

/-- The source of 'append(.., counters...)', as the law asks it. -/
theorem ints_news {w : World} {ad : Addr} {n : Nat} {zs : List Int} (h : Ints w (some ad) n zs) : ∀ j u, (zs.map (Value.int .i64))[j]? = some u → w.cell? (ad.add j) = some u := by
  intro j u hu
  have hj : j < zs.length := by
    rcases Nat.lt_or_ge j zs.length with h' | h'
    · exact h'
    · rw [List.getElem?_eq_none (by simpa using h')] at hu; cases hu
  rw [map_get _ _ _ hj] at hu
  rcases h.2 with h0 | ⟨b, off, e, hc⟩
  · have := h.1; omega
  · simp only [Option.some.injEq] at e
    subst e
    rw [WideShapes.add_plain, hc j (by rw [← h.1]; exact hj)]
    exact hu
end Go.Proofs.Qxb6619231a.StateSet
