/- The state set as it lies in memory: three cells at block B (slots, keys, n), the slots' row and the keys' row in blocks of the call's own. -/
import Derived.Test.Qxb6619231aSetCmp
import Derived.Test.Qxb6619231aSetPlain
import Derived.Deep.OwnRows
namespace Go.Proofs.Qxb6619231a.StateSet
open Go.RowKit

structure Mem (w : World) (B : Nat) (sa : Option Addr) (L sc : Nat) (sl : List Int) (ka : Option Addr) (kn kc : Nat) (fl : List Int) (n : Nat) : Prop where
  blk : w.heap[B]? = some (.cells #[.slice sa L sc, .slice ka kn kc, .int .i64 n] 31 (0, 0))
  slots : w.ownsRow (B + 1) 21 1 (.slice sa L sc) L (sl.map (Value.int .i32))
  keys : w.ownsRow (B + 1) 3 1 (.slice ka kn kc) kn (fl.map (Value.int .i64))

section
variable {w : World} {B : Nat} {sa : Option Addr} {L sc : Nat} {sl : List Int} {ka : Option Addr} {kn kc : Nat} {fl : List Int} {n : Nat}

theorem Mem.lt (h : Mem w B sa L sc sl ka kn kc fl n) : B < w.heap.size := lt_of_block h.blk
theorem Mem.c0 (h : Mem w B sa L sc sl ka kn kc fl n) : w.cell? ⟨B, 0, none⟩ = some (.slice sa L sc) := by simp [World.cell?, h.blk]
theorem Mem.c1 (h : Mem w B sa L sc sl ka kn kc fl n) : w.cell? ⟨B, 1, none⟩ = some (.slice ka kn kc) := by simp [World.cell?, h.blk]
theorem Mem.c2 (h : Mem w B sa L sc sl ka kn kc fl n) : w.cell? ⟨B, 2, none⟩ = some (.int .i64 n) := by simp [World.cell?, h.blk]
theorem Mem.fz (h : Mem w B sa L sc sl ka kn kc fl n) (j : Nat) : w.frozen? ⟨B, j, none⟩ = false := frozen_of_row w B j _ _ h.blk
theorem Mem.slen (h : Mem w B sa L sc sl ka kn kc fl n) : sl.length = L := by simpa using h.slots.1
theorem Mem.flen (h : Mem w B sa L sc sl ka kn kc fl n) : fl.length = kn := by simpa using h.keys.1
theorem Mem.drewN (h : Mem w B sa L sc sl ka kn kc fl n) (m : Nat) : Mem (w.drewN m) B sa L sc sl ka kn kc fl n := ⟨h.blk, h.slots, h.keys⟩
theorem Mem.drew (h : Mem w B sa L sc sl ka kn kc fl n) : Mem w.drew B sa L sc sl ka kn kc fl n := ⟨h.blk, h.slots, h.keys⟩
theorem Mem.alloc (h : Mem w B sa L sc sl ka kn kc fl n) (o : Obj) : Mem (w.alloc o) B sa L sc sl ka kn kc fl n :=
  ⟨by rw [Below.heap_alloc w o B h.lt]; exact h.blk, h.slots.alloc o, h.keys.alloc o⟩
/-- What is not below B + 1 may grow: the set stands while blocks below are kept, and its own rows. -/
theorem Mem.saddr (h : Mem w B sa L sc sl ka kn kc fl n) (hL : 0 < L) : ∃ g, sa = some ⟨g, 0, none⟩ ∧ B < g := by
  rcases h.slots.2 with ⟨_, h0⟩ | ⟨g, cap, cur, hv, hg, _⟩
  · omega
  · simp only [Value.slice.injEq] at hv; exact ⟨g, hv.1, hg⟩
theorem Mem.kaddr (h : Mem w B sa L sc sl ka kn kc fl n) (hL : 0 < kn) : ∃ g, ka = some ⟨g, 0, none⟩ ∧ B < g := by
  rcases h.keys.2 with ⟨_, h0⟩ | ⟨g, cap, cur, hv, hg, _⟩
  · omega
  · simp only [Value.slice.injEq] at hv; exact ⟨g, hv.1, hg⟩
theorem Mem.kcap (h : Mem w B sa L sc sl ka kn kc fl n) : kn ≤ kc ∧ kc ≤ maxLen := by
  rcases h.keys.2 with ⟨hv, h0⟩ | ⟨g, cap, cur, hv, hg, _, h1, h2, _⟩
  · simp only [Value.slice.injEq] at hv
    obtain ⟨_, h1, h2⟩ := hv
    exact ⟨by omega, by rw [h2]; exact Nat.zero_le _⟩
  · simp only [Value.slice.injEq] at hv
    obtain ⟨_, _, rfl⟩ := hv
    exact ⟨h1, h2⟩
theorem Mem.scap (h : Mem w B sa L sc sl ka kn kc fl n) : L ≤ sc ∧ sc ≤ maxLen := by
  rcases h.slots.2 with ⟨hv, h0⟩ | ⟨g, cap, cur, hv, hg, _, h1, h2, _⟩
  · simp only [Value.slice.injEq] at hv
    obtain ⟨_, h1, h2⟩ := hv
    exact ⟨by omega, by rw [h2]; exact Nat.zero_le _⟩
  · simp only [Value.slice.injEq] at hv
    obtain ⟨_, _, rfl⟩ := hv
    exact ⟨h1, h2⟩

theorem map_get (k : IntKind) (l : List Int) (i : Nat) (h : i < l.length) : (l.map (Value.int k))[i]? = some (.int k (l.getD i 0)) := by
  simp [List.getD_eq_getElem?_getD, h]
theorem Mem.slot {g : Nat} (h : Mem w B (some ⟨g, 0, none⟩) L sc sl ka kn kc fl n) {i : Nat} (hi : i < L) : w.cell? ⟨g, i, none⟩ = some (.int .i32 (sl.getD i 0)) := by
  rw [h.slots.cellAt i (by omega)]; exact map_get _ _ _ (by rw [h.slen]; exact hi)
theorem Mem.sfz {g : Nat} (h : Mem w B (some ⟨g, 0, none⟩) L sc sl ka kn kc fl n) (i : Nat) : w.frozen? ⟨g, i, none⟩ = false := h.slots.frozenAt i
theorem Mem.key {g : Nat} (h : Mem w B sa L sc sl (some ⟨g, 0, none⟩) kn kc fl n) {i : Nat} (hi : i < kn) : w.cell? ⟨g, i, none⟩ = some (.int .i64 (fl.getD i 0)) := by
  rw [h.keys.cellAt i (by omega)]; exact map_get _ _ _ (by rw [h.flen]; exact hi)

/-- The two rows lie in two blocks: their element types differ. -/
theorem Mem.apart {g : Nat} (h : Mem w B (some ⟨g, 0, none⟩) L sc sl ka kn kc fl n) : (Value.slice ka kn kc).ownBlock ≠ some g := by
  intro e
  rcases h.slots.2 with ⟨hv, _⟩ | ⟨g1, cap1, cur1, hv1, _, hh1, _⟩
  · simp at hv
  simp only [Value.slice.injEq, Option.some.injEq, Addr.mk.injEq, and_true, true_and] at hv1
  rcases h.keys.2 with ⟨hv, _⟩ | ⟨g2, cap2, cur2, hv2, _, hh2, _⟩
  · rw [hv] at e; simp [Value.ownBlock] at e
  rw [hv2] at e
  simp [Value.ownBlock] at e
  rw [e, hv1.1, hh1] at hh2
  simp at hh2

/-- A store into a slot. -/
theorem Mem.put {g : Nat} (h : Mem w B (some ⟨g, 0, none⟩) L sc sl ka kn kc fl n) (i : Nat) (v : Int) (hL : 0 < L) :
    Mem (w.setCell ⟨g, i, none⟩ (.int .i32 v)) B (some ⟨g, 0, none⟩) L sc (sl.set i v) ka kn kc fl n := by
  obtain ⟨g', e, hg⟩ := h.saddr hL
  obtain rfl : g = g' := by simpa using e
  refine ⟨?_, ?_, ownsRow_setCell_other h.keys h.apart _⟩
  · rw [Below.heap_setCell _ _ _ _ (by show B ≠ g; omega)]; exact h.blk
  · rw [List.map_set]; exact (h.slots.stored i _).1

/-- 's.slots = make([]int32, N)'. -/
theorem Mem.fresh (h : Mem w B sa L sc sl ka kn kc fl n) (N : Nat) (hN : N ≤ maxLen) :
    Mem ((w.setCell ⟨B, 0, none⟩ (.slice (some ⟨w.heap.size, 0, none⟩) N N)).alloc (.cells (madeCells #[.int .i32 0] N) 21)) B (some ⟨w.heap.size, 0, none⟩) N N (List.replicate N 0) ka kn kc fl n := by
  have hs : (w.setCell ⟨B, 0, none⟩ (.slice (some ⟨w.heap.size, 0, none⟩) N N)).heap.size = w.heap.size := by simp
  refine ⟨?_, ?_, World.ownsRow.alloc (ownsRow_setCell_below h.keys (by show B < B + 1; omega) _) _⟩
  · rw [Below.heap_alloc _ _ _ (by rw [hs]; exact h.lt), heap_setCell_same _ B 0 _ 31 _ h.blk]; simp
  · have := World.ownsRow_lit (base := B + 1) (e := 21) (size := 1) (w.setCell ⟨B, 0, none⟩ (.slice (some ⟨w.heap.size, 0, none⟩) N N)) (madeCells #[.int .i32 0] N) N (by rw [hs]; exact h.lt) hN (by simp [madeCells])
    rw [toList_madeCells_one, hs] at this
    simpa [List.map_replicate] using this

theorem fresh_below (w : World) (B : Nat) (v : Value) (o : Obj) (hB : B < w.heap.size) : Below B w ((w.setCell ⟨B, 0, none⟩ v).alloc o) :=
  Below.alloc (Below.setCell (p := ⟨B, 0, none⟩) (Below.refl B w) (Nat.le_refl B) v) (by simp; omega) o

/-- Key number j in the flat row. -/
theorem key_parts {ks : List (List Int)} {wd j : Nat} (hk : ∀ k ∈ ks, k.length = 1 + wd) (hj : j < ks.length) :
    ∃ pc zs, ks.getD j [] = pc :: zs ∧ zs.length = wd ∧ ks.flatten.getD (j * (1 + wd)) 0 = pc ∧ ∀ i, i < wd → ks.flatten.getD (j * (1 + wd) + 1 + i) 0 = zs.getD i 0 := by
  have hin : ks.getD j [] ∈ ks := by rw [List.getD_eq_getElem?_getD, List.getElem?_eq_getElem hj]; exact List.getElem_mem hj
  have hl := hk _ hin
  have hg := flat_get ks (1 + wd) hk j
  cases e : ks.getD j [] with
  | nil => rw [e] at hl; simp at hl; omega
  | cons pc zs =>
    rw [e] at hl hg
    refine ⟨pc, zs, rfl, by simp at hl; omega, ?_, fun i hi => ?_⟩
    · simpa using hg 0 hj (by omega)
    · have := hg (1 + i) hj (by omega)
      rw [← Nat.add_assoc] at this
      rw [this, Nat.add_comm 1 i, List.getD_cons_succ]

theorem Mem.ints {g : Nat} (h : Mem w B sa L sc sl (some ⟨g, 0, none⟩) kn kc fl n) {p wd : Nat} {zs : List Int} (hp : p + 1 + wd ≤ kn) (hz : zs.length = wd) (hg : ∀ i, i < wd → fl.getD (p + 1 + i) 0 = zs.getD i 0) :
    Ints w (some ⟨g, p + 1, none⟩) wd zs := by
  refine ⟨hz, .inr ⟨g, p + 1, rfl, fun i hi => ?_⟩⟩
  rw [h.key (by omega), hg i hi]
end
end Go.Proofs.Qxb6619231a.StateSet
