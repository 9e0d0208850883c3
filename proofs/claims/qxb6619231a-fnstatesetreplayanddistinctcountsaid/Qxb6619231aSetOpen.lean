/- The argument '[]ZZState' opened: at each index the two cells, the counters' numbers. -/
import Derived.Test.Qxb6619231aSetScript
import Derived.ProofKit
import Derived.Deep.SlicePairs
namespace Go.Proofs.Qxb6619231a.StateSet
open Go.ChangeShapes Go.WideShapes Go.RowKit Go.Deep

theorem Try.cells3 : Try.prog.cellsOf 3 = 1 := by kernel_rfl
theorem Try.cells26 : Try.prog.cellsOf 26 = 1 := by kernel_rfl
theorem Try.cells28 : Try.prog.cellsOf 28 = 2 := by kernel_rfl

/-- A field of counters, opened. -/
theorem open_counters {H : Type} {enc : TypeId × Value → H} {W : World} {base : Nat} {spare : Nat → Bool} {held : Bool} {fuel : Nat} {v : Value} {x : DataW H × List MemPlace} (h : DataW.trod enc Try.prog W base spare held fuel 26 [v] = some x) :
    ∃ (A : Option Addr) (N C : Nat) (Z : List Int), v = .slice A N C ∧ Ints W A N Z ∧ (A = none → N = 0 ∧ C = 0) ∧ (∀ x, A = some x → 0 < N → x.block < W.heap.size) ∧ N ≤ maxLen := by
  rcases open_ints Try.underlying26 Try.underlying3 Try.cells3 h with ⟨hcs, _⟩ | ⟨a, l, c, zs, hcs, _, hl, hm, hz, _, hcell, _⟩
  · simp at hcs
    exact ⟨none, 0, 0, [], hcs, ⟨rfl, .inl rfl⟩, fun _ => ⟨rfl, rfl⟩, (fun _ e => by simp at e), Nat.zero_le _⟩
  · simp at hcs
    have hlz : l ≤ zs.length := by rw [hz]; split <;> omega
    refine ⟨some a, l, c, zs.take l, hcs, ⟨by simp [hlz], ?_⟩, fun e => by simp at e, fun x e h0 => ?_, Nat.le_trans hl hm⟩
    · by_cases h0 : l = 0
      · exact .inl h0
      · obtain ⟨b, off, spot⟩ := a
        have hspot : spot = none := by simpa [Addr.add] using World.cell?_spot (hcell 0 (by omega))
        subst hspot
        refine .inr ⟨b, off, rfl, fun i hi => ?_⟩
        have := hcell i (by omega)
        rw [add_plain] at this
        rw [this, List.getD_eq_getElem?_getD, List.getD_eq_getElem?_getD, List.getElem?_take, if_pos hi]
    · simp at e
      subst e
      have := World.block_lt_of_cell? W _ (hcell 0 (by omega))
      have e2 : (a.add 0).block = a.block := by unfold Addr.add; split <;> rfl
      rw [e2] at this
      exact this

/-- What the walk is told of the script. -/
def IsScript (W : World) (a : Option Addr) (n : Nat) : Prop :=
  n ≤ maxLen ∧ (n = 0 ∨ ∃ b off, a = some ⟨b, off, none⟩ ∧ b < W.heap.size ∧ ∃ (PC : Nat → Int) (A : Nat → Option Addr) (N C : Nat → Nat) (Z : Nat → List Int), ∀ i, i < n → OpAt W W.heap.size b off i (PC i) (A i) (N i) (C i) (Z i))

theorem open_script {H : Type} {enc : TypeId × Value → H} {W : World} {base : Nat} {held : Bool} {fuel : Nat} {a : Option Addr} {n c : Nat} {x : DataW H × List MemPlace}
    (h : DataW.trod enc Try.prog W base (fun _ => true) held fuel 24 [.slice a n c] = some x) : IsScript W a n := by
  rcases open_slice_pairs Try.underlying24 Try.underlying28 Try.cells28 rfl rfl Try.cells3 Try.cells26 h with ⟨hcs, _⟩ | ⟨ad, l, cap, m, k, V0, V1, D0, D1, P0, P1, hcs, _, hl, hm, hmm, _, hx⟩
  · simp at hcs
    obtain ⟨_, rfl, _⟩ := hcs
    exact ⟨Nat.zero_le _, .inl rfl⟩
  · simp at hcs
    obtain ⟨rfl, rfl, rfl⟩ := hcs
    refine ⟨Nat.le_trans hl hm, ?_⟩
    by_cases h0 : n = 0
    · exact .inl h0
    simp at hmm
    subst hmm
    obtain ⟨b, off, spot⟩ := ad
    have hc0 := (hx 0 (by omega)).1
    have hspot : spot = none := by simpa [Addr.add] using World.cell?_spot hc0
    subst hspot
    rw [add_plain] at hc0
    have hb := World.block_lt_of_cell? W _ hc0
    refine .inr ⟨b, off, rfl, hb, ?_⟩
    have each : ∀ i, i < n → ∃ q : Int × Option Addr × Nat × Nat × List Int, OpAt W W.heap.size b off i q.1 q.2.1 q.2.2.1 q.2.2.2.1 q.2.2.2.2 := by
      intro i hi
      obtain ⟨h1, h2, h3, h4⟩ := hx i (by omega)
      rw [add_plain] at h1 h2
      obtain ⟨p, e0, _, _⟩ := DataW.trod_int Try.underlying3 h3
      simp at e0
      obtain ⟨A, N, C, Z, e1, g1, g2, g3, g4⟩ := open_counters h4
      rw [e0] at h1
      rw [e1] at h2
      exact ⟨(p, A, N, C, Z), h1, by rw [Nat.add_assoc]; exact h2, g1, g2, g3, g4⟩
    obtain ⟨q, hq⟩ := choose_lt each
    exact ⟨fun i => (q i).1, fun i => (q i).2.1, fun i => (q i).2.2.1, fun i => (q i).2.2.2.1, fun i => (q i).2.2.2.2, hq⟩
end Go.Proofs.Qxb6619231a.StateSet
