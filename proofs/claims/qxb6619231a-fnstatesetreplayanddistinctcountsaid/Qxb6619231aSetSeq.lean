/- Sequences of keys: which have come so far; plain. -/
import Derived.KernelRfl
namespace Go.Proofs.Qxb6619231a.StateSet

/-- The keys that have come behind i steps, each once, in the order of their first coming. -/
def sofar (K : Nat → List Int) : Nat → List (List Int)
  | 0 => []
  | i + 1 => if K i ∈ sofar K i then sofar K i else sofar K i ++ [K i]
theorem mem_sofar (K : Nat → List Int) (x : List Int) : ∀ i, x ∈ sofar K i ↔ ∃ j, j < i ∧ K j = x
  | 0 => by simp [sofar]
  | i + 1 => by
    have ih := mem_sofar K x i
    have step : x ∈ sofar K (i + 1) ↔ x ∈ sofar K i ∨ K i = x := by
      rw [sofar]
      split
      · rename_i h
        exact ⟨.inl, fun h' => h'.elim id (fun e => e ▸ h)⟩
      · simp [eq_comm]
    rw [step, ih]
    constructor
    · rintro (⟨j, hj, e⟩ | e)
      · exact ⟨j, by omega, e⟩
      · exact ⟨i, by omega, e⟩
    · rintro ⟨j, hj, e⟩
      by_cases h : j = i
      · subst h; exact .inr e
      · exact .inl ⟨j, by omega, e⟩
theorem len_sofar (K : Nat → List Int) : ∀ i, (sofar K i).length ≤ i
  | 0 => by simp [sofar]
  | i + 1 => by
    have ih := len_sofar K i
    rw [sofar]
    split
    · omega
    · simp; omega

/-- Eight bytes a number: the total that the law counts. -/
def tot (N : Nat → Nat) : Nat → Nat
  | 0 => 0
  | k + 1 => tot N k + (8 + 8 * N k)
theorem tot_const (N : Nat → Nat) (wd : Nat) : ∀ k, (∀ j, j < k → N j = wd) → tot N k = 8 * (k * (1 + wd))
  | 0, _ => by simp [tot]
  | k + 1, h => by
    rw [tot, tot_const N wd k (fun j hj => h j (by omega)), h k (by omega), Nat.add_mul]; omega
end Go.Proofs.Qxb6619231a.StateSet
