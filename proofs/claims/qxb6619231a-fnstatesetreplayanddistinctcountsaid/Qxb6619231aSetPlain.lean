/- The plain theory of a hash table with open addressing: no Go in sight. A key is a list of 1 + wd integers; 'sl' the slots (0: free; else 1 + where the key starts in the flat row of keys); 'ks' the keys in the order of their coming. -/
import Derived.KernelRfl
namespace Go.Proofs.Qxb6619231a.StateSet

/-- Where key number j is noted. -/
def mark (wd j : Nat) : Int := ((j * (1 + wd) + 1 : Nat) : Int)
theorem mark_ne (wd j : Nat) : mark wd j ≠ 0 := by unfold mark; omega
theorem mark_inj {wd i j : Nat} (h : mark wd i = mark wd j) : i = j := by
  unfold mark at h
  have h2 : i * (1 + wd) = j * (1 + wd) := by omega
  exact Nat.eq_of_mul_eq_mul_right (by omega) h2

structure Tab (wd L : Nat) (H : List Int → Nat) (sl : List Int) (ks : List (List Int)) : Prop where
  len : sl.length = L
  val : ∀ i, i < L → sl.getD i 0 = 0 ∨ ∃ j, j < ks.length ∧ sl.getD i 0 = mark wd j
  cnt : sl.countP (fun x => x != 0) ≤ ks.length
  reach : ∀ j, j < ks.length → ∃ d, sl.getD ((H (ks.getD j []) + d) % L) 0 = mark wd j ∧ ∀ d', d' < d → sl.getD ((H (ks.getD j []) + d') % L) 0 ≠ 0

theorem getD_replicate (L i : Nat) : (List.replicate L (0 : Int)).getD i 0 = 0 := by
  rw [List.getD_eq_getElem?_getD, List.getElem?_replicate]; split <;> rfl

theorem Tab.empty (wd L : Nat) (H : List Int → Nat) : Tab wd L H (List.replicate L 0) [] :=
  ⟨by simp, fun i _ => .inl (getD_replicate L i), by simp [List.countP_replicate], fun j h => absurd h (Nat.not_lt_zero _)⟩

theorem Tab.free {wd L : Nat} {H : List Int → Nat} {sl : List Int} {ks : List (List Int)} (t : Tab wd L H sl ks) (h : ks.length < L) : ∃ i, i < L ∧ sl.getD i 0 = 0 := by
  by_cases hx : ∃ i, i < L ∧ sl.getD i 0 = 0
  · exact hx
  exfalso
  have h1 : ∀ x ∈ sl, (x != 0) = true := by
    intro x hx'
    obtain ⟨i, hi, rfl⟩ := List.mem_iff_getElem.1 hx'
    rw [bne_iff_ne]
    intro e
    exact hx ⟨i, by rw [← t.len]; exact hi, by rw [List.getD_eq_getElem?_getD, List.getElem?_eq_getElem hi]; exact e⟩
  have h2 := List.countP_eq_length.2 h1
  have h3 := t.cnt
  have h4 := t.len
  omega

theorem mod_to {L p i : Nat} (hp : p < L) (hi : i < L) : ∃ d, d < L ∧ (p + d) % L = i := by
  by_cases h : p ≤ i
  · exact ⟨i - p, by omega, by rw [show p + (i - p) = i by omega]; exact Nat.mod_eq_of_lt hi⟩
  · exact ⟨i + L - p, by omega, by rw [show p + (i + L - p) = i + L by omega, Nat.add_mod_right]; exact Nat.mod_eq_of_lt hi⟩

/-- From each start a free slot is at fewer than L steps. -/
theorem Tab.toFree {wd L : Nat} {H : List Int → Nat} {sl : List Int} {ks : List (List Int)} (t : Tab wd L H sl ks) (h : ks.length < L) {p : Nat} (hp : p < L) : ∃ e, e < L ∧ sl.getD ((p + e) % L) 0 = 0 := by
  obtain ⟨i, hi, hz⟩ := t.free h
  obtain ⟨d, hd, e⟩ := mod_to hp hi
  exact ⟨d, hd, by rw [e]; exact hz⟩

theorem getD_set (sl : List Int) (i j : Nat) (v : Int) (hi : i < sl.length) : (sl.set i v).getD j 0 = if j = i then v else sl.getD j 0 := by
  rw [List.getD_eq_getElem?_getD, List.getElem?_set]
  by_cases h : i = j
  · subst h; simp [hi]
  · rw [if_neg h, if_neg (fun e => h e.symm), List.getD_eq_getElem?_getD]

/-- A key goes into the first free slot from its start. -/
theorem Tab.put {wd L : Nat} {H : List Int → Nat} {sl : List Int} {ks : List (List Int)} (t : Tab wd L H sl ks) (hL : 0 < L) (key : List Int) (d : Nat)
    (hz : sl.getD ((H key + d) % L) 0 = 0) (hd : ∀ d', d' < d → sl.getD ((H key + d') % L) 0 ≠ 0) :
    Tab wd L H (sl.set ((H key + d) % L) (mark wd ks.length)) (ks ++ [key]) := by
  have hi : (H key + d) % L < sl.length := by rw [t.len]; exact Nat.mod_lt _ hL
  refine ⟨by rw [List.length_set]; exact t.len, fun i hiL => ?_, ?_, fun j hj => ?_⟩
  · rw [getD_set _ _ _ _ hi]
    split
    · exact .inr ⟨ks.length, by simp, rfl⟩
    · rcases t.val i hiL with h | ⟨j, hj, h⟩
      · exact .inl h
      · exact .inr ⟨j, by simp; omega, h⟩
  · rw [List.countP_set hi, List.length_append]
    have := t.cnt
    simp only [List.length_cons, List.length_nil]
    split <;> split <;> omega
  · have keep : ∀ e, sl.getD e 0 ≠ 0 → (sl.set ((H key + d) % L) (mark wd ks.length)).getD e 0 = sl.getD e 0 := by
      intro e he
      rw [getD_set _ _ _ _ hi, if_neg (fun e2 => he (by rw [e2]; exact hz))]
    rw [List.length_append] at hj
    by_cases hjk : j < ks.length
    · have eg : (ks ++ [key]).getD j [] = ks.getD j [] := by rw [List.getD_eq_getElem?_getD, List.getD_eq_getElem?_getD, List.getElem?_append_left hjk]
      rw [eg]
      obtain ⟨e, he, hb⟩ := t.reach j hjk
      refine ⟨e, ?_, fun d' hd' => ?_⟩
      · rw [keep _ (by rw [he]; exact mark_ne _ _)]; exact he
      · rw [keep _ (hb d' hd')]; exact hb d' hd'
    · have ej : j = ks.length := by simp at hj; omega
      subst ej
      have eg : (ks ++ [key]).getD ks.length [] = key := by simp [List.getD_eq_getElem?_getD]
      rw [eg]
      refine ⟨d, ?_, fun d' hd' => ?_⟩
      · rw [getD_set _ _ _ _ hi, if_pos rfl]
      · rw [keep _ (hd d' hd')]; exact hd d' hd'

/-- What the search for 'key' has met behind d steps: no free slot, no slot of that key. -/
def Met (wd L : Nat) (H : List Int → Nat) (sl : List Int) (ks : List (List Int)) (key : List Int) (d : Nat) : Prop :=
  ∀ d', d' < d → sl.getD ((H key + d') % L) 0 ≠ 0 ∧ ∀ j, j < ks.length → sl.getD ((H key + d') % L) 0 = mark wd j → ks.getD j [] ≠ key
theorem Met.zero (wd L : Nat) (H : List Int → Nat) (sl : List Int) (ks : List (List Int)) (key : List Int) : Met wd L H sl ks key 0 := fun _ h => absurd h (Nat.not_lt_zero _)
theorem Met.step {wd L : Nat} {H : List Int → Nat} {sl : List Int} {ks : List (List Int)} {key : List Int} {d j : Nat} (m : Met wd L H sl ks key d)
    (hj : sl.getD ((H key + d) % L) 0 = mark wd j) (hk : ks.getD j [] ≠ key) : Met wd L H sl ks key (d + 1) := by
  intro d' hd'
  by_cases e : d' = d
  · subst e
    refine ⟨by rw [hj]; exact mark_ne _ _, fun i _ hi => ?_⟩
    rw [hj] at hi
    rw [← mark_inj hi]; exact hk
  · exact m d' (by omega)
/-- A free slot met: the key is not among those that came. -/
theorem Met.absent {wd L : Nat} {H : List Int → Nat} {sl : List Int} {ks : List (List Int)} {key : List Int} {d : Nat} (t : Tab wd L H sl ks) (m : Met wd L H sl ks key d)
    (hz : sl.getD ((H key + d) % L) 0 = 0) : key ∉ ks := by
  intro hin
  obtain ⟨j, hj, e⟩ := List.mem_iff_getElem.1 hin
  have eg : ks.getD j [] = key := by rw [List.getD_eq_getElem?_getD, List.getElem?_eq_getElem hj]; exact e
  obtain ⟨f, hf, hb⟩ := t.reach j hj
  rw [eg] at hf hb
  have h1 : f < d := by
    rcases Nat.lt_trichotomy f d with h | h | h
    · exact h
    · subst h; rw [hz] at hf; exact absurd hf.symm (mark_ne _ _)
    · exact absurd hz (hb d h)
  exact (m f h1).2 j hj hf eg
theorem Met.before {wd L : Nat} {H : List Int → Nat} {sl : List Int} {ks : List (List Int)} {key : List Int} {d e : Nat} (m : Met wd L H sl ks key d) (he : sl.getD ((H key + e) % L) 0 = 0) : d ≤ e := by
  rcases Nat.lt_or_ge e d with h | h
  · exact absurd he (m e h).1
  · exact h

/-! ### The flat row of keys -/
theorem flat_len : ∀ (ks : List (List Int)) (m : Nat), (∀ k ∈ ks, k.length = m) → ks.flatten.length = ks.length * m
  | [], m, _ => by simp
  | k :: ks, m, h => by
    rw [List.flatten_cons, List.length_append, flat_len ks m (fun x hx => h x (by simp [hx])), h k (by simp), List.length_cons, Nat.add_mul]; omega
theorem flat_get : ∀ (ks : List (List Int)) (m : Nat), (∀ k ∈ ks, k.length = m) → ∀ j i, j < ks.length → i < m → ks.flatten.getD (j * m + i) 0 = (ks.getD j []).getD i 0
  | [], _, _, j, _, hj, _ => absurd hj (Nat.not_lt_zero _)
  | k :: ks, m, h, 0, i, _, hi => by
    have hk := h k (by simp)
    simp only [List.flatten_cons, Nat.zero_mul, Nat.zero_add, List.getD_cons_zero]
    rw [List.getD_eq_getElem?_getD, List.getD_eq_getElem?_getD, List.getElem?_append_left (by omega)]
  | k :: ks, m, h, j + 1, i, hj, hi => by
    have hk := h k (by simp)
    have ih := flat_get ks m (fun x hx => h x (by simp [hx])) j i (by simpa using hj) hi
    rw [List.flatten_cons, List.getD_cons_succ, ← ih, List.getD_eq_getElem?_getD, List.getD_eq_getElem?_getD, List.getElem?_append_right (by rw [hk, Nat.add_mul]; omega)]
    congr 2
    rw [hk, Nat.add_mul]; omega
end Go.Proofs.Qxb6619231a.StateSet
