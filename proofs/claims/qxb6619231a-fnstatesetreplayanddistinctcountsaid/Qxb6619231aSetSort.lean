/- Plain: the order of states; an insertion step; how many distinct keys a sorted row shows. -/
import Derived.Test.Qxb6619231aSetCmp
import Derived.Test.Qxb6619231aSetSeq
namespace Go.Proofs.Qxb6619231a.StateSet

theorem cmpL_swap : ∀ xs ys : List Int, cmpL ys xs = - cmpL xs ys
  | [], [] => rfl
  | [], _ :: _ => rfl
  | _ :: _, [] => rfl
  | x :: xs, y :: ys => by
    simp only [cmpL]
    have ih := cmpL_swap xs ys
    by_cases h1 : x < y
    · have h2 : ¬ y < x := by omega
      simp [h1, h2]
    · by_cases h2 : y < x
      · simp [h1, h2]
      · simp [h1, h2, ih]
theorem cmpL_zero : ∀ xs ys : List Int, xs.length = ys.length → cmpL xs ys = 0 → xs = ys
  | [], [], _, _ => rfl
  | x :: xs, y :: ys, hl, h => by
    simp only [cmpL] at h
    by_cases h1 : x < y
    · simp [h1] at h
    · by_cases h2 : y < x
      · simp [h1, h2] at h
      · simp only [h1, h2, if_false] at h
        rw [cmpL_zero xs ys (by simpa using hl) h, show x = y by omega]
  | [], _ :: _, hl, _ => by simp at hl
  | _ :: _, [], hl, _ => by simp at hl
theorem cmpL_trans : ∀ xs ys zs : List Int, xs.length = ys.length → ys.length = zs.length → cmpL xs ys ≤ 0 → cmpL ys zs ≤ 0 → cmpL xs zs ≤ 0
  | [], [], [], _, _, _, _ => by simp [cmpL]
  | x :: xs, y :: ys, z :: zs, h1, h2, h3, h4 => by
    simp only [cmpL] at h3 h4 ⊢
    by_cases a1 : x < y
    · by_cases a2 : y < z
      · simp [show x < z by omega]
      · by_cases a3 : z < y
        · simp [a2, a3] at h4
        · simp [show x < z by omega]
    · by_cases b1 : y < x
      · simp [a1, b1] at h3
      · simp only [a1, b1, if_false] at h3
        by_cases a2 : y < z
        · simp [show x < z by omega]
        · by_cases a3 : z < y
          · simp [a2, a3] at h4
          · simp only [a2, a3, if_false] at h4
            have := cmpL_trans xs ys zs (by simpa using h1) (by simpa using h2) h3 h4
            simp [show ¬ x < z by omega, show ¬ z < x by omega, this]
  | [], _ :: _, _, h, _, _, _ => by simp at h
  | _ :: _, [], _, h, _, _, _ => by simp at h
  | [], [], _ :: _, _, h, _, _ => by simp at h
  | _ :: _, _ :: _, [], _, h, _, _ => by simp at h

/-! ### Two lists without repetition that hold the same -/
theorem len_le_of_sub : ∀ (l1 l2 : List (List Int)), l1.Nodup → (∀ x ∈ l1, x ∈ l2) → l1.length ≤ l2.length
  | [], _, _, _ => Nat.zero_le _
  | x :: l, l2, hd, hs => by
    rw [List.nodup_cons] at hd
    have hx : x ∈ l2 := hs x (by simp)
    have h1 := len_le_of_sub l (l2.erase x) hd.2 (fun y hy => (List.mem_erase_of_ne (show y ≠ x from fun e => hd.1 (e ▸ hy))).2 (hs y (by simp [hy])))
    rw [List.length_erase_of_mem hx] at h1
    have h2 := List.length_pos_of_mem hx
    simp only [List.length_cons]
    omega
theorem sofar_nodup (K : Nat → List Int) : ∀ i, (sofar K i).Nodup
  | 0 => by simp [sofar]
  | i + 1 => by
    have ih := sofar_nodup K i
    rw [sofar]
    split
    · exact ih
    · rename_i h
      rw [List.nodup_append]
      exact ⟨ih, by simp, fun a ha b hb => by simp at hb; subst hb; exact fun e => h (e ▸ ha)⟩
theorem sofar_same {K S : Nat → List Int} {n m : Nat} (h : ∀ x, (∃ j, j < n ∧ K j = x) ↔ ∃ j, j < m ∧ S j = x) : (sofar K n).length = (sofar S m).length := by
  refine Nat.le_antisymm (len_le_of_sub _ _ (sofar_nodup K n) fun x hx => ?_) (len_le_of_sub _ _ (sofar_nodup S m) fun x hx => ?_)
  · exact (mem_sofar S x m).2 ((h x).1 ((mem_sofar K x n).1 hx))
  · exact (mem_sofar K x n).2 ((h x).2 ((mem_sofar S x m).1 hx))

/-! ### A sorted row of keys -/
theorem sorted_first {S : Nat → List Int} {l k : Nat} (hl : ∀ j, j ≤ k → (S j).length = l) (hs : ∀ a b, a < b → b ≤ k → cmpL (S a) (S b) ≤ 0) (h0 : 0 < k) : S k ∈ sofar S k ↔ cmpL (S (k - 1)) (S k) = 0 := by
  rw [mem_sofar]
  constructor
  · rintro ⟨j, hj, e⟩
    by_cases hjk : j = k - 1
    · rw [← hjk, e]; exact cmpL_self _
    · have h1 := hs j (k - 1) (by omega) (by omega)
      rw [e, cmpL_swap (S (k - 1)) (S k)] at h1
      have h2 := hs (k - 1) k (by omega) (Nat.le_refl _)
      omega
  · intro e
    exact ⟨k - 1, by omega, cmpL_zero _ _ (by rw [hl _ (by omega), hl _ (Nat.le_refl _)]) e⟩
theorem sofar_len_in {K : Nat → List Int} {k : Nat} (h : K k ∈ sofar K k) : (sofar K (k + 1)).length = (sofar K k).length := by rw [sofar, if_pos h]
theorem sofar_len_out {K : Nat → List Int} {k : Nat} (h : K k ∉ sofar K k) : (sofar K (k + 1)).length = (sofar K k).length + 1 := by rw [sofar, if_neg h]; simp
theorem sofar_old {K : Nat → List Int} {n k : Nat} (h : k < n) : K k ∈ sofar K n := (mem_sofar K _ n).2 ⟨k, h, rfl⟩

/-! ### Insertion -/
section
variable (ys : List Nat) (i j : Nat) (x : Nat)
/-- The row while element i is on its way: the hole is at j. -/
def cur : List Nat := (ys.take i).take j ++ (x :: ((ys.take i).drop j ++ ys.drop (i + 1)))
end
variable {ys : List Nat} {i j x n : Nat}
theorem cur_len (hi : i < ys.length) (hj : j ≤ i) : (cur ys i j x).length = ys.length := by
  unfold cur; simp; omega
theorem cur_start (hi : i < ys.length) : cur ys i i (ys.getD i 0) = ys := by
  unfold cur
  have h1 : (ys.take i).take i = ys.take i := by simp [List.take_take]
  have h2 : (ys.take i).drop i = [] := by simp
  rw [h1, h2, List.nil_append, List.getD_eq_getElem?_getD, List.getElem?_eq_getElem hi]
  simp
theorem cur_read (hi : i < ys.length) (hj : j ≤ i) (h0 : 0 < j) : (cur ys i j x).getD (j - 1) 0 = ys.getD (j - 1) 0 := by
  unfold cur
  rw [List.getD_eq_getElem?_getD, List.getElem?_append_left (by simp; omega), List.take_take, List.getElem?_take, if_pos (by omega), List.getD_eq_getElem?_getD]
theorem cur_set (hi : i < ys.length) (hj : j ≤ i) (v : Nat) : (cur ys i j x).set j v = cur ys i j v := by
  unfold cur
  have hl : ((ys.take i).take j).length = j := by simp; omega
  rw [List.set_append_right _ _ (by omega), hl, Nat.sub_self, List.set_cons_zero]
theorem cur_step (hi : i < ys.length) (hj : j ≤ i) (h0 : 0 < j) : cur ys i j (ys.getD (j - 1) 0) = cur ys i (j - 1) (ys.getD (j - 1) 0) := by
  unfold cur
  obtain ⟨k, rfl⟩ : ∃ k, j = k + 1 := ⟨j - 1, by omega⟩
  have hk : k < (ys.take i).length := by simp; omega
  have e1 : ys.getD k 0 = (ys.take i)[k] := by rw [List.getD_eq_getElem?_getD, List.getElem?_eq_getElem (by omega)]; simp
  have e2 : (ys.take i).drop k = (ys.take i)[k] :: (ys.take i).drop (k + 1) := List.drop_eq_getElem_cons hk
  have e3 : (ys.take i).take (k + 1) = (ys.take i).take k ++ [(ys.take i)[k]] := List.take_succ_eq_append_getElem hk
  rw [Nat.add_sub_cancel, e1, e2, e3]
  simp
theorem cur_perm (hi : i < ys.length) : (cur ys i j (ys.getD i 0)).Perm ys := by
  have h1 : (cur ys i j (ys.getD i 0)).Perm (ys.getD i 0 :: ((ys.take i).take j ++ ((ys.take i).drop j ++ ys.drop (i + 1)))) := List.perm_middle
  refine h1.trans ?_
  rw [← List.append_assoc, List.take_append_drop]
  have h2 : (ys.take i ++ ys.getD i 0 :: ys.drop (i + 1)).Perm (ys.getD i 0 :: (ys.take i ++ ys.drop (i + 1))) := List.perm_middle
  refine h2.symm.trans ?_
  rw [List.getD_eq_getElem?_getD, List.getElem?_eq_getElem hi]
  simp
/-- The row's first i entries are in order. -/
def Ord (K : Nat → List Int) (ys : List Nat) (i : Nat) : Prop := (ys.take i).Pairwise fun a b => cmpL (K a) (K b) ≤ 0
theorem cur_ord {K : Nat → List Int} {l : Nat} (hl : ∀ y ∈ ys, (K y).length = l) (hi : i < ys.length) (hj : j ≤ i) (hO : Ord K ys i) (hgt : ∀ e ∈ (ys.take i).drop j, 0 < cmpL (K e) (K (ys.getD i 0)))
    (hle : 0 < j → cmpL (K (ys.getD (j - 1) 0)) (K (ys.getD i 0)) ≤ 0) : Ord K (cur ys i j (ys.getD i 0)) (i + 1) := by
  have hv : ys.getD i 0 ∈ ys := by rw [List.getD_eq_getElem?_getD, List.getElem?_eq_getElem hi]; exact List.getElem_mem hi
  have htk : (cur ys i j (ys.getD i 0)).take (i + 1) = (ys.take i).take j ++ (ys.getD i 0 :: (ys.take i).drop j) := by
    unfold cur
    rw [show (ys.take i).take j ++ (ys.getD i 0 :: ((ys.take i).drop j ++ ys.drop (i + 1))) = ((ys.take i).take j ++ (ys.getD i 0 :: (ys.take i).drop j)) ++ ys.drop (i + 1) by simp]
    rw [List.take_append_of_le_length (by simp; omega), List.take_of_length_le (by simp; omega)]
  unfold Ord
  rw [htk, List.pairwise_append]
  unfold Ord at hO
  rw [← List.take_append_drop j (ys.take i), List.pairwise_append] at hO
  obtain ⟨o1, o2, o3⟩ := hO
  refine ⟨o1, List.pairwise_cons.2 ⟨fun e he => ?_, o2⟩, fun a ha b hb => ?_⟩
  · rw [cmpL_swap (K e)]; have := hgt e he; omega
  · rcases List.mem_cons.1 hb with rfl | hb
    · have h0 : 0 < j := by
        rcases Nat.eq_zero_or_pos j with h | h
        · subst h; simp at ha
        · exact h
      have hlast := hle h0
      have hay : a ∈ ys := List.mem_of_mem_take (List.mem_of_mem_take ha)
      have hjy : ys.getD (j - 1) 0 ∈ ys := by rw [List.getD_eq_getElem?_getD, List.getElem?_eq_getElem (by omega)]; exact List.getElem_mem _
      -- a is the last of the first j, or before it
      obtain ⟨p, hp, e⟩ := List.mem_iff_getElem.1 ha
      have hp' : p < j := by simp at hp; omega
      have ep : a = ys.getD p 0 := by
        rw [← e, List.getD_eq_getElem?_getD, List.getElem?_eq_getElem (by omega)]; simp
      by_cases hpj : p = j - 1
      · rw [ep, hpj]; exact hlast
      · refine cmpL_trans _ (K (ys.getD (j - 1) 0)) _ (by rw [hl a hay, hl _ hjy]) (by rw [hl _ hjy, hl _ hv]) ?_ hlast
        have := List.pairwise_iff_getElem.1 o1 p (j - 1) (by simp; omega) (by simp; omega) (by omega)
        rw [ep, List.getD_eq_getElem?_getD, List.getD_eq_getElem?_getD, List.getElem?_eq_getElem (by omega), List.getElem?_eq_getElem (by omega)]
        simpa using this
    · exact o3 a ha b hb
theorem ord_all {K : Nat → List Int} (hO : Ord K ys ys.length) {a b : Nat} (h : a < b) (hb : b < ys.length) : cmpL (K (ys.getD a 0)) (K (ys.getD b 0)) ≤ 0 := by
  unfold Ord at hO
  rw [List.take_length] at hO
  have := List.pairwise_iff_getElem.1 hO a b (by omega) hb h
  rw [List.getD_eq_getElem?_getD, List.getD_eq_getElem?_getD, List.getElem?_eq_getElem (by omega), List.getElem?_eq_getElem hb]
  exact this
theorem perm_len (h : ys.Perm (List.range n)) : ys.length = n := by rw [h.length_eq]; simp
theorem perm_mem (h : ys.Perm (List.range n)) {y : Nat} : y ∈ ys ↔ y < n := by rw [h.mem_iff]; simp
theorem perm_lt (h : ys.Perm (List.range n)) {k : Nat} (hk : k < n) : ys.getD k 0 < n := by
  have hl := perm_len h
  refine (perm_mem h).1 ?_
  rw [List.getD_eq_getElem?_getD, List.getElem?_eq_getElem (by omega)]; exact List.getElem_mem _
/-- The sorted row shows as many distinct keys as the script. -/
theorem perm_count (K : Nat → List Int) (h : ys.Perm (List.range n)) : (sofar K n).length = (sofar (fun k => K (ys.getD k 0)) n).length := by
  refine sofar_same fun x => ⟨?_, ?_⟩
  · rintro ⟨j, hj, e⟩
    obtain ⟨p, hp, e2⟩ := List.mem_iff_getElem.1 ((perm_mem h).2 hj)
    refine ⟨p, by rw [← perm_len h]; exact hp, ?_⟩
    simp only [List.getD_eq_getElem?_getD, List.getElem?_eq_getElem hp]
    rw [← e, ← e2]; rfl
  · rintro ⟨k, hk, e⟩
    exact ⟨_, perm_lt h hk, e⟩
end Go.Proofs.Qxb6619231a.StateSet
