/- The walk of 'grow'. -/
import Derived.Test.Qxb6619231aSetMem
import Derived.Deep.LoopGhost
namespace Go.Proofs.Qxb6619231a.StateSet
open Go.RowKit

theorem Try.info21 : (Try.prog.info? 21).map (fun i => (i.zero, i.size, i.bytes)) = some (some (.int .i32 0), 1, 4) := by kernel_rfl
theorem Try.info3 : (Try.prog.info? 3).map (fun i => (i.zero, i.size, i.bytes)) = some (some (.int .i64 0), 1, 8) := by kernel_rfl

/-- Where the search for a key starts, in a table of L slots. -/
def hs (L : Nat) (key : List Int) : Nat := (slotI (key.headD 0) key.tail L).toNat
theorem hs_cast (L : Nat) (pc : Int) (zs : List Int) (hL : 0 < L) (h2 : L ≤ 9223372036854775807) : slotI pc zs L = ((hs L (pc :: zs) : Nat) : Int) ∧ hs L (pc :: zs) < L := by
  have := slotX_range (hashOf pc zs) L hL h2
  show slotX (hashOf pc zs) L = ((slotX (hashOf pc zs) L).toNat : Int) ∧ (slotX (hashOf pc zs) L).toNat < L
  omega

theorem Ints.drewN {w : World} {a : Option Addr} {n : Nat} {zs : List Int} (h : Ints w a n zs) (m : Nat) : Ints (w.drewN m) a n zs := h
theorem cell_drewN {w : World} {a : Addr} {v : Value} (h : w.cell? a = some v) (m : Nat) : (w.drewN m).cell? a = some v := h

theorem ring_step {h d N q : Nat} (hq : (h + d) % N = q) : ((q : Int) + 1) % (N : Int) = (((h + (d + 1)) % N : Nat) : Int) := by
  have : (h + (d + 1)) % N = (q + 1) % N := by rw [← hq, ← Nat.add_assoc, Nat.mod_add_mod]
  rw [this]; rfl

theorem ints_if {w : World} {g p c wd : Nat} {zs : List Int} (h : Ints w (some ⟨g, p + 1, none⟩) wd zs) (hc : c = p + 1 → wd = 0) :
    Ints w (if c = p + 1 then some ⟨g, 0, none⟩ else some ⟨g, p + 1, none⟩) wd zs := by
  by_cases e : c = p + 1
  · exact ⟨h.1, .inl (hc e)⟩
  · rw [if_neg e]; exact h
theorem take_key {ks : List (List Int)} {j : Nat} {key : List Int} (hj : j < ks.length) (hk : ks.getD j [] = key) : ks.take (j + 1) = ks.take j ++ [key] := by
  rw [List.take_succ_eq_append_getElem hj]
  rw [List.getD_eq_getElem?_getD, List.getElem?_eq_getElem hj] at hk
  rw [← hk]; rfl
theorem tab_step {wd N j p d q : Nat} {sl' : List Int} {ks : List (List Int)} {key : List Int} (hT : Tab wd N (hs N) sl' (ks.take j)) (_hK : ∀ k ∈ ks, k.length = 1 + wd) (hj : j < ks.length)
    (hk : ks.getD j [] = key) (hp : j * (1 + wd) = p) (hN : 0 < N) (hq : (hs N key + d) % N = q) (hz : sl'.getD q 0 = 0) (hd : ∀ d', d' < d → sl'.getD ((hs N key + d') % N) 0 ≠ 0) :
    Tab wd N (hs N) (sl'.set q ((p : Int) + 1)) (ks.take (j + 1)) := by
  have := hT.put hN key d (by rw [hq]; exact hz) hd
  rw [hq, List.length_take, Nat.min_eq_left (by omega), ← take_key hj hk] at this
  have em : mark wd j = (p : Int) + 1 := by unfold mark; rw [hp]; omega
  rw [em] at this
  exact this

set_option maxHeartbeats 1000000 in
theorem grow_any (w : World) (B : Nat) (sa : Option Addr) (L sc : Nat) (sl : List Int) (ka : Option Addr) (kn kc : Nat) (ks : List (List Int)) (wd N : Nat)
    (h : Mem w B sa L sc sl ka kn kc ks.flatten ks.length) (hk : ∀ k ∈ ks, k.length = 1 + wd) (hN : (L = 0 ∧ N = 16) ∨ (16 ≤ L ∧ N = 2 * L)) (hroom : ks.length < N) (hL : L ≤ 16777216) (hkn : kn ≤ 1048576) (hwd : wd ≤ 1048576) :
    Calls Try.prog 16 #[.pointer (some ⟨B, 0, none⟩), .int .i64 wd] w fun e w' => e = .returned (.tuple #[]) ∧ ∃ g sl', Mem w' B (some ⟨g, 0, none⟩) N N sl' ka kn kc ks.flatten ks.length ∧ Tab wd N (hs N) sl' ks ∧ Below B w w' := by
  have hNn : 0 < N ∧ N ≤ 33554432 := by omega
  obtain ⟨hN0, hN1⟩ := hNn
  have hmk := run_make_row' (P := Try.prog) 29 21 (.int .i32 0) 4 Try.underlying29 Try.info21 rfl .i64 .i64 N (by omega) (by omega)
  have hB := h.lt
  have c0 := h.c0
  have c1 := h.c1
  have f0 := h.fz 0
  have HM : Hid (Mem w B sa L sc sl ka kn kc ks.flatten ks.length) := h
  have HK : Hid (∀ k ∈ ks, k.length = 1 + wd) := hk
  clear h hk
  rcases hN with ⟨rfl, hN⟩ | ⟨hL16, hN⟩
  · have hmk' : ∀ w, (Instr.makeSlice 29 (.int .i64 16) (.int .i64 16)).run Try.prog w = .ok (.slice (some ⟨w.heap.size, 0, none⟩) N N) (w.alloc (.cells (madeCells #[.int .i32 0] N) 21)) := by
      intro w; have := hmk w; rw [show ((N : Nat) : Int) = 16 by omega] at this; exact this
    have HN : Hid (N = 16) := hN
    clear hmk hN
    go_enter Try.func16, Try.ntmps16
    go_wp2_with fail
    go_loopw [4] (fun at_ wr => ∃ (j p : Nat) (sl' : List Int), j * (1 + wd) = p ∧ j ≤ ks.length ∧ at_ = .int .i64 p ∧ Mem wr B (some ⟨w.heap.size, 0, none⟩) N N sl' ka kn kc ks.flatten ks.length ∧ Tab wd N (hs N) sl' (ks.take j) ∧ Below B w wr) (fun at_ _ => kn - (intOf at_).toNat)
    case atStart => exact ⟨0, 0, _, by simp, Nat.zero_le _, rfl, HM.out.fresh N (by unfold maxLen; omega), Tab.empty _ _ _, fresh_below w B _ _ hB⟩
    case round =>
      obtain ⟨j, p, sl', hp, hj, rfl, hM, hT, hb⟩ := hrel
      by_cases hlt : j < ks.length
      · obtain ⟨pc, zs, hkey, hzl, hpc, hzs⟩ := key_parts HK.out hlt
        rw [hp] at hpc hzs
        have hend : p + (1 + wd) ≤ kn := by
          have h1 := flat_len ks (1 + wd) HK.out
          have h2 := hM.flen
          have h3 : (j + 1) * (1 + wd) ≤ ks.length * (1 + wd) := Nat.mul_le_mul_right _ hlt
          rw [Nat.add_mul] at h3
          omega
        obtain ⟨gy, hka, hgy⟩ := hM.kaddr (by omega)
        subst hka
        have hcap := hM.kcap
        unfold maxLen at hcap
        obtain ⟨hcap1, hcap2⟩ := hcap
        have hI := hM.ints (by omega) hzl hzs
        have d0 := hM.c0
        have d1 := hM.c1
        have dk := hM.key (i := p) (by omega)
        rw [hpc] at dk
        obtain ⟨A, hA, hIA⟩ : ∃ A, (if kc = p + 1 then some ⟨gy, 0, none⟩ else some ⟨gy, p + 1, none⟩) = A ∧ Ints wr A wd zs := ⟨_, rfl, ints_if hI (by omega)⟩
        have HI : Hid (Ints wr A wd zs) := hIA
        have HX : Hid (ks.getD j [] = pc :: zs ∧ zs.length = wd ∧ j * (1 + wd) = p) := ⟨hkey, hzl, hp⟩
        have HM2 := hM
        have i1 : (p : Int) < (kn : Int) := by omega
        clear hI hIA hkey hzl hp hpc hzs hM c0 c1 f0
        go_wp2
        go_quiet ((go_at_call 17; exact Calls.quiet_of_same (slot_any B pc _ _ wd _ N N zs _ (by unfold maxLen; omega) hN0 (by unfold maxLen; omega) (HI.out.drewN _) (cell_drewN d0 _))))
        go_wp2
        obtain ⟨hcast, hslt⟩ := hs_cast N pc zs hN0 (by omega)
        have hlen : (ks.take j).length < N := by rw [List.length_take]; omega
        obtain ⟨e, he, hez⟩ := hT.toFree hlen hslt
        go_loopg [5] e (fun k i wv => ∃ d : Nat, d + k = e ∧ i = .int .i64 (((hs N (pc :: zs) + d) % N : Nat) : Int) ∧ wv = wr.drewN nq ∧ ∀ d', d' < d → sl'.getD ((hs N (pc :: zs) + d') % N) 0 ≠ 0)
        case atStart => exact ⟨0, by omega, by rw [hcast, Nat.add_zero, Nat.mod_eq_of_lt hslt], rfl, fun d' h => absurd h (Nat.not_lt_zero _)⟩
        case round =>
          obtain ⟨d, hd, rfl, rfl, hz⟩ := hrel
          obtain ⟨q, hq⟩ : ∃ q, (hs N (pc :: zs) + d) % N = q := ⟨_, rfl⟩
          have hqN : q < N := by rw [← hq]; exact Nat.mod_lt _ hN0
          have dq := HM2.slot hqN
          rw [hq]
          by_cases hne : sl'.getD q 0 = 0
          · have hne0 : (sl'.getD q 0 != 0) = false := bne_eq_false_iff_eq.2 hne
            have HQ : Hid ((hs N (pc :: zs) + d) % N = q) := hq
            have HZ : Hid (∀ d', d' < d → sl'.getD ((hs N (pc :: zs) + d') % N) 0 ≠ 0) := hz
            have HE : Hid (sl'.getD q 0 = 0) := hne
            have hqi : (q : Int) < (N : Int) := by omega
            have fq := HM2.sfz q
            clear hq hd hz hne hez he hcast hslt hlen
            generalize sl'.getD q 0 = sq at dq hne0
            go_wp2
            go_roundw
            case rel => exact ⟨j + 1, p + (1 + wd), _, by rw [Nat.add_mul, HX.out.2.2]; omega, hlt, by go_num, (HM2.drewN nq).put q _ hN0, tab_step hT HK.out hlt HX.out.1 HX.out.2.2 hN0 HQ.out HE.out HZ.out, (below_drewN hb nq).setCell (Nat.le_of_lt hB) _⟩
            case measure => simp [intOf]; omega
          · have hne' : (sl'.getD q 0 != 0) = true := bne_iff_ne.2 hne
            have HZ : Hid (∀ d', d' < d + 1 → sl'.getD ((hs N (pc :: zs) + d') % N) 0 ≠ 0) := by
              intro d' hd'
              by_cases e1 : d' = d
              · rw [e1, hq]; exact hne
              · exact hz d' (by omega)
            have hde : d < e := by
              rcases Nat.lt_or_ge d e with h | h
              · exact h
              · have : d = e := by omega
                rw [this] at hq; rw [hq] at hez; exact absurd hez hne
            have HD : Hid (d + gk = e) := hd
            have HQ : Hid ((hs N (pc :: zs) + d) % N = q) := hq
            have hqi : (q : Int) < (N : Int) := by omega
            clear hq hd hz hne hez he hcast hslt hlen
            generalize sl'.getD q 0 = sq at dq hne'
            go_wp2
            go_roundg (gk - 1)
            case measure => have := HD.out; omega
            case rel => exact ⟨d + 1, by have := HD.out; omega, by rw [ring_step HQ.out], rfl, HZ.out⟩
      · have hpk : p = kn := by
          have h1 := flat_len ks (1 + wd) HK.out
          have h2 := hM.flen
          have h3 : j = ks.length := by omega
          rw [← hp, h3]; omega
        have hpi : ¬ (p : Int) < (kn : Int) := by omega
        have hta : ks.take j = ks := List.take_of_length_le (by omega)
        rw [hta] at hT
        have HM2 := hM
        have HT2 := hT
        have d1 := hM.c1
        clear hM hT hpk hp hta c0 c1 f0
        go_wp2
        go_end0
        exact ⟨rfl, _, _, HM2, HT2, hb⟩
  · have hmk' : ∀ w, (Instr.makeSlice 29 (.int .i64 (2 * (L : Int))) (.int .i64 (2 * (L : Int)))).run Try.prog w = .ok (.slice (some ⟨w.heap.size, 0, none⟩) N N) (w.alloc (.cells (madeCells #[.int .i32 0] N) 21)) := by
      intro w; have := hmk w; rw [show ((N : Nat) : Int) = 2 * (L : Int) by omega] at this; exact this
    have HN : Hid (N = 2 * L) := hN
    clear hmk hN
    go_enter Try.func16, Try.ntmps16
    go_wp2_with fail
    go_loopw [4] (fun at_ wr => ∃ (j p : Nat) (sl' : List Int), j * (1 + wd) = p ∧ j ≤ ks.length ∧ at_ = .int .i64 p ∧ Mem wr B (some ⟨w.heap.size, 0, none⟩) N N sl' ka kn kc ks.flatten ks.length ∧ Tab wd N (hs N) sl' (ks.take j) ∧ Below B w wr) (fun at_ _ => kn - (intOf at_).toNat)
    case atStart => exact ⟨0, 0, _, by simp, Nat.zero_le _, rfl, HM.out.fresh N (by unfold maxLen; omega), Tab.empty _ _ _, fresh_below w B _ _ hB⟩
    case round =>
      obtain ⟨j, p, sl', hp, hj, rfl, hM, hT, hb⟩ := hrel
      by_cases hlt : j < ks.length
      · obtain ⟨pc, zs, hkey, hzl, hpc, hzs⟩ := key_parts HK.out hlt
        rw [hp] at hpc hzs
        have hend : p + (1 + wd) ≤ kn := by
          have h1 := flat_len ks (1 + wd) HK.out
          have h2 := hM.flen
          have h3 : (j + 1) * (1 + wd) ≤ ks.length * (1 + wd) := Nat.mul_le_mul_right _ hlt
          rw [Nat.add_mul] at h3
          omega
        obtain ⟨gy, hka, hgy⟩ := hM.kaddr (by omega)
        subst hka
        have hcap := hM.kcap
        unfold maxLen at hcap
        obtain ⟨hcap1, hcap2⟩ := hcap
        have hI := hM.ints (by omega) hzl hzs
        have d0 := hM.c0
        have d1 := hM.c1
        have dk := hM.key (i := p) (by omega)
        rw [hpc] at dk
        obtain ⟨A, hA, hIA⟩ : ∃ A, (if kc = p + 1 then some ⟨gy, 0, none⟩ else some ⟨gy, p + 1, none⟩) = A ∧ Ints wr A wd zs := ⟨_, rfl, ints_if hI (by omega)⟩
        have HI : Hid (Ints wr A wd zs) := hIA
        have HX : Hid (ks.getD j [] = pc :: zs ∧ zs.length = wd ∧ j * (1 + wd) = p) := ⟨hkey, hzl, hp⟩
        have HM2 := hM
        have i1 : (p : Int) < (kn : Int) := by omega
        clear hI hIA hkey hzl hp hpc hzs hM c0 c1 f0
        go_wp2
        go_quiet ((go_at_call 17; exact Calls.quiet_of_same (slot_any B pc _ _ wd _ N N zs _ (by unfold maxLen; omega) hN0 (by unfold maxLen; omega) (HI.out.drewN _) (cell_drewN d0 _))))
        go_wp2
        obtain ⟨hcast, hslt⟩ := hs_cast N pc zs hN0 (by omega)
        have hlen : (ks.take j).length < N := by rw [List.length_take]; omega
        obtain ⟨e, he, hez⟩ := hT.toFree hlen hslt
        go_loopg [5] e (fun k i wv => ∃ d : Nat, d + k = e ∧ i = .int .i64 (((hs N (pc :: zs) + d) % N : Nat) : Int) ∧ wv = wr.drewN nq ∧ ∀ d', d' < d → sl'.getD ((hs N (pc :: zs) + d') % N) 0 ≠ 0)
        case atStart => exact ⟨0, by omega, by rw [hcast, Nat.add_zero, Nat.mod_eq_of_lt hslt], rfl, fun d' h => absurd h (Nat.not_lt_zero _)⟩
        case round =>
          obtain ⟨d, hd, rfl, rfl, hz⟩ := hrel
          obtain ⟨q, hq⟩ : ∃ q, (hs N (pc :: zs) + d) % N = q := ⟨_, rfl⟩
          have hqN : q < N := by rw [← hq]; exact Nat.mod_lt _ hN0
          have dq := HM2.slot hqN
          rw [hq]
          by_cases hne : sl'.getD q 0 = 0
          · have hne0 : (sl'.getD q 0 != 0) = false := bne_eq_false_iff_eq.2 hne
            have HQ : Hid ((hs N (pc :: zs) + d) % N = q) := hq
            have HZ : Hid (∀ d', d' < d → sl'.getD ((hs N (pc :: zs) + d') % N) 0 ≠ 0) := hz
            have HE : Hid (sl'.getD q 0 = 0) := hne
            have hqi : (q : Int) < (N : Int) := by omega
            have fq := HM2.sfz q
            clear hq hd hz hne hez he hcast hslt hlen
            generalize sl'.getD q 0 = sq at dq hne0
            go_wp2
            go_roundw
            case rel => exact ⟨j + 1, p + (1 + wd), _, by rw [Nat.add_mul, HX.out.2.2]; omega, hlt, by go_num, (HM2.drewN nq).put q _ hN0, tab_step hT HK.out hlt HX.out.1 HX.out.2.2 hN0 HQ.out HE.out HZ.out, (below_drewN hb nq).setCell (Nat.le_of_lt hB) _⟩
            case measure => simp [intOf]; omega
          · have hne' : (sl'.getD q 0 != 0) = true := bne_iff_ne.2 hne
            have HZ : Hid (∀ d', d' < d + 1 → sl'.getD ((hs N (pc :: zs) + d') % N) 0 ≠ 0) := by
              intro d' hd'
              by_cases e1 : d' = d
              · rw [e1, hq]; exact hne
              · exact hz d' (by omega)
            have hde : d < e := by
              rcases Nat.lt_or_ge d e with h | h
              · exact h
              · have : d = e := by omega
                rw [this] at hq; rw [hq] at hez; exact absurd hez hne
            have HD : Hid (d + gk = e) := hd
            have HQ : Hid ((hs N (pc :: zs) + d) % N = q) := hq
            have hqi : (q : Int) < (N : Int) := by omega
            clear hq hd hz hne hez he hcast hslt hlen
            generalize sl'.getD q 0 = sq at dq hne'
            go_wp2
            go_roundg (gk - 1)
            case measure => have := HD.out; omega
            case rel => exact ⟨d + 1, by have := HD.out; omega, by rw [ring_step HQ.out], rfl, HZ.out⟩
      · have hpk : p = kn := by
          have h1 := flat_len ks (1 + wd) HK.out
          have h2 := hM.flen
          have h3 : j = ks.length := by omega
          rw [← hp, h3]; omega
        have hpi : ¬ (p : Int) < (kn : Int) := by omega
        have hta : ks.take j = ks := List.take_of_length_le (by omega)
        rw [hta] at hT
        have HM2 := hM
        have HT2 := hT
        have d1 := hM.c1
        clear hM hT hpk hp hta c0 c1 f0
        go_wp2
        go_end0
        exact ⟨rfl, _, _, HM2, HT2, hb⟩
end Go.Proofs.Qxb6619231a.StateSet
