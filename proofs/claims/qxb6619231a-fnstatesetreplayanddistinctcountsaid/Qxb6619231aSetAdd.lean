/- The walk of 'add'. -/
import Derived.Test.Qxb6619231aSetAddMem
import Derived.BigRegion
import Derived.Laws.AppendOwnNone
import Derived.Deep.DeepMust
import Derived.WalkSpells
namespace Go.Proofs.Qxb6619231a.StateSet
open Go.RowKit

/-- What 'add' leaves. -/
def Added (w : World) (B wd : Nat) (ks : List (List Int)) (key : List Int) (e : Ending) (w' : World) : Prop :=
  e = .returned (.bool (decide (key ∉ ks))) ∧ St w' B wd (if key ∈ ks then ks else ks ++ [key]) ∧ Below B w w'

/-- The table has room: what the search of 'add' starts from. -/
structure Ready (w w1 : World) (B wd : Nat) (ks : List (List Int)) (g L sc : Nat) (sl : List Int) (ka : Option Addr) (kn kc : Nat) : Prop where
  mem : Mem w1 B (some ⟨g, 0, none⟩) L sc sl ka kn kc ks.flatten ks.length
  tab : Tab wd L (hs L) sl ks
  lo : 2 * (ks.length + 1) ≤ L
  lo16 : 16 ≤ L
  hi : L ≤ 4 * ks.length + 16
  below : Below B w w1

theorem tab_add {wd L kn d q : Nat} {sl : List Int} {ks : List (List Int)} {key : List Int} (hT : Tab wd L (hs L) sl ks) (hL : 0 < L) (hkn : kn = ks.length * (1 + wd)) (hq : (hs L key + d) % L = q) (hz : sl.getD q 0 = 0)
    (hm : Met wd L (hs L) sl ks key d) : Tab wd L (hs L) (sl.set q ((kn : Int) + 1)) (ks ++ [key]) := by
  have := hT.put hL key d (by rw [hq]; exact hz) (fun d' h => (hm d' h).1)
  rw [hq] at this
  have em : mark wd ks.length = (kn : Int) + 1 := by unfold mark; rw [← hkn]; omega
  rw [em] at this
  exact this

theorem added_new {w w5 : World} {B wd : Nat} {ks : List (List Int)} {pc : Int} {zs : List Int} {g L sc : Nat} {sl : List Int} {ka a5 : Option Addr} {kn kc k5 c5 : Nat} {e : Ending}
    (ME : Mid w5 B (some ⟨g, 0, none⟩) L sc sl ka kn kc (.slice a5 k5 c5) k5 (ks.flatten ++ [pc] ++ zs) ks.length) (B5 : Below B w w5) (hNK : (pc :: zs) ∉ ks) (hT : Tab wd L (hs L) sl (ks ++ [pc :: zs]))
    (hK : ∀ k ∈ ks, k.length = 1 + wd) (hz : zs.length = wd) (hR : 2 * (ks.length + 1) ≤ L ∧ 16 ≤ L ∧ L ≤ 4 * ks.length + 16) (he : e = .returned (.bool true)) :
    Added w B wd ks (pc :: zs) e ((w5.setCell ⟨B, 1, none⟩ (.slice a5 k5 c5)).setCell ⟨B, 2, none⟩ (.int .i64 ((ks.length : Int) + 1))) := by
  refine ⟨by rw [he, decide_eq_true hNK], ?_, Below.setCell (p := ⟨B, 2, none⟩) (Below.setCell (p := ⟨B, 1, none⟩) B5 (Nat.le_refl B) _) (Nat.le_refl B) _⟩
  rw [if_neg hNK]
  have M := ME.done
  have ef : (ks ++ [pc :: zs]).flatten = ks.flatten ++ [pc] ++ zs := by simp
  have el : (ks ++ [pc :: zs]).length = ks.length + 1 := by simp
  refine ⟨some ⟨g, 0, none⟩, L, sc, sl, a5, k5, c5, by rw [ef, el]; exact M, hT, fun k hk => ?_, by rw [el]; omega, .inr hR.2.1, by rw [el]; omega⟩
  rcases List.mem_append.1 hk with h | h
  · exact hK k h
  · simp at h; rw [h, List.length_cons]; omega
theorem added_old {w w' : World} {B wd : Nat} {ks : List (List Int)} {key : List Int} {g L sc : Nat} {sl : List Int} {ka : Option Addr} {kn kc j : Nat} {e : Ending} (R : Ready w w' B wd ks g L sc sl ka kn kc)
    (hK : ∀ k ∈ ks, k.length = 1 + wd) (hj : j < ks.length) (hk : ks.getD j [] = key) (he : e = .returned (.bool false)) (m : Nat) : Added w B wd ks key e (w'.drewN m) := by
  have hin : key ∈ ks := by rw [← hk, List.getD_eq_getElem?_getD, List.getElem?_eq_getElem hj]; exact List.getElem_mem hj
  refine ⟨by rw [he, decide_eq_false (fun h => h hin)], ?_, below_drewN R.below m⟩
  rw [if_pos hin]
  exact ⟨_, L, sc, sl, ka, kn, kc, R.mem.drewN m, R.tab, hK, by have := R.lo; omega, .inr R.lo16, R.hi⟩

set_option maxRecDepth 100000 in
set_option maxHeartbeats 2000000 in
theorem add_any (w : World) (B wd : Nat) (ks : List (List Int)) (hS : St w B wd ks) (pc : Int) (a : Option Addr) (c : Nat) (zs : List Int) (hx : Ints w a wd zs) (hnil : a = none → wd = 0 ∧ c = 0)
    (hab : ∀ x, a = some x → 0 < wd → x.block < B) (hsz : (ks.length + 1) * (1 + wd) ≤ 1048576) :
    Calls Try.prog 15 #[.pointer (some ⟨B, 0, none⟩), .int .i64 pc, .slice a wd c] w (Added w B wd ks (pc :: zs)) := by
  obtain ⟨sa, L, sc, sl, ka, kn, kc, hM, hT, hK, hnL, hL16, hLn⟩ := hS
  have hkn : kn = ks.length * (1 + wd) := by rw [← hM.flen]; exact flat_len ks _ hK
  have hkn1 : kn + 1 + wd ≤ 1048576 := by rw [Nat.add_mul] at hsz; omega
  have hnb : ks.length ≤ 1048576 := by
    have := Nat.le_mul_of_pos_right (ks.length + 1) (show 0 < 1 + wd by omega)
    omega
  have HX : Hid (Ints w a wd zs) := hx
  have HK : Hid (∀ k ∈ ks, k.length = 1 + wd) := hK
  have HKN : Hid (kn = ks.length * (1 + wd)) := hkn
  have HNIL : Hid (a = none → wd = 0 ∧ c = 0) := hnil
  have HAB : Hid (∀ x, a = some x → 0 < wd → x.block < B) := hab
  have d0 := hM.c0
  have d2 := hM.c2
  clear hx hK hkn hsz hnil hab
  by_cases hg : L < 2 * (ks.length + 1)
  · have hgi : (L : Int) < 2 * ((ks.length : Int) + 1) := by omega
    obtain ⟨N, hN⟩ : ∃ N, (L = 0 ∧ N = 16) ∨ (16 ≤ L ∧ N = 2 * L) := by
      rcases hL16 with h | h
      · exact ⟨16, .inl ⟨h, rfl⟩⟩
      · exact ⟨2 * L, .inr ⟨h, rfl⟩⟩
    have HM : Hid (Mem w B sa L sc sl ka kn kc ks.flatten ks.length) := hM
    have HN : Hid ((L = 0 ∧ N = 16) ∨ (16 ≤ L ∧ N = 2 * L)) := hN
    have hNr : ks.length < N ∧ 2 * (ks.length + 1) ≤ N ∧ 16 ≤ N ∧ N ≤ 4 * ks.length + 16 := by omega
    obtain ⟨hN1, hN2, hN3, hN4⟩ := hNr
    clear hM hT hL16 hN
    go_enter Try.func15, Try.ntmps15
    go_wp2
    go_quiet (fail)
    go_wp2_with fail
    refine (grow_any _ B sa L sc sl ka kn kc ks wd N (HM.out.drewN nq) HK.out HN.out hN1 (by omega) (by omega) (by omega)).mono ?_
    rintro e w1 ⟨rfl, g, sl1, hM1, hT1, hb1⟩
    have R : Ready w w1 B wd ks g N N sl1 ka kn kc := ⟨hM1, hT1, hN2, hN3, hN4, (below_drewN (Below.refl B w) nq).trans hb1⟩
    clear hM1 hT1 hb1 d0 d2 hgi HN HM hg
    go_wp2_with fail
    have hLm : N ≤ 9223372036854775807 := by have := R.hi; omega
    have hL0 : 0 < N := by have := R.lo; omega
    refine (slot_any B pc _ _ wd _ N N zs _ (by unfold maxLen; omega) hL0 (by unfold maxLen; omega) (ints_below HX.out R.below HAB.out) R.mem.c0).mono ?_
    rintro e w2 ⟨rfl, rfl⟩
    go_wp2_with fail
    obtain ⟨hcast, hslt⟩ := hs_cast N pc zs hL0 hLm
    obtain ⟨f, hf, hfz⟩ := R.tab.toFree (by have := R.lo; omega) hslt
    have HF : Hid (sl1.getD ((hs N (pc :: zs) + f) % N) 0 = 0) := hfz
    clear hfz hf
    go_loopg [7] f (fun k i wv => ∃ d m : Nat, d + k = f ∧ i = .int .i64 (((hs N (pc :: zs) + d) % N : Nat) : Int) ∧ wv = w2.drewN m ∧ Met wd N (hs N) sl1 ks (pc :: zs) d)
    case atStart => exact ⟨0, 0, by omega, by rw [hcast, Nat.add_zero, Nat.mod_eq_of_lt hslt], rfl, Met.zero _ _ _ _ _ _⟩
    case round =>
      obtain ⟨d, m, hd, rfl, rfl, hmet⟩ := hrel
      obtain ⟨q, hq⟩ : ∃ q, (hs N (pc :: zs) + d) % N = q := ⟨_, rfl⟩
      have hqL : q < N := by rw [← hq]; exact Nat.mod_lt _ hL0
      rw [hq]
      have e0 := R.mem.c0
      have e1 := R.mem.c1
      have hqi : (q : Int) < (N : Int) := by omega
      have HQ : Hid ((hs N (pc :: zs) + d) % N = q) := hq
      have HD : Hid (d + gk = f) := hd
      have dq := R.mem.slot hqL
      clear hcast hslt hq hd
      rcases R.tab.val q hqL with hz | ⟨j, hj, hz⟩
      · have HE : Hid (sl1.getD q 0 = 0) := hz
        rw [hz] at dq
        have fq := R.mem.sfz q
        clear hz
        go_wp2
        go_region
        have M3 := (R.mem.drewN (m + 1)).put q ((kn : Int) + 1) hL0
        have B3 : Below B w ((w2.drewN (m + 1)).setCell ⟨g, q, none⟩ (.int .i32 ((kn : Int) + 1))) := (below_drewN R.below (m + 1)).setCell (p := ⟨g, q, none⟩) (by obtain ⟨g', e', h'⟩ := R.mem.saddr hL0; simp at e'; show B ≤ g; omega) _
        have HNK : Hid ((pc :: zs) ∉ ks) := Met.absent R.tab hmet (by rw [HQ.out]; exact HE.out)
        have HT3 : Hid (Tab wd N (hs N) (sl1.set q ((kn : Int) + 1)) (ks ++ [pc :: zs])) := tab_add R.tab hL0 HKN.out HQ.out HE.out hmet
        have HR : Hid (2 * (ks.length + 1) ≤ N ∧ 16 ≤ N ∧ N ≤ 4 * ks.length + 16) := ⟨R.lo, R.lo16, R.hi⟩
        clear hmet HF HD HQ dq fq HE e0 e1 R
        generalize ((w2.drewN (m + 1)).setCell ⟨g, q, none⟩ (.int .i32 ((kn : Int) + 1))) = w3 at M3 B3 ⊢
        have e1 := M3.c1
        obtain ⟨i0, hi, hz0, hz1, hz2⟩ := info_parts Try.info3
        have HL : Hid (zs.length = wd) := HX.out.1
        rcases a with _ | ad
        · obtain ⟨rfl, rfl⟩ := HNIL.out rfl
          have HZN : Hid (zs = []) := List.eq_nil_of_length_eq_zero HL.out
          go_wp2_with (first
            | (at_builtin; refine wpList_append_own _ rfl (.tmp 65) (.tmp 67) 26 rfl (B + 1) 3 i0 (.int .i64 0) 1 8 Try.underlying26 hi hz0 hz1 hz2 rfl (by decide) _ _ _ rfl (M3.keys.alloc _) ⟨w3.heap.size, 0, none⟩ 1 1 [.int .i64 pc] rfl rfl (cell_one_new _ _ _) (by simp [Value.oneCell']) (by unfold maxLen; omega) (by omega) (by have := M3.lt; simp; omega) ?_; intro v4 w4 hown4 hgrow4 _; have MD := (M3.mid.alloc (.cells #[.int .i64 pc] 3)).append (fl5 := ks.flatten ++ [pc] ++ zs) hgrow4 (by rw [HZN.out, List.append_nil, List.map_append]; exact hown4); have B4 := (M3.mid.alloc (.cells #[.int .i64 pc] 3)).appBelow (B3.alloc (Nat.le_of_lt M3.lt) _) hgrow4; obtain ⟨a5, c5, hv5⟩ := own_shape hown4; clear hown4 hgrow4; subst hv5; have g1 := MD.c1; have g2 := MD.c2; have k1 := MD.fz 1; have k2 := MD.fz 2)
            | (at_builtin; go_must (refine wpList_append_own_none rfl (.tmp 68) (.tmp 69) 26 rfl (B + 1) 3 i0 1 Try.underlying26 hi _ _ _ rfl MD.keys rfl ?_)))
          go_ret
          exact added_new MD B4 HNK.out HT3.out HK.out HL.out HR.out rfl
        · go_wp2_with (first
            | (at_builtin; refine wpList_append_own _ rfl (.tmp 65) (.tmp 67) 26 rfl (B + 1) 3 i0 (.int .i64 0) 1 8 Try.underlying26 hi hz0 hz1 hz2 rfl (by decide) _ _ _ rfl (M3.keys.alloc _) ⟨w3.heap.size, 0, none⟩ 1 1 [.int .i64 pc] rfl rfl (cell_one_new _ _ _) (by simp [Value.oneCell']) (by unfold maxLen; omega) (by omega) (by have := M3.lt; simp; omega) ?_; intro v4 w4 hown4 hgrow4 _; have MD := (M3.mid.alloc (.cells #[.int .i64 pc] 3)).append (fl5 := ks.flatten ++ [pc]) hgrow4 (by rw [List.map_append]; exact hown4); have B4 := (M3.mid.alloc (.cells #[.int .i64 pc] 3)).appBelow (B3.alloc (Nat.le_of_lt M3.lt) _) hgrow4; clear hown4 hgrow4)
            | (at_builtin; go_must (refine wpList_append_own _ rfl (.tmp 68) (.tmp 69) 26 rfl (B + 1) 3 i0 (.int .i64 0) 1 8 Try.underlying26 hi hz0 hz1 hz2 rfl (by decide) _ _ _ rfl MD.keys ad wd c (zs.map (Value.int .i64)) rfl (by simpa using HL.out) (ints_news (ints_below HX.out B4 HAB.out)) (ints_oneCell _ _) (by unfold maxLen; omega) (by omega) MD.lt ?_; intro v5 w5 hown5 hgrow5 _; have ME := MD.append (fl5 := ks.flatten ++ [pc] ++ zs) hgrow5 (by rw [List.map_append]; exact hown5); have B5 := MD.appBelow B4 hgrow5; obtain ⟨a5, c5, hv5⟩ := own_shape hown5; clear hown5 hgrow5; subst hv5; have g1 := ME.c1; have g2 := ME.c2; have k1 := ME.fz 1; have k2 := ME.fz 2)))
          go_ret
          exact added_new ME B5 HNK.out HT3.out HK.out HL.out HR.out rfl
      · obtain ⟨p1, zj, hkey, hzl, hpc, hzs⟩ := key_parts HK.out hj
        obtain ⟨p, hp⟩ : ∃ p, j * (1 + wd) = p := ⟨_, rfl⟩
        rw [hp] at hpc hzs
        have hend : p + (1 + wd) ≤ kn := by
          have h2 := HKN.out
          have h3 : (j + 1) * (1 + wd) ≤ ks.length * (1 + wd) := Nat.mul_le_mul_right _ hj
          rw [Nat.add_mul] at h3
          omega
        have hmk : sl1.getD q 0 = (p : Int) + 1 := by rw [hz]; unfold mark; rw [hp]; omega
        rw [hmk] at dq
        obtain ⟨gy, hka, hgy⟩ := R.mem.kaddr (by omega)
        subst hka
        obtain ⟨hcap1, hcap2⟩ := R.mem.kcap
        unfold maxLen at hcap2
        have hI := R.mem.ints (by omega) hzl hzs
        have dk := R.mem.key (i := p) (by omega)
        rw [hpc] at dk
        obtain ⟨A, hA, hIA⟩ : ∃ A, (if kc = p + 1 then some ⟨gy, 0, none⟩ else some ⟨gy, p + 1, none⟩) = A ∧ Ints w2 A wd zj := ⟨_, rfl, ints_if hI (by omega)⟩
        have HI : Hid (Ints w2 A wd zj) := hIA
        have HZ : Hid (sl1.getD ((hs N (pc :: zs) + d) % N) 0 = mark wd j) := by show _ = _; rw [HQ.out]; exact hz
        have HKEY : Hid (ks.getD j [] = p1 :: zj) := hkey
        have i1 : (p : Int) < (kn : Int) := by omega
        have hgf : Hid (mark wd j ≠ 0) := mark_ne wd j
        clear hz hmk hI hIA hkey hzl hp hpc hzs
        by_cases hpe : p1 = pc
        · subst hpe
          by_cases hze : zj = zs
          · have HZE : Hid (zj = zs) := hze
            clear hze
            go_wp2_with fail
            refine (equal_any A a wd _ _ zj zs _ (by unfold maxLen; omega) (HI.out.drewN m) (ints_below HX.out (below_drewN R.below m) HAB.out)).mono ?_
            rintro e w3 ⟨rfl, m2, rfl⟩
            rw [decide_eq_true HZE.out, World.drewN_drewN]
            go_wp2_with fail
            go_ret
            exact added_old R HK.out hj (by rw [HKEY.out, HZE.out]) rfl _
          · have HZE : Hid (zj ≠ zs) := hze
            clear hze
            go_wp2_with fail
            refine (equal_any A a wd _ _ zj zs _ (by unfold maxLen; omega) (HI.out.drewN m) (ints_below HX.out (below_drewN R.below m) HAB.out)).mono ?_
            rintro e w3 ⟨rfl, m2, rfl⟩
            rw [decide_eq_false HZE.out, World.drewN_drewN]
            go_wp2_with fail
            have hmet2 := hmet.step HZ.out (by rw [HKEY.out]; exact fun e => HZE.out (List.cons.inj e).2)
            have hdf := hmet2.before HF.out
            go_roundg (gk - 1)
            case measure => have := HD.out; omega
            case rel => exact ⟨d + 1, m + m2, by have := HD.out; omega, by rw [ring_step HQ.out], rfl, hmet2⟩
        · have hpb : (p1 == pc) = false := beq_eq_false_iff_ne.2 hpe
          have HPE : Hid (p1 ≠ pc) := hpe
          clear hpe
          go_wp2_with fail
          have hmet2 := hmet.step HZ.out (by rw [HKEY.out]; exact fun e => HPE.out (List.cons.inj e).1)
          have hdf := hmet2.before HF.out
          go_roundg (gk - 1)
          case measure => have := HD.out; omega
          case rel => exact ⟨d + 1, m, by have := HD.out; omega, by rw [ring_step HQ.out], rfl, hmet2⟩
  · have hgi : ¬ (L : Int) < 2 * ((ks.length : Int) + 1) := by omega
    obtain ⟨g, hsa, _⟩ := hM.saddr (by omega)
    subst hsa
    have HM : Hid (Mem w B (some ⟨g, 0, none⟩) L sc sl ka kn kc ks.flatten ks.length) := hM
    have hT1 := hT
    clear hM hT
    go_enter Try.func15, Try.ntmps15
    go_wp2
    go_quiet (fail)
    go_wp2_with fail
    have R : Ready w (w.drewN nq) B wd ks g L sc sl ka kn kc := ⟨HM.out.drewN nq, hT1, by omega, by omega, hLn, below_drewN (Below.refl B w) nq⟩
    generalize w.drewN nq = w1 at R ⊢
    clear hT1 d0 d2 hgi HM hg
    have hLm : L ≤ 9223372036854775807 := by have := R.hi; omega
    have hL0 : 0 < L := by have := R.lo; omega
    refine (slot_any B pc _ _ wd _ L sc zs _ (by unfold maxLen; omega) hL0 (by unfold maxLen; omega) (ints_below HX.out R.below HAB.out) R.mem.c0).mono ?_
    rintro e w2 ⟨rfl, rfl⟩
    go_wp2_with fail
    obtain ⟨hcast, hslt⟩ := hs_cast L pc zs hL0 hLm
    obtain ⟨f, hf, hfz⟩ := R.tab.toFree (by have := R.lo; omega) hslt
    have HF : Hid (sl.getD ((hs L (pc :: zs) + f) % L) 0 = 0) := hfz
    clear hfz hf
    go_loopg [7] f (fun k i wv => ∃ d m : Nat, d + k = f ∧ i = .int .i64 (((hs L (pc :: zs) + d) % L : Nat) : Int) ∧ wv = w2.drewN m ∧ Met wd L (hs L) sl ks (pc :: zs) d)
    case atStart => exact ⟨0, 0, by omega, by rw [hcast, Nat.add_zero, Nat.mod_eq_of_lt hslt], rfl, Met.zero _ _ _ _ _ _⟩
    case round =>
      obtain ⟨d, m, hd, rfl, rfl, hmet⟩ := hrel
      obtain ⟨q, hq⟩ : ∃ q, (hs L (pc :: zs) + d) % L = q := ⟨_, rfl⟩
      have hqL : q < L := by rw [← hq]; exact Nat.mod_lt _ hL0
      rw [hq]
      have e0 := R.mem.c0
      have e1 := R.mem.c1
      have hqi : (q : Int) < (L : Int) := by omega
      have HQ : Hid ((hs L (pc :: zs) + d) % L = q) := hq
      have HD : Hid (d + gk = f) := hd
      have dq := R.mem.slot hqL
      clear hcast hslt hq hd
      rcases R.tab.val q hqL with hz | ⟨j, hj, hz⟩
      · have HE : Hid (sl.getD q 0 = 0) := hz
        rw [hz] at dq
        have fq := R.mem.sfz q
        clear hz
        go_wp2
        go_region
        have M3 := (R.mem.drewN (m + 1)).put q ((kn : Int) + 1) hL0
        have B3 : Below B w ((w2.drewN (m + 1)).setCell ⟨g, q, none⟩ (.int .i32 ((kn : Int) + 1))) := (below_drewN R.below (m + 1)).setCell (p := ⟨g, q, none⟩) (by obtain ⟨g', e', h'⟩ := R.mem.saddr hL0; simp at e'; show B ≤ g; omega) _
        have HNK : Hid ((pc :: zs) ∉ ks) := Met.absent R.tab hmet (by rw [HQ.out]; exact HE.out)
        have HT3 : Hid (Tab wd L (hs L) (sl.set q ((kn : Int) + 1)) (ks ++ [pc :: zs])) := tab_add R.tab hL0 HKN.out HQ.out HE.out hmet
        have HR : Hid (2 * (ks.length + 1) ≤ L ∧ 16 ≤ L ∧ L ≤ 4 * ks.length + 16) := ⟨R.lo, R.lo16, R.hi⟩
        clear hmet HF HD HQ dq fq HE e0 e1 R
        generalize ((w2.drewN (m + 1)).setCell ⟨g, q, none⟩ (.int .i32 ((kn : Int) + 1))) = w3 at M3 B3 ⊢
        have e1 := M3.c1
        obtain ⟨i0, hi, hz0, hz1, hz2⟩ := info_parts Try.info3
        have HL : Hid (zs.length = wd) := HX.out.1
        rcases a with _ | ad
        · obtain ⟨rfl, rfl⟩ := HNIL.out rfl
          have HZN : Hid (zs = []) := List.eq_nil_of_length_eq_zero HL.out
          go_wp2_with (first
            | (at_builtin; refine wpList_append_own _ rfl (.tmp 65) (.tmp 67) 26 rfl (B + 1) 3 i0 (.int .i64 0) 1 8 Try.underlying26 hi hz0 hz1 hz2 rfl (by decide) _ _ _ rfl (M3.keys.alloc _) ⟨w3.heap.size, 0, none⟩ 1 1 [.int .i64 pc] rfl rfl (cell_one_new _ _ _) (by simp [Value.oneCell']) (by unfold maxLen; omega) (by omega) (by have := M3.lt; simp; omega) ?_; intro v4 w4 hown4 hgrow4 _; have MD := (M3.mid.alloc (.cells #[.int .i64 pc] 3)).append (fl5 := ks.flatten ++ [pc] ++ zs) hgrow4 (by rw [HZN.out, List.append_nil, List.map_append]; exact hown4); have B4 := (M3.mid.alloc (.cells #[.int .i64 pc] 3)).appBelow (B3.alloc (Nat.le_of_lt M3.lt) _) hgrow4; obtain ⟨a5, c5, hv5⟩ := own_shape hown4; clear hown4 hgrow4; subst hv5; have g1 := MD.c1; have g2 := MD.c2; have k1 := MD.fz 1; have k2 := MD.fz 2)
            | (at_builtin; go_must (refine wpList_append_own_none rfl (.tmp 68) (.tmp 69) 26 rfl (B + 1) 3 i0 1 Try.underlying26 hi _ _ _ rfl MD.keys rfl ?_)))
          go_ret
          exact added_new MD B4 HNK.out HT3.out HK.out HL.out HR.out rfl
        · go_wp2_with (first
            | (at_builtin; refine wpList_append_own _ rfl (.tmp 65) (.tmp 67) 26 rfl (B + 1) 3 i0 (.int .i64 0) 1 8 Try.underlying26 hi hz0 hz1 hz2 rfl (by decide) _ _ _ rfl (M3.keys.alloc _) ⟨w3.heap.size, 0, none⟩ 1 1 [.int .i64 pc] rfl rfl (cell_one_new _ _ _) (by simp [Value.oneCell']) (by unfold maxLen; omega) (by omega) (by have := M3.lt; simp; omega) ?_; intro v4 w4 hown4 hgrow4 _; have MD := (M3.mid.alloc (.cells #[.int .i64 pc] 3)).append (fl5 := ks.flatten ++ [pc]) hgrow4 (by rw [List.map_append]; exact hown4); have B4 := (M3.mid.alloc (.cells #[.int .i64 pc] 3)).appBelow (B3.alloc (Nat.le_of_lt M3.lt) _) hgrow4; clear hown4 hgrow4)
            | (at_builtin; go_must (refine wpList_append_own _ rfl (.tmp 68) (.tmp 69) 26 rfl (B + 1) 3 i0 (.int .i64 0) 1 8 Try.underlying26 hi hz0 hz1 hz2 rfl (by decide) _ _ _ rfl MD.keys ad wd c (zs.map (Value.int .i64)) rfl (by simpa using HL.out) (ints_news (ints_below HX.out B4 HAB.out)) (ints_oneCell _ _) (by unfold maxLen; omega) (by omega) MD.lt ?_; intro v5 w5 hown5 hgrow5 _; have ME := MD.append (fl5 := ks.flatten ++ [pc] ++ zs) hgrow5 (by rw [List.map_append]; exact hown5); have B5 := MD.appBelow B4 hgrow5; obtain ⟨a5, c5, hv5⟩ := own_shape hown5; clear hown5 hgrow5; subst hv5; have g1 := ME.c1; have g2 := ME.c2; have k1 := ME.fz 1; have k2 := ME.fz 2)))
          go_ret
          exact added_new ME B5 HNK.out HT3.out HK.out HL.out HR.out rfl
      · obtain ⟨p1, zj, hkey, hzl, hpc, hzs⟩ := key_parts HK.out hj
        obtain ⟨p, hp⟩ : ∃ p, j * (1 + wd) = p := ⟨_, rfl⟩
        rw [hp] at hpc hzs
        have hend : p + (1 + wd) ≤ kn := by
          have h2 := HKN.out
          have h3 : (j + 1) * (1 + wd) ≤ ks.length * (1 + wd) := Nat.mul_le_mul_right _ hj
          rw [Nat.add_mul] at h3
          omega
        have hmk : sl.getD q 0 = (p : Int) + 1 := by rw [hz]; unfold mark; rw [hp]; omega
        rw [hmk] at dq
        obtain ⟨gy, hka, hgy⟩ := R.mem.kaddr (by omega)
        subst hka
        obtain ⟨hcap1, hcap2⟩ := R.mem.kcap
        unfold maxLen at hcap2
        have hI := R.mem.ints (by omega) hzl hzs
        have dk := R.mem.key (i := p) (by omega)
        rw [hpc] at dk
        obtain ⟨A, hA, hIA⟩ : ∃ A, (if kc = p + 1 then some ⟨gy, 0, none⟩ else some ⟨gy, p + 1, none⟩) = A ∧ Ints w2 A wd zj := ⟨_, rfl, ints_if hI (by omega)⟩
        have HI : Hid (Ints w2 A wd zj) := hIA
        have HZ : Hid (sl.getD ((hs L (pc :: zs) + d) % L) 0 = mark wd j) := by show _ = _; rw [HQ.out]; exact hz
        have HKEY : Hid (ks.getD j [] = p1 :: zj) := hkey
        have i1 : (p : Int) < (kn : Int) := by omega
        have hgf : Hid (mark wd j ≠ 0) := mark_ne wd j
        clear hz hmk hI hIA hkey hzl hp hpc hzs
        by_cases hpe : p1 = pc
        · subst hpe
          by_cases hze : zj = zs
          · have HZE : Hid (zj = zs) := hze
            clear hze
            go_wp2_with fail
            refine (equal_any A a wd _ _ zj zs _ (by unfold maxLen; omega) (HI.out.drewN m) (ints_below HX.out (below_drewN R.below m) HAB.out)).mono ?_
            rintro e w3 ⟨rfl, m2, rfl⟩
            rw [decide_eq_true HZE.out, World.drewN_drewN]
            go_wp2_with fail
            go_ret
            exact added_old R HK.out hj (by rw [HKEY.out, HZE.out]) rfl _
          · have HZE : Hid (zj ≠ zs) := hze
            clear hze
            go_wp2_with fail
            refine (equal_any A a wd _ _ zj zs _ (by unfold maxLen; omega) (HI.out.drewN m) (ints_below HX.out (below_drewN R.below m) HAB.out)).mono ?_
            rintro e w3 ⟨rfl, m2, rfl⟩
            rw [decide_eq_false HZE.out, World.drewN_drewN]
            go_wp2_with fail
            have hmet2 := hmet.step HZ.out (by rw [HKEY.out]; exact fun e => HZE.out (List.cons.inj e).2)
            have hdf := hmet2.before HF.out
            go_roundg (gk - 1)
            case measure => have := HD.out; omega
            case rel => exact ⟨d + 1, m + m2, by have := HD.out; omega, by rw [ring_step HQ.out], rfl, hmet2⟩
        · have hpb : (p1 == pc) = false := beq_eq_false_iff_ne.2 hpe
          have HPE : Hid (p1 ≠ pc) := hpe
          clear hpe
          go_wp2_with fail
          have hmet2 := hmet.step HZ.out (by rw [HKEY.out]; exact fun e => HPE.out (List.cons.inj e).1)
          have hdf := hmet2.before HF.out
          go_roundg (gk - 1)
          case measure => have := HD.out; omega
          case rel => exact ⟨d + 1, m, by have := HD.out; omega, by rw [ring_step HQ.out], rfl, hmet2⟩
end Go.Proofs.Qxb6619231a.StateSet
