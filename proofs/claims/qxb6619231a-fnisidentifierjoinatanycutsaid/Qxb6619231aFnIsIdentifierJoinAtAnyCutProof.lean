/-
  The proof of 'Rows.FnIsIdentifierJoinAtAnyCutSaid': the kit's shell for this function (proof-skeleton), its hole filled by the walk below.
-/
import Derived.Test.Qxb6619231aRows
import Derived.Test.Qxb6619231aIdentWalks
import Derived.WalkKit
import Derived.ProofKit
import Derived.OpenShut
import Derived.ShutString
namespace Go.Proofs.Qxb6619231a.fnIsIdentifierJoinAtAnyCut
open Go.ChangeShapes Go.WideShapes Go.ChangeAt Go.RowKit
open Go.Proofs.Qxb6619231a.Ident
open Go.ChangeMaps (open_string shut_string)
set_option linter.unusedVariables false      -- a walk need not use every 'w<i>' (that an integer argument fits its kind)

theorem own : ownKnob Try.prog.godebug = none := by kernel_rfl

/-! ### STEP 1: THE WALK: the Go text returns true. 'Grown w w'': the world has at most new blocks (Derived/RowKit3.lean). Part the cases AHEAD of 'go_enter' where a test parts the walk; take each callee by a contract of your own. -/
theorem walk (a0 : ByteArray) (a1 : ByteArray) (w0 : a0.size ≤ maxLen) (w1 : a1.size ≤ maxLen) (w : World) :
    Calls Try.prog 3 #[.string a0, .string a1] w fun e w' => e = .returned (.bool true) ∧ Grown w w' := by
  have hb0 := w0
  have hb1 := w1
  unfold maxLen at hb0 hb1
  by_cases hf : a0.size + a1.size ≤ 1048576
  · have F : Hid (fitB a0 a1 = true) := decide_eq_true hf
    by_cases he : a0.size = 0
    · obtain rfl : a0 = ByteArray.empty := by cases a0 with | mk d => simp [ByteArray.size] at he; subst he; rfl
      go_enter Try.func3, Try.ntmps3
      go_wp2_with fail
      refine (sizes_any _ _ w0 w1 _).mono ?_
      rintro e w' ⟨rfl, rfl⟩
      rw [F.out]
      go_wp2_with fail
      go_ret
      exact ⟨rfl, Grown.refl _⟩
    · have hp : 0 < a0.size := by omega
      have hn : a0.toList.isEmpty = false := not_empty hp
      clear he
      go_enter Try.func3, Try.ntmps3
      go_wp2_with fail
      refine (sizes_any _ _ w0 w1 _).mono ?_
      rintro e w' ⟨rfl, rfl⟩
      rw [F.out]
      obtain ⟨x, hx⟩ : ∃ x, idB a0 = x := ⟨_, rfl⟩
      obtain ⟨y, hy⟩ : ∃ y, idB (ByteArray.mk #[95] ++ a1) = y := ⟨_, rfl⟩
      have HW : Hid (idB (a0 ++ a1) = (x && y)) := by show idB (a0 ++ a1) = (x && y); rw [join_law a0 a1 hp, hx, hy]
      have HX : Hid (idB a0 = x) := hx
      have HY : Hid (idB (ByteArray.mk #[95] ++ a1) = y) := hy
      clear hx hy
      go_wp2_with fail
      refine (isId_any _ (by rw [ByteArray.size_append]; unfold maxLen; omega) _).mono ?_
      rintro e w1 ⟨rfl, rfl⟩
      rw [HW.out]
      go_wp2_with fail
      refine (isId_any _ w0 _).mono ?_
      rintro e w1 ⟨rfl, rfl⟩
      rw [HX.out]
      go_wp2_with fail
      refine (isId_any _ (by rw [ByteArray.size_append, under_size]; unfold maxLen; omega) _).mono ?_
      rintro e w1 ⟨rfl, rfl⟩
      rw [HY.out]
      go_wp2_with fail
      refine (zzIdent_any _ w0 hp _).mono ?_
      rintro e w1 ⟨rfl, rfl⟩
      rw [HX.out]
      clear HW HX HY
      cases x <;> cases y
      all_goals
        go_wp2_with fail
        go_ret
        exact ⟨rfl, Grown.refl _⟩
  · have F : Hid (fitB a0 a1 = false) := decide_eq_false hf
    go_enter Try.func3, Try.ntmps3
    go_wp2_with fail
    refine (sizes_any _ _ w0 w1 _).mono ?_
    rintro e w' ⟨rfl, rfl⟩
    rw [F.out]
    go_wp2_with fail
    go_ret
    exact ⟨rfl, Grown.refl _⟩

/-! ### THE ROW's STEP: WRITTEN OUT: LEAVE IT -/
set_option maxRecDepth 100000 in
theorem lifted (os : Os) (started : os.Started) (H : Type) (enc : TypeId × Value → H) :
    ReturnsInHanded {} Try.checked os 3 .any (Rows.fnIsIdentifierJoinAtAnyCutSpec.pre6 enc Try.prog Try.f3 Rows.fnIsIdentifierJoinAtAnyCutRow.domain false) (Rows.fnIsIdentifierJoinAtAnyCutSpec.post enc Try.prog Try.f3 false true false false) := by
  refine returnsInHanded_of_change (C := Try.checked) own started (by kernel_rfl) Try.func3
    (ChangeSpec.witness6 (enc := enc) (C := Try.checked) false ⟨#[], #[.string ByteArray.empty, .string ByteArray.empty], []⟩ 8 (by kernel_rfl) (by kernel_rfl) (by kernel_rfl) (by kernel_rfl)) ?_
  intro W base args ds gs before hval0 hW hcnd _
  have hval : ∀ (j : Nat) t v, Try.f3.params[j]? = some t → args[j]? = some v → Value.okWide Try.prog W .any base t v := hval0
  have hW' := hW
  obtain ⟨p, q, hA0, hV, rfl, hfz, hnd⟩ := hW
  have hA : DataW.TrodAll enc Try.prog W 0 (fun _ => true) true Try.f3.params.toList args.toList ds p := hA0
  rw [Try.params3] at hA hval
  obtain ⟨v0, vs0, d0, ds0, p0, q0, hargs, rfl, rfl, h0, r0⟩ := trodAll_cons hA
  obtain ⟨v1, vs1, d1, ds1, p1, q1, rfl, rfl, rfl, h1, r1⟩ := trodAll_cons r0
  obtain ⟨rfl, rfl, rfl⟩ := trodAll_nil r1
  obtain rfl : args = #[v0, v1] := by cases args; simp_all
  obtain ⟨rfl, rfl⟩ := trodVars_none hV
  obtain ⟨a0, rfl, rfl, rfl, w0⟩ := open_string Try.underlying9 (hval 0 9 v0 rfl rfl) h0
  obtain ⟨a1, rfl, rfl, rfl, w1⟩ := open_string Try.underlying9 (hval 1 9 v1 rfl rfl) h1
  clear hA0 hval0
  simp only [List.append_nil] at hW'
  refine (walk a0 a1 w0 w1 W).mono fun e W' ⟨he, hg⟩ => ?_
  subst he
  exact ⟨_, rfl, post_of_same (pa := []) (pv := []) hW' (fun _ _ _ => (trodAll_cons_mk (shut_bool Try.underlying4 _) trodAll_mk0)) (fun sp _ => (trodAll_cons_mk (shut_string Try.underlying9 w0) (trodAll_cons_mk (shut_string Try.underlying9 w1) trodAll_mk0))) (fun _ _ => rfl) rfl
    (hg.frame _) hg.2.1 (ok_one (by kernel_rfl) rfl (okWide_bool_mk Try.underlying4 _))⟩

theorem over : Rows.fnIsIdentifierJoinAtAnyCutRow.holds Try.pinned (OpenSpec.ofChange Rows.fnIsIdentifierJoinAtAnyCutSpec) :=
  OpenClaim.holds_of_wide 3 Try.f3 rfl rfl rfl rfl rfl rfl rfl ⟨rfl, rfl, rfl, rfl, rfl⟩ rfl rfl rfl rfl rfl (by kernel_rfl) Try.func3 (by kernel_rfl)
    (of_decide_eq_true (by kernel_rfl)) (by unfold Func.isWrapper; first | (rw [if_pos (by decide +kernel)]; kernel_rfl) | (rw [if_neg (by decide +kernel)]; exact ⟨rfl, rfl⟩))
    (fun os started H enc _ => lifted os started H enc)

/-- ████ THE STATEMENT ████ -/
theorem proved : Rows.FnIsIdentifierJoinAtAnyCutSaid :=
  over
#print axioms proved
end Go.Proofs.Qxb6619231a.fnIsIdentifierJoinAtAnyCut
