/-
  THE PROOF OF 'Rows.FnConflictsWaitsOnlyThroughExclusiveOrGapSaid'. The frame below the walk is the given shell's; the walk is the seat's own.
-/
import Derived.Test.Qxb6617173aRows
import Derived.Test.Qxb6617173aConf
import Derived.WalkKit
import Derived.ProofKit
import Derived.OpenShut
import Derived.ShutString
namespace Go.Proofs.Qxb6617173a.fnConflictsWaitsOnlyThroughExclusiveOrGap
open Go.ChangeShapes Go.WideShapes Go.ChangeAt Go.RowKit
open Go.ChangeMaps (open_string shut_string)
open Go.Proofs.Qxb6617173a.Conf (conf V nz)
set_option linter.unusedSimpArgs false
set_option linter.unusedVariables false      -- a walk need not use every 'w<i>' (that an integer argument fits its kind)

theorem own : ownKnob Try.prog.godebug = none := by kernel_rfl

/-! ### STEP 1: THE WALK: the Go text returns true. 'Grown w w'': the world has at most new blocks (Derived/RowKit3.lean). Part the cases AHEAD of 'go_enter' where a test parts the walk; take each callee by a contract of your own. -/
theorem walk (a0 : Int) (a1 : Int) (w0 : (Lit.int .u8 a0).wf = true) (w1 : (Lit.int .u8 a1).wf = true) (w : World) :
    Calls Try.prog 7 #[.int .u8 a0, .int .u8 a1] w fun e w' => e = .returned (.bool true) ∧ Grown w w' := by
  have cG := fun w => Conf.zz_any a0 a1 w
  have cO := fun w => Conf.zz_any (bits .and .u8 a0 16) 32 w
  have cH := fun w => Conf.zz_any (bits .or .u8 a0 8) a1 w
  have cA := fun w => Conf.zz_any a0 (bits .or .u8 a1 8) w
  have cB := fun w => Conf.zz_any (bits .or .u8 a0 8) (bits .or .u8 a1 8) w
  cases hI : (bits .and .u8 a1 32 != 0)
  · have hn : nz (V a1 &&& 32#8) = false := by rw [← hI, Conf.nz_and, Conf.V32]
    have hg : conf (V a0) (V a1) = (conf (V (bits .or .u8 a0 8)) (V a1) && conf (V a0) (V (bits .or .u8 a1 8)) && (bits .and .u8 (bits .or .u8 a0 a1) 8 != 0)) := by
      rw [Conf.V_or, Conf.V_or, Conf.V8, Conf.nz_and, Conf.V_or, Conf.V8, Conf.waits _ _ hn]
    have hb : conf (V (bits .or .u8 a0 8)) (V (bits .or .u8 a1 8)) = true := by rw [Conf.V_or, Conf.V_or, Conf.V8, Conf.both_excl _ _ hn]
    rw [hg] at cG
    rw [hb] at cB
    clear hg hb hn cO
    generalize conf (V (bits .or .u8 a0 8)) (V a1) = hx at *
    generalize conf (V a0) (V (bits .or .u8 a1 8)) = ax at *
    cases hS : (bits .and .u8 (bits .or .u8 a0 a1) 8 != 0)
    all_goals
      rw [hS] at cG
      cases hx <;> cases ax
      all_goals
        simp only [Bool.and_true, Bool.and_false] at cG
        go_enter Try.func7, Try.ntmps7
        go_wp2_with fail
        refine (cG _).mono ?_
        rintro e w' ⟨rfl, rfl⟩
        go_wp2_with fail
        refine (cH _).mono ?_
        rintro e w' ⟨rfl, rfl⟩
        go_wp2_with fail
        refine (cA _).mono ?_
        rintro e w' ⟨rfl, rfl⟩
        go_wp2_with fail
        refine (cB _).mono ?_
        rintro e w' ⟨rfl, rfl⟩
        go_wp2_with fail
        go_ret
        exact ⟨rfl, Grown.refl _⟩
  · have hn : nz (V a1 &&& 32#8) = true := by rw [← hI, Conf.nz_and, Conf.V32]
    have hg : conf (V a0) (V a1) = (bits .and .u8 a0 16 != 0) := by rw [Conf.asked_ins _ _ hn, Conf.nz_and, Conf.V16]
    have ho : conf (V (bits .and .u8 a0 16)) (V 32) = (bits .and .u8 a0 16 != 0) := by rw [Conf.V_and, Conf.V32, Conf.V16, Conf.gap_only, Conf.nz_and, Conf.V16]
    rw [hg] at cG
    rw [ho] at cO
    clear hg ho hn cH cA cB
    cases hG : (bits .and .u8 a0 16 != 0)
    all_goals
      rw [hG] at cG cO
      go_enter Try.func7, Try.ntmps7
      go_wp2_with fail
      refine (cG _).mono ?_
      rintro e w' ⟨rfl, rfl⟩
      go_wp2_with fail
      refine (cO _).mono ?_
      rintro e w' ⟨rfl, rfl⟩
      go_wp2_with fail
      go_ret
      exact ⟨rfl, Grown.refl _⟩

/-! ### THE ROW's STEP: WRITTEN OUT: LEAVE IT -/
set_option maxRecDepth 100000 in
theorem lifted (os : Os) (started : os.Started) (H : Type) (enc : TypeId × Value → H) :
    ReturnsInHanded {} Try.checked os 7 .any (Rows.fnConflictsWaitsOnlyThroughExclusiveOrGapSpec.pre6 enc Try.prog Try.f7 Rows.fnConflictsWaitsOnlyThroughExclusiveOrGapRow.domain false) (Rows.fnConflictsWaitsOnlyThroughExclusiveOrGapSpec.post enc Try.prog Try.f7 false true false false) := by
  refine returnsInHanded_of_change (C := Try.checked) own started (by kernel_rfl) Try.func7
    (ChangeSpec.witness6 (enc := enc) (C := Try.checked) false ⟨#[], #[.int .u8 0, .int .u8 0], []⟩ 8 (by kernel_rfl) (by kernel_rfl) (by kernel_rfl) (by kernel_rfl)) ?_
  intro W base args ds gs before hval0 hW hcnd _
  have hval : ∀ (j : Nat) t v, Try.f7.params[j]? = some t → args[j]? = some v → Value.okWide Try.prog W .any base t v := hval0
  have hW' := hW
  obtain ⟨p, q, hA0, hV, rfl, hfz, hnd⟩ := hW
  have hA : DataW.TrodAll enc Try.prog W 0 (fun _ => true) true Try.f7.params.toList args.toList ds p := hA0
  rw [Try.params7] at hA hval
  obtain ⟨v0, vs0, d0, ds0, p0, q0, hargs, rfl, rfl, h0, r0⟩ := trodAll_cons hA
  obtain ⟨v1, vs1, d1, ds1, p1, q1, rfl, rfl, rfl, h1, r1⟩ := trodAll_cons r0
  obtain ⟨rfl, rfl, rfl⟩ := trodAll_nil r1
  obtain rfl : args = #[v0, v1] := by cases args; simp_all
  obtain ⟨rfl, rfl⟩ := trodVars_none hV
  obtain ⟨a0, rfl, rfl, rfl, w0⟩ := open_int Try.underlying5 (hval 0 5 v0 rfl rfl) h0
  obtain ⟨a1, rfl, rfl, rfl, w1⟩ := open_int Try.underlying5 (hval 1 5 v1 rfl rfl) h1
  clear hA0 hval0
  simp only [List.append_nil] at hW'
  refine (walk a0 a1 w0 w1 W).mono fun e W' ⟨he, hg⟩ => ?_
  subst he
  exact ⟨_, rfl, post_of_same (pa := []) (pv := []) hW' (fun _ _ _ => (trodAll_cons_mk (shut_bool Try.underlying4 _) trodAll_mk0)) (fun sp _ => (trodAll_cons_mk (shut_int Try.underlying5 w0) (trodAll_cons_mk (shut_int Try.underlying5 w1) trodAll_mk0))) (fun _ _ => rfl) rfl
    (hg.frame _) hg.2.1 (ok_one (by kernel_rfl) rfl (okWide_bool_mk Try.underlying4 _))⟩

theorem over : Rows.fnConflictsWaitsOnlyThroughExclusiveOrGapRow.holds Try.pinned (OpenSpec.ofChange Rows.fnConflictsWaitsOnlyThroughExclusiveOrGapSpec) :=
  OpenClaim.holds_of_wide 7 Try.f7 rfl rfl rfl rfl rfl rfl rfl ⟨rfl, rfl, rfl, rfl, rfl⟩ rfl rfl rfl rfl rfl (by kernel_rfl) Try.func7 (by kernel_rfl)
    (of_decide_eq_true (by kernel_rfl)) (by unfold Func.isWrapper; first | (rw [if_pos (by decide +kernel)]; kernel_rfl) | (rw [if_neg (by decide +kernel)]; exact ⟨rfl, rfl⟩))
    (fun os started H enc _ => lifted os started H enc)

/-- ████ THE STATEMENT ████ -/
theorem proved : Rows.FnConflictsWaitsOnlyThroughExclusiveOrGapSaid :=
  over
#print axioms proved
end Go.Proofs.Qxb6617173a.fnConflictsWaitsOnlyThroughExclusiveOrGap
