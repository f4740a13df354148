/-
  THE PROOF OF 'Rows.FnConflictsJoinsOverAskedModesSaid'. The frame below the walk is the given shell's; the walk is the seat's own.
-/
import Derived.Test.Qxb6617173aRows
import Derived.Test.Qxb6617173aConf
import Derived.WalkKit
import Derived.ProofKit
import Derived.OpenShut
import Derived.ShutString
namespace Go.Proofs.Qxb6617173a.fnConflictsJoinsOverAskedModes
open Go.ChangeShapes Go.WideShapes Go.ChangeAt Go.RowKit
open Go.ChangeMaps (open_string shut_string)
open Go.Proofs.Qxb6617173a.Conf (conf V nz)
set_option linter.unusedSimpArgs false
set_option linter.unusedVariables false      -- a walk need not use every 'w<i>' (that an integer argument fits its kind)

theorem own : ownKnob Try.prog.godebug = none := by kernel_rfl

/-! ### STEP 1: THE WALK: the Go text returns true. 'Grown w w'': the world has at most new blocks (Derived/RowKit3.lean). Part the cases AHEAD of 'go_enter' where a test parts the walk; take each callee by a contract of your own. -/
theorem walk (a0 : Int) (a1 : Int) (a2 : Int) (w0 : (Lit.int .u8 a0).wf = true) (w1 : (Lit.int .u8 a1).wf = true) (w2 : (Lit.int .u8 a2).wf = true) (w : World) :
    Calls Try.prog 6 #[.int .u8 a0, .int .u8 a1, .int .u8 a2] w fun e w' => e = .returned (.bool true) ∧ Grown w w' := by
  have cJ := fun w => Conf.zz_any a0 (bits .or .u8 a1 a2) w
  have c1 := fun w => Conf.zz_any a0 a1 w
  have c2 := fun w => Conf.zz_any a0 a2 w
  have cX := fun w => Conf.zz_any a0 (bits .or .u8 a1 8) w
  have cB := fun w => Conf.zz_any a0 32 w
  cases hI : (bits .and .u8 (bits .or .u8 a1 a2) 32 != 0)
  · have hn : nz ((V a1 ||| V a2) &&& 32#8) = false := by rw [← hI, Conf.nz_and, Conf.V_or, Conf.V32]
    have hn1 : nz (V a1 &&& 32#8) = false := by
      rw [Conf.nz_or_and] at hn
      exact (Bool.or_eq_false_iff.1 hn).1
    have hj : conf (V a0) (V (bits .or .u8 a1 a2)) = (conf (V a0) (V a1) || conf (V a0) (V a2)) := by rw [Conf.V_or, Conf.asked_joined _ _ _ hn]
    have hx : conf (V a0) (V (bits .or .u8 a1 8)) = (bits .andNot .u8 a0 48 != 0) := by rw [Conf.V_or, Conf.V8, Conf.asked_excl _ _ hn1, Conf.nz_andNot, Conf.V48]
    rw [hj] at cJ
    rw [hx] at cX
    clear hj hx hn hn1 cB
    generalize conf (V a0) (V a1) = one at *
    generalize conf (V a0) (V a2) = two at *
    cases hM : (bits .andNot .u8 a0 48 != 0)
    all_goals
      rw [hM] at cX
      cases one <;> cases two
      all_goals
        simp only [Bool.or_true, Bool.or_false] at cJ
        go_enter Try.func6, Try.ntmps6
        go_wp2_with fail
        refine (cJ _).mono ?_
        rintro e w' ⟨rfl, rfl⟩
        go_wp2_with fail
        refine (c1 _).mono ?_
        rintro e w' ⟨rfl, rfl⟩
        go_wp2_with fail
        refine (c2 _).mono ?_
        rintro e w' ⟨rfl, rfl⟩
        go_wp2_with fail
        refine (cX _).mono ?_
        rintro e w' ⟨rfl, rfl⟩
        go_wp2_with fail
        go_ret
        exact ⟨rfl, Grown.refl _⟩
  · have hn : nz ((V a1 ||| V a2) &&& 32#8) = true := by rw [← hI, Conf.nz_and, Conf.V_or, Conf.V32]
    have hj : conf (V a0) (V (bits .or .u8 a1 a2)) = (bits .and .u8 a0 16 != 0) := by rw [Conf.V_or, Conf.asked_ins _ _ hn, Conf.nz_and, Conf.V16]
    have hb : conf (V a0) (V 32) = (bits .and .u8 a0 16 != 0) := by rw [Conf.V32, Conf.asked_ins _ _ Conf.c6, Conf.nz_and, Conf.V16]
    rw [hj] at cJ
    rw [hb] at cB
    clear hj hb hn c1 c2 cX
    cases hG : (bits .and .u8 a0 16 != 0)
    all_goals
      rw [hG] at cJ cB
      go_enter Try.func6, Try.ntmps6
      go_wp2_with fail
      refine (cJ _).mono ?_
      rintro e w' ⟨rfl, rfl⟩
      go_wp2_with fail
      refine (cB _).mono ?_
      rintro e w' ⟨rfl, rfl⟩
      go_wp2_with fail
      go_ret
      exact ⟨rfl, Grown.refl _⟩

/-! ### THE ROW's STEP: WRITTEN OUT: LEAVE IT -/
set_option maxRecDepth 100000 in
theorem lifted (os : Os) (started : os.Started) (H : Type) (enc : TypeId × Value → H) :
    ReturnsInHanded {} Try.checked os 6 .any (Rows.fnConflictsJoinsOverAskedModesSpec.pre6 enc Try.prog Try.f6 Rows.fnConflictsJoinsOverAskedModesRow.domain false) (Rows.fnConflictsJoinsOverAskedModesSpec.post enc Try.prog Try.f6 false true false false) := by
  refine returnsInHanded_of_change (C := Try.checked) own started (by kernel_rfl) Try.func6
    (ChangeSpec.witness6 (enc := enc) (C := Try.checked) false ⟨#[], #[.int .u8 0, .int .u8 0, .int .u8 0], []⟩ 8 (by kernel_rfl) (by kernel_rfl) (by kernel_rfl) (by kernel_rfl)) ?_
  intro W base args ds gs before hval0 hW hcnd _
  have hval : ∀ (j : Nat) t v, Try.f6.params[j]? = some t → args[j]? = some v → Value.okWide Try.prog W .any base t v := hval0
  have hW' := hW
  obtain ⟨p, q, hA0, hV, rfl, hfz, hnd⟩ := hW
  have hA : DataW.TrodAll enc Try.prog W 0 (fun _ => true) true Try.f6.params.toList args.toList ds p := hA0
  rw [Try.params6] at hA hval
  obtain ⟨v0, vs0, d0, ds0, p0, q0, hargs, rfl, rfl, h0, r0⟩ := trodAll_cons hA
  obtain ⟨v1, vs1, d1, ds1, p1, q1, rfl, rfl, rfl, h1, r1⟩ := trodAll_cons r0
  obtain ⟨v2, vs2, d2, ds2, p2, q2, rfl, rfl, rfl, h2, r2⟩ := trodAll_cons r1
  obtain ⟨rfl, rfl, rfl⟩ := trodAll_nil r2
  obtain rfl : args = #[v0, v1, v2] := by cases args; simp_all
  obtain ⟨rfl, rfl⟩ := trodVars_none hV
  obtain ⟨a0, rfl, rfl, rfl, w0⟩ := open_int Try.underlying5 (hval 0 5 v0 rfl rfl) h0
  obtain ⟨a1, rfl, rfl, rfl, w1⟩ := open_int Try.underlying5 (hval 1 5 v1 rfl rfl) h1
  obtain ⟨a2, rfl, rfl, rfl, w2⟩ := open_int Try.underlying5 (hval 2 5 v2 rfl rfl) h2
  clear hA0 hval0
  simp only [List.append_nil] at hW'
  refine (walk a0 a1 a2 w0 w1 w2 W).mono fun e W' ⟨he, hg⟩ => ?_
  subst he
  exact ⟨_, rfl, post_of_same (pa := []) (pv := []) hW' (fun _ _ _ => (trodAll_cons_mk (shut_bool Try.underlying4 _) trodAll_mk0)) (fun sp _ => (trodAll_cons_mk (shut_int Try.underlying5 w0) (trodAll_cons_mk (shut_int Try.underlying5 w1) (trodAll_cons_mk (shut_int Try.underlying5 w2) trodAll_mk0)))) (fun _ _ => rfl) rfl
    (hg.frame _) hg.2.1 (ok_one (by kernel_rfl) rfl (okWide_bool_mk Try.underlying4 _))⟩

theorem over : Rows.fnConflictsJoinsOverAskedModesRow.holds Try.pinned (OpenSpec.ofChange Rows.fnConflictsJoinsOverAskedModesSpec) :=
  OpenClaim.holds_of_wide 6 Try.f6 rfl rfl rfl rfl rfl rfl rfl ⟨rfl, rfl, rfl, rfl, rfl⟩ rfl rfl rfl rfl rfl (by kernel_rfl) Try.func6 (by kernel_rfl)
    (of_decide_eq_true (by kernel_rfl)) (by unfold Func.isWrapper; first | (rw [if_pos (by decide +kernel)]; kernel_rfl) | (rw [if_neg (by decide +kernel)]; exact ⟨rfl, rfl⟩))
    (fun os started H enc _ => lifted os started H enc)

/-- ████ THE STATEMENT ████ -/
theorem proved : Rows.FnConflictsJoinsOverAskedModesSaid :=
  over
#print axioms proved
end Go.Proofs.Qxb6617173a.fnConflictsJoinsOverAskedModes
