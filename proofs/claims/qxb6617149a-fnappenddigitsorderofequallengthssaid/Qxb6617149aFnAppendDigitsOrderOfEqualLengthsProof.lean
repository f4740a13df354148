/-
  THE PROOF OF 'Rows.FnAppendDigitsOrderOfEqualLengthsSaid'. The frame below the walk is the given shell's; the walk is the seat's own.
-/
import Derived.Test.Qxb6617149aRows
import Derived.Test.Qxb6617149aStays
import Derived.WalkKit
import Derived.ProofKit
import Derived.OpenShut
import Derived.ShutString
namespace Go.Proofs.Qxb6617149a.fnAppendDigitsOrderOfEqualLengths
open Go.ChangeShapes Go.WideShapes Go.ChangeAt Go.RowKit
open Go.ChangeMaps (open_string shut_string)
open Go.Proofs.Qxb6617149a.Math (ad digs stays)
set_option linter.unusedVariables false      -- a walk need not use every 'w<i>' (that an integer argument fits its kind)

theorem own : ownKnob Try.prog.godebug = none := by kernel_rfl

theorem bytes_yes (u : Int) (a b : ByteArray) (h : (a.size : Int) + (b.size : Int) ≤ 1048576) (w : World) :
    Calls Try.prog 13 #[.int .u64 u, .string a, .string b] w fun e w' => e = .returned (.bool true) ∧ w' = w := by
  go_enter Try.func13, Try.ntmps13
  go_wp2
  go_ret
  exact ⟨rfl, rfl⟩
theorem bytes_no (u : Int) (a b : ByteArray) (ha : a.size ≤ maxLen) (hb : b.size ≤ maxLen) (h : (1048576 : Int) < (a.size : Int) + (b.size : Int)) (w : World) :
    Calls Try.prog 13 #[.int .u64 u, .string a, .string b] w fun e w' => e = .returned (.bool false) ∧ w' = w := by
  unfold maxLen at ha hb
  by_cases h1 : (1048576 : Int) < (a.size : Int)
  · go_enter Try.func13, Try.ntmps13
    go_wp2
    go_ret
    exact ⟨rfl, rfl⟩
  by_cases h2 : (1048576 : Int) < (b.size : Int)
  · go_enter Try.func13, Try.ntmps13
    go_wp2
    go_ret
    exact ⟨rfl, rfl⟩
  go_enter Try.func13, Try.ntmps13
  go_wp2
  go_ret
  exact ⟨rfl, rfl⟩

/-! ### STEP 1: THE WALK: the Go text returns true. 'Grown w w'': the world has at most new blocks (Derived/RowKit3.lean). Part the cases AHEAD of 'go_enter' where a test parts the walk; take each callee by a contract of your own. -/
theorem walk (a0 : Int) (a1 : ByteArray) (a2 : ByteArray) (w0 : (Lit.int .u64 a0).wf = true) (w1 : a1.size ≤ maxLen) (w2 : a2.size ≤ maxLen) (w : World) :
    Calls Try.prog 5 #[.int .u64 a0, .string a1, .string a2] w fun e w' => e = .returned (.bool true) ∧ Grown w w' := by
  have hu := bounds_u64 w0
  by_cases hfit : (a1.size : Int) + (a2.size : Int) ≤ 1048576
  · by_cases h1 : (524288 : Int) < (a1.size : Int)
    · go_enter Try.func5, Try.ntmps5
      go_wp2_with fail
      refine (bytes_yes a0 a1 a2 hfit _).mono ?_
      rintro e w' ⟨rfl, rfl⟩
      go_wp2_with fail
      go_ret
      exact ⟨rfl, Grown.refl _⟩
    by_cases h2 : (524288 : Int) < (a2.size : Int)
    · go_enter Try.func5, Try.ntmps5
      go_wp2_with fail
      refine (bytes_yes a0 a1 a2 hfit _).mono ?_
      rintro e w' ⟨rfl, rfl⟩
      go_wp2_with fail
      go_ret
      exact ⟨rfl, Grown.refl _⟩
    by_cases h3 : ((a1.size : Int) != (a2.size : Int)) = true
    · go_enter Try.func5, Try.ntmps5
      go_wp2_with fail
      refine (bytes_yes a0 a1 a2 hfit _).mono ?_
      rintro e w' ⟨rfl, rfl⟩
      go_wp2_with fail
      go_ret
      exact ⟨rfl, Grown.refl _⟩
    have hnn : a1.size = a2.size := by
      have h3' : (a1.size : Int) = (a2.size : Int) := by simpa using h3
      omega
    have hneq : ((a1.size : Int) != (a2.size : Int)) = false := by simpa using h3
    have hlen : a1.data.toList.length = a2.data.toList.length := by simpa using hnn
    clear h3
    have c1 := fun w => Digs.alldigs_any a1 w w1
    have c2 := fun w => Digs.alldigs_any a2 w w2
    cases hd1 : digs a1.data.toList
    · rw [hd1] at c1
      clear hd1 hnn hlen
      go_enter Try.func5, Try.ntmps5
      go_wp2_with fail
      refine (bytes_yes a0 a1 a2 hfit _).mono ?_
      rintro e w' ⟨rfl, rfl⟩
      go_wp2_with fail
      refine (c1 _).mono ?_
      rintro e w' ⟨rfl, rfl⟩
      go_wp2_with fail
      go_ret
      exact ⟨rfl, Grown.refl _⟩
    cases hd2 : digs a2.data.toList
    · rw [hd1] at c1
      rw [hd2] at c2
      clear hd1 hd2 hnn hlen
      go_enter Try.func5, Try.ntmps5
      go_wp2_with fail
      refine (bytes_yes a0 a1 a2 hfit _).mono ?_
      rintro e w' ⟨rfl, rfl⟩
      go_wp2_with fail
      refine (c1 _).mono ?_
      rintro e w' ⟨rfl, rfl⟩
      go_wp2_with fail
      refine (c2 _).mono ?_
      rintro e w' ⟨rfl, rfl⟩
      go_wp2_with fail
      go_ret
      exact ⟨rfl, Grown.refl _⟩
    have s1 := fun w => Digs.stays_any a0 a1 w hu w1 hd1
    have s2 := fun w => Digs.stays_any a0 a2 w hu w2 hd2
    cases hs1 : stays a0 a1.data.toList
    · rw [hd1] at c1
      rw [hd2] at c2
      rw [hs1] at s1
      clear hd1 hd2 hs1 hnn hlen
      go_enter Try.func5, Try.ntmps5
      go_wp2_with fail
      refine (bytes_yes a0 a1 a2 hfit _).mono ?_
      rintro e w' ⟨rfl, rfl⟩
      go_wp2_with fail
      refine (c1 _).mono ?_
      rintro e w' ⟨rfl, rfl⟩
      go_wp2_with fail
      refine (c2 _).mono ?_
      rintro e w' ⟨rfl, rfl⟩
      go_wp2_with fail
      refine (s1 _).mono ?_
      rintro e w' ⟨rfl, rfl⟩
      go_wp2_with fail
      go_ret
      exact ⟨rfl, Grown.refl _⟩
    cases hs2 : stays a0 a2.data.toList
    · rw [hd1] at c1
      rw [hd2] at c2
      rw [hs1] at s1
      rw [hs2] at s2
      clear hd1 hd2 hs1 hs2 hnn hlen
      go_enter Try.func5, Try.ntmps5
      go_wp2_with fail
      refine (bytes_yes a0 a1 a2 hfit _).mono ?_
      rintro e w' ⟨rfl, rfl⟩
      go_wp2_with fail
      refine (c1 _).mono ?_
      rintro e w' ⟨rfl, rfl⟩
      go_wp2_with fail
      refine (c2 _).mono ?_
      rintro e w' ⟨rfl, rfl⟩
      go_wp2_with fail
      refine (s1 _).mono ?_
      rintro e w' ⟨rfl, rfl⟩
      go_wp2_with fail
      refine (s2 _).mono ?_
      rintro e w' ⟨rfl, rfl⟩
      go_wp2_with fail
      go_ret
      exact ⟨rfl, Grown.refl _⟩
    have hord := Math.ad_order a0 hu a1.data.toList a2.data.toList hlen hd1 hd2 hs1 hs2
    have x1 := fun w => Digs.zzappend_any a0 a1 w hu w1
    have x2 := fun w => Digs.zzappend_any a0 a2 w hu w2
    rw [hd1] at c1
    rw [hd2] at c2
    rw [hs1] at s1
    rw [hs2] at s2
    clear hd1 hd2 hs1 hs2 hnn hlen
    generalize ad a0 a1.data.toList = X at *
    generalize ad a0 a2.data.toList = Y at *
    have hq : (decide (X < Y) == Op.bytesLess a1.toList a2.toList) = true := by
      rw [ByteArray.toList_eq, ByteArray.toList_eq, hord.1]; exact beq_self_eq_true _
    have He : Hid (((X == Y) == (a1.toList == a2.toList)) = true) := by
      show ((X == Y) == (a1.toList == a2.toList)) = true
      rw [ByteArray.toList_eq, ByteArray.toList_eq, beq_iff_eq, Bool.eq_iff_iff, beq_iff_eq, beq_iff_eq]
      exact hord.2
    clear hord
    go_enter Try.func5, Try.ntmps5
    go_wp2_with fail
    refine (bytes_yes a0 a1 a2 hfit _).mono ?_
    rintro e w' ⟨rfl, rfl⟩
    go_wp2_with fail
    refine (c1 _).mono ?_
    rintro e w' ⟨rfl, rfl⟩
    go_wp2_with fail
    refine (c2 _).mono ?_
    rintro e w' ⟨rfl, rfl⟩
    go_wp2_with fail
    refine (s1 _).mono ?_
    rintro e w' ⟨rfl, rfl⟩
    go_wp2_with fail
    refine (s2 _).mono ?_
    rintro e w' ⟨rfl, rfl⟩
    go_wp2_with fail
    refine (x1 _).mono ?_
    rintro e w' ⟨rfl, rfl⟩
    go_wp2_with fail
    refine (x2 _).mono ?_
    rintro e w' ⟨rfl, rfl⟩
    go_wp2_with fail
    go_ret
    exact ⟨Digs.ret_bool He.out, Grown.refl _⟩
  · go_enter Try.func5, Try.ntmps5
    go_wp2_with fail
    refine (bytes_no a0 a1 a2 w1 w2 hfit _).mono ?_
    rintro e w' ⟨rfl, rfl⟩
    go_wp2_with fail
    go_ret
    exact ⟨rfl, Grown.refl _⟩

/-! ### THE ROW's STEP: WRITTEN OUT: LEAVE IT -/
set_option maxRecDepth 100000 in
theorem lifted (os : Os) (started : os.Started) (H : Type) (enc : TypeId × Value → H) :
    ReturnsInHanded {} Try.checked os 5 .any (Rows.fnAppendDigitsOrderOfEqualLengthsSpec.pre6 enc Try.prog Try.f5 Rows.fnAppendDigitsOrderOfEqualLengthsRow.domain false) (Rows.fnAppendDigitsOrderOfEqualLengthsSpec.post enc Try.prog Try.f5 false true false false) := by
  refine returnsInHanded_of_change (C := Try.checked) own started (by kernel_rfl) Try.func5
    (ChangeSpec.witness6 (enc := enc) (C := Try.checked) false ⟨#[], #[.int .u64 0, .string ByteArray.empty, .string ByteArray.empty], []⟩ 8 (by kernel_rfl) (by kernel_rfl) (by kernel_rfl) (by kernel_rfl)) ?_
  intro W base args ds gs before hval0 hW hcnd _
  have hval : ∀ (j : Nat) t v, Try.f5.params[j]? = some t → args[j]? = some v → Value.okWide Try.prog W .any base t v := hval0
  have hW' := hW
  obtain ⟨p, q, hA0, hV, rfl, hfz, hnd⟩ := hW
  have hA : DataW.TrodAll enc Try.prog W 0 (fun _ => true) true Try.f5.params.toList args.toList ds p := hA0
  rw [Try.params5] at hA hval
  obtain ⟨v0, vs0, d0, ds0, p0, q0, hargs, rfl, rfl, h0, r0⟩ := trodAll_cons hA
  obtain ⟨v1, vs1, d1, ds1, p1, q1, rfl, rfl, rfl, h1, r1⟩ := trodAll_cons r0
  obtain ⟨v2, vs2, d2, ds2, p2, q2, rfl, rfl, rfl, h2, r2⟩ := trodAll_cons r1
  obtain ⟨rfl, rfl, rfl⟩ := trodAll_nil r2
  obtain rfl : args = #[v0, v1, v2] := by cases args; simp_all
  obtain ⟨rfl, rfl⟩ := trodVars_none hV
  obtain ⟨a0, rfl, rfl, rfl, w0⟩ := open_int Try.underlying24 (hval 0 24 v0 rfl rfl) h0
  obtain ⟨a1, rfl, rfl, rfl, w1⟩ := open_string Try.underlying9 (hval 1 9 v1 rfl rfl) h1
  obtain ⟨a2, rfl, rfl, rfl, w2⟩ := open_string Try.underlying9 (hval 2 9 v2 rfl rfl) h2
  clear hA0 hval0
  simp only [List.append_nil] at hW'
  refine (walk a0 a1 a2 w0 w1 w2 W).mono fun e W' ⟨he, hg⟩ => ?_
  subst he
  exact ⟨_, rfl, post_of_same (pa := []) (pv := []) hW' (fun _ _ _ => (trodAll_cons_mk (shut_bool Try.underlying4 _) trodAll_mk0)) (fun sp _ => (trodAll_cons_mk (shut_int Try.underlying24 w0) (trodAll_cons_mk (shut_string Try.underlying9 w1) (trodAll_cons_mk (shut_string Try.underlying9 w2) trodAll_mk0)))) (fun _ _ => rfl) rfl
    (hg.frame _) hg.2.1 (ok_one (by kernel_rfl) rfl (okWide_bool_mk Try.underlying4 _))⟩

theorem over : Rows.fnAppendDigitsOrderOfEqualLengthsRow.holds Try.pinned (OpenSpec.ofChange Rows.fnAppendDigitsOrderOfEqualLengthsSpec) :=
  OpenClaim.holds_of_wide 5 Try.f5 rfl rfl rfl rfl rfl rfl rfl ⟨rfl, rfl, rfl, rfl, rfl⟩ rfl rfl rfl rfl rfl (by kernel_rfl) Try.func5 (by kernel_rfl)
    (of_decide_eq_true (by kernel_rfl)) (by unfold Func.isWrapper; first | (rw [if_pos (by decide +kernel)]; kernel_rfl) | (rw [if_neg (by decide +kernel)]; exact ⟨rfl, rfl⟩))
    (fun os started H enc _ => lifted os started H enc)

/-- ████ THE STATEMENT ████ -/
theorem proved : Rows.FnAppendDigitsOrderOfEqualLengthsSaid :=
  over
#print axioms proved
end Go.Proofs.Qxb6617149a.fnAppendDigitsOrderOfEqualLengths
