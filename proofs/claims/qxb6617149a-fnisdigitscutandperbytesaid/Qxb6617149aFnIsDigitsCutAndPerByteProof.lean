/-
  THE PROOF OF 'Rows.FnIsDigitsCutAndPerByteSaid'. The frame below the walk is the given shell's; the walk is the seat's own.
-/
import Derived.Test.Qxb6617149aRows
import Derived.Test.Qxb6617149aIsDigs
import Derived.WalkKit
import Derived.ProofKit
import Derived.OpenShut
import Derived.ShutString
namespace Go.Proofs.Qxb6617149a.fnIsDigitsCutAndPerByte
open Go.ChangeShapes Go.WideShapes Go.ChangeAt Go.RowKit
open Go.ChangeMaps (open_string shut_string)
open Go.Proofs.Qxb6617149a.Math (digs)
set_option linter.unusedVariables false      -- a walk need not use every 'w<i>' (that an integer argument fits its kind)

theorem own : ownKnob Try.prog.godebug = none := by kernel_rfl

theorem bytes_yes (a b : ByteArray) (h : (a.size : Int) + (b.size : Int) ≤ 1048576) (w : World) :
    Calls Try.prog 6 #[.string a, .string b] w fun e w' => e = .returned (.bool true) ∧ w' = w := by
  go_enter Try.func6, Try.ntmps6
  go_wp2
  go_ret
  exact ⟨rfl, rfl⟩
theorem bytes_no (a b : ByteArray) (ha : a.size ≤ maxLen) (hb : b.size ≤ maxLen) (h : (1048576 : Int) < (a.size : Int) + (b.size : Int)) (w : World) :
    Calls Try.prog 6 #[.string a, .string b] w fun e w' => e = .returned (.bool false) ∧ w' = w := by
  unfold maxLen at ha hb
  by_cases h1 : (1048576 : Int) < (a.size : Int)
  · go_enter Try.func6, Try.ntmps6
    go_wp2
    go_ret
    exact ⟨rfl, rfl⟩
  by_cases h2 : (1048576 : Int) < (b.size : Int)
  · go_enter Try.func6, Try.ntmps6
    go_wp2
    go_ret
    exact ⟨rfl, rfl⟩
  go_enter Try.func6, Try.ntmps6
  go_wp2
  go_ret
  exact ⟨rfl, rfl⟩
theorem empty_append (l m : List UInt8) : (l ++ m).isEmpty = (l.isEmpty && m.isEmpty) := by cases l <;> rfl
theorem empty_digs (s : ByteArray) : s.toList.isEmpty = true → digs s.data.toList = true := by
  rw [ByteArray.toList_eq]
  intro h
  rw [List.isEmpty_iff.1 h]; rfl

set_option linter.unusedSimpArgs false in
/-- The law behind its three tests of length: by the two emptinesses and the two parts' digits. -/
theorem main (a0 a1 : ByteArray) (hfit : (a0.size : Int) + (a1.size : Int) ≤ 1048576) (h1 : (a0.size : Int) ≤ 524288) (h2 : (a1.size : Int) ≤ 524288)
    (ea eb da db : Bool) (hea : a0.toList.isEmpty = ea) (heb : a1.toList.isEmpty = eb) (heab : (a0 ++ a1).toList.isEmpty = (ea && eb)) (ia : ea = true → da = true) (ib : eb = true → db = true)
    (cW : ∀ w : World, Calls Try.prog 7 #[.string (a0 ++ a1)] w fun e w' => e = .returned (.bool ((da && db) && !(ea && eb))) ∧ w' = w)
    (c0 : ∀ w : World, Calls Try.prog 7 #[.string a0] w fun e w' => e = .returned (.bool (da && !ea)) ∧ w' = w)
    (c1 : ∀ w : World, Calls Try.prog 7 #[.string a1] w fun e w' => e = .returned (.bool (db && !eb)) ∧ w' = w)
    (e0 : ∀ w : World, Calls Try.prog 8 #[.string a0] w fun e w' => e = .returned (.bool da) ∧ w' = w)
    (e1 : ∀ w : World, Calls Try.prog 8 #[.string a1] w fun e w' => e = .returned (.bool db) ∧ w' = w) (w : World) :
    Calls Try.prog 3 #[.string a0, .string a1] w fun e w' => e = .returned (.bool true) ∧ Grown w w' := by
  cases ea
  · clear ia
    cases eb
    · clear ib
      cases da <;> cases db <;> simp only [Bool.and_true, Bool.and_false, Bool.true_and, Bool.false_and, Bool.not_true, Bool.not_false] at heab cW c0 c1
      all_goals
        go_enter Try.func3, Try.ntmps3
        go_wp2_with fail
        refine (bytes_yes a0 a1 hfit _).mono ?_
        rintro e w' ⟨rfl, rfl⟩
        go_wp2_with fail
        refine (cW _).mono ?_
        rintro e w' ⟨rfl, rfl⟩
        go_wp2_with fail
        refine (c0 _).mono ?_
        rintro e w' ⟨rfl, rfl⟩
        go_wp2_with fail
        refine (c1 _).mono ?_
        rintro e w' ⟨rfl, rfl⟩
        go_wp2_with fail
        refine (e0 _).mono ?_
        rintro e w' ⟨rfl, rfl⟩
        go_wp2_with fail
        refine (e1 _).mono ?_
        rintro e w' ⟨rfl, rfl⟩
        go_wp2_with fail
        go_ret
        exact ⟨rfl, Grown.refl _⟩
    · obtain rfl := ib rfl
      clear ib
      cases da <;> simp only [Bool.and_true, Bool.and_false, Bool.true_and, Bool.false_and, Bool.not_true, Bool.not_false] at heab cW c0 c1
      all_goals
        go_enter Try.func3, Try.ntmps3
        go_wp2_with fail
        refine (bytes_yes a0 a1 hfit _).mono ?_
        rintro e w' ⟨rfl, rfl⟩
        go_wp2_with fail
        refine (cW _).mono ?_
        rintro e w' ⟨rfl, rfl⟩
        go_wp2_with fail
        refine (c0 _).mono ?_
        rintro e w' ⟨rfl, rfl⟩
        go_wp2_with fail
        refine (c1 _).mono ?_
        rintro e w' ⟨rfl, rfl⟩
        go_wp2_with fail
        refine (e0 _).mono ?_
        rintro e w' ⟨rfl, rfl⟩
        go_wp2_with fail
        go_ret
        exact ⟨rfl, Grown.refl _⟩
  · obtain rfl := ia rfl
    clear ia
    cases eb
    · clear ib
      cases db <;> simp only [Bool.and_true, Bool.and_false, Bool.true_and, Bool.false_and, Bool.not_true, Bool.not_false] at heab cW c0 c1
      all_goals
        go_enter Try.func3, Try.ntmps3
        go_wp2_with fail
        refine (bytes_yes a0 a1 hfit _).mono ?_
        rintro e w' ⟨rfl, rfl⟩
        go_wp2_with fail
        refine (cW _).mono ?_
        rintro e w' ⟨rfl, rfl⟩
        go_wp2_with fail
        refine (c0 _).mono ?_
        rintro e w' ⟨rfl, rfl⟩
        go_wp2_with fail
        refine (c1 _).mono ?_
        rintro e w' ⟨rfl, rfl⟩
        go_wp2_with fail
        refine (e1 _).mono ?_
        rintro e w' ⟨rfl, rfl⟩
        go_wp2_with fail
        go_ret
        exact ⟨rfl, Grown.refl _⟩
    · obtain rfl := ib rfl
      clear ib
      simp only [Bool.and_true, Bool.and_false, Bool.true_and, Bool.false_and, Bool.not_true, Bool.not_false] at heab cW c0 c1
      go_enter Try.func3, Try.ntmps3
      go_wp2_with fail
      refine (bytes_yes a0 a1 hfit _).mono ?_
      rintro e w' ⟨rfl, rfl⟩
      go_wp2_with fail
      refine (cW _).mono ?_
      rintro e w' ⟨rfl, rfl⟩
      go_wp2_with fail
      refine (c0 _).mono ?_
      rintro e w' ⟨rfl, rfl⟩
      go_wp2_with fail
      refine (c1 _).mono ?_
      rintro e w' ⟨rfl, rfl⟩
      go_wp2_with fail
      go_ret
      exact ⟨rfl, Grown.refl _⟩

/-! ### STEP 1: THE WALK: the Go text returns true. 'Grown w w'': the world has at most new blocks (Derived/RowKit3.lean). Part the cases AHEAD of 'go_enter' where a test parts the walk; take each callee by a contract of your own. -/
theorem walk (a0 : ByteArray) (a1 : ByteArray) (w0 : a0.size ≤ maxLen) (w1 : a1.size ≤ maxLen) (w : World) :
    Calls Try.prog 3 #[.string a0, .string a1] w fun e w' => e = .returned (.bool true) ∧ Grown w w' := by
  by_cases hfit : (a0.size : Int) + (a1.size : Int) ≤ 1048576
  · by_cases h1 : (524288 : Int) < (a0.size : Int)
    · go_enter Try.func3, Try.ntmps3
      go_wp2_with fail
      refine (bytes_yes a0 a1 hfit _).mono ?_
      rintro e w' ⟨rfl, rfl⟩
      go_wp2_with fail
      go_ret
      exact ⟨rfl, Grown.refl _⟩
    by_cases h2 : (524288 : Int) < (a1.size : Int)
    · go_enter Try.func3, Try.ntmps3
      go_wp2_with fail
      refine (bytes_yes a0 a1 hfit _).mono ?_
      rintro e w' ⟨rfl, rfl⟩
      go_wp2_with fail
      go_ret
      exact ⟨rfl, Grown.refl _⟩
    have hsz : (a0 ++ a1).size ≤ maxLen := by
      rw [ByteArray.size_append]; unfold maxLen; omega
    have hcat : (a0 ++ a1).data.toList = a0.data.toList ++ a1.data.toList := by simp [ByteArray.data_append]
    have cW := fun w => Digs.zzisdigs_any (a0 ++ a1) w hsz
    have hemp : (a0 ++ a1).toList.isEmpty = (a0.toList.isEmpty && a1.toList.isEmpty) := by rw [ByteArray.toList_eq, hcat, empty_append, ByteArray.toList_eq, ByteArray.toList_eq]
    rw [hemp, hcat, Math.digs_append] at cW
    exact main a0 a1 hfit (by omega) (by omega) _ _ _ _ rfl rfl hemp (empty_digs a0) (empty_digs a1) cW (fun w => Digs.zzisdigs_any a0 w w0) (fun w => Digs.zzisdigs_any a1 w w1) (fun w => Digs.each_any a0 w w0) (fun w => Digs.each_any a1 w w1) w
  · go_enter Try.func3, Try.ntmps3
    go_wp2_with fail
    refine (bytes_no a0 a1 w0 w1 hfit _).mono ?_
    rintro e w' ⟨rfl, rfl⟩
    go_wp2_with fail
    go_ret
    exact ⟨rfl, Grown.refl _⟩

/-! ### THE ROW's STEP: WRITTEN OUT: LEAVE IT -/
set_option maxRecDepth 100000 in
theorem lifted (os : Os) (started : os.Started) (H : Type) (enc : TypeId × Value → H) :
    ReturnsInHanded {} Try.checked os 3 .any (Rows.fnIsDigitsCutAndPerByteSpec.pre6 enc Try.prog Try.f3 Rows.fnIsDigitsCutAndPerByteRow.domain false) (Rows.fnIsDigitsCutAndPerByteSpec.post enc Try.prog Try.f3 false true false false) := by
  refine returnsInHanded_of_change (C := Try.checked) own started (by kernel_rfl) Try.func3
    (ChangeSpec.witness6 (enc := enc) (C := Try.checked) false ⟨#[], #[.string ByteArray.empty, .string ByteArray.empty], []⟩ 8 (by kernel_rfl) (by kernel_rfl) (by kernel_rfl) (by kernel_rfl)) ?_
  intro W base args ds gs before hval0 hW hcnd _
  have hval : ∀ (j : Nat) t v, Try.f3.params[j]? = some t → args[j]? = some v → Value.okWide Try.prog W .any base t v := hval0
  have hW' := hW
  obtain ⟨p, q, hA0, hV, rfl, hfz, hnd⟩ := hW
  have hA : DataW.TrodAll enc Try.prog W 0 (fun _ => true) true Try.f3.params.toList args.toList ds p := hA0
  rw [Try.params3] at hA hval
  obtain ⟨v0, vs0, d0, ds0, p0, q0, hargs, rfl, rfl, h0, r0⟩ := trodAll_cons hA
  obtain ⟨v1, vs1, d1, ds1, p1, q1, rfl, rfl, rfl, h1, r1⟩ := trodAll_cons r0
  obtain ⟨rfl, rfl, rfl⟩ := trodAll_nil r1
  obtain rfl : args = #[v0, v1] := by cases args; simp_all
  obtain ⟨rfl, rfl⟩ := trodVars_none hV
  obtain ⟨a0, rfl, rfl, rfl, w0⟩ := open_string Try.underlying9 (hval 0 9 v0 rfl rfl) h0
  obtain ⟨a1, rfl, rfl, rfl, w1⟩ := open_string Try.underlying9 (hval 1 9 v1 rfl rfl) h1
  clear hA0 hval0
  simp only [List.append_nil] at hW'
  refine (walk a0 a1 w0 w1 W).mono fun e W' ⟨he, hg⟩ => ?_
  subst he
  exact ⟨_, rfl, post_of_same (pa := []) (pv := []) hW' (fun _ _ _ => (trodAll_cons_mk (shut_bool Try.underlying4 _) trodAll_mk0)) (fun sp _ => (trodAll_cons_mk (shut_string Try.underlying9 w0) (trodAll_cons_mk (shut_string Try.underlying9 w1) trodAll_mk0))) (fun _ _ => rfl) rfl
    (hg.frame _) hg.2.1 (ok_one (by kernel_rfl) rfl (okWide_bool_mk Try.underlying4 _))⟩

theorem over : Rows.fnIsDigitsCutAndPerByteRow.holds Try.pinned (OpenSpec.ofChange Rows.fnIsDigitsCutAndPerByteSpec) :=
  OpenClaim.holds_of_wide 3 Try.f3 rfl rfl rfl rfl rfl rfl rfl ⟨rfl, rfl, rfl, rfl, rfl⟩ rfl rfl rfl rfl rfl (by kernel_rfl) Try.func3 (by kernel_rfl)
    (of_decide_eq_true (by kernel_rfl)) (by unfold Func.isWrapper; first | (rw [if_pos (by decide +kernel)]; kernel_rfl) | (rw [if_neg (by decide +kernel)]; exact ⟨rfl, rfl⟩))
    (fun os started H enc _ => lifted os started H enc)

/-- ████ THE STATEMENT ████ -/
theorem proved : Rows.FnIsDigitsCutAndPerByteSaid :=
  over
#print axioms proved
end Go.Proofs.Qxb6617149a.fnIsDigitsCutAndPerByte
