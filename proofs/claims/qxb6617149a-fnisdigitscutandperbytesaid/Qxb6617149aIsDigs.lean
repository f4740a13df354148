/-
  THE WALKS OF 'isDigits', 'ZZisDigits' AND 'eachByteReadsBelowTenAmtB1'.
-/
import Derived.Test.Qxb6617149aDigs
namespace Go.Proofs.Qxb6617149a.Digs
open Go.RowKit
open Go.Proofs.Qxb6617149a.Math (adStep ad dg digs pos positional stays)

set_option maxHeartbeats 400000 in
theorem isdigs_any (s : ByteArray) (w : World) (hs : s.size ≤ maxLen) :
    Calls Try.prog 15 #[.string s] w fun e w' => e = .returned (.bool (digs s.data.toList && !s.toList.isEmpty)) ∧ w' = w := by
  unfold maxLen at hs
  go_enter Try.func15, Try.ntmps15
  go_wp2
  go_loop [3] (fun i => ∃ k : Nat, k ≤ s.size ∧ i = .int .i64 k ∧ Hid (digs (s.data.toList.take k) = true)) (fun i => s.size - (intOf i).toNat)
  case atStart => exact ⟨0, Nat.zero_le _, rfl, rfl⟩
  case round =>
    obtain ⟨k, hk, rfl, hd⟩ := hrel
    by_cases hlt : k < s.size
    · go_wp2
      · go_ret
        exact ⟨ret_bool (by rw [digs_no s k hlt (by assumption)]; rfl), rfl⟩
      · go_round
        case rel => exact ⟨k + 1, by omega, by go_num, digs_next s k hlt hd.out (by assumption)⟩
        case measure => simp [intOf]; omega
      · go_ret
        exact ⟨ret_bool (by rw [digs_no s k hlt (.inl (by assumption))]; rfl), rfl⟩
    · go_wp2
      go_ret
      exact ⟨ret_bool (by have h := hd.out; rw [List.take_of_length_le (by simp; omega)] at h; rw [h]; rfl), rfl⟩

theorem zzisdigs_any (s : ByteArray) (w : World) (hs : s.size ≤ maxLen) :
    Calls Try.prog 7 #[.string s] w fun e w' => e = .returned (.bool (digs s.data.toList && !s.toList.isEmpty)) ∧ w' = w := by
  go_enter Try.func7, Try.ntmps7
  go_wp2_with fail
  refine (isdigs_any s _ hs).mono ?_
  rintro e w' ⟨rfl, rfl⟩
  go_wp2
  go_ret
  exact ⟨rfl, rfl⟩

theorem extract_one (s : ByteArray) (k : Nat) (h : k < s.size) : (s.extract k (k + 1)).data.toList = [s[k]] := by
  rw [ByteArray.data_extract, Array.toList_extract, List.extract_eq_take_drop, drop_cons s k h, Nat.add_sub_cancel_left]
  rfl
theorem one_any (s : ByteArray) (k : Nat) (h : k < s.size) (w : World) :
    Calls Try.prog 11 #[.int .u64 0, .string (s.extract k (k + 1))] w fun e w' => e = .returned (.int .u64 (ad 0 [s[k]])) ∧ w' = w := by
  have c := zzappend_any 0 (s.extract k (k + 1)) w (by omega) (by rw [ByteArray.size_extract]; unfold maxLen; omega)
  rw [extract_one s k h] at c
  exact c

set_option maxHeartbeats 400000 in
theorem each_any (s : ByteArray) (w : World) (hs : s.size ≤ maxLen) :
    Calls Try.prog 8 #[.string s] w fun e w' => e = .returned (.bool (digs s.data.toList)) ∧ w' = w := by
  unfold maxLen at hs
  go_enter Try.func8, Try.ntmps8
  go_wp2
  go_loop [3] (fun i => ∃ k : Nat, k ≤ s.size ∧ i = .int .i64 k ∧ Hid (digs (s.data.toList.take k) = true)) (fun i => s.size - (intOf i).toNat)
  case atStart => exact ⟨0, Nat.zero_le _, rfl, rfl⟩
  case round =>
    obtain ⟨k, hk, rfl, hd⟩ := hrel
    by_cases hlt : k < s.size
    · have c1 := fun w => one_any s k hlt w
      have h1 := Math.ad_one s[k]
      cases hg : dg s[k]
      · rw [hg] at h1
        have hv : 10 ≤ ad 0 [s[k]] := of_decide_eq_true h1
        have Hn : Hid (digs s.data.toList = false) := by
          refine digs_no s k hlt ?_
          rw [Bool.eq_false_iff, ne_eq, Math.dg_iff] at hg
          omega
        clear h1 hg
        generalize ad 0 [s[k]] = v at *
        go_wp2_with fail
        refine (c1 _).mono ?_
        rintro e w' ⟨rfl, rfl⟩
        go_wp2
        go_ret
        exact ⟨ret_bool Hn.out.symm, rfl⟩
      · rw [hg] at h1
        have hv : ad 0 [s[k]] < 10 := by have := of_decide_eq_false h1; omega
        have Hn : Hid (digs (s.data.toList.take (k + 1)) = true) := digs_next s k hlt hd.out ((Math.dg_iff _).1 hg)
        clear h1 hg
        generalize ad 0 [s[k]] = v at *
        go_wp2_with fail
        refine (c1 _).mono ?_
        rintro e w' ⟨rfl, rfl⟩
        go_wp2
        go_round
        case rel => exact ⟨k + 1, by omega, by go_num, Hn⟩
        case measure => simp [intOf]; omega
    · go_wp2
      go_ret
      exact ⟨ret_bool (by have h := hd.out; rw [List.take_of_length_le (by simp; omega)] at h; exact h.symm), rfl⟩
end Go.Proofs.Qxb6617149a.Digs
