/-
  THE WALK OF 'staysBelow2to64AmtB1' (over digits).
-/
import Derived.Test.Qxb6617149aDigs
namespace Go.Proofs.Qxb6617149a.Digs
open Go.RowKit
open Go.Proofs.Qxb6617149a.Math (adStep ad dg digs pos positional stays)

theorem digs_at (s : ByteArray) (hd : digs s.data.toList = true) (k : Nat) (h : k < s.size) : 48 ≤ (s[k].toNat : Int) ∧ (s[k].toNat : Int) ≤ 57 := by
  rw [← List.take_append_drop k s.data.toList, drop_cons s k h, Math.digs_append, Math.digs_cons] at hd
  simp only [Bool.and_eq_true] at hd
  exact (Math.dg_iff _).1 hd.2.1
theorem quo_is (c : Int) (h : 48 ≤ c ∧ c ≤ 57) : IntKind.u64.wrap ((IntKind.u64.wrap (18446744073709551615 - IntKind.u64.wrap (IntKind.u64.wrap c - 48))).tdiv 10) = (18446744073709551615 - (c - 48)) / 10 := by
  have e1 : IntKind.u64.wrap c = c := IntWalk.u64_in _ (by omega)
  rw [e1]
  have e2 : IntKind.u64.wrap (c - 48) = c - 48 := IntWalk.u64_in _ (by omega)
  rw [e2]
  have e3 : IntKind.u64.wrap (18446744073709551615 - (c - 48)) = 18446744073709551615 - (c - 48) := IntWalk.u64_in _ (by omega)
  rw [e3]
  exact IntWalk.u64_quo _ _ (by omega)
theorem next_is (x c : Int) (h : 48 ≤ c ∧ c ≤ 57) (hx : 0 ≤ x) (hq : x ≤ (18446744073709551615 - (c - 48)) / 10) :
    IntKind.u64.wrap (IntKind.u64.wrap (x * 10) + IntKind.u64.wrap (IntKind.u64.wrap c - 48)) = x * 10 + (c - 48) := by
  have e1 : IntKind.u64.wrap c = c := IntWalk.u64_in _ (by omega)
  rw [e1]
  have e2 : IntKind.u64.wrap (c - 48) = c - 48 := IntWalk.u64_in _ (by omega)
  rw [e2]
  have e3 : IntKind.u64.wrap (x * 10) = x * 10 := IntWalk.u64_in _ (by omega)
  rw [e3]
  exact IntWalk.u64_in _ (by omega)
theorem int_of {k : IntKind} {a b : Int} (h : a = b) : Value.int k a = Value.int k b := by rw [h]
theorem stays_no (x : Int) (s : ByteArray) (k : Nat) (h : k < s.size) (hq : (18446744073709551615 - ((s[k].toNat : Int) - 48)) / 10 < x) : stays x (s.data.toList.drop k) = false := by
  rw [drop_cons s k h]
  simp only [stays]
  rw [if_pos hq]
theorem stays_on (x : Int) (s : ByteArray) (k : Nat) (h : k < s.size) (hq : x ≤ (18446744073709551615 - ((s[k].toNat : Int) - 48)) / 10) : stays x (s.data.toList.drop k) = stays (x * 10 + ((s[k].toNat : Int) - 48)) (s.data.toList.drop (k + 1)) := by
  rw [drop_cons s k h]
  simp only [stays]
  rw [if_neg (by omega)]

set_option maxHeartbeats 400000 in
theorem stays_any (u : Int) (s : ByteArray) (w : World) (hu : 0 ≤ u ∧ u ≤ 18446744073709551615) (hs : s.size ≤ maxLen) (hd : digs s.data.toList = true) :
    Calls Try.prog 14 #[.int .u64 u, .string s] w fun e w' => e = .returned (.bool (stays u s.data.toList)) ∧ w' = w := by
  unfold maxLen at hs
  go_enter Try.func14, Try.ntmps14
  go_wp2
  go_loop [0, 5] (fun v i => ∃ (k : Nat) (x : Int), k ≤ s.size ∧ i = .int .i64 k ∧ v = .int .u64 x ∧ (0 ≤ x ∧ x ≤ 18446744073709551615) ∧ Hid (stays u s.data.toList = stays x (s.data.toList.drop k))) (fun _ i => s.size - (intOf i).toNat)
  case atStart => exact ⟨0, u, Nat.zero_le _, rfl, rfl, hu, rfl⟩
  case round =>
    obtain ⟨k, x, hk, rfl, rfl, hx, hst⟩ := hrel
    by_cases hlt : k < s.size
    · go_wp2
      · go_ret
        rename_i hq _
        rw [quo_is _ (digs_at s hd k hlt)] at hq
        exact ⟨ret_bool (by rw [hst.out, stays_no x s k hlt hq]), rfl⟩
      · rename_i hq
        rw [quo_is _ (digs_at s hd k hlt)] at hq
        have hb := digs_at s hd k hlt
        go_round
        case rel => exact ⟨k + 1, x * 10 + ((s[k].toNat : Int) - 48), by omega, by go_num, int_of (next_is x _ hb hx.1 hq), by omega, by rw [hst.out, stays_on x s k hlt hq]; rfl⟩
        case measure => simp [intOf]; omega
    · go_wp2
      go_ret
      exact ⟨ret_bool (by have h := hst.out; rw [List.drop_of_length_le (by simp; omega)] at h; rw [h]; rfl), rfl⟩
end Go.Proofs.Qxb6617149a.Digs
