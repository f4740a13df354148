/-
  THE WALKS OF THE SHARED FUNCTIONS OF SEAT b6617149a: 'allDigitsAmtB1', 'appendDigits', 'ZZappendDigits', 'positionalAmtB1' compute the plain functions of Qxb6617149aMath.
-/
import Derived.Test.Qxb6617149aProg
import Derived.Test.Qxb6617149aMath
import Derived.WalkKit
import Derived.WalkSpells
import Derived.WalkLawsBesides
namespace Go.Proofs.Qxb6617149a.Digs
open Go.RowKit
open Go.Proofs.Qxb6617149a.Math (adStep ad dg digs pos positional stays)

theorem ret_int {k : IntKind} {a b : Int} (h : a = b) : Ending.returned (.int k a) = .returned (.int k b) := by rw [h]
theorem ret_bool {a b : Bool} (h : a = b) : Ending.returned (.bool a) = .returned (.bool b) := by rw [h]
theorem take_snoc (s : ByteArray) (k : Nat) (h : k < s.size) : s.data.toList.take (k + 1) = s.data.toList.take k ++ [s[k]] := by
  rw [List.take_succ_eq_append_getElem (by simpa using h)]; rfl
theorem drop_cons (s : ByteArray) (k : Nat) (h : k < s.size) : s.data.toList.drop k = s[k] :: s.data.toList.drop (k + 1) := by
  rw [List.drop_eq_getElem_cons (by simpa using h)]; rfl

theorem ad_next (u : Int) (s : ByteArray) (k : Nat) (h : k < s.size) :
    Value.int IntKind.u64 (IntKind.u64.wrap (IntKind.u64.wrap (ad u (List.take k s.data.toList) * 10) + ((s[k].toNat : Int) - 48) % 256)) = Value.int IntKind.u64 (ad u (List.take (k + 1) s.data.toList)) := by
  rw [take_snoc s k h, Math.ad_snoc, IntKind.wrap_u64, IntKind.wrap_u64]; rfl

set_option maxHeartbeats 400000 in
theorem append_any (u : Int) (s : ByteArray) (w : World) (hu : 0 ≤ u ∧ u ≤ 18446744073709551615) (hs : s.size ≤ maxLen) :
    Calls Try.prog 16 #[.int .u64 u, .string s] w fun e w' => e = .returned (.int .u64 (ad u s.data.toList)) ∧ w' = w := by
  unfold maxLen at hs
  go_enter Try.func16, Try.ntmps16
  go_wp2
  go_loop [0, 5] (fun v i => ∃ k : Nat, k ≤ s.size ∧ i = .int .i64 k ∧ v = .int .u64 (ad u (s.data.toList.take k))) (fun _ i => s.size - (intOf i).toNat)
  case atStart => exact ⟨0, Nat.zero_le _, rfl, rfl⟩
  case round =>
    obtain ⟨k, hk, rfl, rfl⟩ := hrel
    have hb := Math.ad_bd u hu (s.data.toList.take k)
    by_cases hlt : k < s.size
    · go_wp2
      go_round
      case rel => exact ⟨k + 1, by omega, by go_num, ad_next u s k hlt⟩
      case measure => simp [intOf]; omega
    · go_wp2
      go_ret
      exact ⟨ret_int (by rw [List.take_of_length_le (by simp; omega)]), rfl⟩

theorem zzappend_any (u : Int) (s : ByteArray) (w : World) (hu : 0 ≤ u ∧ u ≤ 18446744073709551615) (hs : s.size ≤ maxLen) :
    Calls Try.prog 11 #[.int .u64 u, .string s] w fun e w' => e = .returned (.int .u64 (ad u s.data.toList)) ∧ w' = w := by
  go_enter Try.func11, Try.ntmps11
  go_wp2_with fail
  refine (append_any u s _ hu hs).mono ?_
  rintro e w' ⟨rfl, rfl⟩
  go_wp2
  go_ret
  exact ⟨rfl, rfl⟩

theorem digs_no (s : ByteArray) (k : Nat) (h : k < s.size) (hc : (s[k].toNat : Int) < 48 ∨ 57 < (s[k].toNat : Int)) : digs s.data.toList = false := by
  rw [← List.take_append_drop k s.data.toList, drop_cons s k h, Math.digs_append, Math.digs_cons]
  have : dg s[k] = false := by
    rw [Bool.eq_false_iff]
    intro e
    rw [Math.dg_iff] at e
    omega
  rw [this]; simp
theorem digs_next (s : ByteArray) (k : Nat) (h : k < s.size) (hd : digs (s.data.toList.take k) = true) (hc : 48 ≤ (s[k].toNat : Int) ∧ (s[k].toNat : Int) ≤ 57) : digs (s.data.toList.take (k + 1)) = true := by
  rw [take_snoc s k h, Math.digs_append, Math.digs_cons, hd, (Math.dg_iff _).2 hc]; rfl

set_option maxHeartbeats 400000 in
theorem alldigs_any (s : ByteArray) (w : World) (hs : s.size ≤ maxLen) :
    Calls Try.prog 10 #[.string s] w fun e w' => e = .returned (.bool (digs s.data.toList)) ∧ w' = w := by
  unfold maxLen at hs
  go_enter Try.func10, Try.ntmps10
  go_wp2
  go_loop [3] (fun i => ∃ k : Nat, k ≤ s.size ∧ i = .int .i64 k ∧ Hid (digs (s.data.toList.take k) = true)) (fun i => s.size - (intOf i).toNat)
  case atStart => exact ⟨0, Nat.zero_le _, rfl, rfl⟩
  case round =>
    obtain ⟨k, hk, rfl, hd⟩ := hrel
    by_cases hlt : k < s.size
    · go_wp2
      · go_ret
        exact ⟨ret_bool (digs_no s k hlt (by assumption)).symm, rfl⟩
      · go_round
        case rel => exact ⟨k + 1, by omega, by go_num, digs_next s k hlt hd.out (by assumption)⟩
        case measure => simp [intOf]; omega
      · go_ret
        exact ⟨ret_bool (digs_no s k hlt (.inl (by assumption))).symm, rfl⟩
    · go_wp2
      go_ret
      exact ⟨ret_bool (by have h := hd.out; rw [List.take_of_length_le (by simp; omega)] at h; exact h.symm), rfl⟩

theorem pos_next (s : ByteArray) (k : Nat) (h0 : 0 < k) (h : k - 1 < s.size) :
    Value.int IntKind.u64 (IntKind.u64.wrap ((pos (List.drop k s.data.toList)).fst + IntKind.u64.wrap (IntKind.u64.wrap (IntKind.u64.wrap (s[k - 1].toNat : Int) - 48) * (pos (List.drop k s.data.toList)).snd))) = Value.int IntKind.u64 (pos (List.drop (k - 1) s.data.toList)).1 := by
  rw [drop_cons s (k - 1) h]
  have e : k - 1 + 1 = k := by omega
  have e2 : ((s[k - 1].toNat : Int)) % 18446744073709551616 = (s[k - 1].toNat : Int) := by have := s[k - 1].toNat_lt; omega
  rw [e]
  simp only [pos, IntKind.wrap_u64]
  rw [e2]
theorem pos_next2 (s : ByteArray) (k : Nat) (h0 : 0 < k) (h : k - 1 < s.size) :
    Value.int IntKind.u64 (IntKind.u64.wrap ((pos (List.drop k s.data.toList)).snd * 10)) = Value.int IntKind.u64 (pos (List.drop (k - 1) s.data.toList)).2 := by
  rw [drop_cons s (k - 1) h]
  have e : k - 1 + 1 = k := by omega
  rw [e]
  simp only [pos, IntKind.wrap_u64]

set_option maxHeartbeats 400000 in
theorem positional_any (u : Int) (s : ByteArray) (w : World) (hs : s.size ≤ maxLen) :
    Calls Try.prog 12 #[.int .u64 u, .string s] w fun e w' => e = .returned (.int .u64 (positional u s.data.toList)) ∧ w' = w := by
  unfold maxLen at hs
  go_enter Try.func12, Try.ntmps12
  go_wp2
  go_loop [5, 6, 7] (fun v p i => ∃ k : Nat, k ≤ s.size ∧ i = .int .i64 k ∧ v = .int .u64 (pos (s.data.toList.drop k)).1 ∧ p = .int .u64 (pos (s.data.toList.drop k)).2) (fun _ _ i => (intOf i).toNat)
  case atStart => exact ⟨s.size, Nat.le_refl _, rfl, by rw [List.drop_of_length_le (by simp)]; rfl, by rw [List.drop_of_length_le (by simp)]; rfl⟩
  case round =>
    obtain ⟨k, hk, rfl, rfl, rfl⟩ := hrel
    have hb := Math.pos_bd (s.data.toList.drop k)
    by_cases hlt : 0 < k
    · go_wp2
      go_round
      case rel => exact ⟨k - 1, by omega, by go_num, pos_next s k hlt (by omega), pos_next2 s k hlt (by omega)⟩
      case measure => simp [intOf]; omega
    · have hk0 : k = 0 := by omega
      subst hk0
      go_wp2
      go_ret
      exact ⟨ret_int (by simp only [positional, IntKind.wrap_u64]), rfl⟩
end Go.Proofs.Qxb6617149a.Digs
