/-
  THE WALKS OF 'zzTooBig' AND OF THE TWO 'zzBytes' (seat b6617173a): they only read.
-/
import Derived.Test.Qxb6617173aZ
namespace Go.Proofs.Qxb6617173a.Row
open Go.RowKit

/-- A slice of values as it came in: empty, or its values lie in memory; each text is no longer than Go lets it be. -/
def In (w : World) (a : Option Addr) (n : Nat) (x : Nat → Z) : Prop :=
  n ≤ maxLen ∧ (0 < n → ∃ b off, a = some ⟨b, off, none⟩ ∧ b < w.heap.size ∧ At w b off n x ∧ ∀ i, i < n → (x i).str.size ≤ maxLen)

/-- It answers a bool; where that is false, P holds. -/
def Says (P : Prop) (e : Ending) : Prop := ∃ r : Bool, e = .returned (.bool r) ∧ (r = false → P)
theorem Says.yes {P : Prop} {e : Ending} (h : e = .returned (.bool true)) : Says P e := ⟨true, h, fun h => by cases h⟩
theorem Says.no {P : Prop} {e : Ending} (h : e = .returned (.bool false)) (p : P) : Says P e := ⟨false, h, fun _ => p⟩

set_option maxHeartbeats 2000000 in
theorem big_any (a : Option Addr) (n c : Nat) (x : Nat → Z) (a' : Option Addr) (n' c' : Nat) (x' : Nat → Z) (s : ByteArray) (hs : s.size ≤ maxLen) (w : World) (ha : In w a n x) (ha' : In w a' n' x') :
    Calls Try.prog 9 #[.slice a n c, .slice a' n' c', .string s] w fun e w' => Says (n ≤ 32768 ∧ n' ≤ 32768) e ∧ w' = w := by
  obtain ⟨hn, hA⟩ := ha
  obtain ⟨hn', hA'⟩ := ha'
  unfold maxLen at hn hn' hs
  by_cases h1 : (32768 : Int) < (n : Int)
  · go_enter Try.func9, Try.ntmps9
    go_wp2
    go_ret
    exact ⟨.yes rfl, rfl⟩
  by_cases h2 : (32768 : Int) < (n' : Int)
  · go_enter Try.func9, Try.ntmps9
    go_wp2
    go_ret
    exact ⟨.yes rfl, rfl⟩
  by_cases h3 : (1048576 : Int) < 32 * (n : Int) + 32 * (n' : Int)
  · go_enter Try.func9, Try.ntmps9
    go_wp2
    go_ret
    exact ⟨.yes rfl, rfl⟩
  by_cases h4 : 1048576 - (32 * (n : Int) + 32 * (n' : Int)) < (s.size : Int)
  · go_enter Try.func9, Try.ntmps9
    go_wp2
    go_ret
    exact ⟨.yes rfl, rfl⟩
  go_enter Try.func9, Try.ntmps9
  go_wp2
  go_loop [7, 8] (fun v i => ∃ (k : Nat) (t : Int), k ≤ n ∧ 0 ≤ t ∧ t ≤ 1048576 ∧ i = .int .i64 k ∧ v = .int .i64 t) (fun _ i => n - (intOf i).toNat)
  case atStart => exact ⟨0, _, Nat.zero_le _, by omega, by omega, rfl, rfl⟩
  case round =>
    obtain ⟨k, t, hk, ht0, ht1, rfl, rfl⟩ := hrel
    by_cases hlt : k < n
    · obtain ⟨b, off, rfl, hb, hat, hsz⟩ := hA (by omega)
      obtain ⟨p1, p2, p3⟩ := hat k hlt
      have hz := hsz k hlt
      unfold maxLen at hz
      clear hA hat hsz
      have hl1 : (k : Int) < (n : Int) := by omega
      go_wp2
      · go_ret
        exact ⟨.yes rfl, rfl⟩
      · go_round
        case rel => exact ⟨k + 1, t + ((x k).str.size : Int), by omega, by omega, by omega, by go_num, rfl⟩
        case measure => simp [intOf]; omega
    · clear hA
      go_wp2
      go_loop [7, 9] (fun v i => ∃ (k : Nat) (t : Int), k ≤ n' ∧ 0 ≤ t ∧ t ≤ 1048576 ∧ i = .int .i64 k ∧ v = .int .i64 t) (fun _ i => n' - (intOf i).toNat)
      case atStart => exact ⟨0, t, Nat.zero_le _, by omega, by omega, rfl, rfl⟩
      case round =>
        obtain ⟨k, t, hk, ht0, ht1, rfl, rfl⟩ := hrel
        by_cases hlt : k < n'
        · obtain ⟨b, off, rfl, hb, hat, hsz⟩ := hA' (by omega)
          obtain ⟨p1, p2, p3⟩ := hat k hlt
          have hz := hsz k hlt
          unfold maxLen at hz
          clear hA' hat hsz
          have hl1 : (k : Int) < (n' : Int) := by omega
          go_wp2
          · go_ret
            exact ⟨.yes rfl, rfl⟩
          · go_round
            case rel => exact ⟨k + 1, t + ((x' k).str.size : Int), by omega, by omega, by omega, by go_num, rfl⟩
            case measure => simp [intOf]; omega
        · clear hA'
          go_wp2
          go_ret
          exact ⟨.no rfl (by omega), rfl⟩

set_option maxHeartbeats 2000000 in
/-- 'zzBytes' of the law on cuts. -/
theorem bytes_cut (a : Option Addr) (n c : Nat) (x : Nat → Z) (a' : Option Addr) (n' c' : Nat) (x' : Nat → Z) (k0 : Int) (w : World) (ha : In w a n x) (ha' : In w a' n' x') :
    Calls Try.prog 8 #[.slice a n c, .slice a' n' c', .int .i64 k0] w fun e w' => Says True e ∧ w' = w := by
  obtain ⟨hn, hA⟩ := ha
  obtain ⟨hn', hA'⟩ := ha'
  unfold maxLen at hn hn'
  by_cases h1 : (1048576 : Int) < (n : Int)
  · go_enter Try.func8, Try.ntmps8
    go_wp2
    go_ret
    exact ⟨.no rfl trivial, rfl⟩
  go_enter Try.func8, Try.ntmps8
  go_wp2
  go_loop [7, 8] (fun v i => ∃ (k : Nat) (t : Int), k ≤ n ∧ 0 ≤ t ∧ t ≤ 1048576 ∧ i = .int .i64 k ∧ v = .int .i64 t) (fun _ i => n - (intOf i).toNat)
  case atStart => exact ⟨0, _, Nat.zero_le _, by omega, by omega, rfl, rfl⟩
  case round =>
    obtain ⟨k, t, hk, ht0, ht1, rfl, rfl⟩ := hrel
    by_cases hlt : k < n
    · obtain ⟨b, off, rfl, hb, hat, hsz⟩ := hA (by omega)
      obtain ⟨p1, p2, p3⟩ := hat k hlt
      have hz := hsz k hlt
      unfold maxLen at hz
      clear hA hat hsz
      have hl1 : (k : Int) < (n : Int) := by omega
      by_cases h5 : (1048576 : Int) < ((x k).str.size : Int)
      · go_wp2
        go_ret
        exact ⟨.no rfl trivial, rfl⟩
      go_wp2
      · go_ret
        exact ⟨.no rfl trivial, rfl⟩
      · go_round
        case rel => exact ⟨k + 1, t + ((x k).str.size : Int), by omega, by omega, by omega, by go_num, rfl⟩
        case measure => simp [intOf]; omega
    · clear hA
      by_cases h6 : (1048576 : Int) < (n' : Int)
      · go_wp2
        go_ret
        exact ⟨.no rfl trivial, rfl⟩
      by_cases h7 : (1048576 : Int) < t + (n' : Int)
      · go_wp2
        go_ret
        exact ⟨.no rfl trivial, rfl⟩
      go_wp2
      go_loop [7, 9] (fun v i => ∃ (k : Nat) (t : Int), k ≤ n' ∧ 0 ≤ t ∧ t ≤ 1048576 ∧ i = .int .i64 k ∧ v = .int .i64 t) (fun _ i => n' - (intOf i).toNat)
      case atStart => exact ⟨0, _, Nat.zero_le _, by omega, by omega, rfl, rfl⟩
      case round =>
        obtain ⟨k, t, hk, ht0, ht1, rfl, rfl⟩ := hrel
        by_cases hlt : k < n'
        · obtain ⟨b, off, rfl, hb, hat, hsz⟩ := hA' (by omega)
          obtain ⟨p1, p2, p3⟩ := hat k hlt
          have hz := hsz k hlt
          unfold maxLen at hz
          clear hA' hat hsz
          have hl1 : (k : Int) < (n' : Int) := by omega
          by_cases h5 : (1048576 : Int) < ((x' k).str.size : Int)
          · go_wp2
            go_ret
            exact ⟨.no rfl trivial, rfl⟩
          go_wp2
          · go_ret
            exact ⟨.no rfl trivial, rfl⟩
          · go_round
            case rel => exact ⟨k + 1, t + ((x' k).str.size : Int), by omega, by omega, by omega, by go_num, rfl⟩
            case measure => simp [intOf]; omega
        · clear hA'
          go_wp2
          go_ret
          exact ⟨.yes rfl, rfl⟩

set_option maxHeartbeats 2000000 in
/-- 'zzBytes' of the law on one changed value. -/
theorem bytes_one (a : Option Addr) (n c : Nat) (x : Nat → Z) (k0 : Int) (v : Z) (hv : v.str.size ≤ maxLen) (w : World) (ha : In w a n x) :
    Calls Try.prog 13 #[.slice a n c, .int .i64 k0, .agg #[.int .u8 v.kind, .int .i64 v.num, .string v.str]] w fun e w' => Says True e ∧ Below w.heap.size w w' := by
  obtain ⟨hn, hA⟩ := ha
  unfold maxLen at hn hv
  have hB : Below w.heap.size w (w.alloc (.cells #[.int .u8 v.kind, .int .i64 v.num, .string v.str] 31)) := (Below.refl _ _).alloc (Nat.le_refl _) _
  have hcell : 0 < n → ∃ b off, a = some ⟨b, off, none⟩ ∧ At (w.alloc (.cells #[.int .u8 v.kind, .int .i64 v.num, .string v.str] 31)) b off n x ∧ ∀ i, i < n → (x i).str.size ≤ maxLen := fun h0 => by
    obtain ⟨b, off, e, hb, hat, hsz⟩ := hA h0
    refine ⟨b, off, e, fun i hi => ?_, hsz⟩
    rw [hB.cell (p := ⟨b, off + i * 3, none⟩) hb, hB.cell (p := ⟨b, off + i * 3 + 1, none⟩) hb, hB.cell (p := ⟨b, off + i * 3 + 2, none⟩) hb]
    exact hat i hi
  clear hA
  by_cases h1 : (1048576 : Int) < (n : Int)
  · go_enter Try.func13, Try.ntmps13
    go_wp2
    go_ret
    exact ⟨.no rfl trivial, hB⟩
  go_enter Try.func13, Try.ntmps13
  go_wp2
  go_loop [7, 8] (fun v i => ∃ (k : Nat) (t : Int), k ≤ n ∧ 0 ≤ t ∧ t ≤ 1048576 ∧ i = .int .i64 k ∧ v = .int .i64 t) (fun _ i => n - (intOf i).toNat)
  case atStart => exact ⟨0, _, Nat.zero_le _, by omega, by omega, rfl, rfl⟩
  case round =>
    obtain ⟨k, t, hk, ht0, ht1, rfl, rfl⟩ := hrel
    by_cases hlt : k < n
    · obtain ⟨b, off, rfl, hat, hsz⟩ := hcell (by omega)
      obtain ⟨p1, p2, p3⟩ := hat k hlt
      have hz := hsz k hlt
      unfold maxLen at hz
      clear hcell hat hsz
      have hl1 : (k : Int) < (n : Int) := by omega
      by_cases h5 : (1048576 : Int) < ((x k).str.size : Int)
      · go_wp2
        go_ret
        exact ⟨.no rfl trivial, hB⟩
      go_wp2
      · go_ret
        exact ⟨.no rfl trivial, hB⟩
      · go_round
        case rel => exact ⟨k + 1, t + ((x k).str.size : Int), by omega, by omega, by omega, by go_num, rfl⟩
        case measure => simp [intOf]; omega
    · clear hcell
      by_cases h6 : (1048576 : Int) < (v.str.size : Int)
      · go_wp2
        go_ret
        exact ⟨.no rfl trivial, hB⟩
      by_cases h7 : (1048576 : Int) < t + (v.str.size : Int)
      · go_wp2
        go_ret
        exact ⟨.no rfl trivial, hB⟩
      go_wp2
      go_ret
      exact ⟨.yes rfl, hB⟩
end Go.Proofs.Qxb6617173a.Row
