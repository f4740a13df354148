/-
  THE WALK OF 'zzJoin' (seat b6617173a): a fresh row: x followed by y. What the law asks of it: its first len(x) values are x's.
-/
import Derived.Test.Qxb6617173aMk
namespace Go.Proofs.Qxb6617173a.Row
open Go.RowKit

/-- A row's values lie in memory, where it has any. -/
def Lies (w : World) (a : Option Addr) (n : Nat) (x : Nat → Z) : Prop := 0 < n → ∃ b off, a = some ⟨b, off, none⟩ ∧ b < w.heap.size ∧ At w b off n x

theorem at_beyond {w : World} {g n o : Nat} {x : Nat → Z} (h : At w g 0 n x) (ho : n * 3 ≤ o) (z : Z) : At (put w g o z) g 0 n x := fun i hi => by
  rw [put_other z (by simp; omega), put_other z (by simp; omega), put_other z (by simp; omega)]
  exact h i hi

set_option maxHeartbeats 2000000 in
theorem join_any (a : Option Addr) (n c : Nat) (x : Nat → Z) (a' : Option Addr) (n' c' : Nat) (x' : Nat → Z) (hn : n ≤ 32768) (hn' : n' ≤ 32768) (w : World) (hx : Lies w a n x) (hx' : Lies w a' n' x') :
    Calls Try.prog 12 #[.slice a n c, .slice a' n' c'] w fun e w' => e = .returned (.slice (some ⟨w.heap.size, 0, none⟩) (n + n') (n + n')) ∧ Below w.heap.size w w' ∧ At w' w.heap.size 0 n x := by
  have hmk := run_mk (n + n') (by omega)
  have ec : ((n + n' : Nat) : Int) = (n : Int) + (n' : Int) := by omega
  rw [ec] at hmk
  clear ec
  have ho := own_made w ((n + n') * 3) #[.int .u8 0, .int .i64 0, .string ByteArray.empty] 35
  have hbl : Below w.heap.size w (w.alloc (.cells (madeCells #[.int .u8 0, .int .i64 0, .string ByteArray.empty] ((n + n') * 3)) 35)) := (Below.refl _ _).alloc (Nat.le_refl _) _
  go_enter Try.func12, Try.ntmps12
  go_wp2
  generalize w.alloc (.cells (madeCells #[.int .u8 0, .int .i64 0, .string ByteArray.empty] ((n + n') * 3)) 35) = w0 at *
  go_loopw [6] (fun i wr => ∃ k : Nat, k ≤ n ∧ i = .int .i64 k ∧ Below w.heap.size w wr ∧ Own wr w.heap.size ((n + n') * 3) ∧ At wr w.heap.size 0 k x) (fun i _ => n - (intOf i).toNat)
  case atStart => exact ⟨0, Nat.zero_le _, rfl, hbl, ho, fun i hi => by omega⟩
  case round =>
    clear hbl ho hmk
    obtain ⟨k, hk, rfl, hbw, how, hat⟩ := hrel
    by_cases hlt : k < n
    · obtain ⟨b, off, rfl, hb, hxx⟩ := hx (by omega)
      obtain ⟨p1, p2, p3⟩ := hxx k hlt
      rw [← hbw.cell (p := ⟨b, off + k * 3, none⟩) hb] at p1
      rw [← hbw.cell (p := ⟨b, off + k * 3 + 1, none⟩) hb] at p2
      rw [← hbw.cell (p := ⟨b, off + k * 3 + 2, none⟩) hb] at p3
      clear hx hx' hxx
      have hl1 : (k : Int) < (n : Int) := by omega
      have hl2 : (k : Int) < (n : Int) + (n' : Int) := by omega
      obtain ⟨o1, g1⟩ := (how.2 (k * 3)).1 (by omega)
      obtain ⟨o2, g2⟩ := (how.2 (k * 3 + 1)).1 (by omega)
      obtain ⟨o3, g3⟩ := (how.2 (k * 3 + 2)).1 (by omega)
      have f1 := (how.2 (k * 3)).2
      have f2 := (how.2 (k * 3 + 1)).2
      have f3 := (how.2 (k * 3 + 2)).2
      go_wp2
      go_roundw
      case rel => exact ⟨k + 1, by omega, by go_num, below_put hbw (Nat.le_refl _) _ _, own_put how _ _ _, at_step how (by omega) hat⟩
      case measure => simp [intOf]; omega
    · have hkn : k = n := by omega
      subst hkn
      clear hx
      go_wp2
      go_loopw [7] (fun i wr => ∃ k' : Nat, k' ≤ n' ∧ i = .int .i64 k' ∧ Below w.heap.size w wr ∧ Own wr w.heap.size ((k + n') * 3) ∧ At wr w.heap.size 0 k x) (fun i _ => n' - (intOf i).toNat)
      case atStart => exact ⟨0, Nat.zero_le _, rfl, hbw, how, hat⟩
      case round =>
        clear hbw how hat
        obtain ⟨k', hk', rfl, hbw, how, hat⟩ := hrel
        by_cases hlt' : k' < n'
        · obtain ⟨b, off, rfl, hb, hxx⟩ := hx' (by omega)
          obtain ⟨p1, p2, p3⟩ := hxx k' hlt'
          rw [← hbw.cell (p := ⟨b, off + k' * 3, none⟩) hb] at p1
          rw [← hbw.cell (p := ⟨b, off + k' * 3 + 1, none⟩) hb] at p2
          rw [← hbw.cell (p := ⟨b, off + k' * 3 + 2, none⟩) hb] at p3
          clear hx' hxx
          have hl1 : (k' : Int) < (n' : Int) := by omega
          have hl2 : (k : Int) + (k' : Int) < (k : Int) + (n' : Int) := by omega
          obtain ⟨o1, g1⟩ := (how.2 ((k + k') * 3)).1 (by omega)
          obtain ⟨o2, g2⟩ := (how.2 ((k + k') * 3 + 1)).1 (by omega)
          obtain ⟨o3, g3⟩ := (how.2 ((k + k') * 3 + 2)).1 (by omega)
          have f1 := (how.2 ((k + k') * 3)).2
          have f2 := (how.2 ((k + k') * 3 + 1)).2
          have f3 := (how.2 ((k + k') * 3 + 2)).2
          go_wp2
          go_roundw
          case rel => exact ⟨k' + 1, by omega, by go_num, below_put hbw (Nat.le_refl _) _ _, own_put how _ _ _, at_beyond hat (by omega) _⟩
          case measure => simp [intOf]; omega
        · go_wp2
          go_ret
          exact ⟨rfl, hbw, hat⟩
end Go.Proofs.Qxb6617173a.Row
