/-
  ROWS OF VALUES (seat b6617173a): THE PLAIN WORDS.
-/
import Derived.Test.Qxb6617173aProg
import Derived.WalkKit
import Derived.WalkSpells
import Derived.WalkLawsBesides
import Derived.Deep.QuietTactic
import Derived.BigQuiet
namespace Go.Proofs.Qxb6617173a.Row
open Go.RowKit

/-- One value: its kind, its integer, its text. -/
structure Z where
  kind : Int
  num : Int
  str : ByteArray

/-- n values lie at block b from offset off on. -/
def At (w : World) (b off n : Nat) (z : Nat → Z) : Prop :=
  ∀ i, i < n → w.cell? ⟨b, off + i * 3, none⟩ = some (.int .u8 (z i).kind) ∧ w.cell? ⟨b, off + i * 3 + 1, none⟩ = some (.int .i64 (z i).num) ∧ w.cell? ⟨b, off + i * 3 + 2, none⟩ = some (.string (z i).str)

theorem At.mono {w : World} {b off n m : Nat} {z : Nat → Z} (h : At w b off n z) (hm : m ≤ n) : At w b off m z := fun i hi => h i (by omega)
theorem At.cut {w : World} {b off n : Nat} {z : Nat → Z} (h : At w b off n z) (k : Nat) : At w b (off + k * 3) (n - k) (fun i => z (k + i)) := fun i hi => by
  have := h (k + i) (by omega)
  rw [Nat.add_mul, ← Nat.add_assoc] at this
  exact this

theorem ret_bool {a b : Bool} (h : a = b) : Ending.returned (.bool a) = .returned (.bool b) := by rw [h]

/-- Are two values equal, field by field? -/
def eqz (x y : Z) : Bool := x.kind == y.kind && (x.num == y.num && x.str.toList == y.str.toList)
theorem eqz_iff (x y : Z) : eqz x y = true ↔ x = y := by
  unfold eqz
  simp only [Bool.and_eq_true, beq_iff_eq, ByteArray.toList_eq]
  constructor
  · rintro ⟨h1, h2, h3⟩
    cases x; cases y
    simp only at h1 h2 h3
    subst h1; subst h2
    congr 1
    rename_i s t
    cases s; cases t
    simp only at h3
    congr 1
    exact Array.ext' h3
  · rintro rfl
    exact ⟨rfl, rfl, rfl⟩

theorem eqin_run (x y : Z) (w : World) : (Op.equalIn 10000 35 (.agg #[.int .u8 x.kind, .int .i64 x.num, .string x.str]) (.agg #[.int .u8 y.kind, .int .i64 y.num, .string y.str])).run Try.prog w = .ok (eqz x y) w := by
  have hS : Try.prog.underlying 35 = some (.struct (Try.prog.fieldsOf 35)) := by kernel_rfl
  have hp : Try.prog.stoodInHeld 35 = false := by kernel_rfl
  rw [show (10000 : Nat) = 9999 + 1 from rfl, run_equalIn_agg w 9999 35 _ _ hS hp]
  simp only [Program.fieldsOf, Try.underlying35]
  go_simp
  unfold eqz
  by_cases h1 : x.kind = y.kind <;> by_cases h2 : x.num = y.num <;> by_cases h3 : x.str.toList = y.str.toList <;> simp [h1, h2, h3]
theorem neq_run (x y : Z) (w : World) : (binOp .neq 35 (.agg #[.int .u8 x.kind, .int .i64 x.num, .string x.str]) (.agg #[.int .u8 y.kind, .int .i64 y.num, .string y.str])).run Try.prog w = .ok (.bool (!(eqz x y))) w := by
  rw [run_neq_struct, eqin_run]; rfl
theorem guard_run (x y : Operand) (xs ys : Array Value) (w : World) : (eqGuard .neq 35 x y (.agg xs) (.agg ys)).run Try.prog w = .ok () w :=
  run_eqGuard_agg w .neq 35 x y xs ys (by kernel_rfl)

set_option maxHeartbeats 1000000 in
/-- 'sameRow' at a row of at least one value. -/
theorem same_some (b1 o1 c1 b2 o2 c2 n m : Nat) (x y : Nat → Z) (hn : n ≤ m) (hm : m ≤ 1048576) (r : Bool) (hr : r = true ↔ ∀ i, i < n → x i = y i) (w : World) (hx : At w b1 o1 n x) (hy : At w b2 o2 n y) :
    Calls Try.prog 16 #[.slice (some ⟨b1, o1, none⟩) n c1, .slice (some ⟨b2, o2, none⟩) m c2] w fun e w' => e = .returned (.bool r) ∧ ∃ q, w' = w.drewN q := by
  have Hr : Hid (r = true ↔ ∀ i, i < n → x i = y i) := hr
  clear hr
  go_enter Try.func16, Try.ntmps16
  go_wp2
  go_loopw [8] (fun i wr => ∃ k q : Nat, k ≤ n ∧ i = .int .i64 k ∧ wr = w.drewN q ∧ Hid (∀ j, j < k → x j = y j)) (fun i _ => n - (intOf i).toNat)
  case atStart => exact ⟨0, 0, Nat.zero_le _, rfl, rfl, fun j hj => by omega⟩
  case round =>
    obtain ⟨k, q, hk, rfl, rfl, hd⟩ := hrel
    by_cases hlt : k < n
    · obtain ⟨p1, p2, p3⟩ := hx k hlt
      obtain ⟨q1, q2, q3⟩ := hy k hlt
      clear hx hy
      have hl1 : (k : Int) < (n : Int) := by omega
      have hl2 : (k : Int) < (m : Int) := by omega
      have r1 := neq_run (x k) (y k)
      have r2 := eqin_run (x k) (y k)
      have r3 := guard_run
      cases he : eqz (x k) (y k)
      · have Hn : Hid (r = false) := by
          refine Bool.eq_false_iff.2 fun e => ?_
          rw [(eqz_iff _ _).2 (Hr.out.1 e k hlt)] at he
          cases he
        rw [he] at r1 r2
        clear he
        go_wp2
        go_quiet (fail)
        go_wp2
        go_ret
        exact ⟨ret_bool Hn.out.symm, q + nq, World.drewN_drewN _ _ _⟩
      · have Hn : Hid (∀ j, j < k + 1 → x j = y j) := fun j hj => by
          by_cases e : j = k
          · subst e; exact (eqz_iff _ _).1 he
          · exact hd.out j (by omega)
        rw [he] at r1 r2
        clear he
        go_wp2
        go_quiet (fail)
        go_wp2
        go_roundw
        case rel => exact ⟨k + 1, q + nq, by omega, by go_num, by first | rfl | exact World.drewN_drewN _ _ _, Hn⟩
        case measure => simp [intOf]; omega
    · have hkn : k = n := by omega
      have Hn : Hid (r = true) := Hr.out.2 (fun i hi => hd.out i (by omega))
      go_wp2
      go_ret
      exact ⟨ret_bool Hn.out.symm, q, rfl⟩

/-- 'sameRow' where the first row is empty (nil or not). -/
theorem same_none (a1 a2 : Option Addr) (c1 m c2 : Nat) (w : World) :
    Calls Try.prog 16 #[.slice a1 0 c1, .slice a2 m c2] w fun e w' => e = .returned (.bool true) ∧ w' = w := by
  go_enter Try.func16, Try.ntmps16
  go_wp2
  go_loop [8] (fun i => i = .int .i64 0) (fun _ => 0)
  case atStart => rfl
  case round =>
    subst hrel
    go_wp2
    go_ret
    exact ⟨rfl, rfl⟩

theorem zz_some (b1 o1 c1 b2 o2 c2 n m : Nat) (x y : Nat → Z) (hn : n ≤ m) (hm : m ≤ 1048576) (r : Bool) (hr : r = true ↔ ∀ i, i < n → x i = y i) (w : World) (hx : At w b1 o1 n x) (hy : At w b2 o2 n y) :
    Calls Try.prog 11 #[.slice (some ⟨b1, o1, none⟩) n c1, .slice (some ⟨b2, o2, none⟩) m c2] w fun e w' => e = .returned (.bool r) ∧ ∃ q, w' = w.drewN q := by
  have S := same_some b1 o1 c1 b2 o2 c2 n m x y hn hm r hr w hx hy
  clear hr hx hy
  go_enter Try.func11, Try.ntmps11
  go_wp2_with fail
  refine S.mono ?_
  rintro e w' ⟨rfl, q, rfl⟩
  go_wp2
  go_ret
  exact ⟨rfl, q, rfl⟩
theorem zz_none (a1 a2 : Option Addr) (c1 m c2 : Nat) (w : World) :
    Calls Try.prog 11 #[.slice a1 0 c1, .slice a2 m c2] w fun e w' => e = .returned (.bool true) ∧ w' = w := by
  go_enter Try.func11, Try.ntmps11
  go_wp2_with fail
  refine (same_none a1 a2 c1 m c2 w).mono ?_
  rintro e w' ⟨rfl, rfl⟩
  go_wp2
  go_ret
  exact ⟨rfl, rfl⟩

/-- 'zzValue': the same three fields, in new memory. -/
theorem value_any (z : Z) (w : World) :
    Calls Try.prog 14 #[.agg #[.int .u8 z.kind, .int .i64 z.num, .string z.str]] w fun e w' => e = .returned (.agg #[.int .u8 z.kind, .int .i64 z.num, .string z.str]) ∧ Below w.heap.size w w' := by
  go_enter Try.func14, Try.ntmps14
  go_wp2
  exact bodyPost_ret (v := .agg #[.int .u8 z.kind, .int .i64 z.num, .string z.str]) (by simp [results, Try.results14, go_sem]) rfl ⟨rfl, ((Below.refl _ _).alloc (Nat.le_refl _) _).alloc (by simp) _⟩
end Go.Proofs.Qxb6617173a.Row
