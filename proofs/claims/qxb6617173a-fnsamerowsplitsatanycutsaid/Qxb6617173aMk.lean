/-
  THE WALK OF 'zzRow' (seat b6617173a): a fresh row of the same values.
-/
import Derived.Test.Qxb6617173aZ
import Derived.Lib.SliceRun
namespace Go.Proofs.Qxb6617173a.Row
open Go.RowKit

theorem info35 : (Try.prog.info? 35).map (fun i => (i.zero, i.size, i.bytes)) = some (some (.agg #[.int .u8 0, .int .i64 0, .string ByteArray.empty]), 3, 32) := by kernel_rfl

/-- A block of the call's own, m cells, not frozen. -/
def Own (w : World) (g m : Nat) : Prop := g < w.heap.size ∧ ∀ j, (j < m → ∃ v, w.cell? ⟨g, j, none⟩ = some v) ∧ w.frozen? ⟨g, j, none⟩ = false

theorem run_mk (n : Nat) (hn : n ≤ 1048576) (w : World) :
    (Instr.makeSlice 26 (.int .i64 (n : Int)) (.int .i64 (n : Int))).run Try.prog w = .ok (.slice (some ⟨w.heap.size, 0, none⟩) n n) (w.alloc (.cells (madeCells #[.int .u8 0, .int .i64 0, .string ByteArray.empty] (n * 3)) 35)) := by
  obtain ⟨i, hi, hzz⟩ := Option.map_eq_some_iff.1 info35
  simp only [Prod.mk.injEq] at hzz
  obtain ⟨hz, hs, hb⟩ := hzz
  have hr := run_make (P := Try.prog) w 26 35 i _ Try.underlying26 hi hz .i64 .i64 n n (by omega) (Int.le_refl _) (by rw [hb]; omega) (by omega)
  simp only [Int.toNat_natCast, hs] at hr
  exact hr

theorem own_made (w : World) (m : Nat) (z : Array Value) (t : TypeId) : Own (w.alloc (.cells (madeCells z m) t)) w.heap.size m := by
  refine ⟨by simp, fun j => ⟨fun hj => ?_, ?_⟩⟩
  · refine ⟨(madeCells z m)[j]'(by rw [size_madeCells]; exact hj), ?_⟩
    rw [World.cell?_alloc_new]
    simp [size_madeCells, hj]
  · rw [frozen?_alloc_cells]
    simp [World.frozen?]

theorem own_later {w w1 : World} {g m : Nat} (h : Own w g m) (hb : Below w.heap.size w w1) : Own w1 g m :=
  ⟨Nat.lt_of_lt_of_le h.1 hb.size, fun j => ⟨fun hj => by rw [hb.cell (p := ⟨g, j, none⟩) h.1]; exact (h.2 j).1 hj, by rw [hb.frozen (p := ⟨g, j, none⟩) h.1]; exact (h.2 j).2⟩⟩
theorem at_later {w w1 : World} {g off n : Nat} {x : Nat → Z} (h : At w g off n x) (hg : g < w.heap.size) (hb : Below w.heap.size w w1) : At w1 g off n x := fun i hi => by
  rw [hb.cell (p := ⟨g, off + i * 3, none⟩) hg, hb.cell (p := ⟨g, off + i * 3 + 1, none⟩) hg, hb.cell (p := ⟨g, off + i * 3 + 2, none⟩) hg]
  exact h i hi

/-- A value put at offset o of block g. -/
def put (w : World) (g o : Nat) (z : Z) : World :=
  ((w.setCell ⟨g, o, none⟩ (.int .u8 z.kind)).setCell ⟨g, o + 1, none⟩ (.int .i64 z.num)).setCell ⟨g, o + 2, none⟩ (.string z.str)

theorem cell_set_some {w : World} {p q : Addr} {x v : Value} (h : w.cell? q = some v) : ∃ v', (w.setCell p x).cell? q = some v' := by
  by_cases e : p = q
  · subst e; exact ⟨x, World.cell?_setCell_same w p x h⟩
  · exact ⟨v, by rw [World.cell?_setCell_other w p q x e]; exact h⟩
theorem own_set {w : World} {g m : Nat} (h : Own w g m) (p : Addr) (v : Value) : Own (w.setCell p v) g m := by
  refine ⟨by simpa [World.setCell] using h.1, fun j => ⟨fun hj => ?_, ?_⟩⟩
  · obtain ⟨u, hu⟩ := (h.2 j).1 hj
    exact cell_set_some hu
  · rw [World.frozen?_setCell]; exact (h.2 j).2
theorem own_put {w : World} {g m : Nat} (h : Own w g m) (g' o : Nat) (z : Z) : Own (put w g' o z) g m := own_set (own_set (own_set h _ _) _ _) _ _
theorem below_put {B : Nat} {a w : World} (h : Below B a w) {g : Nat} (hg : B ≤ g) (o : Nat) (z : Z) : Below B a (put w g o z) :=
  ((h.setCell (p := ⟨g, o, none⟩) hg _).setCell (p := ⟨g, o + 1, none⟩) hg _).setCell (p := ⟨g, o + 2, none⟩) hg _
theorem put_other {w : World} {g o : Nat} (z : Z) {q : Addr} (h : ¬ (q.block = g ∧ o ≤ q.off ∧ q.off ≤ o + 2)) : (put w g o z).cell? q = w.cell? q := by
  have hne : ∀ t, t ≤ 2 → (⟨g, o + t, none⟩ : Addr) ≠ q := fun t ht e => h (by subst e; exact ⟨rfl, by simp, by simp; omega⟩)
  unfold put
  rw [World.cell?_setCell_other _ _ q _ (hne 2 (by omega)), World.cell?_setCell_other _ _ q _ (hne 1 (by omega)), World.cell?_setCell_other _ _ q _ (by simpa using hne 0 (by omega))]
theorem put_here {w : World} {g m : Nat} (h : Own w g m) {o : Nat} (ho : o + 2 < m) (z : Z) :
    (put w g o z).cell? ⟨g, o, none⟩ = some (.int .u8 z.kind) ∧ (put w g o z).cell? ⟨g, o + 1, none⟩ = some (.int .i64 z.num) ∧ (put w g o z).cell? ⟨g, o + 2, none⟩ = some (.string z.str) := by
  obtain ⟨v0, h0⟩ := (h.2 o).1 (by omega)
  obtain ⟨v1, h1⟩ := ((own_set h ⟨g, o, none⟩ (.int .u8 z.kind)).2 (o + 1)).1 (by omega)
  obtain ⟨v2, h2⟩ := ((own_set (own_set h ⟨g, o, none⟩ (.int .u8 z.kind)) ⟨g, o + 1, none⟩ (.int .i64 z.num)).2 (o + 2)).1 (by omega)
  unfold put
  refine ⟨?_, ?_, ?_⟩
  · rw [World.cell?_setCell_other _ _ _ _ (by simp), World.cell?_setCell_other _ _ _ _ (by simp)]
    exact World.cell?_setCell_same _ _ _ h0
  · rw [World.cell?_setCell_other _ _ _ _ (by simp)]
    exact World.cell?_setCell_same _ _ _ h1
  · exact World.cell?_setCell_same _ _ _ h2
/-- A row of the call's own with one value put at k. -/
theorem at_put {w : World} {g m n : Nat} {x : Nat → Z} (h : Own w g m) (k : Nat) (hk : k * 3 + 2 < m) (z : Z) (hat : ∀ i, i < n → i ≠ k → At w g (i * 3) 1 (fun _ => x i)) : At (put w g (k * 3) z) g 0 n (fun i => if i = k then z else x i) := by
  intro i hi
  by_cases e : i = k
  · subst e
    simp only [if_true, Nat.zero_add]
    exact put_here h hk z
  · simp only [if_neg e, Nat.zero_add]
    rw [put_other z (by simp; omega), put_other z (by simp; omega), put_other z (by simp; omega)]
    have := hat i hi e 0 (by omega)
    simpa using this
theorem at_one {w : World} {g off n : Nat} {x : Nat → Z} (h : At w g off n x) {i : Nat} (hi : i < n) : At w g (off + i * 3) 1 (fun _ => x i) := fun j hj => by
  have := h i hi
  have e : j = 0 := by omega
  subst e
  simpa using this
theorem at_step {w : World} {g m k : Nat} {x : Nat → Z} (h : Own w g m) (hk : k * 3 + 2 < m) (hat : At w g 0 k x) : At (put w g (k * 3) (x k)) g 0 (k + 1) x := by
  have := at_put (n := k + 1) (x := x) h k hk (x k) (fun i hi e => by have := at_one hat (show i < k by omega); rw [Nat.zero_add] at this; exact this)
  intro i hi
  have h2 := this i hi
  by_cases e : i = k
  · subst e; simpa using h2
  · simpa [e] using h2
theorem at_far {w : World} {g b off n o : Nat} {x : Nat → Z} (h : At w b off n x) (hb : b ≠ g) (z : Z) : At (put w g o z) b off n x := fun i hi => by
  rw [put_other z (by simp [hb]), put_other z (by simp [hb]), put_other z (by simp [hb])]
  exact h i hi

set_option maxHeartbeats 1000000 in
theorem row_some (b off c n : Nat) (x : Nat → Z) (hn : n ≤ 1048576) (w : World) (hb : b < w.heap.size) (hx : At w b off n x) :
    Calls Try.prog 10 #[.slice (some ⟨b, off, none⟩) n c] w fun e w' => e = .returned (.slice (some ⟨w.heap.size, 0, none⟩) n n) ∧ Below w.heap.size w w' ∧ Own w' w.heap.size (n * 3) ∧ At w' w.heap.size 0 n x := by
  have q22 : ∀ (w : World) (a : Option Addr) (n c n' c' : Nat), (binOp .eql 22 (.slice a n c) (.slice none n' c')).run Try.prog w = .ok (.bool a.isNone) w := fun w a n c n' c' => Lib.run_eql_slice_nil w _ _ a n c n' c' Try.underlying22
  have hmk := run_mk n hn
  have ho := own_made w (n * 3) #[.int .u8 0, .int .i64 0, .string ByteArray.empty] 35
  have hbl : Below w.heap.size w (w.alloc (.cells (madeCells #[.int .u8 0, .int .i64 0, .string ByteArray.empty] (n * 3)) 35)) := (Below.refl _ _).alloc (Nat.le_refl _) _
  go_enter Try.func10, Try.ntmps10
  go_wp2
  generalize w.alloc (.cells (madeCells #[.int .u8 0, .int .i64 0, .string ByteArray.empty] (n * 3)) 35) = w0 at *
  go_loopw [4] (fun i wr => ∃ k : Nat, k ≤ n ∧ i = .int .i64 k ∧ Below w.heap.size w wr ∧ Own wr w.heap.size (n * 3) ∧ At wr w.heap.size 0 k x) (fun i _ => n - (intOf i).toNat)
  case atStart => exact ⟨0, Nat.zero_le _, rfl, hbl, ho, fun i hi => by omega⟩
  case round =>
    obtain ⟨k, hk, rfl, hbw, how, hat⟩ := hrel
    by_cases hlt : k < n
    · obtain ⟨p1, p2, p3⟩ := hx k hlt
      rw [← hbw.cell (p := ⟨b, off + k * 3, none⟩) hb] at p1
      rw [← hbw.cell (p := ⟨b, off + k * 3 + 1, none⟩) hb] at p2
      rw [← hbw.cell (p := ⟨b, off + k * 3 + 2, none⟩) hb] at p3
      clear hx
      have hl1 : (k : Int) < (n : Int) := by omega
      go_wp2_with fail
      refine (value_any (x k) _).mono ?_
      rintro e w1 ⟨rfl, hb1⟩
      have ho1 := own_later how hb1
      obtain ⟨o1, g1⟩ := (ho1.2 (k * 3)).1 (by omega)
      obtain ⟨o2, g2⟩ := (ho1.2 (k * 3 + 1)).1 (by omega)
      obtain ⟨o3, g3⟩ := (ho1.2 (k * 3 + 2)).1 (by omega)
      have f1 := (ho1.2 (k * 3)).2
      have f2 := (ho1.2 (k * 3 + 1)).2
      have f3 := (ho1.2 (k * 3 + 2)).2
      have hbw' := hbw.trans (hb1.mono (B' := w.heap.size) hbw.size)
      have hat1 := at_later hat how.1 hb1
      clear hat how hbw p1 p2 p3
      go_wp2
      go_roundw
      case rel => exact ⟨k + 1, by omega, by go_num, below_put hbw' (Nat.le_refl _) _ _, own_put ho1 _ _ _, at_step ho1 (by omega) hat1⟩
      case measure => simp [intOf]; omega
    · have hkn : k = n := by omega
      subst hkn
      go_wp2
      go_ret
      exact ⟨rfl, hbw, how, hat⟩

set_option maxHeartbeats 1000000 in
/-- 'zzRow' at a row that is empty and not nil, wherever it lies. -/
theorem row_empty (a : Addr) (c : Nat) (w : World) :
    Calls Try.prog 10 #[.slice (some a) 0 c] w fun e w' => e = .returned (.slice (some ⟨w.heap.size, 0, none⟩) 0 0) ∧ Below w.heap.size w w' ∧ w.heap.size < w'.heap.size := by
  have q22 : ∀ (w : World) (a : Option Addr) (n c n' c' : Nat), (binOp .eql 22 (.slice a n c) (.slice none n' c')).run Try.prog w = .ok (.bool a.isNone) w := fun w a n c n' c' => Lib.run_eql_slice_nil w _ _ a n c n' c' Try.underlying22
  have hmk : ∀ w, (Instr.makeSlice 26 (.int .i64 0) (.int .i64 0)).run Try.prog w = .ok (.slice (some ⟨w.heap.size, 0, none⟩) 0 0) (w.alloc (.cells (madeCells #[.int .u8 0, .int .i64 0, .string ByteArray.empty] 0) 35)) := run_mk 0 (by omega)
  have hsz : w.heap.size < (w.alloc (.cells (madeCells #[.int .u8 0, .int .i64 0, .string ByteArray.empty] 0) 35)).heap.size := by simp
  have hbl : Below w.heap.size w (w.alloc (.cells (madeCells #[.int .u8 0, .int .i64 0, .string ByteArray.empty] 0) 35)) := (Below.refl _ _).alloc (Nat.le_refl _) _
  go_enter Try.func10, Try.ntmps10
  go_wp2
  generalize w.alloc (.cells (madeCells #[.int .u8 0, .int .i64 0, .string ByteArray.empty] 0) 35) = w0 at *
  go_loop [4] (fun i => i = .int .i64 0) (fun _ => 0)
  case atStart => rfl
  case round =>
    subst hrel
    go_wp2
    go_ret
    exact ⟨rfl, hbl, hsz⟩

/-- 'zzRow' at nil. -/
theorem row_nil (w : World) : Calls Try.prog 10 #[.slice none 0 0] w fun e w' => e = .returned (.slice none 0 0) ∧ w' = w := by
  have q22 : ∀ (w : World) (a : Option Addr) (n c n' c' : Nat), (binOp .eql 22 (.slice a n c) (.slice none n' c')).run Try.prog w = .ok (.bool a.isNone) w := fun w a n c n' c' => Lib.run_eql_slice_nil w _ _ a n c n' c' Try.underlying22
  go_enter Try.func10, Try.ntmps10
  go_wp2
  go_ret
  exact ⟨rfl, rfl⟩
end Go.Proofs.Qxb6617173a.Row
