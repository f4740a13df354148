/-
  A SLICE OF VALUES, AND A VALUE, THAT CAME IN (seat b6617173a): opened.
-/
import Derived.Test.Qxb6617173aBig
import Derived.ProofKit
import Derived.Deep.Slices
import Derived.Lib.SmallJoins
namespace Go.Proofs.Qxb6617173a.Row
open Go.RowKit Go.Deep Go.ChangeShapes Go.WideShapes

theorem cells31 : Try.prog.cellsOf 31 = 3 := by kernel_rfl
theorem cells5 : Try.prog.cellsOf 5 = 1 := by kernel_rfl
theorem cells2 : Try.prog.cellsOf 2 = 1 := by kernel_rfl
theorem cells9 : Try.prog.cellsOf 9 = 1 := by kernel_rfl

theorem open_rows {H : Type} {enc : TypeId × Value → H} {w : World} {base : Nat} {held : Bool} {fuel : Nat} {a : Option Addr} {len cap : Nat} {d : DataW H × List MemPlace}
    (h : DataW.trod enc Try.prog w base (fun _ => true) held fuel 22 [.slice a len cap] = some d) : ∃ x, In w a len x ∧ (a = none → len = 0 ∧ cap = 0) := by
  rcases open_slice Try.underlying22 h with ⟨hcs, _⟩ | ⟨a', len', cap', m, n, D, Pl, hcs, _, hl, hm, hmm, _, hx⟩
  · simp only [List.cons.injEq, Value.slice.injEq, and_true] at hcs
    obtain ⟨rfl, rfl, rfl⟩ := hcs
    exact ⟨fun _ => ⟨0, 0, ByteArray.empty⟩, ⟨Nat.zero_le _, fun h => absurd h (by omega)⟩, fun _ => ⟨rfl, rfl⟩⟩
  · simp only [List.cons.injEq, Value.slice.injEq, and_true] at hcs
    obtain ⟨rfl, rfl, rfl⟩ := hcs
    simp only [if_true] at hmm
    subst hmm
    rw [cells31] at hx
    have each : ∀ i, i < len → ∃ z : Z, w.cell? (a'.add (i * 3)) = some (.int .u8 z.kind) ∧ w.cell? (a'.add (i * 3 + 1)) = some (.int .i64 z.num) ∧ w.cell? (a'.add (i * 3 + 2)) = some (.string z.str) ∧ z.str.size ≤ maxLen := by
      intro i hi
      obtain ⟨cs', h1, h2⟩ := hx i (by omega)
      obtain ⟨_, hlen, hcell⟩ := World.cells?_some h1
      obtain ⟨xs, k, hk, hxy, _, hxl, hf⟩ := DataW.trod_struct Try.underlying31 h2
      match xs, hxl, cs', hlen with
      | [y0, y1, y2], _, [v0, v1, v2], _ =>
        have g0 := hf 0 _ rfl
        have g1 := hf 1 _ rfl
        have g2 := hf 2 _ rfl
        simp [cells5, cells2, cells9] at g0 g1 g2
        obtain ⟨n0, e0, _, _⟩ := DataW.trod_int Try.underlying5 g0
        obtain ⟨n1, e1, _, _⟩ := DataW.trod_int Try.underlying2 g1
        obtain ⟨s2, e2, _, hs⟩ := DataW.trod_string Try.underlying9 g2
        simp only [List.cons.injEq, and_true] at e0 e1 e2
        subst e0; subst e1; subst e2
        have q0 := hcell 0 (by omega)
        have q1 := hcell 1 (by omega)
        have q2 := hcell 2 (by omega)
        rw [add_add] at q0 q1 q2
        exact ⟨⟨n0, n1, s2⟩, by simpa using q0, by simpa using q1, by simpa using q2, hs⟩
    obtain ⟨z, hz⟩ := @choose_lt Z ⟨⟨0, 0, ByteArray.empty⟩⟩ _ _ each
    refine ⟨z, ⟨by omega, fun h0 => ?_⟩, fun h => by cases h⟩
    obtain ⟨b, off, spot⟩ := a'
    have hc := (hz 0 h0).1
    have hspot : spot = none := by simpa [Addr.add] using World.cell?_spot hc
    subst hspot
    refine ⟨b, off, rfl, by simpa [Addr.add] using World.block_lt_of_cell? w _ hc, fun i hi => ?_, fun i hi => (hz i hi).2.2.2⟩
    obtain ⟨q0, q1, q2, _⟩ := hz i hi
    rw [add_plain] at q0 q1 q2
    exact ⟨q0, q1, q2⟩

theorem open_one {H : Type} {enc : TypeId × Value → H} {w : World} {base : Nat} {spare : Nat → Bool} {held : Bool} {r : Reach} {b0 : Nat} {v : Value} {d : DataW H} {p : List MemPlace}
    (hv : Value.okWide Try.prog w r b0 31 v) (h : DataW.Trod enc Try.prog w base spare held 31 v d p) : ∃ z : Z, v = .agg #[.int .u8 z.kind, .int .i64 z.num, .string z.str] ∧ z.str.size ≤ maxLen := by
  obtain ⟨v0, v1, v2, y0, y1, y2, n, rfl, _, _, g0, g1, g2⟩ := Go.Joins.open_agg3 Try.underlying31 (by kernel_rfl) cells31 hv h
  obtain ⟨n0, e0, _, _⟩ := DataW.trod_int Try.underlying5 g0
  obtain ⟨n1, e1, _, _⟩ := DataW.trod_int Try.underlying2 g1
  obtain ⟨s2, e2, _, hs⟩ := DataW.trod_string Try.underlying9 g2
  simp only [List.cons.injEq, and_true] at e0 e1 e2
  subst e0; subst e1; subst e2
  exact ⟨⟨n0, n1, s2⟩, rfl, hs⟩
end Go.Proofs.Qxb6617173a.Row
