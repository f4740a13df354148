/-
  'conflicts' OF SEAT b6617173a: THE PLAIN FUNCTION (over bytes as bit vectors), ITS LAWS, AND THE WALKS OF 'conflicts' AND 'ZZconflicts'.
-/
import Derived.Test.Qxb6617173aProg
import Derived.WalkKit
import Derived.WalkSpells
import Derived.WalkLawsBesides
namespace Go.Proofs.Qxb6617173a.Conf
open Go.RowKit

/-! ### The plain function -/
/-- Is the byte not nought? -/
def nz (x : BitVec 8) : Bool := x != 0#8
/-- A byte as a bit vector. -/
def V (n : Int) : BitVec 8 := BitVec.ofInt 8 n
/-- 'conflicts'. -/
def conf (h a : BitVec 8) : Bool :=
  if nz (a &&& 32#8) = true then nz (h &&& 16#8) else nz (h &&& ~~~48#8) && nz (a &&& ~~~16#8) && nz (((h &&& ~~~48#8) ||| (a &&& ~~~16#8)) &&& 8#8)

theorem nz_or (x y : BitVec 8) : nz (x ||| y) = (nz x || nz y) := by
  unfold nz
  rw [Bool.eq_iff_iff]
  simp only [bne_iff_ne, ne_eq, Bool.or_eq_true, BitVec.or_eq_zero_iff]
  by_cases h1 : x = 0#8 <;> simp [h1]
theorem and_or (x y m : BitVec 8) : (x ||| y) &&& m = (x &&& m) ||| (y &&& m) := by
  ext i hi
  simp only [BitVec.getElem_and, BitVec.getElem_or]
  exact Bool.and_or_distrib_right _ _ _
theorem nz_or_and (x y m : BitVec 8) : nz ((x ||| y) &&& m) = (nz (x &&& m) || nz (y &&& m)) := by rw [and_or, nz_or]
theorem nz_sub (x m k : BitVec 8) (h : m &&& k = k) (hk : nz (x &&& k) = true) : nz (x &&& m) = true := by
  unfold nz at *
  simp only [bne_iff_ne, ne_eq] at *
  intro e
  apply hk
  rw [← h, ← BitVec.and_assoc, e, BitVec.zero_and]

/-- 'conflicts' by what its two sides hold. -/
theorem conf_is (h a : BitVec 8) : conf h a = if nz (a &&& 32#8) = true then nz (h &&& 16#8) else (nz (h &&& ~~~48#8) && nz (a &&& ~~~16#8) && (nz (h &&& 8#8) || nz (a &&& 8#8))) := by
  unfold conf
  rw [nz_or_and, BitVec.and_assoc, BitVec.and_assoc]
  rfl

/-! ### The three laws, over bit vectors -/
theorem nz_x_h (h : BitVec 8) : nz (h &&& 8#8) = true → nz (h &&& ~~~48#8) = true := nz_sub h (~~~48#8) (8#8) (by decide)
theorem nz_x_a (a : BitVec 8) : nz (a &&& 8#8) = true → nz (a &&& ~~~16#8) = true := nz_sub a (~~~16#8) (8#8) (by decide)
theorem c1 : nz (8#8 &&& 16#8) = false := by decide
theorem c2 : nz (8#8 &&& ~~~48#8) = true := by decide
theorem c3 : nz (8#8 &&& 8#8) = true := by decide
theorem c4 : nz (8#8 &&& 32#8) = false := by decide
theorem c5 : nz (8#8 &&& ~~~16#8) = true := by decide
theorem c6 : nz (32#8 &&& 32#8) = true := by decide

theorem held_joined (h1 h2 a : BitVec 8) : conf (h1 ||| h2) a = (conf h1 a || conf h2 a) := by
  simp only [conf_is, nz_or_and]
  have i1 := nz_x_h h1
  have i2 := nz_x_h h2
  generalize nz (h1 &&& 8#8) = x1 at *
  generalize nz (h2 &&& 8#8) = x2 at *
  generalize nz (h1 &&& ~~~48#8) = n1 at *
  generalize nz (h2 &&& ~~~48#8) = n2 at *
  cases nz (a &&& 32#8) <;> cases nz (a &&& ~~~16#8) <;> cases nz (a &&& 8#8) <;> cases x1 <;> cases x2 <;> cases n1 <;> cases n2 <;> simp at i1 i2 ⊢
theorem held_excl (h a : BitVec 8) : conf (h ||| 8#8) a = if nz (a &&& 32#8) = true then nz (h &&& 16#8) else nz (a &&& ~~~16#8) := by
  simp only [conf_is, nz_or_and, c1, c2, c3, Bool.or_false, Bool.or_true, Bool.true_or, Bool.and_true, Bool.true_and]
theorem asked_ins (h a : BitVec 8) (ha : nz (a &&& 32#8) = true) : conf h a = nz (h &&& 16#8) := by rw [conf_is, if_pos ha]
theorem asked_joined (h a1 a2 : BitVec 8) (ha : nz ((a1 ||| a2) &&& 32#8) = false) : conf h (a1 ||| a2) = (conf h a1 || conf h a2) := by
  rw [nz_or_and] at ha
  simp only [conf_is, nz_or_and]
  have i1 := nz_x_a a1
  have i2 := nz_x_a a2
  generalize nz (a1 &&& 8#8) = x1 at *
  generalize nz (a2 &&& 8#8) = x2 at *
  generalize nz (a1 &&& ~~~16#8) = n1 at *
  generalize nz (a2 &&& ~~~16#8) = n2 at *
  generalize nz (a1 &&& 32#8) = m1 at *
  generalize nz (a2 &&& 32#8) = m2 at *
  cases m1 <;> cases m2 <;> simp at ha
  cases nz (h &&& ~~~48#8) <;> cases nz (h &&& 8#8) <;> cases x1 <;> cases x2 <;> cases n1 <;> cases n2 <;> simp at i1 i2 ⊢
theorem asked_excl (h a : BitVec 8) (ha : nz (a &&& 32#8) = false) : conf h (a ||| 8#8) = nz (h &&& ~~~48#8) := by
  simp only [conf_is, nz_or_and, ha, c3, c4, c5, Bool.or_false, Bool.or_true, Bool.and_true, if_false, Bool.false_eq_true]
theorem gap_only (h : BitVec 8) : conf (h &&& 16#8) 32#8 = nz (h &&& 16#8) := by
  rw [conf_is, if_pos c6, BitVec.and_assoc]; rfl
theorem waits (h a : BitVec 8) (ha : nz (a &&& 32#8) = false) : conf h a = (conf (h ||| 8#8) a && conf h (a ||| 8#8) && nz ((h ||| a) &&& 8#8)) := by
  rw [held_excl, asked_excl h a ha, conf_is, ha, nz_or_and]
  simp only [Bool.false_eq_true, if_false]
  cases nz (h &&& ~~~48#8) <;> cases nz (a &&& ~~~16#8) <;> simp
theorem both_excl (h a : BitVec 8) (ha : nz (a &&& 32#8) = false) : conf (h ||| 8#8) (a ||| 8#8) = true := by
  rw [asked_excl _ a ha, nz_or_and, c2, Bool.or_true]

/-! ### The walk's spelling -/
theorem wrap_nat (x : BitVec 8) : IntKind.u8.wrap (x.toNat : Int) = (x.toNat : Int) := by
  rw [IntKind.wrap_u8']; have := x.isLt; omega
theorem bits_and (x y : Int) : bits .and .u8 x y = ((V x &&& V y).toNat : Int) := wrap_nat _
theorem bits_or (x y : Int) : bits .or .u8 x y = ((V x ||| V y).toNat : Int) := wrap_nat _
theorem bits_andNot (x y : Int) : bits .andNot .u8 x y = ((V x &&& ~~~ V y).toNat : Int) := wrap_nat _
theorem V_nat (x : BitVec 8) : V (x.toNat : Int) = x := by
  unfold V; rw [BitVec.ofInt_natCast, BitVec.ofNat_toNat, BitVec.setWidth_eq]
theorem V_and (x y : Int) : V (bits .and .u8 x y) = V x &&& V y := by rw [bits_and, V_nat]
theorem V_or (x y : Int) : V (bits .or .u8 x y) = V x ||| V y := by rw [bits_or, V_nat]
theorem V_andNot (x y : Int) : V (bits .andNot .u8 x y) = V x &&& ~~~ V y := by rw [bits_andNot, V_nat]
theorem nz_nat (x : BitVec 8) : ((x.toNat : Int) != 0) = nz x := by
  unfold nz
  rw [Bool.eq_iff_iff, bne_iff_ne, bne_iff_ne, ne_eq, ne_eq, ← BitVec.toNat_inj]
  simp
theorem nz_and (x y : Int) : (bits .and .u8 x y != 0) = nz (V x &&& V y) := by rw [bits_and, nz_nat]
theorem nz_andNot (x y : Int) : (bits .andNot .u8 x y != 0) = nz (V x &&& ~~~ V y) := by rw [bits_andNot, nz_nat]
theorem V8 : V 8 = 8#8 := by decide
theorem V16 : V 16 = 16#8 := by decide
theorem V32 : V 32 = 32#8 := by decide
theorem V48 : V 48 = 48#8 := by decide

/-! ### The walks -/
theorem ret_bool {a b : Bool} (h : a = b) : Ending.returned (.bool a) = .returned (.bool b) := by rw [h]

theorem conflicts_any (h a : Int) (w : World) :
    Calls Try.prog 17 #[.int .u8 h, .int .u8 a] w fun e w' => e = .returned (.bool (conf (V h) (V a))) ∧ w' = w := by
  have H : Hid (conf (V h) (V a) = if (bits .and .u8 a 32 != 0) = true then (bits .and .u8 h 16 != 0) else ((bits .andNot .u8 h 48 != 0) && (bits .andNot .u8 a 16 != 0) && (bits .and .u8 (bits .or .u8 (bits .andNot .u8 h 48) (bits .andNot .u8 a 16)) 8 != 0))) := by
    show conf (V h) (V a) = _
    rw [nz_and, nz_and, nz_and, nz_andNot, nz_andNot, V_or, V_andNot, V_andNot, V8, V16, V32, V48]
    rfl
  cases h1 : (bits .and .u8 a 32 != 0)
  · cases h2 : (bits .andNot .u8 h 48 != 0)
    · have H' : Hid (conf (V h) (V a) = false) := by show _ = _; rw [H.out, h1, h2]; rfl
      clear H
      go_enter Try.func17, Try.ntmps17
      go_wp2
      go_ret
      exact ⟨ret_bool H'.out.symm, rfl⟩
    · cases h3 : (bits .andNot .u8 a 16 != 0)
      · have H' : Hid (conf (V h) (V a) = false) := by show _ = _; rw [H.out, h1, h2, h3]; rfl
        clear H
        go_enter Try.func17, Try.ntmps17
        go_wp2
        go_ret
        exact ⟨ret_bool H'.out.symm, rfl⟩
      · have H' : Hid (conf (V h) (V a) = (bits .and .u8 (bits .or .u8 (bits .andNot .u8 h 48) (bits .andNot .u8 a 16)) 8 != 0)) := by show _ = _; rw [H.out, h1, h2, h3]; rfl
        clear H
        go_enter Try.func17, Try.ntmps17
        go_wp2
        go_ret
        exact ⟨ret_bool H'.out.symm, rfl⟩
  · have H' : Hid (conf (V h) (V a) = (bits .and .u8 h 16 != 0)) := by show _ = _; rw [H.out, h1]; rfl
    clear H
    go_enter Try.func17, Try.ntmps17
    go_wp2
    go_ret
    exact ⟨ret_bool H'.out.symm, rfl⟩

theorem zz_any (h a : Int) (w : World) :
    Calls Try.prog 15 #[.int .u8 h, .int .u8 a] w fun e w' => e = .returned (.bool (conf (V h) (V a))) ∧ w' = w := by
  go_enter Try.func15, Try.ntmps15
  go_wp2_with fail
  refine (conflicts_any h a _).mono ?_
  rintro e w' ⟨rfl, rfl⟩
  go_wp2
  go_ret
  exact ⟨rfl, rfl⟩
end Go.Proofs.Qxb6617173a.Conf
