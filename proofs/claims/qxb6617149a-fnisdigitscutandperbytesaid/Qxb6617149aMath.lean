/-
  THE PLAIN MATHEMATICS OF SEAT b6617149a: no Go in sight. Lists of bytes, integers modulo 2^64.
-/
import GoSem.Op.String
namespace Go.Proofs.Qxb6617149a.Math

/-- One step of 'appendDigits': u*10 + uint64(c - '0'), each operation wrapped. -/
def adStep (u : Int) (c : UInt8) : Int := ((u * 10) % 18446744073709551616 + ((c.toNat : Int) - 48) % 256) % 18446744073709551616
/-- 'appendDigits'. -/
def ad (u : Int) (l : List UInt8) : Int := l.foldl adStep u

theorem ad_nil (u : Int) : ad u [] = u := rfl
theorem ad_cons (u : Int) (c : UInt8) (l : List UInt8) : ad u (c :: l) = ad (adStep u c) l := rfl
theorem ad_append (u : Int) (a b : List UInt8) : ad u (a ++ b) = ad (ad u a) b := by
  unfold ad; exact List.foldl_append
theorem ad_snoc (u : Int) (l : List UInt8) (c : UInt8) : ad u (l ++ [c]) = adStep (ad u l) c := by
  rw [ad_append]; rfl
theorem adStep_bd (u : Int) (c : UInt8) : 0 ≤ adStep u c ∧ adStep u c ≤ 18446744073709551615 := by
  unfold adStep; omega
theorem ad_bd (u : Int) (hu : 0 ≤ u ∧ u ≤ 18446744073709551615) (l : List UInt8) : 0 ≤ ad u l ∧ ad u l ≤ 18446744073709551615 := by
  induction l generalizing u with
  | nil => exact hu
  | cons c l ih => rw [ad_cons]; exact ih _ (adStep_bd u c)

/-- Is the byte a digit? -/
def dg (c : UInt8) : Bool := decide (48 ≤ (c.toNat : Int)) && decide ((c.toNat : Int) ≤ 57)
theorem dg_iff (c : UInt8) : dg c = true ↔ 48 ≤ (c.toNat : Int) ∧ (c.toNat : Int) ≤ 57 := by
  unfold dg; simp only [Bool.and_eq_true, decide_eq_true_eq]
/-- 'allDigitsAmtB1'. -/
def digs (l : List UInt8) : Bool := l.all dg
theorem digs_append (a b : List UInt8) : digs (a ++ b) = (digs a && digs b) := by
  unfold digs; exact List.all_append
theorem digs_cons (c : UInt8) (l : List UInt8) : digs (c :: l) = (dg c && digs l) := by
  unfold digs; exact List.all_cons

/-- The loop of 'positionalAmtB1' from the right: (v, p). -/
def pos : List UInt8 → Int × Int
  | [] => (0, 1)
  | c :: l => (((pos l).1 + ((((c.toNat : Int) - 48) % 18446744073709551616) * (pos l).2) % 18446744073709551616) % 18446744073709551616, ((pos l).2 * 10) % 18446744073709551616)
/-- 'positionalAmtB1'. -/
def positional (u : Int) (l : List UInt8) : Int := ((pos l).1 + (u * (pos l).2) % 18446744073709551616) % 18446744073709551616

theorem pos_bd (l : List UInt8) : (0 ≤ (pos l).1 ∧ (pos l).1 ≤ 18446744073709551615) ∧ (0 ≤ (pos l).2 ∧ (pos l).2 ≤ 18446744073709551615) := by
  cases l with
  | nil => simp [pos]
  | cons c l =>
    simp only [pos]
    generalize ((c.toNat : Int) - 48) % 18446744073709551616 * (pos l).2 = z
    generalize (pos l).1 = y
    generalize (pos l).2 = x
    omega

theorem mod_of_sub (M a b k : Int) (h : a - b = M * k) : a % M = b % M := by
  have : a = b + M * k := by omega
  rw [this, Int.add_mul_emod_self_left]

theorem ad_positional (u : Int) (hu : 0 ≤ u ∧ u ≤ 18446744073709551615) (l : List UInt8) (hl : digs l = true) : ad u l = positional u l := by
  induction l generalizing u with
  | nil => simp only [ad_nil, positional, pos]; omega
  | cons c l ih =>
    rw [digs_cons, Bool.and_eq_true, dg_iff] at hl
    rw [ad_cons, ih _ (adStep_bd u c) hl.2]
    obtain ⟨hc, _⟩ := hl
    have hb := pos_bd l
    unfold positional
    simp only [pos]
    unfold adStep
    generalize (pos l).1 = v
    generalize (pos l).2 = p
    generalize (c.toNat : Int) = x at *
    have e1 : (x - 48) % 256 = x - 48 := by omega
    have e2 : (x - 48) % 18446744073709551616 = x - 48 := by omega
    rw [e1, e2]
    generalize x - 48 = d
    simp only [Int.add_emod_emod, Int.emod_add_emod]
    have f1 := Int.mul_ediv_add_emod (u * 10 + d) 18446744073709551616
    have f2 := Int.mul_ediv_add_emod (p * 10) 18446744073709551616
    generalize (u * 10 + d) / 18446744073709551616 = q1 at *
    generalize (p * 10) / 18446744073709551616 = q2 at *
    have g1 : (u * 10 + d) % 18446744073709551616 = u * 10 + d - 18446744073709551616 * q1 := by omega
    have g2 : (p * 10) % 18446744073709551616 = 10 * p - 18446744073709551616 * q2 := by omega
    rw [g1, g2]
    refine mod_of_sub _ _ _ (u * q2 - q1 * p) ?_
    simp only [Int.add_mul, Int.sub_mul, Int.mul_sub, Int.mul_assoc, Int.mul_left_comm u]
    omega

/-- 'staysBelow2to64AmtB1' over digits. -/
def stays (u : Int) : List UInt8 → Bool
  | [] => true
  | c :: l => if (18446744073709551615 - ((c.toNat : Int) - 48)) / 10 < u then false else stays (u * 10 + ((c.toNat : Int) - 48)) l

/-- 10^n and the digits' value. -/
def ten : Nat → Int
  | 0 => 1
  | n + 1 => 10 * ten n
theorem ten_pos (n : Nat) : 1 ≤ ten n := by
  induction n with
  | zero => simp [ten]
  | succ n ih => simp only [ten]; omega
def val : List UInt8 → Int
  | [] => 0
  | c :: l => ((c.toNat : Int) - 48) * ten l.length + val l
theorem val_bd (l : List UInt8) (hl : digs l = true) : 0 ≤ val l ∧ val l < ten l.length := by
  induction l with
  | nil => simp [val, ten]
  | cons c l ih =>
    rw [digs_cons, Bool.and_eq_true, dg_iff] at hl
    have := ih hl.2
    obtain ⟨hc, _⟩ := hl
    simp only [val, List.length_cons, ten]
    generalize (c.toNat : Int) = x at *
    have ht := ten_pos l.length
    generalize ten l.length = t at *
    generalize val l = v at *
    have h1 : 0 ≤ (x - 48) * t := Int.mul_nonneg (by omega) (by omega)
    have h2 : (x - 48) * t ≤ 9 * t := Int.mul_le_mul_of_nonneg_right (by omega) (by omega)
    omega

theorem ad_exact (u : Int) (hu : 0 ≤ u ∧ u ≤ 18446744073709551615) (l : List UInt8) (hl : digs l = true) (hs : stays u l = true) : ad u l = u * ten l.length + val l := by
  induction l generalizing u with
  | nil => simp only [ad_nil, val, ten, List.length_nil]; omega
  | cons c l ih =>
    rw [digs_cons, Bool.and_eq_true, dg_iff] at hl
    obtain ⟨hc, hl⟩ := hl
    simp only [stays] at hs
    split at hs
    · cases hs
    · rename_i hn
      have e : adStep u c = u * 10 + ((c.toNat : Int) - 48) := by unfold adStep; omega
      rw [ad_cons, e]
      rw [ih _ (by omega) hl hs]
      simp only [val, List.length_cons, ten]
      generalize (c.toNat : Int) - 48 = d
      generalize ten l.length = t
      rw [Int.add_mul, Int.mul_assoc u 10 t]
      omega

theorem val_order (a b : List UInt8) (hn : a.length = b.length) (ha : digs a = true) (hb : digs b = true) :
    (decide (val a < val b) = Op.bytesLess a b) ∧ (val a = val b ↔ a = b) := by
  induction a generalizing b with
  | nil =>
    cases b with
    | nil => simp [val, Op.bytesLess]
    | cons d m => simp at hn
  | cons c l ih =>
    cases b with
    | nil => simp at hn
    | cons d m =>
      simp only [List.length_cons, Nat.add_right_cancel_iff] at hn
      rw [digs_cons, Bool.and_eq_true, dg_iff] at ha hb
      have hv1 := val_bd l ha.2
      have hv2 := val_bd m hb.2
      have hi := ih m hn ha.2 hb.2
      rw [← hn] at hv2
      simp only [val, Op.bytesLess, ← hn]
      have ht := ten_pos l.length
      have h1 : (c < d) ↔ (c.toNat : Int) < (d.toNat : Int) := by rw [UInt8.lt_iff_toNat_lt]; omega
      have h2 : (c = d) ↔ (c.toNat : Int) = (d.toNat : Int) := by rw [← UInt8.toNat_inj]; omega
      generalize ten l.length = t at *
      generalize hx : (c.toNat : Int) = x at *
      generalize hy : (d.toNat : Int) = y at *
      generalize val l = v at *
      generalize val m = z at *
      rcases Int.lt_trichotomy x y with h | h | h
      · have hm : (x - 48) * t + t ≤ (y - 48) * t := by
          have := Int.mul_le_mul_of_nonneg_right (c := t) (show x - 48 + 1 ≤ y - 48 by omega) (by omega)
          rw [Int.add_mul] at this; omega
        have hc : c < d := h1.2 h
        have hne : ¬ c = d := fun e => by have := h2.1 e; omega
        refine ⟨?_, ?_⟩
        · rw [decide_eq_true (by omega)]; simp [hc]
        · constructor
          · intro e; omega
          · intro e; simp only [List.cons.injEq] at e; exact absurd e.1 hne
      · have hc : ¬ c < d := fun e => by have := h1.1 e; omega
        have he : c = d := h2.2 h
        subst h
        refine ⟨?_, ?_⟩
        · rw [← hi.1]; subst he; simp
        · subst he; simp [hi.2]
      · have hm : (y - 48) * t + t ≤ (x - 48) * t := by
          have := Int.mul_le_mul_of_nonneg_right (c := t) (show y - 48 + 1 ≤ x - 48 by omega) (by omega)
          rw [Int.add_mul] at this; omega
        have hc : ¬ c < d := fun e => by have := h1.1 e; omega
        have hne : ¬ c = d := fun e => by have := h2.1 e; omega
        refine ⟨?_, ?_⟩
        · rw [decide_eq_false (by omega)]; simp [hc, hne]
        · constructor
          · intro e; omega
          · intro e; simp only [List.cons.injEq] at e; exact absurd e.1 hne

theorem ad_order (u : Int) (hu : 0 ≤ u ∧ u ≤ 18446744073709551615) (a b : List UInt8) (hn : a.length = b.length) (ha : digs a = true) (hb : digs b = true)
    (sa : stays u a = true) (sb : stays u b = true) : decide (ad u a < ad u b) = Op.bytesLess a b ∧ (ad u a = ad u b ↔ a = b) := by
  rw [ad_exact u hu a ha sa, ad_exact u hu b hb sb, ← hn]
  have h := val_order a b hn ha hb
  generalize u * ten a.length = z
  rw [← h.1, ← h.2]
  exact ⟨decide_eq_decide.2 (by omega), by omega⟩

/-- 'isDigits' is 'digs' of what is not empty; 'eachByteReadsBelowTen'. -/
theorem ad_one (c : UInt8) : decide (10 ≤ ad 0 [c]) = !(dg c) := by
  have hc : (c.toNat : Int) < 256 := by have := c.toNat_lt; omega
  have e : ad 0 [c] = ((c.toNat : Int) - 48) % 256 := by
    show adStep 0 c = _
    unfold adStep; omega
  rw [e]
  clear e
  unfold dg
  have h0 : 0 ≤ (c.toNat : Int) := by omega
  generalize (c.toNat : Int) = x at *
  by_cases h1 : 48 ≤ x <;> by_cases h2 : x ≤ 57 <;> simp [h1, h2] <;> omega

end Go.Proofs.Qxb6617149a.Math
