/-
  THE WALK OF 'FnSameRowSplitsAtAnyCut' (seat b6617173a).
-/
import Derived.Test.Qxb6617173aJoin
import Derived.Test.Qxb6617173aBig
namespace Go.Proofs.Qxb6617173a.Cut
open Go.RowKit Go.Proofs.Qxb6617173a.Row

theorem in_later {w w1 : World} {a : Option Addr} {n : Nat} {x : Nat → Z} (h : In w a n x) (hb : Below w.heap.size w w1) : In w1 a n x :=
  ⟨h.1, fun h0 => by
    obtain ⟨b, off, e, hlt, hat, hs⟩ := h.2 h0
    exact ⟨b, off, e, Nat.lt_of_lt_of_le hlt hb.size, at_later hat hlt hb, hs⟩⟩
theorem lies_later {w w1 : World} {a : Option Addr} {n : Nat} {x : Nat → Z} (h : Lies w a n x) (hb : Below w.heap.size w w1) : Lies w1 a n x := fun h0 => by
  obtain ⟨b, off, e, hlt, hat⟩ := h h0
  exact ⟨b, off, e, Nat.lt_of_lt_of_le hlt hb.size, at_later hat hlt hb⟩
theorem below_drewN (w : World) (q : Nat) : Below w.heap.size w (w.drewN q) := ⟨rfl, rfl, rfl, Nat.le_refl _, fun _ _ => rfl⟩
theorem zz_keep (b1 o1 c1 b2 o2 c2 n m : Nat) (x y : Nat → Z) (hn : n ≤ m) (hm : m ≤ 1048576) (r : Bool) (hr : r = true ↔ ∀ i, i < n → x i = y i) (w : World) (hx : At w b1 o1 n x) (hy : At w b2 o2 n y) :
    Calls Try.prog 11 #[.slice (some ⟨b1, o1, none⟩) n c1, .slice (some ⟨b2, o2, none⟩) m c2] w fun e w' => e = .returned (.bool r) ∧ Below w.heap.size w w' :=
  (zz_some b1 o1 c1 b2 o2 c2 n m x y hn hm r hr w hx hy).mono fun _ _ ⟨h, q, hq⟩ => ⟨h, by rw [hq]; exact below_drewN _ _⟩

/-- 'zzRow' at whatever came in. -/
theorem row_any (a : Option Addr) (n c : Nat) (x : Nat → Z) (hn : n ≤ 1048576) (w : World) (ha : In w a n x) (hnil : a = none → n = 0 ∧ c = 0) :
    Calls Try.prog 10 #[.slice a n c] w fun e w' => ∃ R, e = .returned (.slice R n n) ∧ Below w.heap.size w w' ∧ Lies w' R n x := by
  cases a with
  | none =>
    obtain ⟨rfl, rfl⟩ := hnil rfl
    exact (row_nil w).mono fun e w' ⟨he, hw⟩ => ⟨none, he, by rw [hw]; exact Below.refl _ _, fun h => absurd h (by omega)⟩
  | some a =>
    by_cases h0 : n = 0
    · subst h0
      exact (row_empty a c w).mono fun e w' ⟨he, hb, _⟩ => ⟨_, he, hb, fun h => absurd h (by omega)⟩
    · obtain ⟨b, off, e, hlt, hat, _⟩ := ha.2 (by omega)
      simp only [Option.some.injEq] at e
      subst e
      exact (row_some b off c n x hn w hlt hat).mono fun e w' ⟨he, hb, ho, ht⟩ => ⟨_, he, hb, fun _ => ⟨_, 0, rfl, ho.1, ht⟩⟩

/-- b tells whether the first n values of two rows are equal. -/
def Tells (b : Bool) (n : Nat) (x y : Nat → Z) : Prop := b = true ↔ ∀ i, i < n → x i = y i
theorem as_bool (P : Prop) : ∃ l : Bool, (l = true ↔ P) := ⟨@decide P (Classical.propDecidable P), @decide_eq_true_iff P (Classical.propDecidable P)⟩
theorem split_at {x y : Nat → Z} {n k : Nat} {l r : Bool} (hk : k ≤ n) (hl : l = true ↔ ∀ i, i < k → x i = y i) (hr : r = true ↔ ∀ i, i < n - k → x (k + i) = y (k + i)) :
    (l && r) = true ↔ ∀ i, i < n → x i = y i := by
  rw [Bool.and_eq_true, hl, hr]
  constructor
  · rintro ⟨h1, h2⟩ i hi
    by_cases e : i < k
    · exact h1 i e
    · have := h2 (i - k) (by omega)
      rwa [show k + (i - k) = i by omega] at this
  · exact fun h => ⟨fun i hi => h i (by omega), fun i hi => h (k + i) (by omega)⟩

set_option maxHeartbeats 4000000 in
theorem cut_walk (a : Option Addr) (n c : Nat) (x : Nat → Z) (a' : Option Addr) (m c' : Nat) (y : Nat → Z) (k : Int) (hk : -9223372036854775808 ≤ k ∧ k ≤ 9223372036854775807) (w : World)
    (ha : In w a n x) (hnil : a = none → n = 0 ∧ c = 0) (ha' : In w a' m y) (hnil' : a' = none → m = 0 ∧ c' = 0) :
    Calls Try.prog 3 #[.slice a n c, .slice a' m c', .int .i64 k] w fun e w' => e = .returned (.bool true) ∧ Below w.heap.size w w' := by
  have C1 := bytes_cut a n c x a' m c' y k w ha ha'
  have C2 := big_any a n c x a' m c' y ⟨#[]⟩ (Nat.zero_le _) w ha ha'
  have C3 := fun hn => row_any a n c x hn w ha hnil
  have C4 := fun hm W h => row_any a' m c' y hm W (in_later ha' h) hnil'
  have hn1 := ha.1
  have hm1 := ha'.1
  unfold maxLen at hn1 hm1
  clear ha ha' hnil hnil'
  go_enter Try.func3, Try.ntmps3
  go_wp2_with fail
  refine C1.mono ?_
  rintro e w1 ⟨⟨r, rfl, _⟩, hw⟩
  subst hw
  clear C1
  cases r
  · go_wp2
    go_ret
    exact ⟨rfl, Below.refl _ _⟩
  go_wp2_with fail
  refine C2.mono ?_
  rintro e w2 ⟨⟨r, rfl, hr⟩, hw⟩
  subst hw
  clear C2
  cases r
  case true =>
    go_wp2
    go_ret
    exact ⟨rfl, Below.refl _ _⟩
  obtain ⟨hn, hm⟩ := hr rfl
  clear hr
  by_cases hmn : (m : Int) < (n : Int)
  · go_wp2
    go_ret
    exact ⟨rfl, Below.refl _ _⟩
  by_cases hk0 : k < 0
  · go_wp2
    go_ret
    exact ⟨rfl, Below.refl _ _⟩
  by_cases hk1 : (n : Int) < k
  · go_wp2
    go_ret
    exact ⟨rfl, Below.refl _ _⟩
  obtain ⟨kk, rfl⟩ := Int.eq_ofNat_of_zero_le (show 0 ≤ k by omega)
  go_wp2_with fail
  refine (C3 (by omega)).mono ?_
  rintro e w3 ⟨R1, rfl, b3, L3⟩
  clear C3
  go_wp2_with fail
  refine (C4 (by omega) w3 b3).mono ?_
  rintro e w4 ⟨R2, rfl, b4, M4⟩
  clear C4
  have hB4 := b3.trans (b4.mono b3.size)
  have L4 := lies_later L3 b4
  clear L3 b3 b4
  by_cases h0 : n = 0
  · subst h0
    have hkk : kk = 0 := by omega
    subst hkk
    by_cases hm0 : m = 0
    · subst hm0
      go_wp2_with fail
      refine (zz_none _ _ _ _ _ _).mono ?_
      rintro e w5 ⟨rfl, hw5⟩
      subst hw5
      have Q1 := fun q => zz_none R1 R2 0 0 0 (w5.drewN q)
      go_wp2_with fail
      go_quiet ((go_at_call 11; exact Calls.quiet_of_same (Q1 _)))
      clear Q1
      have hB6 := hB4.trans ((below_drewN w5 nq).mono hB4.size)
      have L6 := lies_later L4 (below_drewN w5 nq)
      have M6 := lies_later M4 (below_drewN w5 nq)
      clear hB4 L4 M4
      generalize w5.drewN nq = w6 at *
      have Q1 := fun q => zz_none R1 R2 0 0 0 (w6.drewN q)
      go_wp2_with fail
      go_quiet ((go_at_call 11; exact Calls.quiet_of_same (Q1 _)))
      clear Q1
      have hB7 := hB6.trans ((below_drewN w6 nq).mono hB6.size)
      have L7 := lies_later L6 (below_drewN w6 nq)
      have M7 := lies_later M6 (below_drewN w6 nq)
      clear hB6 L6 M6
      generalize w6.drewN nq = w7 at *
      go_wp2_with fail
      refine (zz_none _ _ _ _ _ _).mono ?_
      rintro e w8 ⟨rfl, hw8⟩
      subst hw8
      go_wp2_with fail
      refine (join_any R1 0 0 x R2 0 0 y (by omega) (by omega) _ L7 M7).mono ?_
      rintro e w9 ⟨rfl, b9, _⟩
      have hB9 := hB7.trans (b9.mono hB7.size)
      clear hB7 b9 L7 M7
      go_wp2_with fail
      refine (zz_none _ _ _ _ _ _).mono ?_
      rintro e w10 ⟨rfl, hw10⟩
      subst hw10
      go_wp2
      go_ret
      exact ⟨rfl, hB9⟩
    · obtain ⟨g2, o2, rfl, hg2, hat2⟩ := M4 (by omega)
      go_wp2_with fail
      refine (zz_none _ _ _ _ _ _).mono ?_
      rintro e w5 ⟨rfl, hw5⟩
      subst hw5
      have Q1 := fun q => zz_none R1 (some ⟨g2, o2, none⟩) 0 0 m (w5.drewN q)
      go_wp2_with fail
      go_quiet ((go_at_call 11; exact Calls.quiet_of_same (Q1 _)))
      clear Q1
      have hB6 := hB4.trans ((below_drewN w5 nq).mono hB4.size)
      have L6 := lies_later L4 (below_drewN w5 nq)
      have M6 := lies_later M4 (below_drewN w5 nq)
      clear hB4 L4 M4
      generalize w5.drewN nq = w6 at *
      have Q1 := fun q => zz_none R1 (some ⟨g2, o2, none⟩) 0 m m (w6.drewN q)
      go_wp2_with fail
      go_quiet ((go_at_call 11; exact Calls.quiet_of_same (Q1 _)))
      clear Q1
      have hB7 := hB6.trans ((below_drewN w6 nq).mono hB6.size)
      have L7 := lies_later L6 (below_drewN w6 nq)
      have M7 := lies_later M6 (below_drewN w6 nq)
      clear hB6 L6 M6
      generalize w6.drewN nq = w7 at *
      go_wp2_with fail
      refine (zz_none _ _ _ _ _ _).mono ?_
      rintro e w8 ⟨rfl, hw8⟩
      subst hw8
      go_wp2_with fail
      refine (join_any R1 0 0 x (some ⟨g2, o2, none⟩) m m y (by omega) (by omega) _ L7 M7).mono ?_
      rintro e w9 ⟨rfl, b9, _⟩
      have hB9 := hB7.trans (b9.mono hB7.size)
      clear hB7 b9 L7 M7
      go_wp2_with fail
      refine (zz_none _ _ _ _ _ _).mono ?_
      rintro e w10 ⟨rfl, hw10⟩
      subst hw10
      go_wp2
      go_ret
      exact ⟨rfl, hB9⟩
  · obtain ⟨g1, o1, rfl, y4, s4⟩ := L4 (by omega)
    obtain ⟨g2, o2, rfl, z4, t4⟩ := M4 (by omega)
    clear L4 M4
    have hnm : n ≤ m := by omega
    have hm0 : ¬ m = 0 := by omega
    have hkk1 : kk ≤ 1048576 := by omega
    have hkk2 : kk ≤ n := by omega
    have hkk3 : kk ≤ m := by omega
    by_cases hlt : kk < n
    · have hne1 : ¬ n = kk := by omega
      have hne2 : ¬ m = kk := by omega
      obtain ⟨l, hl⟩ := as_bool (∀ i, i < kk → x i = y i)
      obtain ⟨r, hr⟩ := as_bool (∀ i, i < n - kk → x (kk + i) = y (kk + i))
      have hw := split_at (x := x) (y := y) hkk2 hl hr
      cases l <;> cases r
      all_goals
        have Hl : Tells _ _ _ _ := hl
        have Hr : Tells _ _ (fun i => x (kk + i)) (fun i => y (kk + i)) := hr
        have Hw : Tells _ _ _ _ := hw
        clear hl hr hw
        go_wp2_with fail
        refine (zz_keep g1 o1 n g2 o2 m n m x y (by omega) (by omega) _ Hw _ s4 (t4.mono hnm)).mono ?_
        rintro e w5 ⟨rfl, b5⟩
        have hB5 := hB4.trans (b5.mono hB4.size)
        have s5 := at_later s4 y4 b5
        have t5 := at_later t4 z4 b5
        have y5 := Nat.lt_of_lt_of_le y4 b5.size
        have z5 := Nat.lt_of_lt_of_le z4 b5.size
        clear hB4 s4 t4 y4 z4 b5
        have Q1 := fun q => zz_some g1 o1 n g2 o2 m kk kk x y (Nat.le_refl _) hkk1 _ Hl (w5.drewN q) (at_later (s5.mono hkk2) y5 (below_drewN _ _)) (at_later (t5.mono hkk3) z5 (below_drewN _ _))
        go_wp2_with fail
        go_quiet ((go_at_call 11; exact Calls.quiet_of (Q1 _)))
        clear Q1
        have hB6 := hB5.trans ((below_drewN w5 nq).mono hB5.size)
        have s6 := at_later s5 y5 (below_drewN w5 nq)
        have t6 := at_later t5 z5 (below_drewN w5 nq)
        have y6 := Nat.lt_of_lt_of_le y5 (below_drewN w5 nq).size
        have z6 := Nat.lt_of_lt_of_le z5 (below_drewN w5 nq).size
        clear hB5 s5 t5 y5 z5
        generalize w5.drewN nq = w6 at *
        have Q1 := fun q => zz_some g1 (o1 + kk * 3) (n - kk) g2 (o2 + kk * 3) (m - kk) (n - kk) (m - kk) (fun i => x (kk + i)) (fun i => y (kk + i)) (by omega) (by omega) _ Hr (w6.drewN q) (at_later (s6.cut kk) y6 (below_drewN _ _)) (at_later ((t6.cut kk).mono (by omega)) z6 (below_drewN _ _))
        go_wp2_with fail
        go_quiet ((go_at_call 11; exact Calls.quiet_of (Q1 _)))
        clear Q1
        have hB7 := hB6.trans ((below_drewN w6 nq).mono hB6.size)
        have s7 := at_later s6 y6 (below_drewN w6 nq)
        have t7 := at_later t6 z6 (below_drewN w6 nq)
        have y7 := Nat.lt_of_lt_of_le y6 (below_drewN w6 nq).size
        have z7 := Nat.lt_of_lt_of_le z6 (below_drewN w6 nq).size
        clear hB6 s6 t6 y6 z6
        generalize w6.drewN nq = w7 at *
        go_wp2_with fail
        refine (zz_keep g1 o1 n g1 o1 n n n x x (Nat.le_refl _) (by omega) true ⟨fun _ _ _ => rfl, fun _ => rfl⟩ _ s7 s7).mono ?_
        rintro e w8 ⟨rfl, b8⟩
        have hB8 := hB7.trans (b8.mono hB7.size)
        have s8 := at_later s7 y7 b8
        have t8 := at_later t7 z7 b8
        have y8 := Nat.lt_of_lt_of_le y7 b8.size
        have z8 := Nat.lt_of_lt_of_le z7 b8.size
        clear hB7 s7 t7 y7 z7 b8
        go_wp2_with fail
        refine (join_any (some ⟨g1, o1, none⟩) n n x (some ⟨g2, o2, none⟩) m m y hn hm _ (fun _ => ⟨g1, o1, rfl, y8, s8⟩) (fun _ => ⟨g2, o2, rfl, z8, t8⟩)).mono ?_
        rintro e w9 ⟨rfl, b9, u9⟩
        have hB9 := hB8.trans (b9.mono hB8.size)
        have s9 := at_later s8 y8 b9
        have t9 := at_later t8 z8 b9
        have y9 := Nat.lt_of_lt_of_le y8 b9.size
        have z9 := Nat.lt_of_lt_of_le z8 b9.size
        clear hB8 s8 t8 y8 z8 b9
        generalize w8.heap.size = g3 at *
        go_wp2_with fail
        refine (zz_keep g1 o1 n g3 0 (n + m) n (n + m) x x (by omega) (by omega) true ⟨fun _ _ _ => rfl, fun _ => rfl⟩ _ s9 u9).mono ?_
        rintro e w10 ⟨rfl, b10⟩
        go_wp2
        go_ret
        exact ⟨rfl, hB9.trans (b10.mono hB9.size)⟩
    · obtain ⟨l, hl⟩ := as_bool (∀ i, i < kk → x i = y i)
      have hkn : n = kk := by omega
      subst hkn
      by_cases hme : m = n
      · subst hme
        cases l
        all_goals
          have Hl : Tells _ _ _ _ := hl
          have Hw : Tells _ _ _ _ := hl
          clear hl
          go_wp2_with fail
          refine (zz_keep g1 o1 m g2 o2 m m m x y (by omega) (by omega) _ Hw _ s4 (t4.mono hnm)).mono ?_
          rintro e w5 ⟨rfl, b5⟩
          have hB5 := hB4.trans (b5.mono hB4.size)
          have s5 := at_later s4 y4 b5
          have t5 := at_later t4 z4 b5
          have y5 := Nat.lt_of_lt_of_le y4 b5.size
          have z5 := Nat.lt_of_lt_of_le z4 b5.size
          clear hB4 s4 t4 y4 z4 b5
          have Q1 := fun q => zz_some g1 o1 m g2 o2 m m m x y (Nat.le_refl _) hkk1 _ Hl (w5.drewN q) (at_later (s5.mono hkk2) y5 (below_drewN _ _)) (at_later (t5.mono hkk3) z5 (below_drewN _ _))
          go_wp2_with fail
          go_quiet ((go_at_call 11; exact Calls.quiet_of (Q1 _)))
          clear Q1
          have hB6 := hB5.trans ((below_drewN w5 nq).mono hB5.size)
          have s6 := at_later s5 y5 (below_drewN w5 nq)
          have t6 := at_later t5 z5 (below_drewN w5 nq)
          have y6 := Nat.lt_of_lt_of_le y5 (below_drewN w5 nq).size
          have z6 := Nat.lt_of_lt_of_le z5 (below_drewN w5 nq).size
          clear hB5 s5 t5 y5 z5
          generalize w5.drewN nq = w6 at *
          have Q1 := fun q => zz_none (some ⟨g1, o1, none⟩) (some ⟨g2, o2, none⟩) 0 0 0 (w6.drewN q)
          go_wp2_with fail
          go_quiet ((go_at_call 11; exact Calls.quiet_of_same (Q1 _)))
          clear Q1
          have hB7 := hB6.trans ((below_drewN w6 nq).mono hB6.size)
          have s7 := at_later s6 y6 (below_drewN w6 nq)
          have t7 := at_later t6 z6 (below_drewN w6 nq)
          have y7 := Nat.lt_of_lt_of_le y6 (below_drewN w6 nq).size
          have z7 := Nat.lt_of_lt_of_le z6 (below_drewN w6 nq).size
          clear hB6 s6 t6 y6 z6
          generalize w6.drewN nq = w7 at *
          go_wp2_with fail
          refine (zz_keep g1 o1 m g1 o1 m m m x x (Nat.le_refl _) (by omega) true ⟨fun _ _ _ => rfl, fun _ => rfl⟩ _ s7 s7).mono ?_
          rintro e w8 ⟨rfl, b8⟩
          have hB8 := hB7.trans (b8.mono hB7.size)
          have s8 := at_later s7 y7 b8
          have t8 := at_later t7 z7 b8
          have y8 := Nat.lt_of_lt_of_le y7 b8.size
          have z8 := Nat.lt_of_lt_of_le z7 b8.size
          clear hB7 s7 t7 y7 z7 b8
          go_wp2_with fail
          refine (join_any (some ⟨g1, o1, none⟩) m m x (some ⟨g2, o2, none⟩) m m y hn hm _ (fun _ => ⟨g1, o1, rfl, y8, s8⟩) (fun _ => ⟨g2, o2, rfl, z8, t8⟩)).mono ?_
          rintro e w9 ⟨rfl, b9, u9⟩
          have hB9 := hB8.trans (b9.mono hB8.size)
          have s9 := at_later s8 y8 b9
          have t9 := at_later t8 z8 b9
          have y9 := Nat.lt_of_lt_of_le y8 b9.size
          have z9 := Nat.lt_of_lt_of_le z8 b9.size
          clear hB8 s8 t8 y8 z8 b9
          generalize w8.heap.size = g3 at *
          go_wp2_with fail
          refine (zz_keep g1 o1 m g3 0 (m + m) m (m + m) x x (by omega) (by omega) true ⟨fun _ _ _ => rfl, fun _ => rfl⟩ _ s9 u9).mono ?_
          rintro e w10 ⟨rfl, b10⟩
          go_wp2
          go_ret
          exact ⟨rfl, hB9.trans (b10.mono hB9.size)⟩
      · cases l
        all_goals
          have Hl : Tells _ _ _ _ := hl
          have Hw : Tells _ _ _ _ := hl
          clear hl
          go_wp2_with fail
          refine (zz_keep g1 o1 n g2 o2 m n m x y (by omega) (by omega) _ Hw _ s4 (t4.mono hnm)).mono ?_
          rintro e w5 ⟨rfl, b5⟩
          have hB5 := hB4.trans (b5.mono hB4.size)
          have s5 := at_later s4 y4 b5
          have t5 := at_later t4 z4 b5
          have y5 := Nat.lt_of_lt_of_le y4 b5.size
          have z5 := Nat.lt_of_lt_of_le z4 b5.size
          clear hB4 s4 t4 y4 z4 b5
          have Q1 := fun q => zz_some g1 o1 n g2 o2 m n n x y (Nat.le_refl _) hkk1 _ Hl (w5.drewN q) (at_later (s5.mono hkk2) y5 (below_drewN _ _)) (at_later (t5.mono hkk3) z5 (below_drewN _ _))
          go_wp2_with fail
          go_quiet ((go_at_call 11; exact Calls.quiet_of (Q1 _)))
          clear Q1
          have hB6 := hB5.trans ((below_drewN w5 nq).mono hB5.size)
          have s6 := at_later s5 y5 (below_drewN w5 nq)
          have t6 := at_later t5 z5 (below_drewN w5 nq)
          have y6 := Nat.lt_of_lt_of_le y5 (below_drewN w5 nq).size
          have z6 := Nat.lt_of_lt_of_le z5 (below_drewN w5 nq).size
          clear hB5 s5 t5 y5 z5
          generalize w5.drewN nq = w6 at *
          have Q1 := fun q => zz_none (some ⟨g1, o1, none⟩) (some ⟨g2, o2 + n * 3, none⟩) 0 (m - n) (m - n) (w6.drewN q)
          go_wp2_with fail
          go_quiet ((go_at_call 11; exact Calls.quiet_of_same (Q1 _)))
          clear Q1
          have hB7 := hB6.trans ((below_drewN w6 nq).mono hB6.size)
          have s7 := at_later s6 y6 (below_drewN w6 nq)
          have t7 := at_later t6 z6 (below_drewN w6 nq)
          have y7 := Nat.lt_of_lt_of_le y6 (below_drewN w6 nq).size
          have z7 := Nat.lt_of_lt_of_le z6 (below_drewN w6 nq).size
          clear hB6 s6 t6 y6 z6
          generalize w6.drewN nq = w7 at *
          go_wp2_with fail
          refine (zz_keep g1 o1 n g1 o1 n n n x x (Nat.le_refl _) (by omega) true ⟨fun _ _ _ => rfl, fun _ => rfl⟩ _ s7 s7).mono ?_
          rintro e w8 ⟨rfl, b8⟩
          have hB8 := hB7.trans (b8.mono hB7.size)
          have s8 := at_later s7 y7 b8
          have t8 := at_later t7 z7 b8
          have y8 := Nat.lt_of_lt_of_le y7 b8.size
          have z8 := Nat.lt_of_lt_of_le z7 b8.size
          clear hB7 s7 t7 y7 z7 b8
          go_wp2_with fail
          refine (join_any (some ⟨g1, o1, none⟩) n n x (some ⟨g2, o2, none⟩) m m y hn hm _ (fun _ => ⟨g1, o1, rfl, y8, s8⟩) (fun _ => ⟨g2, o2, rfl, z8, t8⟩)).mono ?_
          rintro e w9 ⟨rfl, b9, u9⟩
          have hB9 := hB8.trans (b9.mono hB8.size)
          have s9 := at_later s8 y8 b9
          have t9 := at_later t8 z8 b9
          have y9 := Nat.lt_of_lt_of_le y8 b9.size
          have z9 := Nat.lt_of_lt_of_le z8 b9.size
          clear hB8 s8 t8 y8 z8 b9
          generalize w8.heap.size = g3 at *
          go_wp2_with fail
          refine (zz_keep g1 o1 n g3 0 (n + m) n (n + m) x x (by omega) (by omega) true ⟨fun _ _ _ => rfl, fun _ => rfl⟩ _ s9 u9).mono ?_
          rintro e w10 ⟨rfl, b10⟩
          go_wp2
          go_ret
          exact ⟨rfl, hB9.trans (b10.mono hB9.size)⟩
end Go.Proofs.Qxb6617173a.Cut
