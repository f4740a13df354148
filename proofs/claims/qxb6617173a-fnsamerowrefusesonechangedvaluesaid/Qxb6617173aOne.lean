/-
  THE WALK OF 'FnSameRowRefusesOneChangedValue' (seat b6617173a).
-/
import Derived.Test.Qxb6617173aMk
import Derived.Test.Qxb6617173aBig
namespace Go.Proofs.Qxb6617173a.Row
open Go.RowKit

theorem in_later {w w1 : World} {a : Option Addr} {n : Nat} {x : Nat → Z} (h : In w a n x) (hb : Below w.heap.size w w1) : In w1 a n x :=
  ⟨h.1, fun h0 => by
    obtain ⟨b, off, e, hlt, hat, hs⟩ := h.2 h0
    exact ⟨b, off, e, Nat.lt_of_lt_of_le hlt hb.size, at_later hat hlt hb, hs⟩⟩
theorem below_drewN (w : World) (q : Nat) : Below w.heap.size w (w.drewN q) := ⟨rfl, rfl, rfl, Nat.le_refl _, fun _ _ => rfl⟩
theorem below_chain {a b c : World} (h : Below a.heap.size a b) (k : Below b.heap.size b c) : Below a.heap.size a c := h.trans (k.mono h.size)

theorem box_cells (w : World) (v : Z) : At (w.alloc (.cells #[.int .u8 v.kind, .int .i64 v.num, .string v.str] 31)) w.heap.size 0 1 (fun _ => v) := fun i hi => by
  have e : i = 0 := by omega
  subst e
  simp [World.cell?_alloc_new]

theorem zz_keep (b1 o1 c1 b2 o2 c2 n m : Nat) (x y : Nat → Z) (hn : n ≤ m) (hm : m ≤ 1048576) (r : Bool) (hr : r = true ↔ ∀ i, i < n → x i = y i) (w : World) (hx : At w b1 o1 n x) (hy : At w b2 o2 n y) :
    Calls Try.prog 11 #[.slice (some ⟨b1, o1, none⟩) n c1, .slice (some ⟨b2, o2, none⟩) m c2] w fun e w' => e = .returned (.bool r) ∧ Below w.heap.size w w' :=
  (zz_some b1 o1 c1 b2 o2 c2 n m x y hn hm r hr w hx hy).mono fun _ _ ⟨h, q, hq⟩ => ⟨h, by rw [hq]; exact below_drewN _ _⟩

set_option maxHeartbeats 4000000 in
theorem one_walk (a : Option Addr) (n c : Nat) (x : Nat → Z) (k : Int) (hk : -9223372036854775808 ≤ k ∧ k ≤ 9223372036854775807) (v : Z) (hv : v.str.size ≤ maxLen) (w : World) (ha : In w a n x) :
    Calls Try.prog 4 #[.slice a n c, .int .i64 k, .agg #[.int .u8 v.kind, .int .i64 v.num, .string v.str]] w fun e w' => e = .returned (.bool true) ∧ Below w.heap.size w w' := by
  have hB : Below w.heap.size w (w.alloc (.cells #[.int .u8 v.kind, .int .i64 v.num, .string v.str] 31)) := (Below.refl _ _).alloc (Nat.le_refl _) _
  have ha0 := in_later ha hB
  have hbox := box_cells w v
  have hsz0 : w.heap.size < (w.alloc (.cells #[.int .u8 v.kind, .int .i64 v.num, .string v.str] 31)).heap.size := by simp
  have C1 := fun W h => bytes_one a n c x k v hv W h
  have C2 := fun W h => big_any a n c x none 0 0 x v.str hv W h ⟨Nat.zero_le _, fun h => absurd h (by omega)⟩
  clear ha
  go_enter Try.func4, Try.ntmps4
  go_wp2_with fail
  generalize w.alloc (.cells #[.int .u8 v.kind, .int .i64 v.num, .string v.str] 31) = w0 at *
  refine (C1 _ ha0).mono ?_
  rintro e w1 ⟨⟨r, rfl, _⟩, hb1⟩
  have hB1 := hB.trans (hb1.mono (B' := w.heap.size) hB.size)
  cases r
  · go_wp2
    go_ret
    exact ⟨rfl, hB1⟩
  have ha1 := in_later ha0 hb1
  have hbox1 := at_later hbox hsz0 hb1
  have hsz1 := Nat.lt_of_lt_of_le hsz0 hb1.size
  clear hB hb1 ha0 hbox hsz0 C1
  obtain ⟨x1, x2, x3⟩ := hbox1 0 (by omega)
  simp only [Nat.zero_mul, Nat.zero_add] at x1 x2 x3
  go_wp2_with fail
  refine (C2 _ ha1).mono ?_
  rintro e w2 ⟨⟨r, rfl, hr⟩, hw2⟩
  subst hw2
  clear C2
  cases r
  case true =>
    go_wp2
    go_ret
    exact ⟨rfl, hB1⟩
  have hn : n ≤ 32768 := (hr rfl).1
  clear hr
  by_cases hk0 : k < 0
  · go_wp2
    go_ret
    exact ⟨rfl, hB1⟩
  by_cases hk1 : (n : Int) ≤ k
  · go_wp2
    go_ret
    exact ⟨rfl, hB1⟩
  obtain ⟨kk, rfl⟩ := Int.eq_ofNat_of_zero_le (show 0 ≤ k by omega)
  obtain ⟨b, off, rfl, hb, hat, _⟩ := ha1.2 (by omega)
  clear ha1
  obtain ⟨p1, p2, p3⟩ := hat kk (by omega)
  have hl : (kk : Int) < (n : Int) := by omega
  cases e1 : (v.kind == (x kk).kind)
  · have Hne : Hid (v ≠ x kk) := fun e => by rw [← e] at e1; simp at e1
    go_wp2
    go_quiet (fail)
    go_wp2_with fail
    clear e1
    have hB3 : Below w.heap.size w (w2.drewN nq) := hB1.trans ((below_drewN w2 nq).mono hB1.size)
    have hat3 : At (w2.drewN nq) b off n x := at_later hat hb (below_drewN _ _)
    have hb3 : b < (w2.drewN nq).heap.size := hb
    have hbox3 : At (w2.drewN nq) w.heap.size 0 1 (fun _ => v) := at_later hbox1 hsz1 (below_drewN _ _)
    have hsz3 : w.heap.size < (w2.drewN nq).heap.size := hsz1
    clear hB1 hat hb hbox1 hsz1 x1 x2 x3 p1 p2 p3
    generalize w2.drewN nq = w3 at *
    refine (row_some b off c n x (by omega) w3 hb3 hat3).mono ?_
    rintro e w4 ⟨rfl, b4, o4, t4⟩
    have hB4 := hB3.trans (b4.mono hB3.size)
    have hat4 := at_later hat3 hb3 b4
    have hb4 := Nat.lt_of_lt_of_le hb3 b4.size
    have hbox4 := at_later hbox3 hsz3 b4
    have hsz4 := Nat.lt_of_lt_of_le hsz3 b4.size
    have hg4 := o4.1
    have hgw := hB3.size
    clear hB3 hat3 hb3 hbox3 hsz3 b4 o4
    generalize w3.heap.size = g1 at *
    go_wp2_with fail
    refine (row_some b off c n x (by omega) w4 hb4 hat4).mono ?_
    rintro e w5 ⟨rfl, b5, o5, t5⟩
    have hB5 := hB4.trans (b5.mono hB4.size)
    have s5 := at_later t4 hg4 b5
    have hg5 := Nat.lt_of_lt_of_le hg4 b5.size
    have hbox5 := at_later hbox4 hsz4 b5
    have hsz5 := Nat.lt_of_lt_of_le hsz4 b5.size
    have hgw2 := hB4.size
    clear hB4 hat4 hb4 hbox4 b5 t4
    generalize w4.heap.size = g2 at *
    obtain ⟨x1, x2, x3⟩ := hbox5 0 (by omega)
    simp only [Nat.zero_mul, Nat.zero_add] at x1 x2 x3
    go_wp2_with fail
    refine (value_any v _).mono ?_
    rintro e w6 ⟨rfl, b6⟩
    have hB6 := hB5.trans (b6.mono hB5.size)
    have o6 := own_later o5 b6
    have t6 := at_later t5 o5.1 b6
    have s6 := at_later s5 hg5 b6
    clear hB5 hbox5 hsz5 x1 x2 x3 s5 t5 o5 b6
    obtain ⟨u1, c1⟩ := (o6.2 (kk * 3)).1 (by omega)
    obtain ⟨u2, c2⟩ := (o6.2 (kk * 3 + 1)).1 (by omega)
    obtain ⟨u3, c3⟩ := (o6.2 (kk * 3 + 2)).1 (by omega)
    have f1 := (o6.2 (kk * 3)).2
    have f2 := (o6.2 (kk * 3 + 1)).2
    have f3 := (o6.2 (kk * 3 + 2)).2
    go_wp2_with fail
    have hB7 : Below w.heap.size w (put w6 g2 (kk * 3) v) := below_put hB6 hgw2 _ _
    have t7 : At (put w6 g2 (kk * 3) v) g2 0 n (fun i => if i = kk then v else x i) := at_put o6 kk (by omega) v (fun i hi _ => by have := at_one t6 hi; rw [Nat.zero_add] at this; exact this)
    have s7 : At (put w6 g2 (kk * 3) v) g1 0 n x := at_far s6 (by omega) v
    have z2 : g2 < (put w6 g2 (kk * 3) v).heap.size := (own_put o6 _ _ _).1
    have z1 : g1 < (put w6 g2 (kk * 3) v).heap.size := by omega
    change Calls Try.prog 11 _ (put w6 g2 (kk * 3) v) _
    clear hB6 o6 t6 s6 c1 c2 c3 f1 f2 f3 u1 u2 u3
    generalize put w6 g2 (kk * 3) v = w7 at *
    have N1 : Hid (false = true ↔ ∀ i, i < n → x i = (fun i => if i = kk then v else x i) i) := ⟨fun h => (by cases h), fun h => absurd (h kk (by omega)) (by simp only [if_true]; exact fun e => Hne.out e.symm)⟩
    have N2 : Hid (false = true ↔ ∀ i, i < n → (fun i => if i = kk then v else x i) i = x i) := ⟨fun h => (by cases h), fun h => absurd (h kk (by omega)) (by simp only [if_true]; exact fun e => Hne.out e)⟩
    have N3 : Hid (∀ i, i < kk → x i = (fun i => if i = kk then v else x i) i) := fun i hi => by simp only [if_neg (show ¬ i = kk by omega)]
    have N4 : Hid (∀ i, i < n - (kk + 1) → x (kk + 1 + i) = (fun i => if i = kk then v else x i) (kk + 1 + i)) := fun i hi => by simp only [if_neg (show ¬ kk + 1 + i = kk by omega)]
    generalize (fun i => if i = kk then v else x i) = y at *
    refine (zz_keep g1 0 n g2 0 n n n x y (Nat.le_refl _) (by omega) false N1.out _ s7 t7).mono ?_
    rintro e w8 ⟨rfl, b8⟩
    have hB8 := hB7.trans (b8.mono hB7.size)
    have s8 := at_later s7 z1 b8
    have t8 := at_later t7 z2 b8
    have y1 := Nat.lt_of_lt_of_le z1 b8.size
    have y2 := Nat.lt_of_lt_of_le z2 b8.size
    clear hB7 s7 t7 z1 z2 b8
    go_wp2_with fail
    refine (zz_keep g2 0 n g1 0 n n n y x (Nat.le_refl _) (by omega) false N2.out _ t8 s8).mono ?_
    rintro e w9 ⟨rfl, b9⟩
    have hB9 := hB8.trans (b9.mono hB8.size)
    have s9 := at_later s8 y1 b9
    have t9 := at_later t8 y2 b9
    have z1 := Nat.lt_of_lt_of_le y1 b9.size
    have z2 := Nat.lt_of_lt_of_le y2 b9.size
    clear hB8 s8 t8 y1 y2 b9
    go_wp2_with fail
    refine (zz_keep g2 0 n g2 0 n n n y y (Nat.le_refl _) (by omega) true ⟨fun _ _ _ => rfl, fun _ => rfl⟩ _ t9 t9).mono ?_
    rintro e w10 ⟨rfl, b10⟩
    have hB10 := hB9.trans (b10.mono hB9.size)
    have s10 := at_later s9 z1 b10
    have t10 := at_later t9 z2 b10
    have y1 := Nat.lt_of_lt_of_le z1 b10.size
    have y2 := Nat.lt_of_lt_of_le z2 b10.size
    clear hB9 s9 t9 z1 z2 b10
    have hn0 : ¬ n = 0 := by omega
    have hmx : kk ≤ 1048576 := by omega
    have hkn : kk ≤ n := by omega
    have Q1 := fun q => zz_some g1 0 n g2 0 n kk kk x y (Nat.le_refl _) hmx true ⟨fun _ => N3.out, fun _ => rfl⟩ (w10.drewN q) (at_later (s10.mono hkn) y1 (below_drewN _ _)) (at_later (t10.mono hkn) y2 (below_drewN _ _))
    go_wp2_with fail
    go_quiet ((go_at_call 11; exact Calls.quiet_of (Q1 _)))
    clear Q1
    have hB11 := hB10.trans ((below_drewN w10 nq).mono hB10.size)
    have s11 := at_later s10 y1 (below_drewN w10 nq)
    have t11 := at_later t10 y2 (below_drewN w10 nq)
    have z1 := Nat.lt_of_lt_of_le y1 (below_drewN w10 nq).size
    have z2 := Nat.lt_of_lt_of_le y2 (below_drewN w10 nq).size
    clear hB10 s10 t10 y1 y2
    generalize w10.drewN nq = w11 at *
    by_cases hlast : n = kk + 1
    · subst hlast
      have Q2 := fun q => zz_none (some ⟨g1, 0, none⟩) (some ⟨g2, 0, none⟩) 0 0 0 (w11.drewN q)
      go_wp2_with fail
      go_quiet ((go_at_call 11; exact Calls.quiet_of_same (Q2 _)))
      go_wp2
      go_ret
      exact ⟨rfl, hB11.trans ((below_drewN _ _).mono hB11.size)⟩
    · have Q2 := fun q => zz_some g1 ((kk + 1) * 3) (n - (kk + 1)) g2 ((kk + 1) * 3) (n - (kk + 1)) (n - (kk + 1)) (n - (kk + 1)) (fun i => x (kk + 1 + i)) (fun i => y (kk + 1 + i)) (Nat.le_refl _) (by omega) true ⟨fun _ => N4.out, fun _ => rfl⟩ (w11.drewN q) (at_later (by have := s11.cut (kk + 1); rw [Nat.zero_add] at this; exact this) z1 (below_drewN _ _)) (at_later (by have := t11.cut (kk + 1); rw [Nat.zero_add] at this; exact this) z2 (below_drewN _ _))
      go_wp2_with fail
      go_quiet ((go_at_call 11; exact Calls.quiet_of (Q2 _)))
      go_wp2
      go_ret
      exact ⟨rfl, hB11.trans ((below_drewN _ _).mono hB11.size)⟩
  cases e2 : (v.num == (x kk).num)
  · have Hne : Hid (v ≠ x kk) := fun e => by rw [← e] at e2; simp at e2
    go_wp2
    go_quiet (fail)
    go_wp2_with fail
    clear e1 e2
    have hB3 : Below w.heap.size w (w2.drewN nq) := hB1.trans ((below_drewN w2 nq).mono hB1.size)
    have hat3 : At (w2.drewN nq) b off n x := at_later hat hb (below_drewN _ _)
    have hb3 : b < (w2.drewN nq).heap.size := hb
    have hbox3 : At (w2.drewN nq) w.heap.size 0 1 (fun _ => v) := at_later hbox1 hsz1 (below_drewN _ _)
    have hsz3 : w.heap.size < (w2.drewN nq).heap.size := hsz1
    clear hB1 hat hb hbox1 hsz1 x1 x2 x3 p1 p2 p3
    generalize w2.drewN nq = w3 at *
    refine (row_some b off c n x (by omega) w3 hb3 hat3).mono ?_
    rintro e w4 ⟨rfl, b4, o4, t4⟩
    have hB4 := hB3.trans (b4.mono hB3.size)
    have hat4 := at_later hat3 hb3 b4
    have hb4 := Nat.lt_of_lt_of_le hb3 b4.size
    have hbox4 := at_later hbox3 hsz3 b4
    have hsz4 := Nat.lt_of_lt_of_le hsz3 b4.size
    have hg4 := o4.1
    have hgw := hB3.size
    clear hB3 hat3 hb3 hbox3 hsz3 b4 o4
    generalize w3.heap.size = g1 at *
    go_wp2_with fail
    refine (row_some b off c n x (by omega) w4 hb4 hat4).mono ?_
    rintro e w5 ⟨rfl, b5, o5, t5⟩
    have hB5 := hB4.trans (b5.mono hB4.size)
    have s5 := at_later t4 hg4 b5
    have hg5 := Nat.lt_of_lt_of_le hg4 b5.size
    have hbox5 := at_later hbox4 hsz4 b5
    have hsz5 := Nat.lt_of_lt_of_le hsz4 b5.size
    have hgw2 := hB4.size
    clear hB4 hat4 hb4 hbox4 b5 t4
    generalize w4.heap.size = g2 at *
    obtain ⟨x1, x2, x3⟩ := hbox5 0 (by omega)
    simp only [Nat.zero_mul, Nat.zero_add] at x1 x2 x3
    go_wp2_with fail
    refine (value_any v _).mono ?_
    rintro e w6 ⟨rfl, b6⟩
    have hB6 := hB5.trans (b6.mono hB5.size)
    have o6 := own_later o5 b6
    have t6 := at_later t5 o5.1 b6
    have s6 := at_later s5 hg5 b6
    clear hB5 hbox5 hsz5 x1 x2 x3 s5 t5 o5 b6
    obtain ⟨u1, c1⟩ := (o6.2 (kk * 3)).1 (by omega)
    obtain ⟨u2, c2⟩ := (o6.2 (kk * 3 + 1)).1 (by omega)
    obtain ⟨u3, c3⟩ := (o6.2 (kk * 3 + 2)).1 (by omega)
    have f1 := (o6.2 (kk * 3)).2
    have f2 := (o6.2 (kk * 3 + 1)).2
    have f3 := (o6.2 (kk * 3 + 2)).2
    go_wp2_with fail
    have hB7 : Below w.heap.size w (put w6 g2 (kk * 3) v) := below_put hB6 hgw2 _ _
    have t7 : At (put w6 g2 (kk * 3) v) g2 0 n (fun i => if i = kk then v else x i) := at_put o6 kk (by omega) v (fun i hi _ => by have := at_one t6 hi; rw [Nat.zero_add] at this; exact this)
    have s7 : At (put w6 g2 (kk * 3) v) g1 0 n x := at_far s6 (by omega) v
    have z2 : g2 < (put w6 g2 (kk * 3) v).heap.size := (own_put o6 _ _ _).1
    have z1 : g1 < (put w6 g2 (kk * 3) v).heap.size := by omega
    change Calls Try.prog 11 _ (put w6 g2 (kk * 3) v) _
    clear hB6 o6 t6 s6 c1 c2 c3 f1 f2 f3 u1 u2 u3
    generalize put w6 g2 (kk * 3) v = w7 at *
    have N1 : Hid (false = true ↔ ∀ i, i < n → x i = (fun i => if i = kk then v else x i) i) := ⟨fun h => (by cases h), fun h => absurd (h kk (by omega)) (by simp only [if_true]; exact fun e => Hne.out e.symm)⟩
    have N2 : Hid (false = true ↔ ∀ i, i < n → (fun i => if i = kk then v else x i) i = x i) := ⟨fun h => (by cases h), fun h => absurd (h kk (by omega)) (by simp only [if_true]; exact fun e => Hne.out e)⟩
    have N3 : Hid (∀ i, i < kk → x i = (fun i => if i = kk then v else x i) i) := fun i hi => by simp only [if_neg (show ¬ i = kk by omega)]
    have N4 : Hid (∀ i, i < n - (kk + 1) → x (kk + 1 + i) = (fun i => if i = kk then v else x i) (kk + 1 + i)) := fun i hi => by simp only [if_neg (show ¬ kk + 1 + i = kk by omega)]
    generalize (fun i => if i = kk then v else x i) = y at *
    refine (zz_keep g1 0 n g2 0 n n n x y (Nat.le_refl _) (by omega) false N1.out _ s7 t7).mono ?_
    rintro e w8 ⟨rfl, b8⟩
    have hB8 := hB7.trans (b8.mono hB7.size)
    have s8 := at_later s7 z1 b8
    have t8 := at_later t7 z2 b8
    have y1 := Nat.lt_of_lt_of_le z1 b8.size
    have y2 := Nat.lt_of_lt_of_le z2 b8.size
    clear hB7 s7 t7 z1 z2 b8
    go_wp2_with fail
    refine (zz_keep g2 0 n g1 0 n n n y x (Nat.le_refl _) (by omega) false N2.out _ t8 s8).mono ?_
    rintro e w9 ⟨rfl, b9⟩
    have hB9 := hB8.trans (b9.mono hB8.size)
    have s9 := at_later s8 y1 b9
    have t9 := at_later t8 y2 b9
    have z1 := Nat.lt_of_lt_of_le y1 b9.size
    have z2 := Nat.lt_of_lt_of_le y2 b9.size
    clear hB8 s8 t8 y1 y2 b9
    go_wp2_with fail
    refine (zz_keep g2 0 n g2 0 n n n y y (Nat.le_refl _) (by omega) true ⟨fun _ _ _ => rfl, fun _ => rfl⟩ _ t9 t9).mono ?_
    rintro e w10 ⟨rfl, b10⟩
    have hB10 := hB9.trans (b10.mono hB9.size)
    have s10 := at_later s9 z1 b10
    have t10 := at_later t9 z2 b10
    have y1 := Nat.lt_of_lt_of_le z1 b10.size
    have y2 := Nat.lt_of_lt_of_le z2 b10.size
    clear hB9 s9 t9 z1 z2 b10
    have hn0 : ¬ n = 0 := by omega
    have hmx : kk ≤ 1048576 := by omega
    have hkn : kk ≤ n := by omega
    have Q1 := fun q => zz_some g1 0 n g2 0 n kk kk x y (Nat.le_refl _) hmx true ⟨fun _ => N3.out, fun _ => rfl⟩ (w10.drewN q) (at_later (s10.mono hkn) y1 (below_drewN _ _)) (at_later (t10.mono hkn) y2 (below_drewN _ _))
    go_wp2_with fail
    go_quiet ((go_at_call 11; exact Calls.quiet_of (Q1 _)))
    clear Q1
    have hB11 := hB10.trans ((below_drewN w10 nq).mono hB10.size)
    have s11 := at_later s10 y1 (below_drewN w10 nq)
    have t11 := at_later t10 y2 (below_drewN w10 nq)
    have z1 := Nat.lt_of_lt_of_le y1 (below_drewN w10 nq).size
    have z2 := Nat.lt_of_lt_of_le y2 (below_drewN w10 nq).size
    clear hB10 s10 t10 y1 y2
    generalize w10.drewN nq = w11 at *
    by_cases hlast : n = kk + 1
    · subst hlast
      have Q2 := fun q => zz_none (some ⟨g1, 0, none⟩) (some ⟨g2, 0, none⟩) 0 0 0 (w11.drewN q)
      go_wp2_with fail
      go_quiet ((go_at_call 11; exact Calls.quiet_of_same (Q2 _)))
      go_wp2
      go_ret
      exact ⟨rfl, hB11.trans ((below_drewN _ _).mono hB11.size)⟩
    · have Q2 := fun q => zz_some g1 ((kk + 1) * 3) (n - (kk + 1)) g2 ((kk + 1) * 3) (n - (kk + 1)) (n - (kk + 1)) (n - (kk + 1)) (fun i => x (kk + 1 + i)) (fun i => y (kk + 1 + i)) (Nat.le_refl _) (by omega) true ⟨fun _ => N4.out, fun _ => rfl⟩ (w11.drewN q) (at_later (by have := s11.cut (kk + 1); rw [Nat.zero_add] at this; exact this) z1 (below_drewN _ _)) (at_later (by have := t11.cut (kk + 1); rw [Nat.zero_add] at this; exact this) z2 (below_drewN _ _))
      go_wp2_with fail
      go_quiet ((go_at_call 11; exact Calls.quiet_of (Q2 _)))
      go_wp2
      go_ret
      exact ⟨rfl, hB11.trans ((below_drewN _ _).mono hB11.size)⟩
  cases e3 : (v.str.toList == (x kk).str.toList)
  · have Hne : Hid (v ≠ x kk) := fun e => by rw [← e] at e3; simp at e3
    go_wp2
    go_quiet (fail)
    go_wp2_with fail
    clear e1 e2 e3
    have hB3 : Below w.heap.size w (w2.drewN nq) := hB1.trans ((below_drewN w2 nq).mono hB1.size)
    have hat3 : At (w2.drewN nq) b off n x := at_later hat hb (below_drewN _ _)
    have hb3 : b < (w2.drewN nq).heap.size := hb
    have hbox3 : At (w2.drewN nq) w.heap.size 0 1 (fun _ => v) := at_later hbox1 hsz1 (below_drewN _ _)
    have hsz3 : w.heap.size < (w2.drewN nq).heap.size := hsz1
    clear hB1 hat hb hbox1 hsz1 x1 x2 x3 p1 p2 p3
    generalize w2.drewN nq = w3 at *
    refine (row_some b off c n x (by omega) w3 hb3 hat3).mono ?_
    rintro e w4 ⟨rfl, b4, o4, t4⟩
    have hB4 := hB3.trans (b4.mono hB3.size)
    have hat4 := at_later hat3 hb3 b4
    have hb4 := Nat.lt_of_lt_of_le hb3 b4.size
    have hbox4 := at_later hbox3 hsz3 b4
    have hsz4 := Nat.lt_of_lt_of_le hsz3 b4.size
    have hg4 := o4.1
    have hgw := hB3.size
    clear hB3 hat3 hb3 hbox3 hsz3 b4 o4
    generalize w3.heap.size = g1 at *
    go_wp2_with fail
    refine (row_some b off c n x (by omega) w4 hb4 hat4).mono ?_
    rintro e w5 ⟨rfl, b5, o5, t5⟩
    have hB5 := hB4.trans (b5.mono hB4.size)
    have s5 := at_later t4 hg4 b5
    have hg5 := Nat.lt_of_lt_of_le hg4 b5.size
    have hbox5 := at_later hbox4 hsz4 b5
    have hsz5 := Nat.lt_of_lt_of_le hsz4 b5.size
    have hgw2 := hB4.size
    clear hB4 hat4 hb4 hbox4 b5 t4
    generalize w4.heap.size = g2 at *
    obtain ⟨x1, x2, x3⟩ := hbox5 0 (by omega)
    simp only [Nat.zero_mul, Nat.zero_add] at x1 x2 x3
    go_wp2_with fail
    refine (value_any v _).mono ?_
    rintro e w6 ⟨rfl, b6⟩
    have hB6 := hB5.trans (b6.mono hB5.size)
    have o6 := own_later o5 b6
    have t6 := at_later t5 o5.1 b6
    have s6 := at_later s5 hg5 b6
    clear hB5 hbox5 hsz5 x1 x2 x3 s5 t5 o5 b6
    obtain ⟨u1, c1⟩ := (o6.2 (kk * 3)).1 (by omega)
    obtain ⟨u2, c2⟩ := (o6.2 (kk * 3 + 1)).1 (by omega)
    obtain ⟨u3, c3⟩ := (o6.2 (kk * 3 + 2)).1 (by omega)
    have f1 := (o6.2 (kk * 3)).2
    have f2 := (o6.2 (kk * 3 + 1)).2
    have f3 := (o6.2 (kk * 3 + 2)).2
    go_wp2_with fail
    have hB7 : Below w.heap.size w (put w6 g2 (kk * 3) v) := below_put hB6 hgw2 _ _
    have t7 : At (put w6 g2 (kk * 3) v) g2 0 n (fun i => if i = kk then v else x i) := at_put o6 kk (by omega) v (fun i hi _ => by have := at_one t6 hi; rw [Nat.zero_add] at this; exact this)
    have s7 : At (put w6 g2 (kk * 3) v) g1 0 n x := at_far s6 (by omega) v
    have z2 : g2 < (put w6 g2 (kk * 3) v).heap.size := (own_put o6 _ _ _).1
    have z1 : g1 < (put w6 g2 (kk * 3) v).heap.size := by omega
    change Calls Try.prog 11 _ (put w6 g2 (kk * 3) v) _
    clear hB6 o6 t6 s6 c1 c2 c3 f1 f2 f3 u1 u2 u3
    generalize put w6 g2 (kk * 3) v = w7 at *
    have N1 : Hid (false = true ↔ ∀ i, i < n → x i = (fun i => if i = kk then v else x i) i) := ⟨fun h => (by cases h), fun h => absurd (h kk (by omega)) (by simp only [if_true]; exact fun e => Hne.out e.symm)⟩
    have N2 : Hid (false = true ↔ ∀ i, i < n → (fun i => if i = kk then v else x i) i = x i) := ⟨fun h => (by cases h), fun h => absurd (h kk (by omega)) (by simp only [if_true]; exact fun e => Hne.out e)⟩
    have N3 : Hid (∀ i, i < kk → x i = (fun i => if i = kk then v else x i) i) := fun i hi => by simp only [if_neg (show ¬ i = kk by omega)]
    have N4 : Hid (∀ i, i < n - (kk + 1) → x (kk + 1 + i) = (fun i => if i = kk then v else x i) (kk + 1 + i)) := fun i hi => by simp only [if_neg (show ¬ kk + 1 + i = kk by omega)]
    generalize (fun i => if i = kk then v else x i) = y at *
    refine (zz_keep g1 0 n g2 0 n n n x y (Nat.le_refl _) (by omega) false N1.out _ s7 t7).mono ?_
    rintro e w8 ⟨rfl, b8⟩
    have hB8 := hB7.trans (b8.mono hB7.size)
    have s8 := at_later s7 z1 b8
    have t8 := at_later t7 z2 b8
    have y1 := Nat.lt_of_lt_of_le z1 b8.size
    have y2 := Nat.lt_of_lt_of_le z2 b8.size
    clear hB7 s7 t7 z1 z2 b8
    go_wp2_with fail
    refine (zz_keep g2 0 n g1 0 n n n y x (Nat.le_refl _) (by omega) false N2.out _ t8 s8).mono ?_
    rintro e w9 ⟨rfl, b9⟩
    have hB9 := hB8.trans (b9.mono hB8.size)
    have s9 := at_later s8 y1 b9
    have t9 := at_later t8 y2 b9
    have z1 := Nat.lt_of_lt_of_le y1 b9.size
    have z2 := Nat.lt_of_lt_of_le y2 b9.size
    clear hB8 s8 t8 y1 y2 b9
    go_wp2_with fail
    refine (zz_keep g2 0 n g2 0 n n n y y (Nat.le_refl _) (by omega) true ⟨fun _ _ _ => rfl, fun _ => rfl⟩ _ t9 t9).mono ?_
    rintro e w10 ⟨rfl, b10⟩
    have hB10 := hB9.trans (b10.mono hB9.size)
    have s10 := at_later s9 z1 b10
    have t10 := at_later t9 z2 b10
    have y1 := Nat.lt_of_lt_of_le z1 b10.size
    have y2 := Nat.lt_of_lt_of_le z2 b10.size
    clear hB9 s9 t9 z1 z2 b10
    have hn0 : ¬ n = 0 := by omega
    have hmx : kk ≤ 1048576 := by omega
    have hkn : kk ≤ n := by omega
    have Q1 := fun q => zz_some g1 0 n g2 0 n kk kk x y (Nat.le_refl _) hmx true ⟨fun _ => N3.out, fun _ => rfl⟩ (w10.drewN q) (at_later (s10.mono hkn) y1 (below_drewN _ _)) (at_later (t10.mono hkn) y2 (below_drewN _ _))
    go_wp2_with fail
    go_quiet ((go_at_call 11; exact Calls.quiet_of (Q1 _)))
    clear Q1
    have hB11 := hB10.trans ((below_drewN w10 nq).mono hB10.size)
    have s11 := at_later s10 y1 (below_drewN w10 nq)
    have t11 := at_later t10 y2 (below_drewN w10 nq)
    have z1 := Nat.lt_of_lt_of_le y1 (below_drewN w10 nq).size
    have z2 := Nat.lt_of_lt_of_le y2 (below_drewN w10 nq).size
    clear hB10 s10 t10 y1 y2
    generalize w10.drewN nq = w11 at *
    by_cases hlast : n = kk + 1
    · subst hlast
      have Q2 := fun q => zz_none (some ⟨g1, 0, none⟩) (some ⟨g2, 0, none⟩) 0 0 0 (w11.drewN q)
      go_wp2_with fail
      go_quiet ((go_at_call 11; exact Calls.quiet_of_same (Q2 _)))
      go_wp2
      go_ret
      exact ⟨rfl, hB11.trans ((below_drewN _ _).mono hB11.size)⟩
    · have Q2 := fun q => zz_some g1 ((kk + 1) * 3) (n - (kk + 1)) g2 ((kk + 1) * 3) (n - (kk + 1)) (n - (kk + 1)) (n - (kk + 1)) (fun i => x (kk + 1 + i)) (fun i => y (kk + 1 + i)) (Nat.le_refl _) (by omega) true ⟨fun _ => N4.out, fun _ => rfl⟩ (w11.drewN q) (at_later (by have := s11.cut (kk + 1); rw [Nat.zero_add] at this; exact this) z1 (below_drewN _ _)) (at_later (by have := t11.cut (kk + 1); rw [Nat.zero_add] at this; exact this) z2 (below_drewN _ _))
      go_wp2_with fail
      go_quiet ((go_at_call 11; exact Calls.quiet_of (Q2 _)))
      go_wp2
      go_ret
      exact ⟨rfl, hB11.trans ((below_drewN _ _).mono hB11.size)⟩
  · go_wp2
    go_quiet (fail)
    go_wp2
    go_ret
    exact ⟨rfl, hB1.trans ((below_drewN _ _).mono hB1.size)⟩
end Go.Proofs.Qxb6617173a.Row
