/-
  THE WALK of FnCompareEntriesIsLexOrderOf48ByteKey.
-/
import Derived.Test.Qxb6620896aFresh
namespace Go.Proofs.Qxb6620896a
open Go.RowKit
open Extern.Stop (cell)

/-! ### THE CONTRACTS, AS THE CALLERS HAND THE ARGUMENTS -/
theorem cmp3_eq (a b : Ent) : cmp3 a b = Lib.compareBytes a.key b.key := by
  unfold cmp3 Ent.key
  rw [Order.cmp_append _ _ _ _ (by simp [a.hp, a.hm, b.hp, b.hm]), Order.cmp_append _ _ _ _ (by rw [a.hp, b.hp])]
  by_cases h1 : Lib.compareBytes a.p b.p = 0
  · simp [h1]
  · simp [h1]

/-- The order of two entries. -/
def ord (a b : Ent) : Int := Lib.compareBytes a.key b.key

theorem ord_self (a : Ent) : ord a a = 0 := Order.cmp_self _
theorem ord_neg (a b : Ent) : ord b a = -ord a b := Order.cmp_neg _ _
theorem ord_bounds (a b : Ent) : -1 ≤ ord a b ∧ ord a b ≤ 1 := by
  unfold ord
  rcases Order.cmp_three a.key b.key with h | h | h <;> rw [h] <;> exact ⟨by decide, by decide⟩

theorem zzEntry_l (x : Ent) (w : World) :
    Calls Try.prog 7 #[.agg (x.p.map cell).toArray, .agg (x.m.map cell).toArray, .agg (x.t.map cell).toArray] w fun e w' => e = .returned (.agg (row x.key)) ∧ Below w.heap.size w w' := zzEntry_calls x w
theorem lex_l (a b : Ent) (w : World) :
    Calls Try.prog 8 #[.agg (a.p.map cell).toArray, .agg (a.m.map cell).toArray, .agg (a.t.map cell).toArray, .agg (b.p.map cell).toArray, .agg (b.m.map cell).toArray, .agg (b.t.map cell).toArray] w fun e w' =>
      e = .returned (.int .i64 (ord a b)) ∧ Below w.heap.size w w' := lex_calls a b w
theorem zzcompare_l (a b : Ent) (w : World) :
    Calls Try.prog 9 #[.agg (a.key.map cell).toArray, .agg (b.key.map cell).toArray] w fun e w' => e = .returned (.int .i64 (ord a b)) ∧ Below w.heap.size w w' := by
  have h := zzcompare_calls a b w
  rw [cmp3_eq] at h
  exact h

/-- Three rows of sixteen, in blocks g, g + 1, g + 2. -/
structure Three (w : World) (g0 g1 g2 : Nat) (e : Ent) : Prop where
  p : w.rangeAt g0 0 (e.p.map cell)
  m : w.rangeAt g1 0 (e.m.map cell)
  t : w.rangeAt g2 0 (e.t.map cell)
theorem Three.below {B : Nat} {w w' : World} {g0 g1 g2 : Nat} {e : Ent} (h : Three w g0 g1 g2 e) (hb : Below B w w') (h0 : g0 < B) (h1 : g1 < B) (h2 : g2 < B) : Three w' g0 g1 g2 e :=
  ⟨range_below h.p hb h0, range_below h.m hb h1, range_below h.t hb h2⟩

/-- The six parameters in their boxes. -/
def six (w : World) (a b : Ent) : World := (((((w.alloc (.cells (row a.p) 22)).alloc (.cells (row a.m) 22)).alloc (.cells (row a.t) 22)).alloc (.cells (row b.p) 22)).alloc (.cells (row b.m) 22)).alloc (.cells (row b.t) 22)
theorem six_a (w : World) (a b : Ent) : Three (six w a b) w.heap.size (w.heap.size + 1) (w.heap.size + 1 + 1) a where
  p := World.rangeAt_alloc (World.rangeAt_alloc (World.rangeAt_alloc (World.rangeAt_alloc (World.rangeAt_alloc (range_new' _ a.p 22 _ (by simp)) _) _) _) _) _
  m := World.rangeAt_alloc (World.rangeAt_alloc (World.rangeAt_alloc (World.rangeAt_alloc (range_new' _ a.m 22 _ (by simp)) _) _) _) _
  t := World.rangeAt_alloc (World.rangeAt_alloc (World.rangeAt_alloc (range_new' _ a.t 22 _ (by simp)) _) _) _
theorem six_b (w : World) (a b : Ent) : Three (six w a b) (w.heap.size + 1 + 1 + 1) (w.heap.size + 1 + 1 + 1 + 1) (w.heap.size + 1 + 1 + 1 + 1 + 1) b where
  p := World.rangeAt_alloc (World.rangeAt_alloc (range_new' _ b.p 22 _ (by simp)) _) _
  m := World.rangeAt_alloc (range_new' _ b.m 22 _ (by simp)) _
  t := range_new' _ b.t 22 _ (by simp)
theorem six_below (w : World) (a b : Ent) : Below w.heap.size w (six w a b) :=
  (((((Below.refl _ _).alloc (Nat.le_refl _) _).alloc (by simp) _).alloc (by simp; omega) _).alloc (by simp; omega) _).alloc (by simp; omega) _ |>.alloc (by simp; omega) _
theorem six_size (w : World) (a b : Ent) : (six w a b).heap.size = w.heap.size + 6 := by simp [six]

/-- What is known of a world behind the six boxes. -/
structure St6 (w W : World) (a b : Ent) : Prop where
  ta : Three W w.heap.size (w.heap.size + 1) (w.heap.size + 1 + 1) a
  tb : Three W (w.heap.size + 1 + 1 + 1) (w.heap.size + 1 + 1 + 1 + 1) (w.heap.size + 1 + 1 + 1 + 1 + 1) b
  bel : Below w.heap.size w W
  sz : w.heap.size + 6 ≤ W.heap.size
theorem St6.next {w W W' : World} {a b : Ent} (h : St6 w W a b) (hb : Below W.heap.size W W') : St6 w W' a b := by
  have hs := h.sz
  exact ⟨h.ta.below hb (by omega) (by omega) (by omega), h.tb.below hb (by omega) (by omega) (by omega), h.bel.trans (hb.mono (by omega)), Nat.le_trans hs hb.size⟩
theorem below_alloc (W : World) (o : Obj) : Below W.heap.size W (W.alloc o) := (Below.refl _ _).alloc (Nat.le_refl _) _
theorem St6.alloc {w W : World} {a b : Ent} (h : St6 w W a b) (o : Obj) : St6 w (W.alloc o) a b := h.next (below_alloc W o)
theorem st6 (w : World) (a b : Ent) : St6 w (six w a b) a b := ⟨six_a w a b, six_b w a b, six_below w a b, Nat.le_of_eq (six_size w a b).symm⟩
theorem Lies.next {W W' : World} {g o : Nat} {e : Ent} (h : Lies W g o e) (hb : Below W.heap.size W W') : Lies W' g o e := h.below hb h.lt

set_option maxHeartbeats 1000000 in
theorem law1_calls (a b : Ent) (w : World) :
    Calls Try.prog 3 #[.agg (row a.p), .agg (row a.m), .agg (row a.t), .agg (row b.p), .agg (row b.m), .agg (row b.t)] w fun e w' => e = .returned (.bool true) ∧ Below w.heap.size w w' := by
  have s0 := st6 w a b
  go_enter Try.func3, Try.ntmps3
  go_wp2_with (first
    | ((with_reducible refine wpList_row22 a.p (.tmp 6) w.heap.size 0 a.hp ?_ ?_ ?_ ?_ ?_); exact rfl; exact rfl; exact rfl; exact s0.ta.p)
    | ((with_reducible refine wpList_row22 a.m (.tmp 7) (w.heap.size + 1) 0 a.hm ?_ ?_ ?_ ?_ ?_); exact rfl; exact rfl; exact rfl; exact s0.ta.m)
    | ((with_reducible refine wpList_row22 a.t (.tmp 8) (w.heap.size + 1 + 1) 0 a.ht ?_ ?_ ?_ ?_ ?_); exact rfl; exact rfl; exact rfl; exact s0.ta.t))
  refine (zzEntry_l a _).mono ?_
  rintro e w1 ⟨rfl, hb1⟩
  have s1 := (s0.next hb1).alloc (.cells (row a.key) 25)
  have l1 := lies_new w1 a 25
  clear s0 hb1
  go_wp2_with (first
    | ((with_reducible refine wpList_ent a 13 (.tmp 19) ?_ ?_ ?_ ?_ ?_ ?_ ?_ ?_); exact rfl; exact rfl; exact rfl; exact rfl; exact rfl; exact rfl; exact rfl)
    | ((with_reducible refine wpList_row22 b.p (.tmp 9) (w.heap.size + 1 + 1 + 1) 0 b.hp ?_ ?_ ?_ ?_ ?_); exact rfl; exact rfl; exact rfl; exact s1.tb.p)
    | ((with_reducible refine wpList_row22 b.m (.tmp 10) (w.heap.size + 1 + 1 + 1 + 1) 0 b.hm ?_ ?_ ?_ ?_ ?_); exact rfl; exact rfl; exact rfl; exact s1.tb.m)
    | ((with_reducible refine wpList_row22 b.t (.tmp 11) (w.heap.size + 1 + 1 + 1 + 1 + 1) 0 b.ht ?_ ?_ ?_ ?_ ?_); exact rfl; exact rfl; exact rfl; exact s1.tb.t))
  refine (zzEntry_l b _).mono ?_
  rintro e w2 ⟨rfl, hb2⟩
  have s2 := (s1.next hb2).alloc (.cells (row b.key) 25)
  have la2 := (l1.next hb2).alloc (.cells (row b.key) 25)
  have lb2 := lies_new w2 b 25
  clear s1 l1 hb2
  go_wp2_with (first
    | ((with_reducible refine wpList_ent b 14 (.tmp 23) ?_ ?_ ?_ ?_ ?_ ?_ ?_ ?_); exact rfl; exact rfl; exact rfl; exact rfl; exact rfl; exact rfl; exact rfl)
    | ((with_reducible refine wpList_row22 a.p (.tmp 6) w.heap.size 0 a.hp ?_ ?_ ?_ ?_ ?_); exact rfl; exact rfl; exact rfl; exact s2.ta.p)
    | ((with_reducible refine wpList_row22 a.m (.tmp 7) (w.heap.size + 1) 0 a.hm ?_ ?_ ?_ ?_ ?_); exact rfl; exact rfl; exact rfl; exact s2.ta.m)
    | ((with_reducible refine wpList_row22 a.t (.tmp 8) (w.heap.size + 1 + 1) 0 a.ht ?_ ?_ ?_ ?_ ?_); exact rfl; exact rfl; exact rfl; exact s2.ta.t)
    | ((with_reducible refine wpList_row22 b.p (.tmp 9) (w.heap.size + 1 + 1 + 1) 0 b.hp ?_ ?_ ?_ ?_ ?_); exact rfl; exact rfl; exact rfl; exact s2.tb.p)
    | ((with_reducible refine wpList_row22 b.m (.tmp 10) (w.heap.size + 1 + 1 + 1 + 1) 0 b.hm ?_ ?_ ?_ ?_ ?_); exact rfl; exact rfl; exact rfl; exact s2.tb.m)
    | ((with_reducible refine wpList_row22 b.t (.tmp 11) (w.heap.size + 1 + 1 + 1 + 1 + 1) 0 b.ht ?_ ?_ ?_ ?_ ?_); exact rfl; exact rfl; exact rfl; exact s2.tb.t))
  refine (lex_l a b _).mono ?_
  rintro e w3 ⟨rfl, hb3⟩
  have s3 := s2.next hb3
  have la3 := la2.next hb3
  have lb3 := lb2.next hb3
  clear s2 la2 lb2 hb3
  go_wp2_with (first
    | ((with_reducible refine wpList_row25 a (.tmp 13) w1.heap.size 0 ?_ ?_ ?_ ?_ ?_); exact rfl; exact rfl; exact rfl; exact la3)
    | ((with_reducible refine wpList_row25 b (.tmp 14) w2.heap.size 0 ?_ ?_ ?_ ?_ ?_); exact rfl; exact rfl; exact rfl; exact lb3))
  refine (zzcompare_l a b _).mono ?_
  rintro e w4 ⟨rfl, hb4⟩
  have s4 := s3.next hb4
  have la4 := la3.next hb4
  have lb4 := lb3.next hb4
  clear s3 la3 lb3 hb4
  have q1 : (ord a b == ord a b) = true := by simp
  obtain ⟨o1, o2⟩ := ord_bounds a b
  have q2 : (ord b a == -ord a b) = true := by rw [ord_neg]; simp
  have q3 : (ord a a == 0) = true := by rw [ord_self]; rfl
  go_wp2_with (first
    | ((with_reducible refine wpList_row25g b (.tmp 14) w2.heap.size 0 ?_ ?_ ?_ ?_ ?_); exact rfl; exact rfl; exact rfl; exact lb4)
    | ((with_reducible refine wpList_row25g a (.tmp 13) w1.heap.size 0 ?_ ?_ ?_ ?_ ?_); exact rfl; exact rfl; exact rfl; exact la4))
  refine (zzcompare_l b a _).mono ?_
  rintro e w5 ⟨rfl, hb5⟩
  have s5 := s4.next hb5
  have la5 := la4.next hb5
  clear s4 la4 lb4 hb5
  go_wp2_with (first
    | ((with_reducible refine wpList_row25g a (.tmp 13) w1.heap.size 0 ?_ ?_ ?_ ?_ ?_); exact rfl; exact rfl; exact rfl; exact la5))
  refine (zzcompare_l a a _).mono ?_
  rintro e w6 ⟨rfl, hb6⟩
  have s6 := s5.next hb6
  clear s5 la5 hb6
  go_wp2_with fail
  go_ret
  exact ⟨rfl, s6.bel⟩

end Go.Proofs.Qxb6620896a
