/-
  THE WALK of FnCompareEntriesIsATotalOrder.
-/
import Derived.Test.Qxb6620896aLaw1
namespace Go.Proofs.Qxb6620896a
open Go.RowKit
open Extern.Stop (cell)

/-- The nine parameters in their boxes. -/
def nine (w : World) (a b c : Ent) : World := (((((((((w.alloc (.cells (row a.p) 22)).alloc (.cells (row a.m) 22)).alloc (.cells (row a.t) 22)).alloc (.cells (row b.p) 22)).alloc (.cells (row b.m) 22)).alloc (.cells (row b.t) 22)).alloc (.cells (row c.p) 22)).alloc (.cells (row c.m) 22)).alloc (.cells (row c.t) 22))
theorem nine_a (w : World) (a b c : Ent) : Three (nine w a b c) w.heap.size (w.heap.size + 1) (w.heap.size + 1 + 1) a where
  p := World.rangeAt_alloc (World.rangeAt_alloc (World.rangeAt_alloc (World.rangeAt_alloc (World.rangeAt_alloc (World.rangeAt_alloc (World.rangeAt_alloc (World.rangeAt_alloc (range_new' _ a.p 22 _ (by simp)) _) _) _) _) _) _) _) _
  m := World.rangeAt_alloc (World.rangeAt_alloc (World.rangeAt_alloc (World.rangeAt_alloc (World.rangeAt_alloc (World.rangeAt_alloc (World.rangeAt_alloc (range_new' _ a.m 22 _ (by simp)) _) _) _) _) _) _) _
  t := World.rangeAt_alloc (World.rangeAt_alloc (World.rangeAt_alloc (World.rangeAt_alloc (World.rangeAt_alloc (World.rangeAt_alloc (range_new' _ a.t 22 _ (by simp)) _) _) _) _) _) _
theorem nine_b (w : World) (a b c : Ent) : Three (nine w a b c) (w.heap.size + 1 + 1 + 1) (w.heap.size + 1 + 1 + 1 + 1) (w.heap.size + 1 + 1 + 1 + 1 + 1) b where
  p := World.rangeAt_alloc (World.rangeAt_alloc (World.rangeAt_alloc (World.rangeAt_alloc (World.rangeAt_alloc (range_new' _ b.p 22 _ (by simp)) _) _) _) _) _
  m := World.rangeAt_alloc (World.rangeAt_alloc (World.rangeAt_alloc (World.rangeAt_alloc (range_new' _ b.m 22 _ (by simp)) _) _) _) _
  t := World.rangeAt_alloc (World.rangeAt_alloc (World.rangeAt_alloc (range_new' _ b.t 22 _ (by simp)) _) _) _
theorem nine_c (w : World) (a b c : Ent) : Three (nine w a b c) (w.heap.size + 1 + 1 + 1 + 1 + 1 + 1) (w.heap.size + 1 + 1 + 1 + 1 + 1 + 1 + 1) (w.heap.size + 1 + 1 + 1 + 1 + 1 + 1 + 1 + 1) c where
  p := World.rangeAt_alloc (World.rangeAt_alloc (range_new' _ c.p 22 _ (by simp)) _) _
  m := World.rangeAt_alloc (range_new' _ c.m 22 _ (by simp)) _
  t := range_new' _ c.t 22 _ (by simp)
theorem nine_below (w : World) (a b c : Ent) : Below w.heap.size w (nine w a b c) := Below.alloc (Below.alloc (Below.alloc (Below.alloc (Below.alloc (Below.alloc (Below.alloc (Below.alloc (Below.alloc (Below.refl _ _) (Nat.le_refl _) _) (by simp) _) (by simp; omega) _) (by simp; omega) _) (by simp; omega) _) (by simp; omega) _) (by simp; omega) _) (by simp; omega) _) (by simp; omega) _
theorem nine_size (w : World) (a b c : Ent) : (nine w a b c).heap.size = w.heap.size + 9 := by simp [nine]

/-- What is known of a world behind the nine boxes. -/
structure St9 (w W : World) (a b c : Ent) : Prop where
  ta : Three W w.heap.size (w.heap.size + 1) (w.heap.size + 1 + 1) a
  tb : Three W (w.heap.size + 1 + 1 + 1) (w.heap.size + 1 + 1 + 1 + 1) (w.heap.size + 1 + 1 + 1 + 1 + 1) b
  tc : Three W (w.heap.size + 1 + 1 + 1 + 1 + 1 + 1) (w.heap.size + 1 + 1 + 1 + 1 + 1 + 1 + 1) (w.heap.size + 1 + 1 + 1 + 1 + 1 + 1 + 1 + 1) c
  bel : Below w.heap.size w W
  sz : w.heap.size + 9 ≤ W.heap.size
theorem St9.next {w W W' : World} {a b c : Ent} (h : St9 w W a b c) (hb : Below W.heap.size W W') : St9 w W' a b c := by
  have hs := h.sz
  exact ⟨h.ta.below hb (by omega) (by omega) (by omega), h.tb.below hb (by omega) (by omega) (by omega), h.tc.below hb (by omega) (by omega) (by omega), h.bel.trans (hb.mono (by omega)), Nat.le_trans hs hb.size⟩
theorem St9.alloc {w W : World} {a b c : Ent} (h : St9 w W a b c) (o : Obj) : St9 w (W.alloc o) a b c := h.next (below_alloc W o)
theorem st9 (w : World) (a b c : Ent) : St9 w (nine w a b c) a b c := ⟨nine_a w a b c, nine_b w a b c, nine_c w a b c, nine_below w a b c, Nat.le_of_eq (nine_size w a b c).symm⟩

/-- The laws of the order that the walk asks. -/
theorem ord_le (a b c : Ent) (h : ord a b ≤ 0) (h' : ord b c ≤ 0) : ord a c ≤ 0 := Order.cmp_trans _ _ _ h h'
theorem ord_ge (a b c : Ent) (h : 0 ≤ ord a b) (h' : 0 ≤ ord b c) : 0 ≤ ord a c := by
  have e := ord_le c b a (by rw [ord_neg b c]; omega) (by rw [ord_neg a b]; omega)
  rw [ord_neg a c] at e
  omega
theorem ord_eq (a b c : Ent) (h : ord a b = 0) : ord a c = ord b c := by
  unfold ord at *
  rw [Order.cmp_zero _ _ h]
theorem ord_three (a b : Ent) : ord a b = -1 ∨ ord a b = 0 ∨ ord a b = 1 := Order.cmp_three _ _

set_option maxHeartbeats 2000000 in
theorem law2_calls (a b c : Ent) (w : World) :
    Calls Try.prog 4 #[.agg (row a.p), .agg (row a.m), .agg (row a.t), .agg (row b.p), .agg (row b.m), .agg (row b.t), .agg (row c.p), .agg (row c.m), .agg (row c.t)] w fun e w' => e = .returned (.bool true) ∧ Below w.heap.size w w' := by
  have s0 := st9 w a b c
  go_enter Try.func4, Try.ntmps4
  go_wp2_with (first
    | ((with_reducible refine wpList_row22 a.p (.tmp 9) w.heap.size 0 a.hp ?_ ?_ ?_ ?_ ?_); exact rfl; exact rfl; exact rfl; exact s0.ta.p)
    | ((with_reducible refine wpList_row22 a.m (.tmp 10) (w.heap.size + 1) 0 a.hm ?_ ?_ ?_ ?_ ?_); exact rfl; exact rfl; exact rfl; exact s0.ta.m)
    | ((with_reducible refine wpList_row22 a.t (.tmp 11) (w.heap.size + 1 + 1) 0 a.ht ?_ ?_ ?_ ?_ ?_); exact rfl; exact rfl; exact rfl; exact s0.ta.t))
  refine (zzEntry_l a _).mono ?_
  rintro e w1 ⟨rfl, hb1⟩
  have s1 := (s0.next hb1).alloc (.cells (row a.key) 25)
  have la1 := lies_new w1 a 25
  clear s0 hb1
  go_wp2_with (first
    | ((with_reducible refine wpList_ent a 19 (.tmp 28) ?_ ?_ ?_ ?_ ?_ ?_ ?_ ?_); exact rfl; exact rfl; exact rfl; exact rfl; exact rfl; exact rfl; exact rfl)
    | ((with_reducible refine wpList_row22 b.p (.tmp 12) (w.heap.size + 1 + 1 + 1) 0 b.hp ?_ ?_ ?_ ?_ ?_); exact rfl; exact rfl; exact rfl; exact s1.tb.p)
    | ((with_reducible refine wpList_row22 b.m (.tmp 13) (w.heap.size + 1 + 1 + 1 + 1) 0 b.hm ?_ ?_ ?_ ?_ ?_); exact rfl; exact rfl; exact rfl; exact s1.tb.m)
    | ((with_reducible refine wpList_row22 b.t (.tmp 14) (w.heap.size + 1 + 1 + 1 + 1 + 1) 0 b.ht ?_ ?_ ?_ ?_ ?_); exact rfl; exact rfl; exact rfl; exact s1.tb.t))
  refine (zzEntry_l b _).mono ?_
  rintro e w2 ⟨rfl, hb2⟩
  have s2 := (s1.next hb2).alloc (.cells (row b.key) 25)
  have la2 := (la1.next hb2).alloc (.cells (row b.key) 25)
  have lb2 := lies_new w2 b 25
  clear s1 la1 hb2
  go_wp2_with (first
    | ((with_reducible refine wpList_ent b 20 (.tmp 32) ?_ ?_ ?_ ?_ ?_ ?_ ?_ ?_); exact rfl; exact rfl; exact rfl; exact rfl; exact rfl; exact rfl; exact rfl)
    | ((with_reducible refine wpList_row22 c.p (.tmp 15) (w.heap.size + 1 + 1 + 1 + 1 + 1 + 1) 0 c.hp ?_ ?_ ?_ ?_ ?_); exact rfl; exact rfl; exact rfl; exact s2.tc.p)
    | ((with_reducible refine wpList_row22 c.m (.tmp 16) (w.heap.size + 1 + 1 + 1 + 1 + 1 + 1 + 1) 0 c.hm ?_ ?_ ?_ ?_ ?_); exact rfl; exact rfl; exact rfl; exact s2.tc.m)
    | ((with_reducible refine wpList_row22 c.t (.tmp 17) (w.heap.size + 1 + 1 + 1 + 1 + 1 + 1 + 1 + 1) 0 c.ht ?_ ?_ ?_ ?_ ?_); exact rfl; exact rfl; exact rfl; exact s2.tc.t))
  refine (zzEntry_l c _).mono ?_
  rintro e w3 ⟨rfl, hb3⟩
  have s3 := (s2.next hb3).alloc (.cells (row c.key) 25)
  have la3 := (la2.next hb3).alloc (.cells (row c.key) 25)
  have lb3 := (lb2.next hb3).alloc (.cells (row c.key) 25)
  have lc3 := lies_new w3 c 25
  clear s2 la2 lb2 hb3
  go_wp2_with (first
    | ((with_reducible refine wpList_ent c 21 (.tmp 36) ?_ ?_ ?_ ?_ ?_ ?_ ?_ ?_); exact rfl; exact rfl; exact rfl; exact rfl; exact rfl; exact rfl; exact rfl)
    | ((with_reducible refine wpList_row25 a (.tmp 19) w1.heap.size 0 ?_ ?_ ?_ ?_ ?_); exact rfl; exact rfl; exact rfl; exact la3)
    | ((with_reducible refine wpList_row25 b (.tmp 20) w2.heap.size 0 ?_ ?_ ?_ ?_ ?_); exact rfl; exact rfl; exact rfl; exact lb3))
  refine (zzcompare_l a b _).mono ?_
  rintro e w4 ⟨rfl, hb4⟩
  have s4 := s3.next hb4
  have la4 := la3.next hb4
  have lb4 := lb3.next hb4
  have lc4 := lc3.next hb4
  clear s3 la3 lb3 lc3 hb4
  go_wp2_with (first
    | ((with_reducible refine wpList_row25 b (.tmp 20) w2.heap.size 0 ?_ ?_ ?_ ?_ ?_); exact rfl; exact rfl; exact rfl; exact lb4)
    | ((with_reducible refine wpList_row25 c (.tmp 21) w3.heap.size 0 ?_ ?_ ?_ ?_ ?_); exact rfl; exact rfl; exact rfl; exact lc4))
  refine (zzcompare_l b c _).mono ?_
  rintro e w5 ⟨rfl, hb5⟩
  have s5 := s4.next hb5
  have la5 := la4.next hb5
  have lc5 := lc4.next hb5
  clear s4 la4 lb4 lc4 hb5
  go_wp2_with (first
    | ((with_reducible refine wpList_row25 a (.tmp 19) w1.heap.size 0 ?_ ?_ ?_ ?_ ?_); exact rfl; exact rfl; exact rfl; exact la5)
    | ((with_reducible refine wpList_row25 c (.tmp 21) w3.heap.size 0 ?_ ?_ ?_ ?_ ?_); exact rfl; exact rfl; exact rfl; exact lc5))
  refine (zzcompare_l a c _).mono ?_
  rintro e w6 ⟨rfl, hb6⟩
  have s6 := s5.next hb6
  clear s5 la5 lc5 hb6
  go_wp2_with (first
    | ((with_reducible refine wpList_row22 a.p (.tmp 9) w.heap.size 0 a.hp ?_ ?_ ?_ ?_ ?_); exact rfl; exact rfl; exact rfl; exact s6.ta.p)
    | ((with_reducible refine wpList_row22 a.m (.tmp 10) (w.heap.size + 1) 0 a.hm ?_ ?_ ?_ ?_ ?_); exact rfl; exact rfl; exact rfl; exact s6.ta.m)
    | ((with_reducible refine wpList_row22 a.t (.tmp 11) (w.heap.size + 1 + 1) 0 a.ht ?_ ?_ ?_ ?_ ?_); exact rfl; exact rfl; exact rfl; exact s6.ta.t)
    | ((with_reducible refine wpList_row22 c.p (.tmp 15) (w.heap.size + 1 + 1 + 1 + 1 + 1 + 1) 0 c.hp ?_ ?_ ?_ ?_ ?_); exact rfl; exact rfl; exact rfl; exact s6.tc.p)
    | ((with_reducible refine wpList_row22 c.m (.tmp 16) (w.heap.size + 1 + 1 + 1 + 1 + 1 + 1 + 1) 0 c.hm ?_ ?_ ?_ ?_ ?_); exact rfl; exact rfl; exact rfl; exact s6.tc.m)
    | ((with_reducible refine wpList_row22 c.t (.tmp 17) (w.heap.size + 1 + 1 + 1 + 1 + 1 + 1 + 1 + 1) 0 c.ht ?_ ?_ ?_ ?_ ?_); exact rfl; exact rfl; exact rfl; exact s6.tc.t))
  refine (lex_l a c _).mono ?_
  rintro e w7 ⟨rfl, hb7⟩
  have s7 := (s6.next hb7).bel
  clear s6 hb7
  have x1 := ord_le a b c
  have x2 := ord_ge a b c
  have x3 := ord_eq a b c
  have y1 := ord_three a b
  have y2 := ord_three b c
  have y3 := ord_three a c
  generalize ord a b = A at *
  generalize ord b c = B at *
  generalize ord a c = C at *
  rcases y1 with y1 | y1 | y1 <;> rcases y2 with y2 | y2 | y2 <;> rcases y3 with y3 | y3 | y3 <;> first
    | (exfalso; omega)
    | (subst y1; subst y2; subst y3; clear x1 x2 x3; go_wp2_with fail; go_ret; exact ⟨rfl, s7⟩)

end Go.Proofs.Qxb6620896a
