/-
  THE WALK of FnFilterOfAnEntryKeepsExactlyItsEquals.
-/
import Derived.Test.Qxb6620896aLaw1
import Derived.Test.Qxb6620896aFilter
namespace Go.Proofs.Qxb6620896a
open Go.RowKit
open Extern.Stop (cell)

/-! ### PLAIN -/
theorem ord_zero_iff (a b : Ent) : (ord a b == 0) = (a.p == b.p && a.m == b.m && a.t == b.t) := by
  rw [Bool.eq_iff_iff]
  simp only [beq_iff_eq, Bool.and_eq_true]
  constructor
  · intro h
    have e : a.p ++ a.m ++ a.t = b.p ++ b.m ++ b.t := Order.cmp_zero _ _ h
    obtain ⟨e1, e3⟩ := List.append_inj e (by simp [a.hp, a.hm, b.hp, b.hm])
    obtain ⟨e1, e2⟩ := List.append_inj e1 (by rw [a.hp, b.hp])
    exact ⟨⟨e1, e2⟩, e3⟩
  · rintro ⟨⟨h1, h2⟩, h3⟩
    show Lib.compareBytes (a.p ++ a.m ++ a.t) (b.p ++ b.m ++ b.t) = 0
    rw [h1, h2, h3]
    exact Order.cmp_self _

theorem keep_ent (a b : Ent) : keep3 (some a.p) (some a.m) (some a.t) b = (ord a b == 0) := (ord_zero_iff a b).symm

theorem ord_swap (a b : Ent) : (ord b a == 0) = (ord a b == 0) := by
  rw [ord_neg a b, Bool.eq_iff_iff]
  simp only [beq_iff_eq]
  omega

/-! ### THE FILTER THAT IS AN ENTRY's OWN PARTS -/
theorem ref_p {w : World} {g : Nat} {e : Ent} (h : Lies w g 0 e) : Ref w (.pointer (some ⟨g, 0, none⟩)) (some e.p) := .inr ⟨g, 0, e.p, rfl, rfl, e.hp, h.p, h.lt⟩
theorem ref_m {w : World} {g : Nat} {e : Ent} (h : Lies w g 0 e) : Ref w (.pointer (some ⟨g, 16, none⟩)) (some e.m) := .inr ⟨g, 16, e.m, rfl, rfl, e.hm, h.m, h.lt⟩
theorem ref_t {w : World} {g : Nat} {e : Ent} (h : Lies w g 0 e) : Ref w (.pointer (some ⟨g, 32, none⟩)) (some e.t) := .inr ⟨g, 32, e.t, rfl, rfl, e.ht, h.t, h.lt⟩

theorem zzkeeps_ent (a b : Ent) (g : Nat) (r : Bool) (w : World) (h : Lies w g 0 a) (hr : (ord a b == 0) = r) :
    Calls Try.prog 10 #[.agg #[.pointer (some ⟨g, 0, none⟩), .pointer (some ⟨g, 16, none⟩), .pointer (some ⟨g, 32, none⟩)], .agg (b.key.map cell).toArray] w fun e w' => e = .returned (.bool r) ∧ Below w.heap.size w w' := by
  have c := zzkeeps_l _ _ _ _ _ _ b w (ref_p h) (ref_m h) (ref_t h)
  rw [keep_ent, hr] at c
  exact c

/-- A filter in its variable. -/
def fil (g : Nat) : List Value := [.pointer (some ⟨g, 0, none⟩), .pointer (some ⟨g, 16, none⟩), .pointer (some ⟨g, 32, none⟩)]
theorem Try.size34 : (Try.prog.info? 34).map (·.size) = some 3 := by kernel_rfl
theorem range_fil (w : World) (g n : Nat) (hn : n = w.heap.size) : (w.alloc (.cells #[.pointer (some ⟨g, 0, none⟩), .pointer (some ⟨g, 16, none⟩), .pointer (some ⟨g, 32, none⟩)] 34)).rangeAt n 0 (fil g) := fun j v hv => by
  rw [World.cell?_alloc_at _ _ _ _ hn, Nat.zero_add]
  simpa [fil] using hv
theorem wpList_fil {ops : Array Oper} {rest : List Oper} {op : Oper} {a : Act} {w : World} {Q : Exit → Act → World → Prop} (g : Nat) (x : Operand) (b : Nat)
    (hgd : op.guard = none) (ho : op.op = .load 34 x) (hx : a.eval x = .pointer (some ⟨b, 0, none⟩)) (hc : w.rangeAt b 0 (fil g))
    (h : wpList Try.prog ops Q rest (a.put op.dst (.agg #[.pointer (some ⟨g, 0, none⟩), .pointer (some ⟨g, 16, none⟩), .pointer (some ⟨g, 32, none⟩)])) w) : wpList Try.prog ops Q (op :: rest) a w :=
  wpList_load_mid hgd 34 x ho b 0 hx (fil g) _ hc Try.underlying34 rfl Try.size34 h

set_option maxHeartbeats 2000000 in
theorem law4_true (a b : Ent) (w : World) (hr : (ord a b == 0) = true) :
    Calls Try.prog 6 #[.agg (row a.p), .agg (row a.m), .agg (row a.t), .agg (row b.p), .agg (row b.m), .agg (row b.t)] w fun e w' => e = .returned (.bool true) ∧ Below w.heap.size w w' := by
  have hr2 : Hid ((ord b a == 0) = true) := by show (ord b a == 0) = true; rw [ord_swap]; exact hr
  have hr3 : Hid ((ord b b == 0) = true) := by show (ord b b == 0) = true; rw [ord_self]; rfl
  have s0 := st6 w a b
  go_enter Try.func6, Try.ntmps6
  go_wp2_with (first
    | ((with_reducible refine wpList_row22 a.p (.tmp 6) w.heap.size 0 a.hp ?_ ?_ ?_ ?_ ?_); exact rfl; exact rfl; exact rfl; exact s0.ta.p)
    | ((with_reducible refine wpList_row22 a.m (.tmp 7) (w.heap.size + 1) 0 a.hm ?_ ?_ ?_ ?_ ?_); exact rfl; exact rfl; exact rfl; exact s0.ta.m)
    | ((with_reducible refine wpList_row22 a.t (.tmp 8) (w.heap.size + 1 + 1) 0 a.ht ?_ ?_ ?_ ?_ ?_); exact rfl; exact rfl; exact rfl; exact s0.ta.t))
  refine (zzEntry_l a _).mono ?_
  rintro e w1 ⟨rfl, hb1⟩
  have s1 := (s0.next hb1).alloc (.cells (row a.key) 25)
  have la1 := lies_new w1 a 25
  clear s0 hb1
  go_wp2_with (first
    | ((with_reducible refine wpList_ent a 13 (.tmp 24) ?_ ?_ ?_ ?_ ?_ ?_ ?_ ?_); exact rfl; exact rfl; exact rfl; exact rfl; exact rfl; exact rfl; exact rfl)
    | ((with_reducible refine wpList_row22 b.p (.tmp 9) (w.heap.size + 1 + 1 + 1) 0 b.hp ?_ ?_ ?_ ?_ ?_); exact rfl; exact rfl; exact rfl; exact s1.tb.p)
    | ((with_reducible refine wpList_row22 b.m (.tmp 10) (w.heap.size + 1 + 1 + 1 + 1) 0 b.hm ?_ ?_ ?_ ?_ ?_); exact rfl; exact rfl; exact rfl; exact s1.tb.m)
    | ((with_reducible refine wpList_row22 b.t (.tmp 11) (w.heap.size + 1 + 1 + 1 + 1 + 1) 0 b.ht ?_ ?_ ?_ ?_ ?_); exact rfl; exact rfl; exact rfl; exact s1.tb.t))
  refine (zzEntry_l b _).mono ?_
  rintro e w2 ⟨rfl, hb2⟩
  have s2 := ((s1.next hb2).alloc (.cells (row b.key) 25))
  have la2 := (la1.next hb2).alloc (.cells (row b.key) 25)
  have lb2 := lies_new w2 b 25
  clear s1 la1 hb2
  have s3 := (s2.alloc (.cells #[.pointer (some ⟨w1.heap.size, 0, none⟩), .pointer (some ⟨w1.heap.size, 16, none⟩), .pointer (some ⟨w1.heap.size, 32, none⟩)] 34)).alloc (.cells #[.pointer (some ⟨w2.heap.size, 0, none⟩), .pointer (some ⟨w2.heap.size, 16, none⟩), .pointer (some ⟨w2.heap.size, 32, none⟩)] 34)
  have la3 := (la2.alloc (.cells #[.pointer (some ⟨w1.heap.size, 0, none⟩), .pointer (some ⟨w1.heap.size, 16, none⟩), .pointer (some ⟨w1.heap.size, 32, none⟩)] 34)).alloc (.cells #[.pointer (some ⟨w2.heap.size, 0, none⟩), .pointer (some ⟨w2.heap.size, 16, none⟩), .pointer (some ⟨w2.heap.size, 32, none⟩)] 34)
  have lb3 := (lb2.alloc (.cells #[.pointer (some ⟨w1.heap.size, 0, none⟩), .pointer (some ⟨w1.heap.size, 16, none⟩), .pointer (some ⟨w1.heap.size, 32, none⟩)] 34)).alloc (.cells #[.pointer (some ⟨w2.heap.size, 0, none⟩), .pointer (some ⟨w2.heap.size, 16, none⟩), .pointer (some ⟨w2.heap.size, 32, none⟩)] 34)
  have fa3 := World.rangeAt_alloc (range_fil (w2.alloc (.cells (row b.key) 25)) w1.heap.size (w2.heap.size + 1) (by simp)) (.cells #[.pointer (some ⟨w2.heap.size, 0, none⟩), .pointer (some ⟨w2.heap.size, 16, none⟩), .pointer (some ⟨w2.heap.size, 32, none⟩)] 34)
  have fb3 := range_fil ((w2.alloc (.cells (row b.key) 25)).alloc (.cells #[.pointer (some ⟨w1.heap.size, 0, none⟩), .pointer (some ⟨w1.heap.size, 16, none⟩), .pointer (some ⟨w1.heap.size, 32, none⟩)] 34)) w2.heap.size (w2.heap.size + 1 + 1) (by simp)
  have hz3 : w2.heap.size + 1 + 1 < (((w2.alloc (.cells (row b.key) 25)).alloc (.cells #[.pointer (some ⟨w1.heap.size, 0, none⟩), .pointer (some ⟨w1.heap.size, 16, none⟩), .pointer (some ⟨w1.heap.size, 32, none⟩)] 34)).alloc (.cells #[.pointer (some ⟨w2.heap.size, 0, none⟩), .pointer (some ⟨w2.heap.size, 16, none⟩), .pointer (some ⟨w2.heap.size, 32, none⟩)] 34)).heap.size := by simp
  clear s2 la2 lb2
  go_wp2_with (first
    | ((with_reducible refine wpList_ent b 14 (.tmp 28) ?_ ?_ ?_ ?_ ?_ ?_ ?_ ?_); exact rfl; exact rfl; exact rfl; exact rfl; exact rfl; exact rfl; exact rfl)
    | ((with_reducible refine wpList_row22 a.p (.tmp 6) w.heap.size 0 a.hp ?_ ?_ ?_ ?_ ?_); exact rfl; exact rfl; exact rfl; exact s3.ta.p)
    | ((with_reducible refine wpList_row22 a.m (.tmp 7) (w.heap.size + 1) 0 a.hm ?_ ?_ ?_ ?_ ?_); exact rfl; exact rfl; exact rfl; exact s3.ta.m)
    | ((with_reducible refine wpList_row22 a.t (.tmp 8) (w.heap.size + 1 + 1) 0 a.ht ?_ ?_ ?_ ?_ ?_); exact rfl; exact rfl; exact rfl; exact s3.ta.t)
    | ((with_reducible refine wpList_row22 b.p (.tmp 9) (w.heap.size + 1 + 1 + 1) 0 b.hp ?_ ?_ ?_ ?_ ?_); exact rfl; exact rfl; exact rfl; exact s3.tb.p)
    | ((with_reducible refine wpList_row22 b.m (.tmp 10) (w.heap.size + 1 + 1 + 1 + 1) 0 b.hm ?_ ?_ ?_ ?_ ?_); exact rfl; exact rfl; exact rfl; exact s3.tb.m)
    | ((with_reducible refine wpList_row22 b.t (.tmp 11) (w.heap.size + 1 + 1 + 1 + 1 + 1) 0 b.ht ?_ ?_ ?_ ?_ ?_); exact rfl; exact rfl; exact rfl; exact s3.tb.t))
  refine (lex_l a b _).mono ?_
  rintro e w4 ⟨rfl, hb4⟩
  have s4 := s3.next hb4
  have la4 := la3.next hb4
  have lb4 := lb3.next hb4
  have fa4 := range_below fa3 hb4 (by omega)
  have fb4 := range_below fb3 hb4 (by omega)
  have hz4 : w2.heap.size + 1 + 1 < w4.heap.size := Nat.lt_of_lt_of_le hz3 hb4.size
  clear s3 la3 lb3 fa3 fb3 hz3 hb4
  go_wp2_with (first
    | ((with_reducible refine wpList_fil w1.heap.size (.tmp 15) (w2.heap.size + 1) ?_ ?_ ?_ ?_ ?_); exact rfl; exact rfl; exact rfl; exact fa4)
    | ((with_reducible refine wpList_row25 b (.tmp 14) w2.heap.size 0 ?_ ?_ ?_ ?_ ?_); exact rfl; exact rfl; exact rfl; exact lb4))
  refine (zzkeeps_ent a b w1.heap.size true _ la4 hr).mono ?_
  rintro e w5 ⟨rfl, hb5⟩
  clear fa4
  have s5 := s4.next hb5
  have la5 := la4.next hb5
  have lb5 := lb4.next hb5
  have fb5 := range_below fb4 hb5 (by omega)
  have hz5 : w2.heap.size + 1 + 1 < w5.heap.size := Nat.lt_of_lt_of_le hz4 hb5.size
  clear s4 la4 lb4 fb4 hz4 hb5
  go_wp2_with (first
    | ((with_reducible refine wpList_fil w2.heap.size (.tmp 16) (w2.heap.size + 1 + 1) ?_ ?_ ?_ ?_ ?_); exact rfl; exact rfl; exact rfl; exact fb5)
    | ((with_reducible refine wpList_row25 a (.tmp 13) w1.heap.size 0 ?_ ?_ ?_ ?_ ?_); exact rfl; exact rfl; exact rfl; exact la5))
  refine (zzkeeps_ent b a w2.heap.size true _ lb5 hr2.out).mono ?_
  rintro e w6 ⟨rfl, hb6⟩
  have s6 := s5.next hb6
  have la6 := la5.next hb6
  have lb6 := lb5.next hb6
  have fb6 := range_below fb5 hb6 (by omega)
  have hz6 : w2.heap.size + 1 + 1 < w6.heap.size := Nat.lt_of_lt_of_le hz5 hb6.size
  clear s5 la5 lb5 fb5 hz5 hb6
  go_wp2_with (first
    | ((with_reducible refine wpList_fil w2.heap.size (.tmp 16) (w2.heap.size + 1 + 1) ?_ ?_ ?_ ?_ ?_); exact rfl; exact rfl; exact rfl; exact fb6)
    | ((with_reducible refine wpList_row25 b (.tmp 14) w2.heap.size 0 ?_ ?_ ?_ ?_ ?_); exact rfl; exact rfl; exact rfl; exact lb6))
  refine (zzkeeps_ent b b w2.heap.size true _ lb6 hr3.out).mono ?_
  rintro e w7 ⟨rfl, hb7⟩
  have s7 := s6.next hb7
  have la7 := la6.next hb7
  have lb7 := lb6.next hb7
  have fb7 := range_below fb6 hb7 (by omega)
  have hz7 : w2.heap.size + 1 + 1 < w7.heap.size := Nat.lt_of_lt_of_le hz6 hb7.size
  clear s6 la6 lb6 fb6 hz6 hb7
  go_wp2_with (first
    | ((with_reducible refine wpList_row25g a (.tmp 13) w1.heap.size 0 ?_ ?_ ?_ ?_ ?_); exact rfl; exact rfl; exact rfl; exact la7)
    | ((with_reducible refine wpList_row25g b (.tmp 14) w2.heap.size 0 ?_ ?_ ?_ ?_ ?_); exact rfl; exact rfl; exact rfl; exact lb7))
  refine (zzcompare_l a b _).mono ?_
  rintro e w8 ⟨rfl, hb8⟩
  have s8 := (s7.next hb8).bel
  clear s7 la7 lb7 fb7 hz7 hb8
  go_wp2_with fail
  go_ret
  exact ⟨rfl, s8⟩

set_option maxHeartbeats 2000000 in
theorem law4_false (a b : Ent) (w : World) (hr : (ord a b == 0) = false) :
    Calls Try.prog 6 #[.agg (row a.p), .agg (row a.m), .agg (row a.t), .agg (row b.p), .agg (row b.m), .agg (row b.t)] w fun e w' => e = .returned (.bool true) ∧ Below w.heap.size w w' := by
  have hr2 : Hid ((ord b a == 0) = false) := by show (ord b a == 0) = false; rw [ord_swap]; exact hr
  have hr3 : Hid ((ord b b == 0) = true) := by show (ord b b == 0) = true; rw [ord_self]; rfl
  have s0 := st6 w a b
  go_enter Try.func6, Try.ntmps6
  go_wp2_with (first
    | ((with_reducible refine wpList_row22 a.p (.tmp 6) w.heap.size 0 a.hp ?_ ?_ ?_ ?_ ?_); exact rfl; exact rfl; exact rfl; exact s0.ta.p)
    | ((with_reducible refine wpList_row22 a.m (.tmp 7) (w.heap.size + 1) 0 a.hm ?_ ?_ ?_ ?_ ?_); exact rfl; exact rfl; exact rfl; exact s0.ta.m)
    | ((with_reducible refine wpList_row22 a.t (.tmp 8) (w.heap.size + 1 + 1) 0 a.ht ?_ ?_ ?_ ?_ ?_); exact rfl; exact rfl; exact rfl; exact s0.ta.t))
  refine (zzEntry_l a _).mono ?_
  rintro e w1 ⟨rfl, hb1⟩
  have s1 := (s0.next hb1).alloc (.cells (row a.key) 25)
  have la1 := lies_new w1 a 25
  clear s0 hb1
  go_wp2_with (first
    | ((with_reducible refine wpList_ent a 13 (.tmp 24) ?_ ?_ ?_ ?_ ?_ ?_ ?_ ?_); exact rfl; exact rfl; exact rfl; exact rfl; exact rfl; exact rfl; exact rfl)
    | ((with_reducible refine wpList_row22 b.p (.tmp 9) (w.heap.size + 1 + 1 + 1) 0 b.hp ?_ ?_ ?_ ?_ ?_); exact rfl; exact rfl; exact rfl; exact s1.tb.p)
    | ((with_reducible refine wpList_row22 b.m (.tmp 10) (w.heap.size + 1 + 1 + 1 + 1) 0 b.hm ?_ ?_ ?_ ?_ ?_); exact rfl; exact rfl; exact rfl; exact s1.tb.m)
    | ((with_reducible refine wpList_row22 b.t (.tmp 11) (w.heap.size + 1 + 1 + 1 + 1 + 1) 0 b.ht ?_ ?_ ?_ ?_ ?_); exact rfl; exact rfl; exact rfl; exact s1.tb.t))
  refine (zzEntry_l b _).mono ?_
  rintro e w2 ⟨rfl, hb2⟩
  have s2 := ((s1.next hb2).alloc (.cells (row b.key) 25))
  have la2 := (la1.next hb2).alloc (.cells (row b.key) 25)
  have lb2 := lies_new w2 b 25
  clear s1 la1 hb2
  have s3 := (s2.alloc (.cells #[.pointer (some ⟨w1.heap.size, 0, none⟩), .pointer (some ⟨w1.heap.size, 16, none⟩), .pointer (some ⟨w1.heap.size, 32, none⟩)] 34)).alloc (.cells #[.pointer (some ⟨w2.heap.size, 0, none⟩), .pointer (some ⟨w2.heap.size, 16, none⟩), .pointer (some ⟨w2.heap.size, 32, none⟩)] 34)
  have la3 := (la2.alloc (.cells #[.pointer (some ⟨w1.heap.size, 0, none⟩), .pointer (some ⟨w1.heap.size, 16, none⟩), .pointer (some ⟨w1.heap.size, 32, none⟩)] 34)).alloc (.cells #[.pointer (some ⟨w2.heap.size, 0, none⟩), .pointer (some ⟨w2.heap.size, 16, none⟩), .pointer (some ⟨w2.heap.size, 32, none⟩)] 34)
  have lb3 := (lb2.alloc (.cells #[.pointer (some ⟨w1.heap.size, 0, none⟩), .pointer (some ⟨w1.heap.size, 16, none⟩), .pointer (some ⟨w1.heap.size, 32, none⟩)] 34)).alloc (.cells #[.pointer (some ⟨w2.heap.size, 0, none⟩), .pointer (some ⟨w2.heap.size, 16, none⟩), .pointer (some ⟨w2.heap.size, 32, none⟩)] 34)
  have fa3 := World.rangeAt_alloc (range_fil (w2.alloc (.cells (row b.key) 25)) w1.heap.size (w2.heap.size + 1) (by simp)) (.cells #[.pointer (some ⟨w2.heap.size, 0, none⟩), .pointer (some ⟨w2.heap.size, 16, none⟩), .pointer (some ⟨w2.heap.size, 32, none⟩)] 34)
  have fb3 := range_fil ((w2.alloc (.cells (row b.key) 25)).alloc (.cells #[.pointer (some ⟨w1.heap.size, 0, none⟩), .pointer (some ⟨w1.heap.size, 16, none⟩), .pointer (some ⟨w1.heap.size, 32, none⟩)] 34)) w2.heap.size (w2.heap.size + 1 + 1) (by simp)
  have hz3 : w2.heap.size + 1 + 1 < (((w2.alloc (.cells (row b.key) 25)).alloc (.cells #[.pointer (some ⟨w1.heap.size, 0, none⟩), .pointer (some ⟨w1.heap.size, 16, none⟩), .pointer (some ⟨w1.heap.size, 32, none⟩)] 34)).alloc (.cells #[.pointer (some ⟨w2.heap.size, 0, none⟩), .pointer (some ⟨w2.heap.size, 16, none⟩), .pointer (some ⟨w2.heap.size, 32, none⟩)] 34)).heap.size := by simp
  clear s2 la2 lb2
  go_wp2_with (first
    | ((with_reducible refine wpList_ent b 14 (.tmp 28) ?_ ?_ ?_ ?_ ?_ ?_ ?_ ?_); exact rfl; exact rfl; exact rfl; exact rfl; exact rfl; exact rfl; exact rfl)
    | ((with_reducible refine wpList_row22 a.p (.tmp 6) w.heap.size 0 a.hp ?_ ?_ ?_ ?_ ?_); exact rfl; exact rfl; exact rfl; exact s3.ta.p)
    | ((with_reducible refine wpList_row22 a.m (.tmp 7) (w.heap.size + 1) 0 a.hm ?_ ?_ ?_ ?_ ?_); exact rfl; exact rfl; exact rfl; exact s3.ta.m)
    | ((with_reducible refine wpList_row22 a.t (.tmp 8) (w.heap.size + 1 + 1) 0 a.ht ?_ ?_ ?_ ?_ ?_); exact rfl; exact rfl; exact rfl; exact s3.ta.t)
    | ((with_reducible refine wpList_row22 b.p (.tmp 9) (w.heap.size + 1 + 1 + 1) 0 b.hp ?_ ?_ ?_ ?_ ?_); exact rfl; exact rfl; exact rfl; exact s3.tb.p)
    | ((with_reducible refine wpList_row22 b.m (.tmp 10) (w.heap.size + 1 + 1 + 1 + 1) 0 b.hm ?_ ?_ ?_ ?_ ?_); exact rfl; exact rfl; exact rfl; exact s3.tb.m)
    | ((with_reducible refine wpList_row22 b.t (.tmp 11) (w.heap.size + 1 + 1 + 1 + 1 + 1) 0 b.ht ?_ ?_ ?_ ?_ ?_); exact rfl; exact rfl; exact rfl; exact s3.tb.t))
  refine (lex_l a b _).mono ?_
  rintro e w4 ⟨rfl, hb4⟩
  have s4 := s3.next hb4
  have la4 := la3.next hb4
  have lb4 := lb3.next hb4
  have fa4 := range_below fa3 hb4 (by omega)
  have fb4 := range_below fb3 hb4 (by omega)
  have hz4 : w2.heap.size + 1 + 1 < w4.heap.size := Nat.lt_of_lt_of_le hz3 hb4.size
  clear s3 la3 lb3 fa3 fb3 hz3 hb4
  go_wp2_with (first
    | ((with_reducible refine wpList_fil w1.heap.size (.tmp 15) (w2.heap.size + 1) ?_ ?_ ?_ ?_ ?_); exact rfl; exact rfl; exact rfl; exact fa4)
    | ((with_reducible refine wpList_row25 b (.tmp 14) w2.heap.size 0 ?_ ?_ ?_ ?_ ?_); exact rfl; exact rfl; exact rfl; exact lb4))
  refine (zzkeeps_ent a b w1.heap.size false _ la4 hr).mono ?_
  rintro e w5 ⟨rfl, hb5⟩
  clear fa4
  have s5 := s4.next hb5
  have la5 := la4.next hb5
  have lb5 := lb4.next hb5
  have fb5 := range_below fb4 hb5 (by omega)
  have hz5 : w2.heap.size + 1 + 1 < w5.heap.size := Nat.lt_of_lt_of_le hz4 hb5.size
  clear s4 la4 lb4 fb4 hz4 hb5
  go_wp2_with (first
    | ((with_reducible refine wpList_fil w2.heap.size (.tmp 16) (w2.heap.size + 1 + 1) ?_ ?_ ?_ ?_ ?_); exact rfl; exact rfl; exact rfl; exact fb5)
    | ((with_reducible refine wpList_row25 a (.tmp 13) w1.heap.size 0 ?_ ?_ ?_ ?_ ?_); exact rfl; exact rfl; exact rfl; exact la5))
  refine (zzkeeps_ent b a w2.heap.size false _ lb5 hr2.out).mono ?_
  rintro e w6 ⟨rfl, hb6⟩
  have s6 := s5.next hb6
  have la6 := la5.next hb6
  have lb6 := lb5.next hb6
  have fb6 := range_below fb5 hb6 (by omega)
  have hz6 : w2.heap.size + 1 + 1 < w6.heap.size := Nat.lt_of_lt_of_le hz5 hb6.size
  clear s5 la5 lb5 fb5 hz5 hb6
  go_wp2_with (first
    | ((with_reducible refine wpList_fil w2.heap.size (.tmp 16) (w2.heap.size + 1 + 1) ?_ ?_ ?_ ?_ ?_); exact rfl; exact rfl; exact rfl; exact fb6)
    | ((with_reducible refine wpList_row25 b (.tmp 14) w2.heap.size 0 ?_ ?_ ?_ ?_ ?_); exact rfl; exact rfl; exact rfl; exact lb6))
  refine (zzkeeps_ent b b w2.heap.size true _ lb6 hr3.out).mono ?_
  rintro e w7 ⟨rfl, hb7⟩
  have s7 := s6.next hb7
  have la7 := la6.next hb7
  have lb7 := lb6.next hb7
  have fb7 := range_below fb6 hb7 (by omega)
  have hz7 : w2.heap.size + 1 + 1 < w7.heap.size := Nat.lt_of_lt_of_le hz6 hb7.size
  clear s6 la6 lb6 fb6 hz6 hb7
  go_wp2_with (first
    | ((with_reducible refine wpList_row25g a (.tmp 13) w1.heap.size 0 ?_ ?_ ?_ ?_ ?_); exact rfl; exact rfl; exact rfl; exact la7)
    | ((with_reducible refine wpList_row25g b (.tmp 14) w2.heap.size 0 ?_ ?_ ?_ ?_ ?_); exact rfl; exact rfl; exact rfl; exact lb7))
  refine (zzcompare_l a b _).mono ?_
  rintro e w8 ⟨rfl, hb8⟩
  have s8 := (s7.next hb8).bel
  clear s7 la7 lb7 fb7 hz7 hb8
  go_wp2_with fail
  go_ret
  exact ⟨rfl, s8⟩

theorem law4_calls (a b : Ent) (w : World) :
    Calls Try.prog 6 #[.agg (row a.p), .agg (row a.m), .agg (row a.t), .agg (row b.p), .agg (row b.m), .agg (row b.t)] w fun e w' => e = .returned (.bool true) ∧ Below w.heap.size w w' := by
  cases hr : (ord a b == 0)
  · exact law4_false a b w hr
  · exact law4_true a b w hr

end Go.Proofs.Qxb6620896a
