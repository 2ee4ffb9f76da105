/-
  THE WALK of zzLex48.
-/
import Derived.Test.Qxb6620896aEntries
import Derived.Test.Qxb6620896aOrder
import Derived.RegionTactic
namespace Go.Proofs.Qxb6620896a
open Go.RowKit
open Extern.Stop (cell)

/-- A byte in its cell, as the walk writes it. -/
def byteAt (l : List UInt8) (j : Nat) : Value := .int .u8 ((l.getD j 0).toNat : Int)

theorem byte_of_range {w : World} {b o : Nat} {l : List UInt8} (h : w.rangeAt b o (l.map cell)) (j : Nat) (hj : j < l.length) : w.cell? ⟨b, o + j, none⟩ = some (.int .u8 ((l.getD j 0).toNat : Int)) := by
  refine h j _ ?_
  rw [List.getElem?_map, List.getElem?_eq_getElem hj, List.getD_eq_getElem?_getD, List.getElem?_eq_getElem hj]
  rfl

/-- The first k of each of the three parts lie in block g. -/
def Part (w : World) (g : Nat) (e : Ent) (k : Nat) : Prop :=
  ∀ j, j < k → w.cell? ⟨g, j, none⟩ = some (.int .u8 ((e.p.getD j 0).toNat : Int)) ∧ w.cell? ⟨g, 16 + j, none⟩ = some (.int .u8 ((e.m.getD j 0).toNat : Int)) ∧ w.cell? ⟨g, 32 + j, none⟩ = some (.int .u8 ((e.t.getD j 0).toNat : Int))

/-- The three bytes at place k. -/
def put3 (w : World) (g k : Nat) (a b c : Value) : World := ((w.setCell ⟨g, k, none⟩ a).setCell ⟨g, 16 + k, none⟩ b).setCell ⟨g, 32 + k, none⟩ c

theorem ne_off {g i j : Nat} (h : i ≠ j) : (⟨g, i, none⟩ : Addr) ≠ ⟨g, j, none⟩ := by
  intro e
  injection e with e1 e2
  exact h e2
theorem ne_block {g g' i j : Nat} (h : g ≠ g') : (⟨g, i, none⟩ : Addr) ≠ ⟨g', j, none⟩ := by
  intro e
  injection e with e1 e2
  exact h e1

theorem put3_block (w : World) (g k : Nat) (a b c : Value) (g' o : Nat) (h : g ≠ g') : (put3 w g k a b c).cell? ⟨g', o, none⟩ = w.cell? ⟨g', o, none⟩ := by
  unfold put3
  rw [World.cell?_setCell_other _ _ _ _ (ne_block h), World.cell?_setCell_other _ _ _ _ (ne_block h), World.cell?_setCell_other _ _ _ _ (ne_block h)]

theorem put3_off (w : World) (g k : Nat) (a b c : Value) (o : Nat) (h0 : k ≠ o) (h1 : 16 + k ≠ o) (h2 : 32 + k ≠ o) : (put3 w g k a b c).cell? ⟨g, o, none⟩ = w.cell? ⟨g, o, none⟩ := by
  unfold put3
  rw [World.cell?_setCell_other _ _ _ _ (ne_off h2), World.cell?_setCell_other _ _ _ _ (ne_off h1), World.cell?_setCell_other _ _ _ _ (ne_off h0)]

theorem there_cell {w : World} {g n : Nat} (h : w.there g 0 n) (j : Nat) (hj : j < n) : ∃ v, w.cell? ⟨g, j, none⟩ = some v := by
  have e := (h j hj).1
  rw [Nat.zero_add] at e
  exact Option.isSome_iff_exists.1 e

theorem put3_same (w : World) (g k : Nat) (a b c : Value) (hk : k < 16) (ht : w.there g 0 48) :
    (put3 w g k a b c).cell? ⟨g, k, none⟩ = some a ∧ (put3 w g k a b c).cell? ⟨g, 16 + k, none⟩ = some b ∧ (put3 w g k a b c).cell? ⟨g, 32 + k, none⟩ = some c := by
  obtain ⟨x0, e0⟩ := there_cell ht k (by omega)
  obtain ⟨x1, e1⟩ := there_cell ht (16 + k) (by omega)
  obtain ⟨x2, e2⟩ := there_cell ht (32 + k) (by omega)
  unfold put3
  refine ⟨?_, ?_, ?_⟩
  · rw [World.cell?_setCell_other _ _ _ _ (ne_off (by omega)), World.cell?_setCell_other _ _ _ _ (ne_off (by omega))]
    exact World.cell?_setCell_same _ _ _ e0
  · rw [World.cell?_setCell_other _ _ _ _ (ne_off (by omega))]
    refine World.cell?_setCell_same (u := x1) _ _ _ ?_
    rw [World.cell?_setCell_other _ _ _ _ (ne_off (by omega))]
    exact e1
  · refine World.cell?_setCell_same (u := x2) _ _ _ ?_
    rw [World.cell?_setCell_other _ _ _ _ (ne_off (by omega)), World.cell?_setCell_other _ _ _ _ (ne_off (by omega))]
    exact e2

theorem setCell_some (w : World) (p q : Addr) (v : Value) (h : (w.cell? q).isSome = true) : ((w.setCell p v).cell? q).isSome = true := by
  by_cases e : p = q
  · subst e
    obtain ⟨u, hu⟩ := Option.isSome_iff_exists.1 h
    rw [World.cell?_setCell_same _ _ _ hu]
    rfl
  · rw [World.cell?_setCell_other _ _ _ _ e]
    exact h

theorem put3_there {w : World} {g' n : Nat} (g k : Nat) (a b c : Value) (ht : w.there g' 0 n) : (put3 w g k a b c).there g' 0 n := fun j hj => by
  unfold put3
  exact ⟨setCell_some _ _ _ _ (setCell_some _ _ _ _ (setCell_some _ _ _ _ (ht j hj).1)), by rw [World.frozen?_setCell, World.frozen?_setCell, World.frozen?_setCell]; exact (ht j hj).2⟩

theorem put3_range {w : World} {g' o : Nat} {cs : List Value} (g k : Nat) (a b c : Value) (h : g ≠ g') (hr : w.rangeAt g' o cs) : (put3 w g k a b c).rangeAt g' o cs := fun j v hv => by
  rw [put3_block _ _ _ _ _ _ _ _ h]
  exact hr j v hv

theorem put3_part_other {w : World} {g' : Nat} {e : Ent} {m : Nat} (g k : Nat) (a b c : Value) (h : g ≠ g') (hp : Part w g' e m) : Part (put3 w g k a b c) g' e m := fun j hj => by
  rw [put3_block _ _ _ _ _ _ _ _ h, put3_block _ _ _ _ _ _ _ _ h, put3_block _ _ _ _ _ _ _ _ h]
  exact hp j hj

theorem put3_part {w : World} {g : Nat} {e : Ent} {k : Nat} (hk : k < 16) (ht : w.there g 0 48) (hp : Part w g e k) :
    Part (put3 w g k (.int .u8 ((e.p.getD k 0).toNat : Int)) (.int .u8 ((e.m.getD k 0).toNat : Int)) (.int .u8 ((e.t.getD k 0).toNat : Int))) g e (k + 1) := fun j hj => by
  by_cases h : j = k
  · subst h
    exact put3_same w g j _ _ _ hk ht
  · rw [put3_off _ _ _ _ _ _ _ (by omega) (by omega) (by omega), put3_off _ _ _ _ _ _ _ (by omega) (by omega) (by omega), put3_off _ _ _ _ _ _ _ (by omega) (by omega) (by omega)]
    exact hp j (by omega)

theorem put3_below {B : Nat} {w wr : World} (g k : Nat) (a b c : Value) (hb : Below B w wr) (hg : B ≤ g) : Below B w (put3 wr g k a b c) :=
  ((hb.setCell (by exact hg) _).setCell (by exact hg) _).setCell (by exact hg) _

/-- What holds at each round of the first loop. -/
structure LexW (w wr : World) (a b : Ent) (k : Nat) : Prop where
  r0 : wr.rangeAt w.heap.size 0 (a.p.map cell)
  r1 : wr.rangeAt (w.heap.size + 1) 0 (a.m.map cell)
  r2 : wr.rangeAt (w.heap.size + 1 + 1) 0 (a.t.map cell)
  r3 : wr.rangeAt (w.heap.size + 1 + 1 + 1) 0 (b.p.map cell)
  r4 : wr.rangeAt (w.heap.size + 1 + 1 + 1 + 1) 0 (b.m.map cell)
  r5 : wr.rangeAt (w.heap.size + 1 + 1 + 1 + 1 + 1) 0 (b.t.map cell)
  x : Part wr (w.heap.size + 1 + 1 + 1 + 1 + 1 + 1) a k
  y : Part wr (w.heap.size + 1 + 1 + 1 + 1 + 1 + 1 + 1) b k
  tx : wr.there (w.heap.size + 1 + 1 + 1 + 1 + 1 + 1) 0 48
  ty : wr.there (w.heap.size + 1 + 1 + 1 + 1 + 1 + 1 + 1) 0 48
  bel : Below w.heap.size w wr

theorem LexW.step {w wr : World} {a b : Ent} {k : Nat} (h : LexW w wr a b k) (hk : k < 16) :
    LexW w (put3 (put3 wr (w.heap.size + 1 + 1 + 1 + 1 + 1 + 1) k (.int .u8 ((a.p.getD k 0).toNat : Int)) (.int .u8 ((a.m.getD k 0).toNat : Int)) (.int .u8 ((a.t.getD k 0).toNat : Int)))
      (w.heap.size + 1 + 1 + 1 + 1 + 1 + 1 + 1) k (.int .u8 ((b.p.getD k 0).toNat : Int)) (.int .u8 ((b.m.getD k 0).toNat : Int)) (.int .u8 ((b.t.getD k 0).toNat : Int))) a b (k + 1) where
  r0 := put3_range _ _ _ _ _ (by omega) (put3_range _ _ _ _ _ (by omega) h.r0)
  r1 := put3_range _ _ _ _ _ (by omega) (put3_range _ _ _ _ _ (by omega) h.r1)
  r2 := put3_range _ _ _ _ _ (by omega) (put3_range _ _ _ _ _ (by omega) h.r2)
  r3 := put3_range _ _ _ _ _ (by omega) (put3_range _ _ _ _ _ (by omega) h.r3)
  r4 := put3_range _ _ _ _ _ (by omega) (put3_range _ _ _ _ _ (by omega) h.r4)
  r5 := put3_range _ _ _ _ _ (by omega) (put3_range _ _ _ _ _ (by omega) h.r5)
  x := put3_part_other _ _ _ _ _ (by omega) (put3_part hk h.tx h.x)
  y := put3_part hk (put3_there _ _ _ _ _ h.ty) (put3_part_other _ _ _ _ _ (by omega) h.y)
  tx := put3_there _ _ _ _ _ (put3_there _ _ _ _ _ h.tx)
  ty := put3_there _ _ _ _ _ (put3_there _ _ _ _ _ h.ty)
  bel := put3_below _ _ _ _ _ (put3_below _ _ _ _ _ h.bel (by omega)) (by omega)

theorem there_new' (w : World) (C : Array Value) (t : TypeId) (n g : Nat) (h : C.size = n) (hg : g = w.heap.size) : (w.alloc (.cells C t)).there g 0 n := by
  subst hg
  exact there_new w C t n h

theorem LexW.start (w : World) (a b : Ent) (X Y : Array Value) (hX : X.size = 48) (hY : Y.size = 48) :
    LexW w ((((((((w.alloc (.cells (row a.p) 22)).alloc (.cells (row a.m) 22)).alloc (.cells (row a.t) 22)).alloc (.cells (row b.p) 22)).alloc (.cells (row b.m) 22)).alloc (.cells (row b.t) 22)).alloc (.cells X 37)).alloc (.cells Y 37)) a b 0 where
  r0 := World.rangeAt_alloc (World.rangeAt_alloc (World.rangeAt_alloc (World.rangeAt_alloc (World.rangeAt_alloc (World.rangeAt_alloc (World.rangeAt_alloc (range_new' _ a.p 22 _ (by simp)) _) _) _) _) _) _) _
  r1 := World.rangeAt_alloc (World.rangeAt_alloc (World.rangeAt_alloc (World.rangeAt_alloc (World.rangeAt_alloc (World.rangeAt_alloc (range_new' _ a.m 22 _ (by simp)) _) _) _) _) _) _
  r2 := World.rangeAt_alloc (World.rangeAt_alloc (World.rangeAt_alloc (World.rangeAt_alloc (World.rangeAt_alloc (range_new' _ a.t 22 _ (by simp)) _) _) _) _) _
  r3 := World.rangeAt_alloc (World.rangeAt_alloc (World.rangeAt_alloc (World.rangeAt_alloc (range_new' _ b.p 22 _ (by simp)) _) _) _) _
  r4 := World.rangeAt_alloc (World.rangeAt_alloc (World.rangeAt_alloc (range_new' _ b.m 22 _ (by simp)) _) _) _
  r5 := World.rangeAt_alloc (World.rangeAt_alloc (range_new' _ b.t 22 _ (by simp)) _) _
  x := fun j hj => by omega
  y := fun j hj => by omega
  tx := World.there_alloc (there_new' _ _ _ _ _ hX (by simp)) _
  ty := there_new' _ _ _ _ _ hY (by simp)
  bel := Below.alloc (Below.alloc (Below.alloc (Below.alloc (Below.alloc (Below.alloc (Below.alloc (Below.alloc (Below.refl _ _) (Nat.le_refl _) _) (by simp) _) (by simp; omega) _) (by simp; omega) _) (by simp; omega) _) (by simp; omega) _) (by simp; omega) _) (by simp; omega) _

/-- The whole key, byte by byte. -/
theorem key_at {w : World} {g : Nat} {e : Ent} (h : Part w g e 16) (j : Nat) (hj : j < 48) : w.cell? ⟨g, j, none⟩ = some (.int .u8 ((e.key.getD j 0).toNat : Int)) := by
  have hp := e.hp
  have hm := e.hm
  have ht := e.ht
  by_cases h1 : j < 16
  · have k : e.key.getD j 0 = e.p.getD j 0 := by
      unfold Ent.key
      rw [List.getD_eq_getElem?_getD, List.getD_eq_getElem?_getD, List.append_assoc, List.getElem?_append_left (by omega)]
    rw [k]
    exact (h j h1).1
  · by_cases h2 : j < 32
    · have k : e.key.getD j 0 = e.m.getD (j - 16) 0 := by
        unfold Ent.key
        rw [List.getD_eq_getElem?_getD, List.getD_eq_getElem?_getD, List.append_assoc, List.getElem?_append_right (by omega), List.getElem?_append_left (by omega), hp]
      rw [k]
      have e := (h (j - 16) (by omega)).2.1
      rw [show 16 + (j - 16) = j by omega] at e
      exact e
    · have k : e.key.getD j 0 = e.t.getD (j - 32) 0 := by
        unfold Ent.key
        rw [List.getD_eq_getElem?_getD, List.getD_eq_getElem?_getD, List.append_assoc, List.getElem?_append_right (by omega), List.getElem?_append_right (by omega), hp, hm, show j - 16 - 16 = j - 32 by omega]
      rw [k]
      have e := (h (j - 32) (by omega)).2.2
      rw [show 32 + (j - 32) = j by omega] at e
      exact e

/-- What the second loop reads. -/
structure LexR (w wr : World) (a b : Ent) : Prop where
  x : ∀ j, j < 48 → wr.cell? ⟨w.heap.size + 1 + 1 + 1 + 1 + 1 + 1, j, none⟩ = some (.int .u8 ((a.key.getD j 0).toNat : Int))
  y : ∀ j, j < 48 → wr.cell? ⟨w.heap.size + 1 + 1 + 1 + 1 + 1 + 1 + 1, j, none⟩ = some (.int .u8 ((b.key.getD j 0).toNat : Int))
  bel : Below w.heap.size w wr

theorem LexR.drew {w wr : World} {a b : Ent} (h : LexR w wr a b) : LexR w wr.drew a b := ⟨h.x, h.y, h.bel.drew⟩

theorem hid_mk {p : Prop} (h : p) : Hid p := h

set_option maxHeartbeats 1000000 in
/-- zzLex48. -/
theorem lex_calls (a b : Ent) (w : World) :
    Calls Try.prog 8 #[.agg (row a.p), .agg (row a.m), .agg (row a.t), .agg (row b.p), .agg (row b.m), .agg (row b.t)] w fun e w' => e = .returned (.int .i64 (Lib.compareBytes a.key b.key)) ∧ Below w.heap.size w w' := by
  go_enter Try.func8, Try.ntmps8
  go_wp2_with fail
  go_loopw [15] (fun i wr => ∃ k : Nat, k ≤ 16 ∧ i = .int .i64 k ∧ LexW w wr a b k) (fun i _ => 16 - (intOf i).toNat)
  case atStart => exact ⟨0, by omega, rfl, LexW.start w a b _ _ rfl rfl⟩
  case round =>
    obtain ⟨k, hk, rfl, L⟩ := hrel
    by_cases hlt : k < 16
    · have c0 := byte_of_range L.r0 k (by rw [a.hp]; exact hlt)
      have c1 := byte_of_range L.r1 k (by rw [a.hm]; exact hlt)
      have c2 := byte_of_range L.r2 k (by rw [a.ht]; exact hlt)
      have c3 := byte_of_range L.r3 k (by rw [b.hp]; exact hlt)
      have c4 := byte_of_range L.r4 k (by rw [b.hm]; exact hlt)
      have c5 := byte_of_range L.r5 k (by rw [b.ht]; exact hlt)
      rw [Nat.zero_add] at c0 c1 c2 c3 c4 c5
      obtain ⟨x0, e0⟩ := there_cell L.tx k (by omega)
      obtain ⟨x1, e1⟩ := there_cell L.tx (16 + k) (by omega)
      obtain ⟨x2, e2⟩ := there_cell L.tx (32 + k) (by omega)
      obtain ⟨y0, d0⟩ := there_cell L.ty k (by omega)
      obtain ⟨y1, d1⟩ := there_cell L.ty (16 + k) (by omega)
      obtain ⟨y2, d2⟩ := there_cell L.ty (32 + k) (by omega)
      have f0 := (L.tx k (by omega)).2
      have f1 := (L.tx (16 + k) (by omega)).2
      have f2 := (L.tx (32 + k) (by omega)).2
      have g0 := (L.ty k (by omega)).2
      have g1 := (L.ty (16 + k) (by omega)).2
      have g2 := (L.ty (32 + k) (by omega)).2
      rw [Nat.zero_add] at f0 f1 f2 g0 g1 g2
      go_wp2
      go_roundw
      case rel => exact ⟨k + 1, by omega, by go_num, L.step hlt⟩
      case measure => simp [intOf]; omega
    · obtain rfl : k = 16 := by omega
      have R : LexR w wr a b := ⟨key_at L.x, key_at L.y, L.bel⟩
      clear L
      go_wp2
      obtain ⟨wo, rfl⟩ : ∃ wo : World, wo = wr := ⟨_, rfl⟩
      go_loopw [16] (fun i wr => ∃ k : Nat, k ≤ 48 ∧ i = .int .i64 k ∧ Hid (a.key.take k = b.key.take k) ∧ LexR w wr a b) (fun i _ => 48 - (intOf i).toNat)
      case atStart => exact ⟨0, by omega, rfl, hid_mk rfl, R⟩
      case round =>
        clear R
        obtain ⟨j, hj, rfl, ht, R⟩ := hrel
        have la := a.len
        have lb := b.len
        by_cases hlt : j < 48
        · have cx := R.x j hlt
          have cy := R.y j hlt
          have flt := fun h => hid_mk (Order.cmp_lt j a.key b.key ht.out (by omega) (by omega) h)
          have fgt := fun h => hid_mk (Order.cmp_gt j a.key b.key ht.out (by omega) (by omega) h)
          have feq := fun h1 h2 => hid_mk (Order.take_more j a.key b.key ht.out (by omega) (by omega) h1 h2)
          generalize ((a.key.getD j 0).toNat : Int) = A at cx flt fgt feq
          generalize ((b.key.getD j 0).toNat : Int) = B at cy flt fgt feq
          clear la lb
          by_cases h1 : A < B
          · have F := flt h1
            clear flt fgt feq
            go_wp2
            go_quiet (fail)
            go_wp2
            go_ret
            exact ⟨ret_i64 F.out.symm, below_drewN R.bel _⟩
          · have d1 : decide (A < B) = false := by simpa using h1
            by_cases h2 : B < A
            · have F := fgt h2
              clear flt fgt feq
              go_wp2
              go_quiet (fail)
              go_wp2
              go_quiet (fail)
              go_wp2
              go_ret
              exact ⟨ret_i64 F.out.symm, below_drewN (below_drewN R.bel _) _⟩
            · have d2 : decide (B < A) = false := by simpa using h2
              have F := feq h1 h2
              clear flt fgt feq
              go_wp2
              go_quiet (fail)
              go_wp2
              go_quiet (fail)
              go_wp2
              go_roundw
              case rel => exact ⟨_, _, _, _, _, _, _, _, _, _, _, _, _, _, _, _, _, _, _, _, ⟨j + 1, by omega, by go_num, F, ⟨R.x, R.y, below_drewN R.bel _⟩⟩, rfl⟩
              case measure => simp [intOf]; omega
        · have F : Hid (Lib.compareBytes a.key b.key = 0) := by
            have e := ht.out
            rw [List.take_of_length_le (by omega), List.take_of_length_le (by omega)] at e
            show Lib.compareBytes a.key b.key = 0
            rw [e]
            exact Order.cmp_self _
          clear la lb
          go_wp2
          go_ret
          exact ⟨ret_i64 F.out.symm, R.bel⟩

end Go.Proofs.Qxb6620896a
