/-
  FOR FnFilterKeepsIsConjunctionOfItsParts: laws and contracts in the forms that its walk asks.
-/
import Derived.Test.Qxb6620896aLaw4
import Derived.Deep.RegionHeld
namespace Go.Proofs.Qxb6620896a
open Go.RowKit
open Extern.Stop (cell)

/-- A row's variable: 'c := *fp'. -/
theorem wpList_fresh22 {ops : Array Oper} {rest : List Oper} {o1 o2 : Oper} {a : Act} {w : World} {Q : Exit → Act → World → Prop} (xs : List UInt8) (hl : xs.length = 16) (d : Tmp) (y : Operand) (g1 : o1.guard = none) (g2 : o2.guard = none)
    (h1 : o1.op = .alloc 22) (hd : o1.dst = some d) (h2 : o2.op = .store 22 (.tmp d) y)
    (hx : (a.put (some d) (.pointer (some ⟨w.heap.size, 0, none⟩))).eval (.tmp d) = .pointer (some ⟨w.heap.size, 0, none⟩))
    (hy : (a.put (some d) (.pointer (some ⟨w.heap.size, 0, none⟩))).eval y = .agg (xs.map cell).toArray)
    (h : wpList Try.prog ops Q rest ((a.put (some d) (.pointer (some ⟨w.heap.size, 0, none⟩))).put o2.dst undef) (w.alloc (.cells (row xs) 22))) :
    wpList Try.prog ops Q (o1 :: o2 :: rest) a w :=
  wpList_fresh g1 g2 22 d y h1 hd h2 zero16 16 Try.zero22 (by simp [zero16]) (row xs) (by rw [size_row, hl]) (row_one _) hx hy h

/-- ZZFilterKeeps, its answer under a name. -/
theorem zzkeeps_r (v0 v1 v2 : Value) (q0 q1 q2 : Option (List UInt8)) (en : Ent) (w : World) (h0 : Ref w v0 q0) (h1 : Ref w v1 q1) (h2 : Ref w v2 q2) (r : Bool) (hr : keep3 q0 q1 q2 en = r) :
    Calls Try.prog 10 #[.agg #[v0, v1, v2], .agg (en.key.map cell).toArray] w fun e w' => e = .returned (.bool r) ∧ Below w.heap.size w w' := by
  have c := zzkeeps_l v0 v1 v2 q0 q1 q2 en w h0 h1 h2
  rw [hr] at c
  exact c

/-- The entry with one part put in. -/
def putP (en : Ent) (xs : List UInt8) (h : xs.length = 16) : Ent := ⟨xs, en.m, en.t, h, en.hm, en.ht⟩
def putM (en : Ent) (xs : List UInt8) (h : xs.length = 16) : Ent := ⟨en.p, xs, en.t, en.hp, h, en.ht⟩
def putT (en : Ent) (xs : List UInt8) (h : xs.length = 16) : Ent := ⟨en.p, en.m, xs, en.hp, en.hm, h⟩
theorem putP_zero (en : Ent) (xs : List UInt8) (h : xs.length = 16) : (ord (putP en xs h) en == 0) = (xs == en.p) := by rw [ord_zero_iff]; simp [putP]
theorem putM_zero (en : Ent) (xs : List UInt8) (h : xs.length = 16) : (ord (putM en xs h) en == 0) = (xs == en.m) := by rw [ord_zero_iff]; simp [putM]
theorem putT_zero (en : Ent) (xs : List UInt8) (h : xs.length = 16) : (ord (putT en xs h) en == 0) = (xs == en.t) := by rw [ord_zero_iff]; simp [putT]

/-! ### What may be taken first in a region that draws its order, under 'nothing old has turned' -/
section
variable {ops : Array Oper} {S : World → Prop} {op : Oper} {a : Act}
theorem yields_move {v : Value} (x : Operand) (hw : Region.wanted op (yielded ops a.tmps) = true) (ho : op.op = .move x) (hx : a.eval x = v) : YieldsIf Try.prog ops S op v a :=
  .inl ⟨hw, fun w _ => by unfold execOp; simp only [ho, hx, Sem.run_pure]⟩
theorem yields_assign {v : Value} (x : Operand) (hw : Region.wanted op (yielded ops a.tmps) = true) (ho : op.op = .assign x) (hx : a.eval x = v) : YieldsIf Try.prog ops S op v a :=
  .inl ⟨hw, fun w _ => by unfold execOp; simp only [ho, hx, Sem.run_pure]⟩
theorem yields_nilCheck {p : Addr} (x : Operand) (hw : Region.wanted op (yielded ops a.tmps) = true) (ho : op.op = .nilCheck x) (hx : a.eval x = .pointer (some p)) : YieldsIf Try.prog ops S op (.pointer (some p)) a :=
  .inl ⟨hw, fun w _ => by unfold execOp; simp only [ho, hx]; rfl⟩
theorem yields_row22 (xs : List UInt8) (x : Operand) (b o : Nat) (hl : xs.length = 16) (hw : Region.wanted op (yielded ops a.tmps) = true) (ho : op.op = .load 22 x) (hx : a.eval x = .pointer (some ⟨b, o, none⟩)) (hS : ∀ w, S w → w.rangeAt b o (xs.map cell)) :
    YieldsIf Try.prog ops S op (.agg (xs.map cell).toArray) a := yieldsIf_load_mid hw 22 x ho b o hx (xs.map cell) _ hS Try.underlying22 rfl (sz22 _ hl)
theorem yields_row25 (e : Ent) (x : Operand) (b o : Nat) (hw : Region.wanted op (yielded ops a.tmps) = true) (ho : op.op = .load 25 x) (hx : a.eval x = .pointer (some ⟨b, o, none⟩)) (hS : ∀ w, S w → w.rangeAt b o (e.key.map cell)) :
    YieldsIf Try.prog ops S op (.agg (e.key.map cell).toArray) a := yieldsIf_load_mid hw 25 x ho b o hx (e.key.map cell) _ hS Try.underlying25 rfl (sz25 e)
theorem yields_zero {n : Int} {r : Bool} (x : Operand) (t : TypeId) (hw : Region.wanted op (yielded ops a.tmps) = true) (ho : op.op = .binOp .eql 3 x (.const (.int .i64 0)) t) (hx : a.eval x = .int .i64 n) (hr : (n == 0) = r) : YieldsIf Try.prog ops S op (.bool r) a :=
  .inl ⟨hw, fun w _ => by
    have e : a.eval (.const (.int .i64 0)) = .int .i64 0 := rfl
    unfold execOp
    simp only [ho, hx, e]
    simp [go_sem, hr]⟩
end

/-! ### MORE CONTRACTS -/
theorem zzEntry_putP (x : Ent) (xs : List UInt8) (h : xs.length = 16) (w : World) :
    Calls Try.prog 7 #[.agg (xs.map cell).toArray, .agg (x.m.map cell).toArray, .agg (x.t.map cell).toArray] w fun e w' => e = .returned (.agg (row (putP x xs h).key)) ∧ Below w.heap.size w w' := zzEntry_l (putP x xs h) w
theorem zzEntry_putM (x : Ent) (xs : List UInt8) (h : xs.length = 16) (w : World) :
    Calls Try.prog 7 #[.agg (x.p.map cell).toArray, .agg (xs.map cell).toArray, .agg (x.t.map cell).toArray] w fun e w' => e = .returned (.agg (row (putM x xs h).key)) ∧ Below w.heap.size w w' := zzEntry_l (putM x xs h) w
theorem zzEntry_putT (x : Ent) (xs : List UInt8) (h : xs.length = 16) (w : World) :
    Calls Try.prog 7 #[.agg (x.p.map cell).toArray, .agg (x.m.map cell).toArray, .agg (xs.map cell).toArray] w fun e w' => e = .returned (.agg (row (putT x xs h).key)) ∧ Below w.heap.size w w' := zzEntry_l (putT x xs h) w
theorem zzcompare_rl (a b : Ent) (w : World) :
    Calls Try.prog 9 #[.agg (row a.key), .agg (b.key.map cell).toArray] w fun e w' => e = .returned (.int .i64 (ord a b)) ∧ Below w.heap.size w w' := zzcompare_l a b w

theorem ref_range {w : World} {b o : Nat} {xs : List UInt8} (h : Ref w (.pointer (some ⟨b, o, none⟩)) (some xs)) : w.rangeAt b o (xs.map cell) := by
  rcases h with ⟨h, -⟩ | ⟨b', o', xs', h1, h2, -, h4, -⟩
  · simp at h
  · simp only [Value.pointer.injEq, Option.some.injEq, Addr.mk.injEq, and_true] at h1 h2
    obtain ⟨rfl, rfl⟩ := h1
    subst h2
    exact h4

/-- The three parameters in their boxes. -/
def three (w : World) (x : Ent) : World := ((w.alloc (.cells (row x.p) 22)).alloc (.cells (row x.m) 22)).alloc (.cells (row x.t) 22)
structure St3 (w W : World) (x : Ent) : Prop where
  t : Three W w.heap.size (w.heap.size + 1) (w.heap.size + 1 + 1) x
  bel : Below w.heap.size w W
  sz : w.heap.size + 3 ≤ W.heap.size
theorem St3.next {w W W' : World} {x : Ent} (h : St3 w W x) (hb : Below W.heap.size W W') : St3 w W' x := by
  have hs := h.sz
  exact ⟨h.t.below hb (by omega) (by omega) (by omega), h.bel.trans (hb.mono (by omega)), Nat.le_trans hs hb.size⟩
theorem St3.alloc {w W : World} {x : Ent} (h : St3 w W x) (o : Obj) : St3 w (W.alloc o) x := h.next (below_alloc W o)
theorem st3 (w : World) (x : Ent) : St3 w (three w x) x :=
  ⟨⟨World.rangeAt_alloc (World.rangeAt_alloc (range_new' _ x.p 22 _ (by simp)) _) _, World.rangeAt_alloc (range_new' _ x.m 22 _ (by simp)) _, range_new' _ x.t 22 _ (by simp)⟩,
    (((Below.refl _ _).alloc (Nat.le_refl _) _).alloc (by simp) _).alloc (by simp; omega) _, by simp [three]⟩

end Go.Proofs.Qxb6620896a
