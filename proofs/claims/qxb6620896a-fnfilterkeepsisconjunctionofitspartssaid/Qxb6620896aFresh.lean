/-
  A LAW FOR THE WALKS: a variable that is made and filled at once ('x := f(..)', x a struct or an array).
-/
import Derived.Test.Qxb6620896aLex
import Derived.Deep.WholeRow
namespace Go.Proofs.Qxb6620896a
open Go.RowKit
open Extern.Stop (cell)

theorem run_allocOp {P : Program} (w : World) (ty : TypeId) (Z : Array Value) (n : Nat) (hz : (P.info? ty).map (fun i => (i.zero, i.size)) = some (some (.agg Z), n)) :
    (Instr.alloc ty true (.tuple #[])).run P w = .ok (.pointer (some ⟨w.heap.size, 0, none⟩)) (w.alloc (.cells Z ty)) := by
  obtain ⟨z1, -⟩ := zero_of_info hz
  simp [Instr.alloc, z1, newVar, Value.cells, newRow]

/-- 'x := v': the variable's block holds v's cells. -/
theorem wpList_fresh {P : Program} {ops : Array Oper} {rest : List Oper} {o1 o2 : Oper} {a : Act} {w : World} {Q : Exit → Act → World → Prop} (g1 : o1.guard = none) (g2 : o2.guard = none)
    (ty : TypeId) (d : Tmp) (y : Operand) (h1 : o1.op = .alloc ty) (hd : o1.dst = some d) (h2 : o2.op = .store ty (.tmp d) y)
    (Z : Array Value) (n : Nat) (hz : (P.info? ty).map (fun i => (i.zero, i.size)) = some (some (.agg Z), n)) (hZ : Z.size = n)
    (cells : Array Value) (hn : cells.size = n) (hone : cells.all (·.oneCell') = true)
    (hx : (a.put (some d) (.pointer (some ⟨w.heap.size, 0, none⟩))).eval (.tmp d) = .pointer (some ⟨w.heap.size, 0, none⟩))
    (hy : (a.put (some d) (.pointer (some ⟨w.heap.size, 0, none⟩))).eval y = .agg cells)
    (h : wpList P ops Q rest ((a.put (some d) (.pointer (some ⟨w.heap.size, 0, none⟩))).put o2.dst undef) (w.alloc (.cells cells ty))) :
    wpList P ops Q (o1 :: o2 :: rest) a w := by
  refine wpList_plain g1 fun K hK => ?_
  have hr := run_allocOp (P := P) w ty Z n hz
  unfold Oper.wp execOp
  simp only [h1, hr, Sem.run_bind, Sem.run_pure, Result.andThen_ok]
  rw [Oper.upon_value, hd]
  refine hK _ _ ?_
  refine wpList_plain g2 fun K' hK' => ?_
  have hs := run_storeAt_new (P := P) w ty Z cells (by rw [hn]; exact (zero_of_info hz).2) (by rw [hZ, hn]) hone
  unfold Oper.wp execOp
  simp only [h2, hx, hy, hs, Sem.run_bind, Sem.run_pure, Result.andThen_ok]
  exact hK' _ _ h

def zero48 : Array Value := Array.replicate 48 (.int .u8 0)
def zero16 : Array Value := Array.replicate 16 (.int .u8 0)
theorem Try.zero25 : (Try.prog.info? 25).map (fun i => (i.zero, i.size)) = some (some (.agg zero48), 48) := by kernel_rfl
theorem Try.zero22 : (Try.prog.info? 22).map (fun i => (i.zero, i.size)) = some (some (.agg zero16), 16) := by kernel_rfl

/-- An entry's variable. -/
theorem wpList_ent {ops : Array Oper} {rest : List Oper} {o1 o2 : Oper} {a : Act} {w : World} {Q : Exit → Act → World → Prop} (e : Ent) (d : Tmp) (y : Operand) (g1 : o1.guard = none) (g2 : o2.guard = none)
    (h1 : o1.op = .alloc 25) (hd : o1.dst = some d) (h2 : o2.op = .store 25 (.tmp d) y)
    (hx : (a.put (some d) (.pointer (some ⟨w.heap.size, 0, none⟩))).eval (.tmp d) = .pointer (some ⟨w.heap.size, 0, none⟩))
    (hy : (a.put (some d) (.pointer (some ⟨w.heap.size, 0, none⟩))).eval y = .agg (row e.key))
    (h : wpList Try.prog ops Q rest ((a.put (some d) (.pointer (some ⟨w.heap.size, 0, none⟩))).put o2.dst undef) (w.alloc (.cells (row e.key) 25))) :
    wpList Try.prog ops Q (o1 :: o2 :: rest) a w :=
  wpList_fresh g1 g2 25 d y h1 hd h2 zero48 48 Try.zero25 (by simp [zero48]) (row e.key) (by rw [size_row, e.len]) (row_one _) hx hy h

/-! ### THE LOADS, THEIR CHEAP CONDITIONS FIRST: offered by 'with_reducible refine', so that an arm that does not fit falls at once -/
theorem wpList_row22 {ops : Array Oper} {rest : List Oper} {op : Oper} {a : Act} {w : World} {Q : Exit → Act → World → Prop} (xs : List UInt8) (x : Operand) (b o : Nat) (hl : xs.length = 16)
    (hgd : op.guard = none) (ho : op.op = .load 22 x) (hx : a.eval x = .pointer (some ⟨b, o, none⟩)) (hc : w.rangeAt b o (xs.map cell))
    (h : wpList Try.prog ops Q rest (a.put op.dst (.agg (xs.map cell).toArray)) w) : wpList Try.prog ops Q (op :: rest) a w :=
  wpList_load_mid hgd 22 x ho b o hx (xs.map cell) _ hc Try.underlying22 rfl (sz22 _ hl) h
theorem wpList_row25 {ops : Array Oper} {rest : List Oper} {op : Oper} {a : Act} {w : World} {Q : Exit → Act → World → Prop} (e : Ent) (x : Operand) (b o : Nat)
    (hgd : op.guard = none) (ho : op.op = .load 25 x) (hx : a.eval x = .pointer (some ⟨b, o, none⟩)) (hc : Lies w b o e)
    (h : wpList Try.prog ops Q rest (a.put op.dst (.agg (e.key.map cell).toArray)) w) : wpList Try.prog ops Q (op :: rest) a w :=
  wpList_load_mid hgd 25 x ho b o hx (e.key.map cell) _ hc.k Try.underlying25 rfl (sz25 e) h
theorem wpList_row25g {ops : Array Oper} {rest : List Oper} {op : Oper} {a : Act} {w : World} {Q : Exit → Act → World → Prop} (e : Ent) (x : Operand) (b o : Nat)
    (ho : op.op = .load 25 x) (hx : a.eval x = .pointer (some ⟨b, o, none⟩)) (hw : Region.wanted op (yielded ops a.tmps) = true) (hc : Lies w b o e)
    (h : wpList Try.prog ops Q rest (a.put op.dst (.agg (e.key.map cell).toArray)) w) : wpList Try.prog ops Q (op :: rest) a w :=
  wpList_step fun K hK => by
    rw [if_pos hw]
    exact wp_load_mid 25 x ho b o hx (e.key.map cell) _ hc.k Try.underlying25 rfl (sz25 e) (hK _ _ h)
theorem wp_row25 {op : Oper} {a : Act} {w : World} {K : Act → World → Prop} {Q : Exit → Act → World → Prop} (e : Ent) (x : Operand) (b o : Nat)
    (ho : op.op = .load 25 x) (hx : a.eval x = .pointer (some ⟨b, o, none⟩)) (hc : Lies w b o e)
    (h : K (a.put op.dst (.agg (e.key.map cell).toArray)) w) : op.wp Try.prog a w K Q :=
  wp_load_mid 25 x ho b o hx (e.key.map cell) _ hc.k Try.underlying25 rfl (sz25 e) h

end Go.Proofs.Qxb6620896a
