/-
  THE WALK of (Filter).keeps.
-/
import Derived.Test.Qxb6620896aFresh
namespace Go.Proofs.Qxb6620896a
open Go.RowKit
open Extern.Stop (cell)

theorem size5 : ∀ w, (sizeOf 5).run Try.prog w = .ok 1 w := fun w => by kernel_rfl

/-- 'x == y' on two rows of sixteen bytes. -/
theorem run_eql16 (w : World) (xs ys : List UInt8) (hx : xs.length = 16) (hy : ys.length = 16) :
    (binOp .eql 23 (.agg (xs.map cell).toArray) (.agg (ys.map cell).toArray)).run Try.prog w = .ok (.bool (xs == ys)) w :=
  run_eql_bytes w 23 5 16 Try.underlying23 Try.underlying5 size5 xs ys hx hy

section
variable {C : World → Prop} {op : Oper} {a : Act} {K : Act → Prop}
/-- A row of sixteen is read, whatever the order. -/
theorem quiet_row23 (xs : List UInt8) (x : Operand) (b o : Nat) (hl : xs.length = 16) (ho : op.op = .load 23 x) (hx : a.eval x = .pointer (some ⟨b, o, none⟩)) (hc : ∀ w, C w → w.rangeAt b o (xs.map cell))
    (h : K (a.put op.dst (.agg (xs.map cell).toArray))) : op.quiet Try.prog a C K :=
  ⟨_, fun w hw => by
    unfold Oper.quietAt execOp
    simp only [ho, hx, Instr.loadAt, Instr.sureAddr, Sem.run_bind, Sem.run_pure, Result.andThen_ok, run_loadVar_mid w b o 23 (xs.map cell) _ (hc w hw) Try.underlying23 rfl (sz23 _ hl)]
    exact ⟨rfl, rfl⟩, h⟩
/-- Two rows of sixteen are compared, whatever the order. -/
theorem quiet_eql23 (xs ys : List UInt8) (x y : Operand) (t : TypeId) (hl : xs.length = 16) (hl' : ys.length = 16) (ho : op.op = .binOp .eql 23 x y t) (hx : a.eval x = .agg (xs.map cell).toArray) (hy : a.eval y = .agg (ys.map cell).toArray)
    (r : Bool) (hr : (xs == ys) = r) (h : K (a.put op.dst (.bool r))) : op.quiet Try.prog a C K :=
  ⟨_, fun w hw => by
    have e1 : (eqGuard .eql 23 x y (.agg (xs.map cell).toArray) (.agg (ys.map cell).toArray)).run Try.prog w = .ok () w := run_eqGuard_agg w .eql 23 x y _ _ Try.eqGuardType23
    unfold Oper.quietAt execOp
    simp only [ho, hx, hy, e1, run_eql16 w xs ys hl hl', hr, Sem.run_bind, Sem.run_pure, Result.andThen_ok]
    exact ⟨rfl, rfl⟩, h⟩
theorem wpQuiet_row23 {ops : Array Oper} {Q : Act → Prop} {rest : List Oper} (xs : List UInt8) (x : Operand) (b o : Nat) (hl : xs.length = 16) (ho : op.op = .load 23 x) (hx : a.eval x = .pointer (some ⟨b, o, none⟩))
    (hw : Region.wanted op (yielded ops a.tmps) = true) (hc : ∀ w, C w → w.rangeAt b o (xs.map cell))
    (h : wpQuiet Try.prog ops C Q rest (a.put op.dst (.agg (xs.map cell).toArray))) : wpQuiet Try.prog ops C Q (op :: rest) a :=
  BigFrame.wpQuiet_want hw fun _ hK => quiet_row23 xs x b o hl ho hx hc (hK _ h)
theorem wpQuiet_eql23 {ops : Array Oper} {Q : Act → Prop} {rest : List Oper} (xs ys : List UInt8) (x y : Operand) (t : TypeId) (hl : xs.length = 16) (hl' : ys.length = 16) (ho : op.op = .binOp .eql 23 x y t)
    (hx : a.eval x = .agg (xs.map cell).toArray) (hy : a.eval y = .agg (ys.map cell).toArray) (hw : Region.wanted op (yielded ops a.tmps) = true) (r : Bool) (hr : (xs == ys) = r)
    (h : wpQuiet Try.prog ops C Q rest (a.put op.dst (.bool r))) : wpQuiet Try.prog ops C Q (op :: rest) a :=
  BigFrame.wpQuiet_want hw fun _ hK => quiet_eql23 xs ys x y t hl hl' ho hx hy r hr (hK _ h)
end

/-- The world behind the two boxes of keeps. -/
theorem keeps_lies (w : World) (V : Array Value) (en : Ent) : Lies ((w.alloc (.cells V 34)).alloc (.cells (row en.key) 25)) (w.heap.size + 1) 0 en := by
  have h := lies_new (w.alloc (.cells V 34)) en 25
  simpa using h
theorem keeps_range (w : World) (V : Array Value) (en : Ent) {b o : Nat} {cs : List Value} (r : w.rangeAt b o cs) :
    ∀ w', (∃ n, w' = ((w.alloc (.cells V 34)).alloc (.cells (row en.key) 25)).drewN n) → w'.rangeAt b o cs := by
  rintro w' ⟨n, rfl⟩
  exact World.rangeAt_alloc (World.rangeAt_alloc r _) _
theorem keeps_of_lies {W : World} {b o : Nat} {cs : List Value} (r : W.rangeAt b o cs) : ∀ w', (∃ n, w' = W.drewN n) → w'.rangeAt b o cs := by
  rintro w' ⟨n, rfl⟩
  exact r
theorem keeps_below (w : World) (o o' : Obj) : Below w.heap.size w ((w.alloc o).alloc o') := ((Below.refl _ _).alloc (Nat.le_refl _) _).alloc (by simp) _

set_option maxHeartbeats 1000000 in
theorem keeps_xaa (P0 : List UInt8) (b0 o0 : Nat) (h0 : P0.length = 16) (v1 : Value) (v2 : Value) (en : Ent) (w : World) (r0 : w.rangeAt b0 o0 (P0.map cell)) (q0 : (P0 == en.p) = false) :
    Calls Try.prog 12 #[.agg #[.pointer (some ⟨b0, o0, none⟩), v1, v2], .agg (row en.key)] w fun e w' => e = .returned (.bool false) ∧ Below w.heap.size w w' := by
  have l := keeps_lies w #[.pointer (some ⟨b0, o0, none⟩), v1, v2] en
  have R0 := keeps_range w #[.pointer (some ⟨b0, o0, none⟩), v1, v2] en r0
  have E0 := keeps_of_lies l.p
  clear l
  go_enter Try.func12, Try.ntmps12
  go_wp2
  refine wp_region_quiet_lit (by kernel_rfl) (by kernel_rfl) ?_
  repeat (first
    | ((with_reducible refine wpQuiet_row23 P0 (.tmp 11) b0 o0 h0 ?_ ?_ ?_ R0 ?_); exact rfl; exact rfl; exact rfl; simp only [Act.put, List.setIfInBounds_toArray, List.set_cons_succ, List.set_cons_zero])
    | ((with_reducible refine wpQuiet_row23 en.p (.tmp 13) (w.heap.size + 1) 0 en.hp ?_ ?_ ?_ E0 ?_); exact rfl; exact rfl; exact rfl; simp only [Act.put, List.setIfInBounds_toArray, List.set_cons_succ, List.set_cons_zero])
    | ((with_reducible refine wpQuiet_eql23 P0 en.p (.tmp 12) (.tmp 14) 23 h0 en.hp ?_ ?_ ?_ ?_ false q0 ?_); exact rfl; exact rfl; exact rfl; exact rfl; simp only [Act.put, List.setIfInBounds_toArray, List.set_cons_succ, List.set_cons_zero])
    | (go_big_quiet_step (fail)))
  refine wpQuiet_nil ?_
  rintro _ ⟨nq, rfl⟩
  go_wp2
  go_ret
  exact ⟨rfl, below_drewN (keeps_below w _ _) _⟩

set_option maxHeartbeats 1000000 in
theorem keeps_nxa (P1 : List UInt8) (b1 o1 : Nat) (h1 : P1.length = 16) (v2 : Value) (en : Ent) (w : World) (r1 : w.rangeAt b1 o1 (P1.map cell)) (q1 : (P1 == en.m) = false) :
    Calls Try.prog 12 #[.agg #[.pointer none, .pointer (some ⟨b1, o1, none⟩), v2], .agg (row en.key)] w fun e w' => e = .returned (.bool false) ∧ Below w.heap.size w w' := by
  have l := keeps_lies w #[.pointer none, .pointer (some ⟨b1, o1, none⟩), v2] en
  have R1 := keeps_range w #[.pointer none, .pointer (some ⟨b1, o1, none⟩), v2] en r1
  have E1 := keeps_of_lies l.m
  clear l
  go_enter Try.func12, Try.ntmps12
  go_wp2
  refine wp_region_quiet_lit (by kernel_rfl) (by kernel_rfl) ?_
  repeat (first
    | ((with_reducible refine wpQuiet_row23 P1 (.tmp 24) b1 o1 h1 ?_ ?_ ?_ R1 ?_); exact rfl; exact rfl; exact rfl; simp only [Act.put, List.setIfInBounds_toArray, List.set_cons_succ, List.set_cons_zero])
    | ((with_reducible refine wpQuiet_row23 en.m (.tmp 26) (w.heap.size + 1) 16 en.hm ?_ ?_ ?_ E1 ?_); exact rfl; exact rfl; exact rfl; simp only [Act.put, List.setIfInBounds_toArray, List.set_cons_succ, List.set_cons_zero])
    | ((with_reducible refine wpQuiet_eql23 P1 en.m (.tmp 25) (.tmp 27) 23 h1 en.hm ?_ ?_ ?_ ?_ false q1 ?_); exact rfl; exact rfl; exact rfl; exact rfl; simp only [Act.put, List.setIfInBounds_toArray, List.set_cons_succ, List.set_cons_zero])
    | (go_big_quiet_step (fail)))
  refine wpQuiet_nil ?_
  rintro _ ⟨nq, rfl⟩
  go_wp2
  go_ret
  exact ⟨rfl, below_drewN (keeps_below w _ _) _⟩

set_option maxHeartbeats 1000000 in
theorem keeps_yxa (P0 : List UInt8) (b0 o0 : Nat) (h0 : P0.length = 16) (P1 : List UInt8) (b1 o1 : Nat) (h1 : P1.length = 16) (v2 : Value) (en : Ent) (w : World) (r0 : w.rangeAt b0 o0 (P0.map cell)) (q0 : (P0 == en.p) = true) (r1 : w.rangeAt b1 o1 (P1.map cell)) (q1 : (P1 == en.m) = false) :
    Calls Try.prog 12 #[.agg #[.pointer (some ⟨b0, o0, none⟩), .pointer (some ⟨b1, o1, none⟩), v2], .agg (row en.key)] w fun e w' => e = .returned (.bool false) ∧ Below w.heap.size w w' := by
  have l := keeps_lies w #[.pointer (some ⟨b0, o0, none⟩), .pointer (some ⟨b1, o1, none⟩), v2] en
  have R0 := keeps_range w #[.pointer (some ⟨b0, o0, none⟩), .pointer (some ⟨b1, o1, none⟩), v2] en r0
  have E0 := keeps_of_lies l.p
  have R1 := keeps_range w #[.pointer (some ⟨b0, o0, none⟩), .pointer (some ⟨b1, o1, none⟩), v2] en r1
  have E1 := keeps_of_lies l.m
  clear l
  go_enter Try.func12, Try.ntmps12
  go_wp2
  refine wp_region_quiet_lit (by kernel_rfl) (by kernel_rfl) ?_
  repeat (first
    | ((with_reducible refine wpQuiet_row23 P0 (.tmp 11) b0 o0 h0 ?_ ?_ ?_ R0 ?_); exact rfl; exact rfl; exact rfl; simp only [Act.put, List.setIfInBounds_toArray, List.set_cons_succ, List.set_cons_zero])
    | ((with_reducible refine wpQuiet_row23 en.p (.tmp 13) (w.heap.size + 1) 0 en.hp ?_ ?_ ?_ E0 ?_); exact rfl; exact rfl; exact rfl; simp only [Act.put, List.setIfInBounds_toArray, List.set_cons_succ, List.set_cons_zero])
    | ((with_reducible refine wpQuiet_eql23 P0 en.p (.tmp 12) (.tmp 14) 23 h0 en.hp ?_ ?_ ?_ ?_ true q0 ?_); exact rfl; exact rfl; exact rfl; exact rfl; simp only [Act.put, List.setIfInBounds_toArray, List.set_cons_succ, List.set_cons_zero])
    | ((with_reducible refine wpQuiet_row23 P1 (.tmp 24) b1 o1 h1 ?_ ?_ ?_ R1 ?_); exact rfl; exact rfl; exact rfl; simp only [Act.put, List.setIfInBounds_toArray, List.set_cons_succ, List.set_cons_zero])
    | ((with_reducible refine wpQuiet_row23 en.m (.tmp 26) (w.heap.size + 1) 16 en.hm ?_ ?_ ?_ E1 ?_); exact rfl; exact rfl; exact rfl; simp only [Act.put, List.setIfInBounds_toArray, List.set_cons_succ, List.set_cons_zero])
    | ((with_reducible refine wpQuiet_eql23 P1 en.m (.tmp 25) (.tmp 27) 23 h1 en.hm ?_ ?_ ?_ ?_ false q1 ?_); exact rfl; exact rfl; exact rfl; exact rfl; simp only [Act.put, List.setIfInBounds_toArray, List.set_cons_succ, List.set_cons_zero])
    | (go_big_quiet_step (fail)))
  refine wpQuiet_nil ?_
  rintro _ ⟨nq, rfl⟩
  go_wp2
  go_ret
  exact ⟨rfl, below_drewN (keeps_below w _ _) _⟩

set_option maxHeartbeats 1000000 in
theorem keeps_nnn  (en : Ent) (w : World)  :
    Calls Try.prog 12 #[.agg #[.pointer none, .pointer none, .pointer none], .agg (row en.key)] w fun e w' => e = .returned (.bool true) ∧ Below w.heap.size w w' := by
  go_enter Try.func12, Try.ntmps12
  go_wp2
  go_quiet (fail)
  go_wp2
  go_ret
  exact ⟨rfl, below_drewN (keeps_below w _ _) _⟩

set_option maxHeartbeats 1000000 in
theorem keeps_nny (P2 : List UInt8) (b2 o2 : Nat) (h2 : P2.length = 16) (en : Ent) (w : World) (r2 : w.rangeAt b2 o2 (P2.map cell)) (q2 : (P2 == en.t) = true) :
    Calls Try.prog 12 #[.agg #[.pointer none, .pointer none, .pointer (some ⟨b2, o2, none⟩)], .agg (row en.key)] w fun e w' => e = .returned (.bool true) ∧ Below w.heap.size w w' := by
  have l := keeps_lies w #[.pointer none, .pointer none, .pointer (some ⟨b2, o2, none⟩)] en
  have R2 := keeps_range w #[.pointer none, .pointer none, .pointer (some ⟨b2, o2, none⟩)] en r2
  have E2 := keeps_of_lies l.t
  clear l
  go_enter Try.func12, Try.ntmps12
  go_wp2
  refine wp_region_quiet_lit (by kernel_rfl) (by kernel_rfl) ?_
  repeat (first
    | ((with_reducible refine wpQuiet_row23 P2 (.tmp 38) b2 o2 h2 ?_ ?_ ?_ R2 ?_); exact rfl; exact rfl; exact rfl; simp only [Act.put, List.setIfInBounds_toArray, List.set_cons_succ, List.set_cons_zero])
    | ((with_reducible refine wpQuiet_row23 en.t (.tmp 40) (w.heap.size + 1) 32 en.ht ?_ ?_ ?_ E2 ?_); exact rfl; exact rfl; exact rfl; simp only [Act.put, List.setIfInBounds_toArray, List.set_cons_succ, List.set_cons_zero])
    | ((with_reducible refine wpQuiet_eql23 P2 en.t (.tmp 39) (.tmp 41) 23 h2 en.ht ?_ ?_ ?_ ?_ true q2 ?_); exact rfl; exact rfl; exact rfl; exact rfl; simp only [Act.put, List.setIfInBounds_toArray, List.set_cons_succ, List.set_cons_zero])
    | (go_big_quiet_step (fail)))
  refine wpQuiet_nil ?_
  rintro _ ⟨nq, rfl⟩
  go_wp2
  go_ret
  exact ⟨rfl, below_drewN (keeps_below w _ _) _⟩

set_option maxHeartbeats 1000000 in
theorem keeps_nnx (P2 : List UInt8) (b2 o2 : Nat) (h2 : P2.length = 16) (en : Ent) (w : World) (r2 : w.rangeAt b2 o2 (P2.map cell)) (q2 : (P2 == en.t) = false) :
    Calls Try.prog 12 #[.agg #[.pointer none, .pointer none, .pointer (some ⟨b2, o2, none⟩)], .agg (row en.key)] w fun e w' => e = .returned (.bool false) ∧ Below w.heap.size w w' := by
  have l := keeps_lies w #[.pointer none, .pointer none, .pointer (some ⟨b2, o2, none⟩)] en
  have R2 := keeps_range w #[.pointer none, .pointer none, .pointer (some ⟨b2, o2, none⟩)] en r2
  have E2 := keeps_of_lies l.t
  clear l
  go_enter Try.func12, Try.ntmps12
  go_wp2
  refine wp_region_quiet_lit (by kernel_rfl) (by kernel_rfl) ?_
  repeat (first
    | ((with_reducible refine wpQuiet_row23 P2 (.tmp 38) b2 o2 h2 ?_ ?_ ?_ R2 ?_); exact rfl; exact rfl; exact rfl; simp only [Act.put, List.setIfInBounds_toArray, List.set_cons_succ, List.set_cons_zero])
    | ((with_reducible refine wpQuiet_row23 en.t (.tmp 40) (w.heap.size + 1) 32 en.ht ?_ ?_ ?_ E2 ?_); exact rfl; exact rfl; exact rfl; simp only [Act.put, List.setIfInBounds_toArray, List.set_cons_succ, List.set_cons_zero])
    | ((with_reducible refine wpQuiet_eql23 P2 en.t (.tmp 39) (.tmp 41) 23 h2 en.ht ?_ ?_ ?_ ?_ false q2 ?_); exact rfl; exact rfl; exact rfl; exact rfl; simp only [Act.put, List.setIfInBounds_toArray, List.set_cons_succ, List.set_cons_zero])
    | (go_big_quiet_step (fail)))
  refine wpQuiet_nil ?_
  rintro _ ⟨nq, rfl⟩
  go_wp2
  go_ret
  exact ⟨rfl, below_drewN (keeps_below w _ _) _⟩

set_option maxHeartbeats 1000000 in
theorem keeps_nyn (P1 : List UInt8) (b1 o1 : Nat) (h1 : P1.length = 16) (en : Ent) (w : World) (r1 : w.rangeAt b1 o1 (P1.map cell)) (q1 : (P1 == en.m) = true) :
    Calls Try.prog 12 #[.agg #[.pointer none, .pointer (some ⟨b1, o1, none⟩), .pointer none], .agg (row en.key)] w fun e w' => e = .returned (.bool true) ∧ Below w.heap.size w w' := by
  have l := keeps_lies w #[.pointer none, .pointer (some ⟨b1, o1, none⟩), .pointer none] en
  have R1 := keeps_range w #[.pointer none, .pointer (some ⟨b1, o1, none⟩), .pointer none] en r1
  have E1 := keeps_of_lies l.m
  clear l
  go_enter Try.func12, Try.ntmps12
  go_wp2
  refine wp_region_quiet_lit (by kernel_rfl) (by kernel_rfl) ?_
  repeat (first
    | ((with_reducible refine wpQuiet_row23 P1 (.tmp 24) b1 o1 h1 ?_ ?_ ?_ R1 ?_); exact rfl; exact rfl; exact rfl; simp only [Act.put, List.setIfInBounds_toArray, List.set_cons_succ, List.set_cons_zero])
    | ((with_reducible refine wpQuiet_row23 en.m (.tmp 26) (w.heap.size + 1) 16 en.hm ?_ ?_ ?_ E1 ?_); exact rfl; exact rfl; exact rfl; simp only [Act.put, List.setIfInBounds_toArray, List.set_cons_succ, List.set_cons_zero])
    | ((with_reducible refine wpQuiet_eql23 P1 en.m (.tmp 25) (.tmp 27) 23 h1 en.hm ?_ ?_ ?_ ?_ true q1 ?_); exact rfl; exact rfl; exact rfl; exact rfl; simp only [Act.put, List.setIfInBounds_toArray, List.set_cons_succ, List.set_cons_zero])
    | (go_big_quiet_step (fail)))
  refine wpQuiet_nil ?_
  rintro _ ⟨nq, rfl⟩
  go_wp2
  go_ret
  exact ⟨rfl, below_drewN (keeps_below w _ _) _⟩

end Go.Proofs.Qxb6620896a
