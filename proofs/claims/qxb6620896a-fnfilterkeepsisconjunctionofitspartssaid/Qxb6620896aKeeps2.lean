/-
  THE WALK of (Filter).keeps: the other ways.
-/
import Derived.Test.Qxb6620896aKeeps
namespace Go.Proofs.Qxb6620896a
open Go.RowKit
open Extern.Stop (cell)

set_option maxHeartbeats 1000000 in
theorem keeps_nyy (P1 : List UInt8) (b1 o1 : Nat) (h1 : P1.length = 16) (P2 : List UInt8) (b2 o2 : Nat) (h2 : P2.length = 16) (en : Ent) (w : World) (r1 : w.rangeAt b1 o1 (P1.map cell)) (q1 : (P1 == en.m) = true) (r2 : w.rangeAt b2 o2 (P2.map cell)) (q2 : (P2 == en.t) = true) :
    Calls Try.prog 12 #[.agg #[.pointer none, .pointer (some ⟨b1, o1, none⟩), .pointer (some ⟨b2, o2, none⟩)], .agg (row en.key)] w fun e w' => e = .returned (.bool true) ∧ Below w.heap.size w w' := by
  have l := keeps_lies w #[.pointer none, .pointer (some ⟨b1, o1, none⟩), .pointer (some ⟨b2, o2, none⟩)] en
  have R1 := keeps_range w #[.pointer none, .pointer (some ⟨b1, o1, none⟩), .pointer (some ⟨b2, o2, none⟩)] en r1
  have E1 := keeps_of_lies l.m
  have R2 := keeps_range w #[.pointer none, .pointer (some ⟨b1, o1, none⟩), .pointer (some ⟨b2, o2, none⟩)] en r2
  have E2 := keeps_of_lies l.t
  clear l
  go_enter Try.func12, Try.ntmps12
  go_wp2
  refine wp_region_quiet_lit (by kernel_rfl) (by kernel_rfl) ?_
  repeat (first
    | ((with_reducible refine wpQuiet_row23 P1 (.tmp 24) b1 o1 h1 ?_ ?_ ?_ R1 ?_); exact rfl; exact rfl; exact rfl; simp only [Act.put, List.setIfInBounds_toArray, List.set_cons_succ, List.set_cons_zero])
    | ((with_reducible refine wpQuiet_row23 en.m (.tmp 26) (w.heap.size + 1) 16 en.hm ?_ ?_ ?_ E1 ?_); exact rfl; exact rfl; exact rfl; simp only [Act.put, List.setIfInBounds_toArray, List.set_cons_succ, List.set_cons_zero])
    | ((with_reducible refine wpQuiet_eql23 P1 en.m (.tmp 25) (.tmp 27) 23 h1 en.hm ?_ ?_ ?_ ?_ true q1 ?_); exact rfl; exact rfl; exact rfl; exact rfl; simp only [Act.put, List.setIfInBounds_toArray, List.set_cons_succ, List.set_cons_zero])
    | ((with_reducible refine wpQuiet_row23 P2 (.tmp 38) b2 o2 h2 ?_ ?_ ?_ R2 ?_); exact rfl; exact rfl; exact rfl; simp only [Act.put, List.setIfInBounds_toArray, List.set_cons_succ, List.set_cons_zero])
    | ((with_reducible refine wpQuiet_row23 en.t (.tmp 40) (w.heap.size + 1) 32 en.ht ?_ ?_ ?_ E2 ?_); exact rfl; exact rfl; exact rfl; simp only [Act.put, List.setIfInBounds_toArray, List.set_cons_succ, List.set_cons_zero])
    | ((with_reducible refine wpQuiet_eql23 P2 en.t (.tmp 39) (.tmp 41) 23 h2 en.ht ?_ ?_ ?_ ?_ true q2 ?_); exact rfl; exact rfl; exact rfl; exact rfl; simp only [Act.put, List.setIfInBounds_toArray, List.set_cons_succ, List.set_cons_zero])
    | (go_big_quiet_step (fail)))
  refine wpQuiet_nil ?_
  rintro _ ⟨nq, rfl⟩
  go_wp2
  go_ret
  exact ⟨rfl, below_drewN (keeps_below w _ _) _⟩

set_option maxHeartbeats 1000000 in
theorem keeps_nyx (P1 : List UInt8) (b1 o1 : Nat) (h1 : P1.length = 16) (P2 : List UInt8) (b2 o2 : Nat) (h2 : P2.length = 16) (en : Ent) (w : World) (r1 : w.rangeAt b1 o1 (P1.map cell)) (q1 : (P1 == en.m) = true) (r2 : w.rangeAt b2 o2 (P2.map cell)) (q2 : (P2 == en.t) = false) :
    Calls Try.prog 12 #[.agg #[.pointer none, .pointer (some ⟨b1, o1, none⟩), .pointer (some ⟨b2, o2, none⟩)], .agg (row en.key)] w fun e w' => e = .returned (.bool false) ∧ Below w.heap.size w w' := by
  have l := keeps_lies w #[.pointer none, .pointer (some ⟨b1, o1, none⟩), .pointer (some ⟨b2, o2, none⟩)] en
  have R1 := keeps_range w #[.pointer none, .pointer (some ⟨b1, o1, none⟩), .pointer (some ⟨b2, o2, none⟩)] en r1
  have E1 := keeps_of_lies l.m
  have R2 := keeps_range w #[.pointer none, .pointer (some ⟨b1, o1, none⟩), .pointer (some ⟨b2, o2, none⟩)] en r2
  have E2 := keeps_of_lies l.t
  clear l
  go_enter Try.func12, Try.ntmps12
  go_wp2
  refine wp_region_quiet_lit (by kernel_rfl) (by kernel_rfl) ?_
  repeat (first
    | ((with_reducible refine wpQuiet_row23 P1 (.tmp 24) b1 o1 h1 ?_ ?_ ?_ R1 ?_); exact rfl; exact rfl; exact rfl; simp only [Act.put, List.setIfInBounds_toArray, List.set_cons_succ, List.set_cons_zero])
    | ((with_reducible refine wpQuiet_row23 en.m (.tmp 26) (w.heap.size + 1) 16 en.hm ?_ ?_ ?_ E1 ?_); exact rfl; exact rfl; exact rfl; simp only [Act.put, List.setIfInBounds_toArray, List.set_cons_succ, List.set_cons_zero])
    | ((with_reducible refine wpQuiet_eql23 P1 en.m (.tmp 25) (.tmp 27) 23 h1 en.hm ?_ ?_ ?_ ?_ true q1 ?_); exact rfl; exact rfl; exact rfl; exact rfl; simp only [Act.put, List.setIfInBounds_toArray, List.set_cons_succ, List.set_cons_zero])
    | ((with_reducible refine wpQuiet_row23 P2 (.tmp 38) b2 o2 h2 ?_ ?_ ?_ R2 ?_); exact rfl; exact rfl; exact rfl; simp only [Act.put, List.setIfInBounds_toArray, List.set_cons_succ, List.set_cons_zero])
    | ((with_reducible refine wpQuiet_row23 en.t (.tmp 40) (w.heap.size + 1) 32 en.ht ?_ ?_ ?_ E2 ?_); exact rfl; exact rfl; exact rfl; simp only [Act.put, List.setIfInBounds_toArray, List.set_cons_succ, List.set_cons_zero])
    | ((with_reducible refine wpQuiet_eql23 P2 en.t (.tmp 39) (.tmp 41) 23 h2 en.ht ?_ ?_ ?_ ?_ false q2 ?_); exact rfl; exact rfl; exact rfl; exact rfl; simp only [Act.put, List.setIfInBounds_toArray, List.set_cons_succ, List.set_cons_zero])
    | (go_big_quiet_step (fail)))
  refine wpQuiet_nil ?_
  rintro _ ⟨nq, rfl⟩
  go_wp2
  go_ret
  exact ⟨rfl, below_drewN (keeps_below w _ _) _⟩

set_option maxHeartbeats 1000000 in
theorem keeps_ynn (P0 : List UInt8) (b0 o0 : Nat) (h0 : P0.length = 16) (en : Ent) (w : World) (r0 : w.rangeAt b0 o0 (P0.map cell)) (q0 : (P0 == en.p) = true) :
    Calls Try.prog 12 #[.agg #[.pointer (some ⟨b0, o0, none⟩), .pointer none, .pointer none], .agg (row en.key)] w fun e w' => e = .returned (.bool true) ∧ Below w.heap.size w w' := by
  have l := keeps_lies w #[.pointer (some ⟨b0, o0, none⟩), .pointer none, .pointer none] en
  have R0 := keeps_range w #[.pointer (some ⟨b0, o0, none⟩), .pointer none, .pointer none] en r0
  have E0 := keeps_of_lies l.p
  clear l
  go_enter Try.func12, Try.ntmps12
  go_wp2
  refine wp_region_quiet_lit (by kernel_rfl) (by kernel_rfl) ?_
  repeat (first
    | ((with_reducible refine wpQuiet_row23 P0 (.tmp 11) b0 o0 h0 ?_ ?_ ?_ R0 ?_); exact rfl; exact rfl; exact rfl; simp only [Act.put, List.setIfInBounds_toArray, List.set_cons_succ, List.set_cons_zero])
    | ((with_reducible refine wpQuiet_row23 en.p (.tmp 13) (w.heap.size + 1) 0 en.hp ?_ ?_ ?_ E0 ?_); exact rfl; exact rfl; exact rfl; simp only [Act.put, List.setIfInBounds_toArray, List.set_cons_succ, List.set_cons_zero])
    | ((with_reducible refine wpQuiet_eql23 P0 en.p (.tmp 12) (.tmp 14) 23 h0 en.hp ?_ ?_ ?_ ?_ true q0 ?_); exact rfl; exact rfl; exact rfl; exact rfl; simp only [Act.put, List.setIfInBounds_toArray, List.set_cons_succ, List.set_cons_zero])
    | (go_big_quiet_step (fail)))
  refine wpQuiet_nil ?_
  rintro _ ⟨nq, rfl⟩
  go_wp2
  go_ret
  exact ⟨rfl, below_drewN (keeps_below w _ _) _⟩

set_option maxHeartbeats 1000000 in
theorem keeps_yny (P0 : List UInt8) (b0 o0 : Nat) (h0 : P0.length = 16) (P2 : List UInt8) (b2 o2 : Nat) (h2 : P2.length = 16) (en : Ent) (w : World) (r0 : w.rangeAt b0 o0 (P0.map cell)) (q0 : (P0 == en.p) = true) (r2 : w.rangeAt b2 o2 (P2.map cell)) (q2 : (P2 == en.t) = true) :
    Calls Try.prog 12 #[.agg #[.pointer (some ⟨b0, o0, none⟩), .pointer none, .pointer (some ⟨b2, o2, none⟩)], .agg (row en.key)] w fun e w' => e = .returned (.bool true) ∧ Below w.heap.size w w' := by
  have l := keeps_lies w #[.pointer (some ⟨b0, o0, none⟩), .pointer none, .pointer (some ⟨b2, o2, none⟩)] en
  have R0 := keeps_range w #[.pointer (some ⟨b0, o0, none⟩), .pointer none, .pointer (some ⟨b2, o2, none⟩)] en r0
  have E0 := keeps_of_lies l.p
  have R2 := keeps_range w #[.pointer (some ⟨b0, o0, none⟩), .pointer none, .pointer (some ⟨b2, o2, none⟩)] en r2
  have E2 := keeps_of_lies l.t
  clear l
  go_enter Try.func12, Try.ntmps12
  go_wp2
  refine wp_region_quiet_lit (by kernel_rfl) (by kernel_rfl) ?_
  repeat (first
    | ((with_reducible refine wpQuiet_row23 P0 (.tmp 11) b0 o0 h0 ?_ ?_ ?_ R0 ?_); exact rfl; exact rfl; exact rfl; simp only [Act.put, List.setIfInBounds_toArray, List.set_cons_succ, List.set_cons_zero])
    | ((with_reducible refine wpQuiet_row23 en.p (.tmp 13) (w.heap.size + 1) 0 en.hp ?_ ?_ ?_ E0 ?_); exact rfl; exact rfl; exact rfl; simp only [Act.put, List.setIfInBounds_toArray, List.set_cons_succ, List.set_cons_zero])
    | ((with_reducible refine wpQuiet_eql23 P0 en.p (.tmp 12) (.tmp 14) 23 h0 en.hp ?_ ?_ ?_ ?_ true q0 ?_); exact rfl; exact rfl; exact rfl; exact rfl; simp only [Act.put, List.setIfInBounds_toArray, List.set_cons_succ, List.set_cons_zero])
    | ((with_reducible refine wpQuiet_row23 P2 (.tmp 38) b2 o2 h2 ?_ ?_ ?_ R2 ?_); exact rfl; exact rfl; exact rfl; simp only [Act.put, List.setIfInBounds_toArray, List.set_cons_succ, List.set_cons_zero])
    | ((with_reducible refine wpQuiet_row23 en.t (.tmp 40) (w.heap.size + 1) 32 en.ht ?_ ?_ ?_ E2 ?_); exact rfl; exact rfl; exact rfl; simp only [Act.put, List.setIfInBounds_toArray, List.set_cons_succ, List.set_cons_zero])
    | ((with_reducible refine wpQuiet_eql23 P2 en.t (.tmp 39) (.tmp 41) 23 h2 en.ht ?_ ?_ ?_ ?_ true q2 ?_); exact rfl; exact rfl; exact rfl; exact rfl; simp only [Act.put, List.setIfInBounds_toArray, List.set_cons_succ, List.set_cons_zero])
    | (go_big_quiet_step (fail)))
  refine wpQuiet_nil ?_
  rintro _ ⟨nq, rfl⟩
  go_wp2
  go_ret
  exact ⟨rfl, below_drewN (keeps_below w _ _) _⟩

set_option maxHeartbeats 1000000 in
theorem keeps_ynx (P0 : List UInt8) (b0 o0 : Nat) (h0 : P0.length = 16) (P2 : List UInt8) (b2 o2 : Nat) (h2 : P2.length = 16) (en : Ent) (w : World) (r0 : w.rangeAt b0 o0 (P0.map cell)) (q0 : (P0 == en.p) = true) (r2 : w.rangeAt b2 o2 (P2.map cell)) (q2 : (P2 == en.t) = false) :
    Calls Try.prog 12 #[.agg #[.pointer (some ⟨b0, o0, none⟩), .pointer none, .pointer (some ⟨b2, o2, none⟩)], .agg (row en.key)] w fun e w' => e = .returned (.bool false) ∧ Below w.heap.size w w' := by
  have l := keeps_lies w #[.pointer (some ⟨b0, o0, none⟩), .pointer none, .pointer (some ⟨b2, o2, none⟩)] en
  have R0 := keeps_range w #[.pointer (some ⟨b0, o0, none⟩), .pointer none, .pointer (some ⟨b2, o2, none⟩)] en r0
  have E0 := keeps_of_lies l.p
  have R2 := keeps_range w #[.pointer (some ⟨b0, o0, none⟩), .pointer none, .pointer (some ⟨b2, o2, none⟩)] en r2
  have E2 := keeps_of_lies l.t
  clear l
  go_enter Try.func12, Try.ntmps12
  go_wp2
  refine wp_region_quiet_lit (by kernel_rfl) (by kernel_rfl) ?_
  repeat (first
    | ((with_reducible refine wpQuiet_row23 P0 (.tmp 11) b0 o0 h0 ?_ ?_ ?_ R0 ?_); exact rfl; exact rfl; exact rfl; simp only [Act.put, List.setIfInBounds_toArray, List.set_cons_succ, List.set_cons_zero])
    | ((with_reducible refine wpQuiet_row23 en.p (.tmp 13) (w.heap.size + 1) 0 en.hp ?_ ?_ ?_ E0 ?_); exact rfl; exact rfl; exact rfl; simp only [Act.put, List.setIfInBounds_toArray, List.set_cons_succ, List.set_cons_zero])
    | ((with_reducible refine wpQuiet_eql23 P0 en.p (.tmp 12) (.tmp 14) 23 h0 en.hp ?_ ?_ ?_ ?_ true q0 ?_); exact rfl; exact rfl; exact rfl; exact rfl; simp only [Act.put, List.setIfInBounds_toArray, List.set_cons_succ, List.set_cons_zero])
    | ((with_reducible refine wpQuiet_row23 P2 (.tmp 38) b2 o2 h2 ?_ ?_ ?_ R2 ?_); exact rfl; exact rfl; exact rfl; simp only [Act.put, List.setIfInBounds_toArray, List.set_cons_succ, List.set_cons_zero])
    | ((with_reducible refine wpQuiet_row23 en.t (.tmp 40) (w.heap.size + 1) 32 en.ht ?_ ?_ ?_ E2 ?_); exact rfl; exact rfl; exact rfl; simp only [Act.put, List.setIfInBounds_toArray, List.set_cons_succ, List.set_cons_zero])
    | ((with_reducible refine wpQuiet_eql23 P2 en.t (.tmp 39) (.tmp 41) 23 h2 en.ht ?_ ?_ ?_ ?_ false q2 ?_); exact rfl; exact rfl; exact rfl; exact rfl; simp only [Act.put, List.setIfInBounds_toArray, List.set_cons_succ, List.set_cons_zero])
    | (go_big_quiet_step (fail)))
  refine wpQuiet_nil ?_
  rintro _ ⟨nq, rfl⟩
  go_wp2
  go_ret
  exact ⟨rfl, below_drewN (keeps_below w _ _) _⟩

set_option maxHeartbeats 1000000 in
theorem keeps_yyn (P0 : List UInt8) (b0 o0 : Nat) (h0 : P0.length = 16) (P1 : List UInt8) (b1 o1 : Nat) (h1 : P1.length = 16) (en : Ent) (w : World) (r0 : w.rangeAt b0 o0 (P0.map cell)) (q0 : (P0 == en.p) = true) (r1 : w.rangeAt b1 o1 (P1.map cell)) (q1 : (P1 == en.m) = true) :
    Calls Try.prog 12 #[.agg #[.pointer (some ⟨b0, o0, none⟩), .pointer (some ⟨b1, o1, none⟩), .pointer none], .agg (row en.key)] w fun e w' => e = .returned (.bool true) ∧ Below w.heap.size w w' := by
  have l := keeps_lies w #[.pointer (some ⟨b0, o0, none⟩), .pointer (some ⟨b1, o1, none⟩), .pointer none] en
  have R0 := keeps_range w #[.pointer (some ⟨b0, o0, none⟩), .pointer (some ⟨b1, o1, none⟩), .pointer none] en r0
  have E0 := keeps_of_lies l.p
  have R1 := keeps_range w #[.pointer (some ⟨b0, o0, none⟩), .pointer (some ⟨b1, o1, none⟩), .pointer none] en r1
  have E1 := keeps_of_lies l.m
  clear l
  go_enter Try.func12, Try.ntmps12
  go_wp2
  refine wp_region_quiet_lit (by kernel_rfl) (by kernel_rfl) ?_
  repeat (first
    | ((with_reducible refine wpQuiet_row23 P0 (.tmp 11) b0 o0 h0 ?_ ?_ ?_ R0 ?_); exact rfl; exact rfl; exact rfl; simp only [Act.put, List.setIfInBounds_toArray, List.set_cons_succ, List.set_cons_zero])
    | ((with_reducible refine wpQuiet_row23 en.p (.tmp 13) (w.heap.size + 1) 0 en.hp ?_ ?_ ?_ E0 ?_); exact rfl; exact rfl; exact rfl; simp only [Act.put, List.setIfInBounds_toArray, List.set_cons_succ, List.set_cons_zero])
    | ((with_reducible refine wpQuiet_eql23 P0 en.p (.tmp 12) (.tmp 14) 23 h0 en.hp ?_ ?_ ?_ ?_ true q0 ?_); exact rfl; exact rfl; exact rfl; exact rfl; simp only [Act.put, List.setIfInBounds_toArray, List.set_cons_succ, List.set_cons_zero])
    | ((with_reducible refine wpQuiet_row23 P1 (.tmp 24) b1 o1 h1 ?_ ?_ ?_ R1 ?_); exact rfl; exact rfl; exact rfl; simp only [Act.put, List.setIfInBounds_toArray, List.set_cons_succ, List.set_cons_zero])
    | ((with_reducible refine wpQuiet_row23 en.m (.tmp 26) (w.heap.size + 1) 16 en.hm ?_ ?_ ?_ E1 ?_); exact rfl; exact rfl; exact rfl; simp only [Act.put, List.setIfInBounds_toArray, List.set_cons_succ, List.set_cons_zero])
    | ((with_reducible refine wpQuiet_eql23 P1 en.m (.tmp 25) (.tmp 27) 23 h1 en.hm ?_ ?_ ?_ ?_ true q1 ?_); exact rfl; exact rfl; exact rfl; exact rfl; simp only [Act.put, List.setIfInBounds_toArray, List.set_cons_succ, List.set_cons_zero])
    | (go_big_quiet_step (fail)))
  refine wpQuiet_nil ?_
  rintro _ ⟨nq, rfl⟩
  go_wp2
  go_ret
  exact ⟨rfl, below_drewN (keeps_below w _ _) _⟩

set_option maxHeartbeats 1000000 in
theorem keeps_yyy (P0 : List UInt8) (b0 o0 : Nat) (h0 : P0.length = 16) (P1 : List UInt8) (b1 o1 : Nat) (h1 : P1.length = 16) (P2 : List UInt8) (b2 o2 : Nat) (h2 : P2.length = 16) (en : Ent) (w : World) (r0 : w.rangeAt b0 o0 (P0.map cell)) (q0 : (P0 == en.p) = true) (r1 : w.rangeAt b1 o1 (P1.map cell)) (q1 : (P1 == en.m) = true) (r2 : w.rangeAt b2 o2 (P2.map cell)) (q2 : (P2 == en.t) = true) :
    Calls Try.prog 12 #[.agg #[.pointer (some ⟨b0, o0, none⟩), .pointer (some ⟨b1, o1, none⟩), .pointer (some ⟨b2, o2, none⟩)], .agg (row en.key)] w fun e w' => e = .returned (.bool true) ∧ Below w.heap.size w w' := by
  have l := keeps_lies w #[.pointer (some ⟨b0, o0, none⟩), .pointer (some ⟨b1, o1, none⟩), .pointer (some ⟨b2, o2, none⟩)] en
  have R0 := keeps_range w #[.pointer (some ⟨b0, o0, none⟩), .pointer (some ⟨b1, o1, none⟩), .pointer (some ⟨b2, o2, none⟩)] en r0
  have E0 := keeps_of_lies l.p
  have R1 := keeps_range w #[.pointer (some ⟨b0, o0, none⟩), .pointer (some ⟨b1, o1, none⟩), .pointer (some ⟨b2, o2, none⟩)] en r1
  have E1 := keeps_of_lies l.m
  have R2 := keeps_range w #[.pointer (some ⟨b0, o0, none⟩), .pointer (some ⟨b1, o1, none⟩), .pointer (some ⟨b2, o2, none⟩)] en r2
  have E2 := keeps_of_lies l.t
  clear l
  go_enter Try.func12, Try.ntmps12
  go_wp2
  refine wp_region_quiet_lit (by kernel_rfl) (by kernel_rfl) ?_
  repeat (first
    | ((with_reducible refine wpQuiet_row23 P0 (.tmp 11) b0 o0 h0 ?_ ?_ ?_ R0 ?_); exact rfl; exact rfl; exact rfl; simp only [Act.put, List.setIfInBounds_toArray, List.set_cons_succ, List.set_cons_zero])
    | ((with_reducible refine wpQuiet_row23 en.p (.tmp 13) (w.heap.size + 1) 0 en.hp ?_ ?_ ?_ E0 ?_); exact rfl; exact rfl; exact rfl; simp only [Act.put, List.setIfInBounds_toArray, List.set_cons_succ, List.set_cons_zero])
    | ((with_reducible refine wpQuiet_eql23 P0 en.p (.tmp 12) (.tmp 14) 23 h0 en.hp ?_ ?_ ?_ ?_ true q0 ?_); exact rfl; exact rfl; exact rfl; exact rfl; simp only [Act.put, List.setIfInBounds_toArray, List.set_cons_succ, List.set_cons_zero])
    | ((with_reducible refine wpQuiet_row23 P1 (.tmp 24) b1 o1 h1 ?_ ?_ ?_ R1 ?_); exact rfl; exact rfl; exact rfl; simp only [Act.put, List.setIfInBounds_toArray, List.set_cons_succ, List.set_cons_zero])
    | ((with_reducible refine wpQuiet_row23 en.m (.tmp 26) (w.heap.size + 1) 16 en.hm ?_ ?_ ?_ E1 ?_); exact rfl; exact rfl; exact rfl; simp only [Act.put, List.setIfInBounds_toArray, List.set_cons_succ, List.set_cons_zero])
    | ((with_reducible refine wpQuiet_eql23 P1 en.m (.tmp 25) (.tmp 27) 23 h1 en.hm ?_ ?_ ?_ ?_ true q1 ?_); exact rfl; exact rfl; exact rfl; exact rfl; simp only [Act.put, List.setIfInBounds_toArray, List.set_cons_succ, List.set_cons_zero])
    | ((with_reducible refine wpQuiet_row23 P2 (.tmp 38) b2 o2 h2 ?_ ?_ ?_ R2 ?_); exact rfl; exact rfl; exact rfl; simp only [Act.put, List.setIfInBounds_toArray, List.set_cons_succ, List.set_cons_zero])
    | ((with_reducible refine wpQuiet_row23 en.t (.tmp 40) (w.heap.size + 1) 32 en.ht ?_ ?_ ?_ E2 ?_); exact rfl; exact rfl; exact rfl; simp only [Act.put, List.setIfInBounds_toArray, List.set_cons_succ, List.set_cons_zero])
    | ((with_reducible refine wpQuiet_eql23 P2 en.t (.tmp 39) (.tmp 41) 23 h2 en.ht ?_ ?_ ?_ ?_ true q2 ?_); exact rfl; exact rfl; exact rfl; exact rfl; simp only [Act.put, List.setIfInBounds_toArray, List.set_cons_succ, List.set_cons_zero])
    | (go_big_quiet_step (fail)))
  refine wpQuiet_nil ?_
  rintro _ ⟨nq, rfl⟩
  go_wp2
  go_ret
  exact ⟨rfl, below_drewN (keeps_below w _ _) _⟩

set_option maxHeartbeats 1000000 in
theorem keeps_yyx (P0 : List UInt8) (b0 o0 : Nat) (h0 : P0.length = 16) (P1 : List UInt8) (b1 o1 : Nat) (h1 : P1.length = 16) (P2 : List UInt8) (b2 o2 : Nat) (h2 : P2.length = 16) (en : Ent) (w : World) (r0 : w.rangeAt b0 o0 (P0.map cell)) (q0 : (P0 == en.p) = true) (r1 : w.rangeAt b1 o1 (P1.map cell)) (q1 : (P1 == en.m) = true) (r2 : w.rangeAt b2 o2 (P2.map cell)) (q2 : (P2 == en.t) = false) :
    Calls Try.prog 12 #[.agg #[.pointer (some ⟨b0, o0, none⟩), .pointer (some ⟨b1, o1, none⟩), .pointer (some ⟨b2, o2, none⟩)], .agg (row en.key)] w fun e w' => e = .returned (.bool false) ∧ Below w.heap.size w w' := by
  have l := keeps_lies w #[.pointer (some ⟨b0, o0, none⟩), .pointer (some ⟨b1, o1, none⟩), .pointer (some ⟨b2, o2, none⟩)] en
  have R0 := keeps_range w #[.pointer (some ⟨b0, o0, none⟩), .pointer (some ⟨b1, o1, none⟩), .pointer (some ⟨b2, o2, none⟩)] en r0
  have E0 := keeps_of_lies l.p
  have R1 := keeps_range w #[.pointer (some ⟨b0, o0, none⟩), .pointer (some ⟨b1, o1, none⟩), .pointer (some ⟨b2, o2, none⟩)] en r1
  have E1 := keeps_of_lies l.m
  have R2 := keeps_range w #[.pointer (some ⟨b0, o0, none⟩), .pointer (some ⟨b1, o1, none⟩), .pointer (some ⟨b2, o2, none⟩)] en r2
  have E2 := keeps_of_lies l.t
  clear l
  go_enter Try.func12, Try.ntmps12
  go_wp2
  refine wp_region_quiet_lit (by kernel_rfl) (by kernel_rfl) ?_
  repeat (first
    | ((with_reducible refine wpQuiet_row23 P0 (.tmp 11) b0 o0 h0 ?_ ?_ ?_ R0 ?_); exact rfl; exact rfl; exact rfl; simp only [Act.put, List.setIfInBounds_toArray, List.set_cons_succ, List.set_cons_zero])
    | ((with_reducible refine wpQuiet_row23 en.p (.tmp 13) (w.heap.size + 1) 0 en.hp ?_ ?_ ?_ E0 ?_); exact rfl; exact rfl; exact rfl; simp only [Act.put, List.setIfInBounds_toArray, List.set_cons_succ, List.set_cons_zero])
    | ((with_reducible refine wpQuiet_eql23 P0 en.p (.tmp 12) (.tmp 14) 23 h0 en.hp ?_ ?_ ?_ ?_ true q0 ?_); exact rfl; exact rfl; exact rfl; exact rfl; simp only [Act.put, List.setIfInBounds_toArray, List.set_cons_succ, List.set_cons_zero])
    | ((with_reducible refine wpQuiet_row23 P1 (.tmp 24) b1 o1 h1 ?_ ?_ ?_ R1 ?_); exact rfl; exact rfl; exact rfl; simp only [Act.put, List.setIfInBounds_toArray, List.set_cons_succ, List.set_cons_zero])
    | ((with_reducible refine wpQuiet_row23 en.m (.tmp 26) (w.heap.size + 1) 16 en.hm ?_ ?_ ?_ E1 ?_); exact rfl; exact rfl; exact rfl; simp only [Act.put, List.setIfInBounds_toArray, List.set_cons_succ, List.set_cons_zero])
    | ((with_reducible refine wpQuiet_eql23 P1 en.m (.tmp 25) (.tmp 27) 23 h1 en.hm ?_ ?_ ?_ ?_ true q1 ?_); exact rfl; exact rfl; exact rfl; exact rfl; simp only [Act.put, List.setIfInBounds_toArray, List.set_cons_succ, List.set_cons_zero])
    | ((with_reducible refine wpQuiet_row23 P2 (.tmp 38) b2 o2 h2 ?_ ?_ ?_ R2 ?_); exact rfl; exact rfl; exact rfl; simp only [Act.put, List.setIfInBounds_toArray, List.set_cons_succ, List.set_cons_zero])
    | ((with_reducible refine wpQuiet_row23 en.t (.tmp 40) (w.heap.size + 1) 32 en.ht ?_ ?_ ?_ E2 ?_); exact rfl; exact rfl; exact rfl; simp only [Act.put, List.setIfInBounds_toArray, List.set_cons_succ, List.set_cons_zero])
    | ((with_reducible refine wpQuiet_eql23 P2 en.t (.tmp 39) (.tmp 41) 23 h2 en.ht ?_ ?_ ?_ ?_ false q2 ?_); exact rfl; exact rfl; exact rfl; exact rfl; simp only [Act.put, List.setIfInBounds_toArray, List.set_cons_succ, List.set_cons_zero])
    | (go_big_quiet_step (fail)))
  refine wpQuiet_nil ?_
  rintro _ ⟨nq, rfl⟩
  go_wp2
  go_ret
  exact ⟨rfl, below_drewN (keeps_below w _ _) _⟩

end Go.Proofs.Qxb6620896a
