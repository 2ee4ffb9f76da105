/-
  THE WALK of FnNextDryRunMarkLeavesNoTrace, one theorem a mode and a result.
-/
import Derived.Test.Qxb6617365aNext2
namespace Go.Proofs.Qxb6617365a
open Go.RowKit
set_option linter.unusedVariables false

theorem mark0 (w : World) (st : ByteArray) : (w.alloc (alert st)).cell? ⟨w.heap.size, 0, none⟩ = some (.pointer none) := by
  unfold alert
  rw [World.cell?_alloc_at _ _ _ _ rfl]
  rfl
theorem markS (w : World) (st : ByteArray) : (w.alloc (alert st)).cell? ⟨w.heap.size, 1, none⟩ = some (.string st) := by
  unfold alert
  rw [World.cell?_alloc_at _ _ _ _ rfl]
  rfl
theorem mark1 (w : World) : (w.alloc (alert bDry)).cell? ⟨w.heap.size, 1, none⟩ = some (.string ⟨#[100, 114, 121, 45, 114, 117, 110]⟩) := markS w bDry
theorem keep_cell (w : World) (o : Obj) {g j : Nat} {v : Value} (h : w.cell? ⟨g, j, none⟩ = some v) (hg : g < w.heap.size) : (w.alloc o).cell? ⟨g, j, none⟩ = some v := by
  rw [World.cell?_alloc_past _ _ _ hg]
  exact h

theorem ptr_ne (w : World) {g b : Nat} {st : ByteArray} {C : Array Value} {t : TypeId} {w1 : World} (hM : w.heap[g]? = some (alert st)) (hC : w1.heap[b]? = some (.cells C t (0, 0))) (hO : b < w1.heap.size → w.heap[b]? = w1.heap[b]?) (hg : g = w1.heap.size) :
    (binOp .eql 24 (.pointer (some ⟨g, 0, none⟩)) (.pointer (some ⟨b, 0, none⟩))).run Try.prog w = .ok (.bool false) w := by
  have hlt : b < w1.heap.size := by
    rcases Nat.lt_or_ge b w1.heap.size with h | h
    · exact h
    · rw [Array.getElem?_eq_none h] at hC; cases hC
  obtain ⟨j, hj, hs⟩ : ∃ j, Try.prog.info? 31 = some j ∧ j.size = 2 := by
    have h : (Try.prog.info? 31).map (·.size) = some 2 := by kernel_rfl
    cases hq : Try.prog.info? 31 with
    | none => rw [hq] at h; cases h
    | some j => rw [hq] at h; exact ⟨j, rfl, by simpa using h⟩
  refine run_eql_ptr_other w Try.underlying24 hj (by omega) ?_ hM ((hO hlt).trans hC)
  intro e
  injection e with e1
  omega

theorem ptr_eq (w : World) (g : Nat) : (binOp .eql 24 (.pointer (some ⟨g, 0, none⟩)) (.pointer (some ⟨g, 0, none⟩))).run Try.prog w = .ok (.bool true) w := by
  obtain ⟨j, hj⟩ : ∃ j, Try.prog.info? 31 = some j := by
    have h : (Try.prog.info? 31).isSome = true := by kernel_rfl
    exact Option.isSome_iff_exists.1 h
  exact run_eql_ptr_same w _ Try.underlying24 hj

theorem guard8_yes (m r ps : ByteArray) (h i : Bool) (n : Int) (w : World) (z0 : m.size + r.size + ps.size ≤ 1048576) :
    Calls Try.prog 8 #[.string m, .string r, .bool h, .bool i, .int .u64 n, .string ps] w fun e w' => e = .returned (.bool true) ∧ w' = w := by
  go_enter Try.func8, Try.ntmps8
  go_wp2
  go_ret
  exact ⟨rfl, rfl⟩

set_option maxHeartbeats 1000000 in
theorem dry_np (m r ps : ByteArray) (h i : Bool) (n : Int) (w : World) (z0 : m.size + r.size + ps.size ≤ 1048576) (mo : (m.toList == [111, 110]) = true) (md : (m.toList == [100, 114, 121, 45, 114, 117, 110]) = false) (rp : (r.toList == [112, 97, 115, 115]) = true) (rs : (r.toList == [115, 107, 105, 112]) = false) (rf : (r.toList == [102, 97, 105, 108]) = false) :
    Calls Try.prog 4 #[.string m, .string r, .bool h, .bool i, .int .u64 n, .string ps] w fun e w' => e = .returned (.bool true) ∧ Below w.heap.size w w' := by
  go_enter Try.func4, Try.ntmps4
  go_wp2_with fail
  refine (guard8_yes m r ps h i n _ z0).mono ?_
  rintro e w' ⟨rfl, hw'⟩
  replace hw' := hw'.symm
  subst hw'
  go_wp2_with fail
  refine (mkPrev_calls h i n ps _).mono ?_
  rintro e w1 ⟨⟨v, rfl, hv⟩, hb1⟩
  have hz1 := hb1.size
  go_wp2_with fail
  refine (next_mark v w1 hv).mono ?_
  rintro e w' ⟨rfl, hw'⟩
  have c0 := mark0 w1 bDry
  have c1 := mark1 w1
  have hb2 := hb1.alloc hz1 (alert bDry)
  have hz2 : w1.heap.size < (w1.alloc (alert bDry)).heap.size := by simp
  have hM := _root_.Go.heap_alloc_new w1 (alert bDry)
  have hO := fun b (h : b < w1.heap.size) => Below.heap_alloc w1 (alert bDry) b h
  rw [← hw'] at c0 c1 hb2 hz2 hM
  simp only [← hw'] at hO
  clear hw' hb1
  rcases hv with rfl | ⟨b, st, rfl, -, C, t, hC⟩
  · clear hM hO
    go_wp2_with fail
    refine (next_npk w1.heap.size m r w' c1 mo md rp rs rf).mono ?_
    rintro e w3 ⟨rfl, hw3⟩
    replace hw3 := hw3.symm
    subst hw3
    clear c0 c1
    go_wp2_with fail
    refine (next_npu m r w' mo md rp rs rf).mono ?_
    rintro e w3 ⟨rfl, hw3⟩
    replace hw3 := hw3.symm
    subst hw3
    go_wp2_with fail
    refine (same_nil w').mono ?_
    rintro e w3 ⟨rfl, hw3⟩
    replace hw3 := hw3.symm
    subst hw3
    go_wp2_with fail
    go_ret
    exact ⟨rfl, hb2⟩
  · have hne := ptr_ne w' hM hC (hO b) rfl
    clear hM hO hC
    go_wp2_with fail
    refine (next_npk w1.heap.size m r w' c1 mo md rp rs rf).mono ?_
    rintro e w3 ⟨rfl, hw3⟩
    replace hw3 := hw3.symm
    subst hw3
    clear c0 c1
    go_wp2_with fail
    refine (next_npu m r w' mo md rp rs rf).mono ?_
    rintro e w3 ⟨rfl, hw3⟩
    replace hw3 := hw3.symm
    subst hw3
    go_wp2_with fail
    refine (same_nil w').mono ?_
    rintro e w3 ⟨rfl, hw3⟩
    replace hw3 := hw3.symm
    subst hw3
    go_wp2_with fail
    go_ret
    exact ⟨rfl, hb2⟩

set_option maxHeartbeats 1000000 in
theorem dry_ns (m r ps : ByteArray) (h i : Bool) (n : Int) (w : World) (z0 : m.size + r.size + ps.size ≤ 1048576) (mo : (m.toList == [111, 110]) = true) (md : (m.toList == [100, 114, 121, 45, 114, 117, 110]) = false) (rp : (r.toList == [112, 97, 115, 115]) = false) (rs : (r.toList == [115, 107, 105, 112]) = true) (rf : (r.toList == [102, 97, 105, 108]) = false) :
    Calls Try.prog 4 #[.string m, .string r, .bool h, .bool i, .int .u64 n, .string ps] w fun e w' => e = .returned (.bool true) ∧ Below w.heap.size w w' := by
  go_enter Try.func4, Try.ntmps4
  go_wp2_with fail
  refine (guard8_yes m r ps h i n _ z0).mono ?_
  rintro e w' ⟨rfl, hw'⟩
  replace hw' := hw'.symm
  subst hw'
  go_wp2_with fail
  refine (mkPrev_calls h i n ps _).mono ?_
  rintro e w1 ⟨⟨v, rfl, hv⟩, hb1⟩
  have hz1 := hb1.size
  go_wp2_with fail
  refine (next_mark v w1 hv).mono ?_
  rintro e w' ⟨rfl, hw'⟩
  have c0 := mark0 w1 bDry
  have c1 := mark1 w1
  have hb2 := hb1.alloc hz1 (alert bDry)
  have hz2 : w1.heap.size < (w1.alloc (alert bDry)).heap.size := by simp
  have hM := _root_.Go.heap_alloc_new w1 (alert bDry)
  have hO := fun b (h : b < w1.heap.size) => Below.heap_alloc w1 (alert bDry) b h
  rw [← hw'] at c0 c1 hb2 hz2 hM
  simp only [← hw'] at hO
  clear hw' hb1
  rcases hv with rfl | ⟨b, st, rfl, -, C, t, hC⟩
  · clear hM hO
    go_wp2_with fail
    refine (next_nsk w1.heap.size m r w' c1 mo md rp rs rf).mono ?_
    rintro e w3 ⟨rfl, hw3⟩
    replace hw3 := hw3.symm
    subst hw3
    clear c0 c1
    go_wp2_with fail
    refine (next_nsu m r w' mo md rp rs rf).mono ?_
    rintro e w3 ⟨rfl, hw3⟩
    replace hw3 := hw3.symm
    subst hw3
    go_wp2_with fail
    refine (same_nil w').mono ?_
    rintro e w3 ⟨rfl, hw3⟩
    replace hw3 := hw3.symm
    subst hw3
    go_wp2_with fail
    go_ret
    exact ⟨rfl, hb2⟩
  · have hne := ptr_ne w' hM hC (hO b) rfl
    clear hM hO hC
    go_wp2_with fail
    refine (next_nsk w1.heap.size m r w' c1 mo md rp rs rf).mono ?_
    rintro e w3 ⟨rfl, hw3⟩
    replace hw3 := hw3.symm
    subst hw3
    clear c0 c1
    go_wp2_with fail
    refine (next_nsu m r w' mo md rp rs rf).mono ?_
    rintro e w3 ⟨rfl, hw3⟩
    replace hw3 := hw3.symm
    subst hw3
    go_wp2_with fail
    refine (same_nil w').mono ?_
    rintro e w3 ⟨rfl, hw3⟩
    replace hw3 := hw3.symm
    subst hw3
    go_wp2_with fail
    go_ret
    exact ⟨rfl, hb2⟩

set_option maxHeartbeats 1000000 in
theorem dry_nf (m r ps : ByteArray) (h i : Bool) (n : Int) (w : World) (z0 : m.size + r.size + ps.size ≤ 1048576) (mo : (m.toList == [111, 110]) = true) (md : (m.toList == [100, 114, 121, 45, 114, 117, 110]) = false) (rp : (r.toList == [112, 97, 115, 115]) = false) (rs : (r.toList == [115, 107, 105, 112]) = false) (rf : (r.toList == [102, 97, 105, 108]) = true) :
    Calls Try.prog 4 #[.string m, .string r, .bool h, .bool i, .int .u64 n, .string ps] w fun e w' => e = .returned (.bool true) ∧ Below w.heap.size w w' := by
  go_enter Try.func4, Try.ntmps4
  go_wp2_with fail
  refine (guard8_yes m r ps h i n _ z0).mono ?_
  rintro e w' ⟨rfl, hw'⟩
  replace hw' := hw'.symm
  subst hw'
  go_wp2_with fail
  refine (mkPrev_calls h i n ps _).mono ?_
  rintro e w1 ⟨⟨v, rfl, hv⟩, hb1⟩
  have hz1 := hb1.size
  go_wp2_with fail
  refine (next_mark v w1 hv).mono ?_
  rintro e w' ⟨rfl, hw'⟩
  have c0 := mark0 w1 bDry
  have c1 := mark1 w1
  have hb2 := hb1.alloc hz1 (alert bDry)
  have hz2 : w1.heap.size < (w1.alloc (alert bDry)).heap.size := by simp
  have hM := _root_.Go.heap_alloc_new w1 (alert bDry)
  have hO := fun b (h : b < w1.heap.size) => Below.heap_alloc w1 (alert bDry) b h
  rw [← hw'] at c0 c1 hb2 hz2 hM
  simp only [← hw'] at hO
  clear hw' hb1
  rcases hv with rfl | ⟨b, st, rfl, -, C, t, hC⟩
  · clear hM hO
    go_wp2_with fail
    refine (next_nfk w1.heap.size m r w' c1 mo md rp rs rf).mono ?_
    rintro e w3 ⟨rfl, hw3⟩
    have a0 := mark0 w' bOpen
    have a1 := markS w' bOpen
    have hb3 := hb2.alloc (by omega) (alert bOpen)
    have hz3 : w'.heap.size < (w'.alloc (alert bOpen)).heap.size := by simp
    rw [← hw3] at a0 a1 hb3 hz3
    clear hw3 hb2 c0 c1
    go_wp2_with fail
    refine (next_nfu m r w3 mo md rp rs rf).mono ?_
    rintro e w4 ⟨rfl, hw4⟩
    have b0 := mark0 w3 bOpen
    have b1 := markS w3 bOpen
    have hb4 := hb3.alloc (by omega) (alert bOpen)
    have d0 := keep_cell w3 (alert bOpen) a0 hz3
    have d1 := keep_cell w3 (alert bOpen) a1 hz3
    have hz4 : w.heap.size ≤ (w3.alloc (alert bOpen)).heap.size := by simp; omega
    rw [← hw4] at b0 b1 hb4 d0 d1 hz4
    clear hw4 hb3 a0 a1
    go_wp2_with fail
    refine (same_two w'.heap.size w3.heap.size bOpen w4 d0 d1 b0 b1).mono ?_
    rintro e w5 ⟨rfl, hb5⟩
    have hb6 := hb4.trans (hb5.mono hz4)
    clear hb4 hb5 b0 b1 d0 d1
    go_wp2_with fail
    go_ret
    exact ⟨rfl, hb6⟩
  · have hne := ptr_ne w' hM hC (hO b) rfl
    clear hM hO hC
    go_wp2_with fail
    refine (next_nfk w1.heap.size m r w' c1 mo md rp rs rf).mono ?_
    rintro e w3 ⟨rfl, hw3⟩
    have a0 := mark0 w' bOpen
    have a1 := markS w' bOpen
    have hb3 := hb2.alloc (by omega) (alert bOpen)
    have hz3 : w'.heap.size < (w'.alloc (alert bOpen)).heap.size := by simp
    rw [← hw3] at a0 a1 hb3 hz3
    clear hw3 hb2 c0 c1
    go_wp2_with fail
    refine (next_nfu m r w3 mo md rp rs rf).mono ?_
    rintro e w4 ⟨rfl, hw4⟩
    have b0 := mark0 w3 bOpen
    have b1 := markS w3 bOpen
    have hb4 := hb3.alloc (by omega) (alert bOpen)
    have d0 := keep_cell w3 (alert bOpen) a0 hz3
    have d1 := keep_cell w3 (alert bOpen) a1 hz3
    have hz4 : w.heap.size ≤ (w3.alloc (alert bOpen)).heap.size := by simp; omega
    rw [← hw4] at b0 b1 hb4 d0 d1 hz4
    clear hw4 hb3 a0 a1
    go_wp2_with fail
    refine (same_two w'.heap.size w3.heap.size bOpen w4 d0 d1 b0 b1).mono ?_
    rintro e w5 ⟨rfl, hb5⟩
    have hb6 := hb4.trans (hb5.mono hz4)
    clear hb4 hb5 b0 b1 d0 d1
    go_wp2_with fail
    go_ret
    exact ⟨rfl, hb6⟩

set_option maxHeartbeats 1000000 in
theorem dry_nz (m r ps : ByteArray) (h i : Bool) (n : Int) (w : World) (z0 : m.size + r.size + ps.size ≤ 1048576) (mo : (m.toList == [111, 110]) = true) (md : (m.toList == [100, 114, 121, 45, 114, 117, 110]) = false) (rp : (r.toList == [112, 97, 115, 115]) = false) (rs : (r.toList == [115, 107, 105, 112]) = false) (rf : (r.toList == [102, 97, 105, 108]) = false) :
    Calls Try.prog 4 #[.string m, .string r, .bool h, .bool i, .int .u64 n, .string ps] w fun e w' => e = .returned (.bool true) ∧ Below w.heap.size w w' := by
  go_enter Try.func4, Try.ntmps4
  go_wp2_with fail
  refine (guard8_yes m r ps h i n _ z0).mono ?_
  rintro e w' ⟨rfl, hw'⟩
  replace hw' := hw'.symm
  subst hw'
  go_wp2_with fail
  refine (mkPrev_calls h i n ps _).mono ?_
  rintro e w1 ⟨⟨v, rfl, hv⟩, hb1⟩
  have hz1 := hb1.size
  go_wp2_with fail
  refine (next_mark v w1 hv).mono ?_
  rintro e w' ⟨rfl, hw'⟩
  have c0 := mark0 w1 bDry
  have c1 := mark1 w1
  have hb2 := hb1.alloc hz1 (alert bDry)
  have hz2 : w1.heap.size < (w1.alloc (alert bDry)).heap.size := by simp
  have hM := _root_.Go.heap_alloc_new w1 (alert bDry)
  have hO := fun b (h : b < w1.heap.size) => Below.heap_alloc w1 (alert bDry) b h
  rw [← hw'] at c0 c1 hb2 hz2 hM
  simp only [← hw'] at hO
  clear hw' hb1
  rcases hv with rfl | ⟨b, st, rfl, -, C, t, hC⟩
  · clear hM hO
    go_wp2_with fail
    refine (next_nzk w1.heap.size m r w' c1 mo md rp rs rf).mono ?_
    rintro e w3 ⟨rfl, hw3⟩
    replace hw3 := hw3.symm
    subst hw3
    clear c0 c1
    go_wp2_with fail
    refine (next_nzu m r w' mo md rp rs rf).mono ?_
    rintro e w3 ⟨rfl, hw3⟩
    replace hw3 := hw3.symm
    subst hw3
    go_wp2_with fail
    refine (same_nil w').mono ?_
    rintro e w3 ⟨rfl, hw3⟩
    replace hw3 := hw3.symm
    subst hw3
    go_wp2_with fail
    go_ret
    exact ⟨rfl, hb2⟩
  · have hne := ptr_ne w' hM hC (hO b) rfl
    clear hM hO hC
    go_wp2_with fail
    refine (next_nzk w1.heap.size m r w' c1 mo md rp rs rf).mono ?_
    rintro e w3 ⟨rfl, hw3⟩
    replace hw3 := hw3.symm
    subst hw3
    clear c0 c1
    go_wp2_with fail
    refine (next_nzu m r w' mo md rp rs rf).mono ?_
    rintro e w3 ⟨rfl, hw3⟩
    replace hw3 := hw3.symm
    subst hw3
    go_wp2_with fail
    refine (same_nil w').mono ?_
    rintro e w3 ⟨rfl, hw3⟩
    replace hw3 := hw3.symm
    subst hw3
    go_wp2_with fail
    go_ret
    exact ⟨rfl, hb2⟩

set_option maxHeartbeats 1000000 in
theorem dry_dp (m r ps : ByteArray) (h i : Bool) (n : Int) (w : World) (z0 : m.size + r.size + ps.size ≤ 1048576) (mo : (m.toList == [111, 110]) = false) (md : (m.toList == [100, 114, 121, 45, 114, 117, 110]) = true) (rp : (r.toList == [112, 97, 115, 115]) = true) (rs : (r.toList == [115, 107, 105, 112]) = false) (rf : (r.toList == [102, 97, 105, 108]) = false) :
    Calls Try.prog 4 #[.string m, .string r, .bool h, .bool i, .int .u64 n, .string ps] w fun e w' => e = .returned (.bool true) ∧ Below w.heap.size w w' := by
  go_enter Try.func4, Try.ntmps4
  go_wp2_with fail
  refine (guard8_yes m r ps h i n _ z0).mono ?_
  rintro e w' ⟨rfl, hw'⟩
  replace hw' := hw'.symm
  subst hw'
  go_wp2_with fail
  refine (mkPrev_calls h i n ps _).mono ?_
  rintro e w1 ⟨⟨v, rfl, hv⟩, hb1⟩
  have hz1 := hb1.size
  go_wp2_with fail
  refine (next_mark v w1 hv).mono ?_
  rintro e w' ⟨rfl, hw'⟩
  have c0 := mark0 w1 bDry
  have c1 := mark1 w1
  have hb2 := hb1.alloc hz1 (alert bDry)
  have hz2 : w1.heap.size < (w1.alloc (alert bDry)).heap.size := by simp
  have hM := _root_.Go.heap_alloc_new w1 (alert bDry)
  have hO := fun b (h : b < w1.heap.size) => Below.heap_alloc w1 (alert bDry) b h
  rw [← hw'] at c0 c1 hb2 hz2 hM
  simp only [← hw'] at hO
  clear hw' hb1
  rcases hv with rfl | ⟨b, st, rfl, -, C, t, hC⟩
  · clear hM hO
    go_wp2_with fail
    refine (next_dpk w1.heap.size m r w' c1 mo md rp rs rf).mono ?_
    rintro e w3 ⟨rfl, hw3⟩
    replace hw3 := hw3.symm
    subst hw3
    clear c0 c1
    go_wp2_with fail
    refine (next_dpu m r w' mo md rp rs rf).mono ?_
    rintro e w3 ⟨rfl, hw3⟩
    replace hw3 := hw3.symm
    subst hw3
    go_wp2_with fail
    refine (same_nil w').mono ?_
    rintro e w3 ⟨rfl, hw3⟩
    replace hw3 := hw3.symm
    subst hw3
    go_wp2_with fail
    go_ret
    exact ⟨rfl, hb2⟩
  · have hne := ptr_ne w' hM hC (hO b) rfl
    clear hM hO hC
    go_wp2_with fail
    refine (next_dpk w1.heap.size m r w' c1 mo md rp rs rf).mono ?_
    rintro e w3 ⟨rfl, hw3⟩
    replace hw3 := hw3.symm
    subst hw3
    clear c0 c1
    go_wp2_with fail
    refine (next_dpu m r w' mo md rp rs rf).mono ?_
    rintro e w3 ⟨rfl, hw3⟩
    replace hw3 := hw3.symm
    subst hw3
    go_wp2_with fail
    refine (same_nil w').mono ?_
    rintro e w3 ⟨rfl, hw3⟩
    replace hw3 := hw3.symm
    subst hw3
    go_wp2_with fail
    go_ret
    exact ⟨rfl, hb2⟩

set_option maxHeartbeats 1000000 in
theorem dry_ds (m r ps : ByteArray) (h i : Bool) (n : Int) (w : World) (z0 : m.size + r.size + ps.size ≤ 1048576) (mo : (m.toList == [111, 110]) = false) (md : (m.toList == [100, 114, 121, 45, 114, 117, 110]) = true) (rp : (r.toList == [112, 97, 115, 115]) = false) (rs : (r.toList == [115, 107, 105, 112]) = true) (rf : (r.toList == [102, 97, 105, 108]) = false) :
    Calls Try.prog 4 #[.string m, .string r, .bool h, .bool i, .int .u64 n, .string ps] w fun e w' => e = .returned (.bool true) ∧ Below w.heap.size w w' := by
  go_enter Try.func4, Try.ntmps4
  go_wp2_with fail
  refine (guard8_yes m r ps h i n _ z0).mono ?_
  rintro e w' ⟨rfl, hw'⟩
  replace hw' := hw'.symm
  subst hw'
  go_wp2_with fail
  refine (mkPrev_calls h i n ps _).mono ?_
  rintro e w1 ⟨⟨v, rfl, hv⟩, hb1⟩
  have hz1 := hb1.size
  go_wp2_with fail
  refine (next_mark v w1 hv).mono ?_
  rintro e w' ⟨rfl, hw'⟩
  have c0 := mark0 w1 bDry
  have c1 := mark1 w1
  have hb2 := hb1.alloc hz1 (alert bDry)
  have hz2 : w1.heap.size < (w1.alloc (alert bDry)).heap.size := by simp
  have hM := _root_.Go.heap_alloc_new w1 (alert bDry)
  have hO := fun b (h : b < w1.heap.size) => Below.heap_alloc w1 (alert bDry) b h
  rw [← hw'] at c0 c1 hb2 hz2 hM
  simp only [← hw'] at hO
  clear hw' hb1
  rcases hv with rfl | ⟨b, st, rfl, -, C, t, hC⟩
  · clear hM hO
    go_wp2_with fail
    refine (next_dsk w1.heap.size m r w' c1 mo md rp rs rf).mono ?_
    rintro e w3 ⟨rfl, hw3⟩
    replace hw3 := hw3.symm
    subst hw3
    clear c0 c1
    go_wp2_with fail
    refine (next_dsu m r w' mo md rp rs rf).mono ?_
    rintro e w3 ⟨rfl, hw3⟩
    replace hw3 := hw3.symm
    subst hw3
    go_wp2_with fail
    refine (same_nil w').mono ?_
    rintro e w3 ⟨rfl, hw3⟩
    replace hw3 := hw3.symm
    subst hw3
    go_wp2_with fail
    go_ret
    exact ⟨rfl, hb2⟩
  · have hne := ptr_ne w' hM hC (hO b) rfl
    clear hM hO hC
    go_wp2_with fail
    refine (next_dsk w1.heap.size m r w' c1 mo md rp rs rf).mono ?_
    rintro e w3 ⟨rfl, hw3⟩
    replace hw3 := hw3.symm
    subst hw3
    clear c0 c1
    go_wp2_with fail
    refine (next_dsu m r w' mo md rp rs rf).mono ?_
    rintro e w3 ⟨rfl, hw3⟩
    replace hw3 := hw3.symm
    subst hw3
    go_wp2_with fail
    refine (same_nil w').mono ?_
    rintro e w3 ⟨rfl, hw3⟩
    replace hw3 := hw3.symm
    subst hw3
    go_wp2_with fail
    go_ret
    exact ⟨rfl, hb2⟩

end Go.Proofs.Qxb6617365a
