/-
  THE WALK of FnNextDryRunMarkLeavesNoTrace, the other modes; the guard; all together.
-/
import Derived.Test.Qxb6617365aDry
namespace Go.Proofs.Qxb6617365a
open Go.RowKit
set_option linter.unusedVariables false

set_option maxHeartbeats 1000000 in
theorem dry_df (m r ps : ByteArray) (h i : Bool) (n : Int) (w : World) (z0 : m.size + r.size + ps.size ≤ 1048576) (mo : (m.toList == [111, 110]) = false) (md : (m.toList == [100, 114, 121, 45, 114, 117, 110]) = true) (rp : (r.toList == [112, 97, 115, 115]) = false) (rs : (r.toList == [115, 107, 105, 112]) = false) (rf : (r.toList == [102, 97, 105, 108]) = true) :
    Calls Try.prog 4 #[.string m, .string r, .bool h, .bool i, .int .u64 n, .string ps] w fun e w' => e = .returned (.bool true) ∧ Below w.heap.size w w' := by
  go_enter Try.func4, Try.ntmps4
  go_wp2_with fail
  refine (guard8_yes m r ps h i n _ z0).mono ?_
  rintro e w' ⟨rfl, hw'⟩
  replace hw' := hw'.symm
  subst hw'
  go_wp2_with fail
  refine (mkPrev_calls h i n ps _).mono ?_
  rintro e w1 ⟨⟨v, rfl, hv⟩, hb1⟩
  have hz1 := hb1.size
  go_wp2_with fail
  refine (next_mark v w1 hv).mono ?_
  rintro e w' ⟨rfl, hw'⟩
  have c0 := mark0 w1 bDry
  have c1 := mark1 w1
  have hb2 := hb1.alloc hz1 (alert bDry)
  have hz2 : w1.heap.size < (w1.alloc (alert bDry)).heap.size := by simp
  have hM := _root_.Go.heap_alloc_new w1 (alert bDry)
  have hO := fun b (h : b < w1.heap.size) => Below.heap_alloc w1 (alert bDry) b h
  rw [← hw'] at c0 c1 hb2 hz2 hM
  simp only [← hw'] at hO
  clear hw' hb1
  rcases hv with rfl | ⟨b, st, rfl, -, C, t, hC⟩
  · clear hM hO
    go_wp2_with fail
    refine (next_dfk w1.heap.size m r w' c1 mo md rp rs rf).mono ?_
    rintro e w3 ⟨rfl, hw3⟩
    have a0 := mark0 w' bDry
    have a1 := markS w' bDry
    have hb3 := hb2.alloc (by omega) (alert bDry)
    have hz3 : w'.heap.size < (w'.alloc (alert bDry)).heap.size := by simp
    rw [← hw3] at a0 a1 hb3 hz3
    clear hw3 hb2 c0 c1
    go_wp2_with fail
    refine (next_dfu m r w3 mo md rp rs rf).mono ?_
    rintro e w4 ⟨rfl, hw4⟩
    have b0 := mark0 w3 bDry
    have b1 := markS w3 bDry
    have hb4 := hb3.alloc (by omega) (alert bDry)
    have d0 := keep_cell w3 (alert bDry) a0 hz3
    have d1 := keep_cell w3 (alert bDry) a1 hz3
    have hz4 : w.heap.size ≤ (w3.alloc (alert bDry)).heap.size := by simp; omega
    rw [← hw4] at b0 b1 hb4 d0 d1 hz4
    clear hw4 hb3 a0 a1
    go_wp2_with fail
    refine (same_two w'.heap.size w3.heap.size bDry w4 d0 d1 b0 b1).mono ?_
    rintro e w5 ⟨rfl, hb5⟩
    have hb6 := hb4.trans (hb5.mono hz4)
    clear hb4 hb5 b0 b1 d0 d1
    go_wp2_with fail
    go_ret
    exact ⟨rfl, hb6⟩
  · have hne := ptr_ne w' hM hC (hO b) rfl
    clear hM hO hC
    go_wp2_with fail
    refine (next_dfk w1.heap.size m r w' c1 mo md rp rs rf).mono ?_
    rintro e w3 ⟨rfl, hw3⟩
    have a0 := mark0 w' bDry
    have a1 := markS w' bDry
    have hb3 := hb2.alloc (by omega) (alert bDry)
    have hz3 : w'.heap.size < (w'.alloc (alert bDry)).heap.size := by simp
    rw [← hw3] at a0 a1 hb3 hz3
    clear hw3 hb2 c0 c1
    go_wp2_with fail
    refine (next_dfu m r w3 mo md rp rs rf).mono ?_
    rintro e w4 ⟨rfl, hw4⟩
    have b0 := mark0 w3 bDry
    have b1 := markS w3 bDry
    have hb4 := hb3.alloc (by omega) (alert bDry)
    have d0 := keep_cell w3 (alert bDry) a0 hz3
    have d1 := keep_cell w3 (alert bDry) a1 hz3
    have hz4 : w.heap.size ≤ (w3.alloc (alert bDry)).heap.size := by simp; omega
    rw [← hw4] at b0 b1 hb4 d0 d1 hz4
    clear hw4 hb3 a0 a1
    go_wp2_with fail
    refine (same_two w'.heap.size w3.heap.size bDry w4 d0 d1 b0 b1).mono ?_
    rintro e w5 ⟨rfl, hb5⟩
    have hb6 := hb4.trans (hb5.mono hz4)
    clear hb4 hb5 b0 b1 d0 d1
    go_wp2_with fail
    go_ret
    exact ⟨rfl, hb6⟩

set_option maxHeartbeats 1000000 in
theorem dry_dz (m r ps : ByteArray) (h i : Bool) (n : Int) (w : World) (z0 : m.size + r.size + ps.size ≤ 1048576) (mo : (m.toList == [111, 110]) = false) (md : (m.toList == [100, 114, 121, 45, 114, 117, 110]) = true) (rp : (r.toList == [112, 97, 115, 115]) = false) (rs : (r.toList == [115, 107, 105, 112]) = false) (rf : (r.toList == [102, 97, 105, 108]) = false) :
    Calls Try.prog 4 #[.string m, .string r, .bool h, .bool i, .int .u64 n, .string ps] w fun e w' => e = .returned (.bool true) ∧ Below w.heap.size w w' := by
  go_enter Try.func4, Try.ntmps4
  go_wp2_with fail
  refine (guard8_yes m r ps h i n _ z0).mono ?_
  rintro e w' ⟨rfl, hw'⟩
  replace hw' := hw'.symm
  subst hw'
  go_wp2_with fail
  refine (mkPrev_calls h i n ps _).mono ?_
  rintro e w1 ⟨⟨v, rfl, hv⟩, hb1⟩
  have hz1 := hb1.size
  go_wp2_with fail
  refine (next_mark v w1 hv).mono ?_
  rintro e w' ⟨rfl, hw'⟩
  have c0 := mark0 w1 bDry
  have c1 := mark1 w1
  have hb2 := hb1.alloc hz1 (alert bDry)
  have hz2 : w1.heap.size < (w1.alloc (alert bDry)).heap.size := by simp
  have hM := _root_.Go.heap_alloc_new w1 (alert bDry)
  have hO := fun b (h : b < w1.heap.size) => Below.heap_alloc w1 (alert bDry) b h
  rw [← hw'] at c0 c1 hb2 hz2 hM
  simp only [← hw'] at hO
  clear hw' hb1
  rcases hv with rfl | ⟨b, st, rfl, -, C, t, hC⟩
  · clear hM hO
    go_wp2_with fail
    refine (next_dzk w1.heap.size m r w' c1 mo md rp rs rf).mono ?_
    rintro e w3 ⟨rfl, hw3⟩
    replace hw3 := hw3.symm
    subst hw3
    clear c0 c1
    have he := ptr_eq w' w1.heap.size
    go_wp2_with fail
    go_ret
    exact ⟨rfl, hb2⟩
  · have hne := ptr_ne w' hM hC (hO b) rfl
    clear hM hO hC
    go_wp2_with fail
    refine (next_dzk w1.heap.size m r w' c1 mo md rp rs rf).mono ?_
    rintro e w3 ⟨rfl, hw3⟩
    replace hw3 := hw3.symm
    subst hw3
    clear c0 c1
    have he := ptr_eq w' w1.heap.size
    go_wp2_with fail
    go_ret
    exact ⟨rfl, hb2⟩

set_option maxHeartbeats 1000000 in
theorem dry_op (m r ps : ByteArray) (h i : Bool) (n : Int) (w : World) (z0 : m.size + r.size + ps.size ≤ 1048576) (mo : (m.toList == [111, 110]) = false) (md : (m.toList == [100, 114, 121, 45, 114, 117, 110]) = false) (rp : (r.toList == [112, 97, 115, 115]) = true) (rs : (r.toList == [115, 107, 105, 112]) = false) (rf : (r.toList == [102, 97, 105, 108]) = false) :
    Calls Try.prog 4 #[.string m, .string r, .bool h, .bool i, .int .u64 n, .string ps] w fun e w' => e = .returned (.bool true) ∧ Below w.heap.size w w' := by
  go_enter Try.func4, Try.ntmps4
  go_wp2_with fail
  refine (guard8_yes m r ps h i n _ z0).mono ?_
  rintro e w' ⟨rfl, hw'⟩
  replace hw' := hw'.symm
  subst hw'
  go_wp2_with fail
  refine (mkPrev_calls h i n ps _).mono ?_
  rintro e w1 ⟨⟨v, rfl, hv⟩, hb1⟩
  have hz1 := hb1.size
  go_wp2_with fail
  refine (next_mark v w1 hv).mono ?_
  rintro e w' ⟨rfl, hw'⟩
  have c0 := mark0 w1 bDry
  have c1 := mark1 w1
  have hb2 := hb1.alloc hz1 (alert bDry)
  have hz2 : w1.heap.size < (w1.alloc (alert bDry)).heap.size := by simp
  have hM := _root_.Go.heap_alloc_new w1 (alert bDry)
  have hO := fun b (h : b < w1.heap.size) => Below.heap_alloc w1 (alert bDry) b h
  rw [← hw'] at c0 c1 hb2 hz2 hM
  simp only [← hw'] at hO
  clear hw' hb1
  rcases hv with rfl | ⟨b, st, rfl, -, C, t, hC⟩
  · clear hM hO
    go_wp2_with fail
    refine (next_opk w1.heap.size m r w' c1 mo md rp rs rf).mono ?_
    rintro e w3 ⟨rfl, hw3⟩
    replace hw3 := hw3.symm
    subst hw3
    clear c0 c1
    go_wp2_with fail
    refine (next_opu m r w' mo md rp rs rf).mono ?_
    rintro e w3 ⟨rfl, hw3⟩
    replace hw3 := hw3.symm
    subst hw3
    go_wp2_with fail
    refine (same_nil w').mono ?_
    rintro e w3 ⟨rfl, hw3⟩
    replace hw3 := hw3.symm
    subst hw3
    go_wp2_with fail
    go_ret
    exact ⟨rfl, hb2⟩
  · have hne := ptr_ne w' hM hC (hO b) rfl
    clear hM hO hC
    go_wp2_with fail
    refine (next_opk w1.heap.size m r w' c1 mo md rp rs rf).mono ?_
    rintro e w3 ⟨rfl, hw3⟩
    replace hw3 := hw3.symm
    subst hw3
    clear c0 c1
    go_wp2_with fail
    refine (next_opu m r w' mo md rp rs rf).mono ?_
    rintro e w3 ⟨rfl, hw3⟩
    replace hw3 := hw3.symm
    subst hw3
    go_wp2_with fail
    refine (same_nil w').mono ?_
    rintro e w3 ⟨rfl, hw3⟩
    replace hw3 := hw3.symm
    subst hw3
    go_wp2_with fail
    go_ret
    exact ⟨rfl, hb2⟩

set_option maxHeartbeats 1000000 in
theorem dry_os (m r ps : ByteArray) (h i : Bool) (n : Int) (w : World) (z0 : m.size + r.size + ps.size ≤ 1048576) (mo : (m.toList == [111, 110]) = false) (md : (m.toList == [100, 114, 121, 45, 114, 117, 110]) = false) (rp : (r.toList == [112, 97, 115, 115]) = false) (rs : (r.toList == [115, 107, 105, 112]) = true) (rf : (r.toList == [102, 97, 105, 108]) = false) :
    Calls Try.prog 4 #[.string m, .string r, .bool h, .bool i, .int .u64 n, .string ps] w fun e w' => e = .returned (.bool true) ∧ Below w.heap.size w w' := by
  go_enter Try.func4, Try.ntmps4
  go_wp2_with fail
  refine (guard8_yes m r ps h i n _ z0).mono ?_
  rintro e w' ⟨rfl, hw'⟩
  replace hw' := hw'.symm
  subst hw'
  go_wp2_with fail
  refine (mkPrev_calls h i n ps _).mono ?_
  rintro e w1 ⟨⟨v, rfl, hv⟩, hb1⟩
  have hz1 := hb1.size
  go_wp2_with fail
  refine (next_mark v w1 hv).mono ?_
  rintro e w' ⟨rfl, hw'⟩
  have c0 := mark0 w1 bDry
  have c1 := mark1 w1
  have hb2 := hb1.alloc hz1 (alert bDry)
  have hz2 : w1.heap.size < (w1.alloc (alert bDry)).heap.size := by simp
  have hM := _root_.Go.heap_alloc_new w1 (alert bDry)
  have hO := fun b (h : b < w1.heap.size) => Below.heap_alloc w1 (alert bDry) b h
  rw [← hw'] at c0 c1 hb2 hz2 hM
  simp only [← hw'] at hO
  clear hw' hb1
  rcases hv with rfl | ⟨b, st, rfl, -, C, t, hC⟩
  · clear hM hO
    go_wp2_with fail
    refine (next_osk w1.heap.size m r w' c1 mo md rp rs rf).mono ?_
    rintro e w3 ⟨rfl, hw3⟩
    replace hw3 := hw3.symm
    subst hw3
    clear c0 c1
    go_wp2_with fail
    refine (next_osu m r w' mo md rp rs rf).mono ?_
    rintro e w3 ⟨rfl, hw3⟩
    replace hw3 := hw3.symm
    subst hw3
    go_wp2_with fail
    refine (same_nil w').mono ?_
    rintro e w3 ⟨rfl, hw3⟩
    replace hw3 := hw3.symm
    subst hw3
    go_wp2_with fail
    go_ret
    exact ⟨rfl, hb2⟩
  · have hne := ptr_ne w' hM hC (hO b) rfl
    clear hM hO hC
    go_wp2_with fail
    refine (next_osk w1.heap.size m r w' c1 mo md rp rs rf).mono ?_
    rintro e w3 ⟨rfl, hw3⟩
    replace hw3 := hw3.symm
    subst hw3
    clear c0 c1
    go_wp2_with fail
    refine (next_osu m r w' mo md rp rs rf).mono ?_
    rintro e w3 ⟨rfl, hw3⟩
    replace hw3 := hw3.symm
    subst hw3
    go_wp2_with fail
    refine (same_nil w').mono ?_
    rintro e w3 ⟨rfl, hw3⟩
    replace hw3 := hw3.symm
    subst hw3
    go_wp2_with fail
    go_ret
    exact ⟨rfl, hb2⟩

set_option maxHeartbeats 1000000 in
theorem dry_of (m r ps : ByteArray) (h i : Bool) (n : Int) (w : World) (z0 : m.size + r.size + ps.size ≤ 1048576) (mo : (m.toList == [111, 110]) = false) (md : (m.toList == [100, 114, 121, 45, 114, 117, 110]) = false) (rp : (r.toList == [112, 97, 115, 115]) = false) (rs : (r.toList == [115, 107, 105, 112]) = false) (rf : (r.toList == [102, 97, 105, 108]) = true) :
    Calls Try.prog 4 #[.string m, .string r, .bool h, .bool i, .int .u64 n, .string ps] w fun e w' => e = .returned (.bool true) ∧ Below w.heap.size w w' := by
  go_enter Try.func4, Try.ntmps4
  go_wp2_with fail
  refine (guard8_yes m r ps h i n _ z0).mono ?_
  rintro e w' ⟨rfl, hw'⟩
  replace hw' := hw'.symm
  subst hw'
  go_wp2_with fail
  refine (mkPrev_calls h i n ps _).mono ?_
  rintro e w1 ⟨⟨v, rfl, hv⟩, hb1⟩
  have hz1 := hb1.size
  go_wp2_with fail
  refine (next_mark v w1 hv).mono ?_
  rintro e w' ⟨rfl, hw'⟩
  have c0 := mark0 w1 bDry
  have c1 := mark1 w1
  have hb2 := hb1.alloc hz1 (alert bDry)
  have hz2 : w1.heap.size < (w1.alloc (alert bDry)).heap.size := by simp
  have hM := _root_.Go.heap_alloc_new w1 (alert bDry)
  have hO := fun b (h : b < w1.heap.size) => Below.heap_alloc w1 (alert bDry) b h
  rw [← hw'] at c0 c1 hb2 hz2 hM
  simp only [← hw'] at hO
  clear hw' hb1
  rcases hv with rfl | ⟨b, st, rfl, -, C, t, hC⟩
  · clear hM hO
    go_wp2_with fail
    refine (next_ofk w1.heap.size m r w' c1 mo md rp rs rf).mono ?_
    rintro e w3 ⟨rfl, hw3⟩
    replace hw3 := hw3.symm
    subst hw3
    clear c0 c1
    go_wp2_with fail
    refine (next_ofu m r w' mo md rp rs rf).mono ?_
    rintro e w3 ⟨rfl, hw3⟩
    replace hw3 := hw3.symm
    subst hw3
    go_wp2_with fail
    refine (same_nil w').mono ?_
    rintro e w3 ⟨rfl, hw3⟩
    replace hw3 := hw3.symm
    subst hw3
    go_wp2_with fail
    go_ret
    exact ⟨rfl, hb2⟩
  · have hne := ptr_ne w' hM hC (hO b) rfl
    clear hM hO hC
    go_wp2_with fail
    refine (next_ofk w1.heap.size m r w' c1 mo md rp rs rf).mono ?_
    rintro e w3 ⟨rfl, hw3⟩
    replace hw3 := hw3.symm
    subst hw3
    clear c0 c1
    go_wp2_with fail
    refine (next_ofu m r w' mo md rp rs rf).mono ?_
    rintro e w3 ⟨rfl, hw3⟩
    replace hw3 := hw3.symm
    subst hw3
    go_wp2_with fail
    refine (same_nil w').mono ?_
    rintro e w3 ⟨rfl, hw3⟩
    replace hw3 := hw3.symm
    subst hw3
    go_wp2_with fail
    go_ret
    exact ⟨rfl, hb2⟩

set_option maxHeartbeats 1000000 in
theorem dry_oz (m r ps : ByteArray) (h i : Bool) (n : Int) (w : World) (z0 : m.size + r.size + ps.size ≤ 1048576) (mo : (m.toList == [111, 110]) = false) (md : (m.toList == [100, 114, 121, 45, 114, 117, 110]) = false) (rp : (r.toList == [112, 97, 115, 115]) = false) (rs : (r.toList == [115, 107, 105, 112]) = false) (rf : (r.toList == [102, 97, 105, 108]) = false) :
    Calls Try.prog 4 #[.string m, .string r, .bool h, .bool i, .int .u64 n, .string ps] w fun e w' => e = .returned (.bool true) ∧ Below w.heap.size w w' := by
  go_enter Try.func4, Try.ntmps4
  go_wp2_with fail
  refine (guard8_yes m r ps h i n _ z0).mono ?_
  rintro e w' ⟨rfl, hw'⟩
  replace hw' := hw'.symm
  subst hw'
  go_wp2_with fail
  refine (mkPrev_calls h i n ps _).mono ?_
  rintro e w1 ⟨⟨v, rfl, hv⟩, hb1⟩
  have hz1 := hb1.size
  go_wp2_with fail
  refine (next_mark v w1 hv).mono ?_
  rintro e w' ⟨rfl, hw'⟩
  have c0 := mark0 w1 bDry
  have c1 := mark1 w1
  have hb2 := hb1.alloc hz1 (alert bDry)
  have hz2 : w1.heap.size < (w1.alloc (alert bDry)).heap.size := by simp
  have hM := _root_.Go.heap_alloc_new w1 (alert bDry)
  have hO := fun b (h : b < w1.heap.size) => Below.heap_alloc w1 (alert bDry) b h
  rw [← hw'] at c0 c1 hb2 hz2 hM
  simp only [← hw'] at hO
  clear hw' hb1
  rcases hv with rfl | ⟨b, st, rfl, -, C, t, hC⟩
  · clear hM hO
    go_wp2_with fail
    refine (next_ozk w1.heap.size m r w' c1 mo md rp rs rf).mono ?_
    rintro e w3 ⟨rfl, hw3⟩
    replace hw3 := hw3.symm
    subst hw3
    clear c0 c1
    go_wp2_with fail
    refine (next_ozu m r w' mo md rp rs rf).mono ?_
    rintro e w3 ⟨rfl, hw3⟩
    replace hw3 := hw3.symm
    subst hw3
    go_wp2_with fail
    refine (same_nil w').mono ?_
    rintro e w3 ⟨rfl, hw3⟩
    replace hw3 := hw3.symm
    subst hw3
    go_wp2_with fail
    go_ret
    exact ⟨rfl, hb2⟩
  · have hne := ptr_ne w' hM hC (hO b) rfl
    clear hM hO hC
    go_wp2_with fail
    refine (next_ozk w1.heap.size m r w' c1 mo md rp rs rf).mono ?_
    rintro e w3 ⟨rfl, hw3⟩
    replace hw3 := hw3.symm
    subst hw3
    clear c0 c1
    go_wp2_with fail
    refine (next_ozu m r w' mo md rp rs rf).mono ?_
    rintro e w3 ⟨rfl, hw3⟩
    replace hw3 := hw3.symm
    subst hw3
    go_wp2_with fail
    refine (same_nil w').mono ?_
    rintro e w3 ⟨rfl, hw3⟩
    replace hw3 := hw3.symm
    subst hw3
    go_wp2_with fail
    go_ret
    exact ⟨rfl, hb2⟩

set_option maxHeartbeats 400000 in
theorem dry_big (m r ps : ByteArray) (h i : Bool) (n : Int) (w : World) (wm : m.size ≤ maxLen) (wr : r.size ≤ maxLen) (wp : ps.size ≤ maxLen) (z0 : ¬ m.size + r.size + ps.size ≤ 1048576) :
    Calls Try.prog 4 #[.string m, .string r, .bool h, .bool i, .int .u64 n, .string ps] w fun e w' => e = .returned (.bool true) ∧ Below w.heap.size w w' := by
  unfold maxLen at wm wr wp
  by_cases h1 : m.size ≤ 1048576
  · by_cases h2 : r.size ≤ 1048576
    · by_cases h3 : m.size + r.size ≤ 1048576
      · by_cases h4 : ps.size ≤ 1048576
        · go_enter Try.func4, Try.ntmps4
          go_wp2
          go_ret
          exact ⟨rfl, Below.refl _ _⟩
        · go_enter Try.func4, Try.ntmps4
          go_wp2
          go_ret
          exact ⟨rfl, Below.refl _ _⟩
      · go_enter Try.func4, Try.ntmps4
        go_wp2
        go_ret
        exact ⟨rfl, Below.refl _ _⟩
    · go_enter Try.func4, Try.ntmps4
      go_wp2
      go_ret
      exact ⟨rfl, Below.refl _ _⟩
  · go_enter Try.func4, Try.ntmps4
    go_wp2
    go_ret
    exact ⟨rfl, Below.refl _ _⟩

/-- Of two texts that differ at most one is met. -/
theorem other_text {l a b : List UInt8} (h : (l == a) = true) (hab : (a == b) = false) : (l == b) = false := by
  rw [beq_iff_eq.1 h]
  exact hab

theorem dry_walk (m r ps : ByteArray) (h i : Bool) (n : Int) (w : World) (wm : m.size ≤ maxLen) (wr : r.size ≤ maxLen) (wp : ps.size ≤ maxLen) :
    Calls Try.prog 4 #[.string m, .string r, .bool h, .bool i, .int .u64 n, .string ps] w fun e w' => e = .returned (.bool true) ∧ Below w.heap.size w w' := by
  by_cases z0 : m.size + r.size + ps.size ≤ 1048576
  · have R : ∀ {p : Prop}, ((r.toList == [112, 97, 115, 115]) = true → (r.toList == [115, 107, 105, 112]) = false → (r.toList == [102, 97, 105, 108]) = false → p) →
        ((r.toList == [112, 97, 115, 115]) = false → (r.toList == [115, 107, 105, 112]) = true → (r.toList == [102, 97, 105, 108]) = false → p) →
        ((r.toList == [112, 97, 115, 115]) = false → (r.toList == [115, 107, 105, 112]) = false → (r.toList == [102, 97, 105, 108]) = true → p) →
        ((r.toList == [112, 97, 115, 115]) = false → (r.toList == [115, 107, 105, 112]) = false → (r.toList == [102, 97, 105, 108]) = false → p) → p := by
      intro p k1 k2 k3 k4
      cases e1 : (r.toList == [112, 97, 115, 115])
      · cases e2 : (r.toList == [115, 107, 105, 112])
        · cases e3 : (r.toList == [102, 97, 105, 108])
          · exact k4 e1 e2 e3
          · exact k3 e1 e2 e3
        · exact k2 e1 e2 (other_text e2 rfl)
      · exact k1 e1 (other_text e1 rfl) (other_text e1 rfl)
    cases mo : (m.toList == [111, 110])
    · cases md : (m.toList == [100, 114, 121, 45, 114, 117, 110])
      · exact R (dry_op m r ps h i n w z0 mo md) (dry_os m r ps h i n w z0 mo md) (dry_of m r ps h i n w z0 mo md) (dry_oz m r ps h i n w z0 mo md)
      · exact R (dry_dp m r ps h i n w z0 mo md) (dry_ds m r ps h i n w z0 mo md) (dry_df m r ps h i n w z0 mo md) (dry_dz m r ps h i n w z0 mo md)
    · have md := other_text (b := [100, 114, 121, 45, 114, 117, 110]) mo rfl
      exact R (dry_np m r ps h i n w z0 mo md) (dry_ns m r ps h i n w z0 mo md) (dry_nf m r ps h i n w z0 mo md) (dry_nz m r ps h i n w z0 mo md)
  · exact dry_big m r ps h i n w wm wr wp z0

end Go.Proofs.Qxb6617365a
