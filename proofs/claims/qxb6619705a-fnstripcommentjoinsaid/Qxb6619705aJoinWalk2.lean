/-
  THE WALK of the law on stripComment of joined texts: the ways in which a is not cut.
-/
import Derived.Test.Qxb6619705aJoinWalk
namespace Go.Proofs.Qxb6619705a
open Go.RowKit

theorem quotes_small (a : ByteArray) (ha : a.size ≤ 524288) : (Strip.quotes a.data.toList : Int) ≤ 524288 := by
  have h := Strip.quotes_le a.data.toList
  rw [length_bytes] at h
  omega

theorem zzstrip_whole (a : ByteArray) (w : World) (hs : a.size ≤ maxLen) (hw : stripS a = a) :
    Calls Try.prog 11 #[.string a] w fun e w' => e = .returned (.string a) ∧ w' = w := by
  have h := zzstrip_calls a w hs
  rw [hw] at h
  exact h

set_option maxHeartbeats 400000 in
theorem join_even (a b : ByteArray) (w : World) (ha : a.size ≤ 524288) (hb : b.size ≤ 524288) (hc : Hid (stripS a = a)) (hq : Strip.quotes a.data.toList % 2 = 0) :
    Calls Try.prog 5 #[.string a, .string b] w fun e w' => e = .returned (.bool true) ∧ w' = w := by
  have hd1 : decide ((524288 : Int) < (a.size : Int)) = false := by simp; omega
  have hd2 : decide ((524288 : Int) < (b.size : Int)) = false := by simp; omega
  have h6 := even_t a b hc.out hq
  have h7 := even_u a b hc.out hq
  have h5 : ((Strip.quotes a.data.toList : Int) % 2 == 0) = true := by simp; omega
  have hqb := quotes_small a ha
  have hsb := strip_le b
  clear hq
  have m1 : a.size ≤ maxLen := by unfold maxLen; omega
  have m2 : b.size ≤ maxLen := by unfold maxLen; omega
  have m5 : (a ++ ⟨#[35]⟩ ++ b).size ≤ maxLen := by simp only [maxLen, ByteArray.size_append', ByteArray.size_mk']; simp; omega
  go_enter Try.func5, Try.ntmps5
  go_wp2_with fail
  refine (guard12_yes a b _ ha hb).mono ?_
  rintro e w' ⟨rfl, rfl⟩
  go_wp2_with fail
  refine (zzstrip_whole a _ m1 hc.out).mono ?_
  rintro e w' ⟨rfl, rfl⟩
  go_wp2_with fail
  refine (zzstrip_calls (a ++ b) _ (by simp only [maxLen, ByteArray.size_append']; omega)).mono ?_
  rintro e w' ⟨rfl, rfl⟩
  go_wp2_with fail
  refine (zzstrip_calls _ _ ?_).mono ?_
  · exact m5
  rintro e w' ⟨rfl, rfl⟩
  go_wp2_with fail
  refine (quotes_calls a _ m1).mono ?_
  rintro e w' ⟨rfl, rfl⟩
  go_wp2_with fail
  refine (zzstrip_calls b _ m2).mono ?_
  rintro e w' ⟨rfl, rfl⟩
  go_wp2_with fail
  go_ret
  exact ⟨rfl, rfl⟩

set_option maxHeartbeats 400000 in
theorem join_odd (a b : ByteArray) (w : World) (ha : a.size ≤ 524288) (hb : b.size ≤ 524288) (hc : Hid (stripS a = a)) (hq : ¬ Strip.quotes a.data.toList % 2 = 0) :
    Calls Try.prog 5 #[.string a, .string b] w fun e w' => e = .returned (.bool true) ∧ w' = w := by
  have hd1 : decide ((524288 : Int) < (a.size : Int)) = false := by simp; omega
  have hd2 : decide ((524288 : Int) < (b.size : Int)) = false := by simp; omega
  have h6 := odd_t a b hc.out hq
  have h7 := odd_u a b hc.out hq
  have h5 : ((Strip.quotes a.data.toList : Int) % 2 == 0) = false := by simp; omega
  have hqb := quotes_small a ha
  have k1 := quote_size b
  have k2 := quote_first b k1
  have k3 := strip_le (⟨#[34]⟩ ++ b)
  have k4' : (stripS (⟨#[34]⟩ ++ b)).size ≤ 524289 := by simp only [ByteArray.size_append', ByteArray.size_mk'] at k3; simp at k3; omega
  clear k3
  have m1 : a.size ≤ maxLen := by unfold maxLen; omega
  have m3 : ((⟨#[34]⟩ : ByteArray) ++ b).size ≤ maxLen := by simp only [maxLen, ByteArray.size_append', ByteArray.size_mk']; simp; omega
  have m4 : (a ++ b).size ≤ maxLen := by simp only [maxLen, ByteArray.size_append']; omega
  have m5 : (a ++ ⟨#[35]⟩ ++ b).size ≤ maxLen := by simp only [maxLen, ByteArray.size_append', ByteArray.size_mk']; simp; omega
  have hv := zzstrip_calls (⟨#[34]⟩ ++ b)
  generalize stripS (⟨#[34]⟩ ++ b) = v at *
  have Hv : Hid (∀ (w : World), ((⟨#[34]⟩ : ByteArray) ++ b).size ≤ maxLen → Calls Try.prog 11 #[.string (⟨#[34]⟩ ++ b)] w fun e w' => e = .returned (.string v) ∧ w' = w) := hv
  clear hq hv
  have k5 : ((v.size : Int) == 0) = false := beq_eq_false_iff_ne.2 (by omega)
  go_enter Try.func5, Try.ntmps5
  go_wp2_with fail
  refine (guard12_yes a b _ ha hb).mono ?_
  rintro e w' ⟨rfl, rfl⟩
  go_wp2_with fail
  refine (zzstrip_whole a _ m1 hc.out).mono ?_
  rintro e w' ⟨rfl, rfl⟩
  go_wp2_with fail
  refine (zzstrip_calls (a ++ b) _ m4).mono ?_
  rintro e w' ⟨rfl, rfl⟩
  go_wp2_with fail
  refine (zzstrip_calls _ _ ?_).mono ?_
  · exact m5
  rintro e w' ⟨rfl, rfl⟩
  go_wp2_with fail
  refine (quotes_calls a _ m1).mono ?_
  rintro e w' ⟨rfl, rfl⟩
  go_wp2_with fail
  refine (Hv.out _ m3).mono ?_
  rintro e w' ⟨rfl, rfl⟩
  go_wp2_with fail
  go_ret
  exact ⟨rfl, rfl⟩

/-! ### ONE OF THE TWO IS TOO LONG -/
set_option maxHeartbeats 400000 in
theorem join_big (a b : ByteArray) (w : World) (wa : a.size ≤ maxLen) (wb : b.size ≤ maxLen) (h : ¬ (a.size ≤ 524288 ∧ b.size ≤ 524288)) :
    Calls Try.prog 5 #[.string a, .string b] w fun e w' => e = .returned (.bool true) ∧ w' = w := by
  unfold maxLen at wa wb
  by_cases h1 : a.size ≤ 1048576
  · by_cases h2 : b.size ≤ 1048576
    · by_cases h3 : a.size + b.size ≤ 1048576
      · by_cases h4 : a.size ≤ 524288
        · have h5 : ¬ b.size ≤ 524288 := by omega
          go_enter Try.func5, Try.ntmps5
          go_wp2
          go_ret
          exact ⟨rfl, rfl⟩
        · go_enter Try.func5, Try.ntmps5
          go_wp2
          go_ret
          exact ⟨rfl, rfl⟩
      · go_enter Try.func5, Try.ntmps5
        go_wp2
        go_ret
        exact ⟨rfl, rfl⟩
    · go_enter Try.func5, Try.ntmps5
      go_wp2
      go_ret
      exact ⟨rfl, rfl⟩
  · go_enter Try.func5, Try.ntmps5
    go_wp2
    go_ret
    exact ⟨rfl, rfl⟩

theorem join_walk (a b : ByteArray) (wa : a.size ≤ maxLen) (wb : b.size ≤ maxLen) (w : World) :
    Calls Try.prog 5 #[.string a, .string b] w fun e w' => e = .returned (.bool true) ∧ Grown w w' := by
  have fin : ∀ (e : Ending) (w' : World), (e = .returned (.bool true) ∧ w' = w) → e = .returned (.bool true) ∧ Grown w w' := by
    rintro e w' ⟨rfl, rfl⟩
    exact ⟨rfl, Grown.refl _⟩
  by_cases h : a.size ≤ 524288 ∧ b.size ≤ 524288
  · rcases cut_or_not a with hc | hc
    · exact (join_cut a b w h.1 h.2 hc).mono fin
    · by_cases hq : Strip.quotes a.data.toList % 2 = 0
      · exact (join_even a b w h.1 h.2 hc hq).mono fin
      · exact (join_odd a b w h.1 h.2 hc hq).mono fin
  · exact (join_big a b w wa wb h).mono fin

end Go.Proofs.Qxb6619705a
