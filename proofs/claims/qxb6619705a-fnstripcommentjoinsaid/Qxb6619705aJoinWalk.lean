/-
  THE WALK of the law on stripComment of joined texts.
-/
import Derived.Test.Qxb6619705aCutsWalk
namespace Go.Proofs.Qxb6619705a
open Go.RowKit

/-! ### zzb1Quotes -/
set_option maxHeartbeats 400000 in
theorem quotes_calls (s : ByteArray) (w : World) (hs : s.size ≤ maxLen) :
    Calls Try.prog 13 #[.string s] w fun e w' => e = .returned (.int .i64 (Strip.quotes s.data.toList)) ∧ w' = w := by
  unfold maxLen at hs
  go_enter Try.func13, Try.ntmps13
  go_wp2
  go_loop [3, 4] (fun q i => ∃ k : Nat, k ≤ s.size ∧ i = .int .i64 k ∧ q = .int .i64 (Strip.quotes (s.data.toList.take k))) (fun _ i => s.size - (intOf i).toNat)
  case atStart => exact ⟨0, Nat.zero_le _, rfl, rfl⟩
  case round =>
    obtain ⟨k, hk, rfl, rfl⟩ := hrel
    have hqb := quotes_bound s k
    by_cases hlt : k < s.size
    · have Hs := hid_mk (quotes_step s k hlt)
      go_wp2
      · have h34 : ((s[k].toNat : Int) == 34) = true := by assumption
        go_round
        case rel => exact ⟨k + 1, by omega, by go_num, by rw [Hs.out, if_pos h34]⟩
        case measure => simp [intOf]; omega
      · have h34 : ¬ ((s[k].toNat : Int) == 34) = true := by simpa using ‹((s[k].toNat : Int) == 34) = false›
        go_round
        case rel => exact ⟨k + 1, by omega, by go_num, by rw [Hs.out, if_neg h34, Int.add_zero]⟩
        case measure => simp [intOf]; omega
    · go_wp2
      go_ret
      exact ⟨ret_int (by have hl := length_bytes s; rw [List.take_of_length_le (by omega)]), rfl⟩

/-! ### THE PLAIN FACTS -/
theorem data_append (a b : ByteArray) : (a ++ b).data.toList = a.data.toList ++ b.data.toList := by
  simp [ByteArray.data_append]

theorem toList_strip (s : ByteArray) : (stripS s).toList = s.data.toList.take (Strip.cutAt false s.data.toList) := by
  rw [Lib.toList_data, list_strip]

theorem beq_of_data {x y : ByteArray} (h : x.data.toList = y.data.toList) : (x.toList == y.toList) = true := by
  rw [Lib.toList_data, Lib.toList_data, h]; simp

/-- Whether a is cut. -/
theorem cut_or_not (a : ByteArray) : (stripS a).size < a.size ∨ stripS a = a := by
  have h1 := Strip.cutAt_le a.data.toList false
  have h2 := length_bytes a
  rcases Nat.lt_or_ge (Strip.cutAt false a.data.toList) a.size with h | h
  · left; rw [size_strip]; exact h
  · right
    have e : Strip.cutAt false a.data.toList = a.size := by omega
    unfold stripS
    rw [e, extract_all]

theorem cut_ne (a : ByteArray) (h : (stripS a).size < a.size) : ((stripS a).toList == a.toList) = false := by
  rw [beq_eq_false_iff_ne]
  intro e
  have e2 := congrArg List.length e
  rw [Lib.toList_data, Lib.toList_data, length_bytes, length_bytes] at e2
  omega

theorem strip_append_cut (a b : ByteArray) (h : (stripS a).size < a.size) : ((stripS (a ++ b)).toList == (stripS a).toList) = true := by
  have hl := length_bytes a
  rw [size_strip] at h
  rw [toList_strip, toList_strip, data_append, Strip.cutAt_append_lt _ _ _ (by omega), List.take_append_of_le_length (by omega)]
  simp

theorem strip_append_whole (a b : ByteArray) (h : stripS a = a) :
    (stripS (a ++ b)).data.toList = a.data.toList ++ b.data.toList.take (Strip.cutAt (Strip.quo false a.data.toList) b.data.toList) := by
  have hl := length_bytes a
  have hs := size_strip a
  rw [h] at hs
  rw [list_strip, data_append, Strip.cutAt_append_eq _ _ _ (by omega), List.take_append]
  rw [List.take_of_length_le (by omega)]
  congr 2
  omega

/-- The two texts of one byte. -/
theorem hash_data (b : ByteArray) : ((⟨#[35]⟩ : ByteArray) ++ b).data.toList = 35 :: b.data.toList := by rw [data_append]; rfl
theorem quote_data (b : ByteArray) : ((⟨#[34]⟩ : ByteArray) ++ b).data.toList = 34 :: b.data.toList := by rw [data_append]; rfl

theorem even_t (a b : ByteArray) (h : stripS a = a) (hq : Strip.quotes a.data.toList % 2 = 0) : ((stripS (a ++ b)).toList == (a ++ stripS b).toList) = true := by
  refine beq_of_data ?_
  rw [strip_append_whole a b h, Strip.quo_even _ hq, data_append, list_strip]

theorem even_u (a b : ByteArray) (h : stripS a = a) (hq : Strip.quotes a.data.toList % 2 = 0) : ((stripS (a ++ ⟨#[35]⟩ ++ b)).toList == a.toList) = true := by
  refine beq_of_data ?_
  rw [ByteArray.append_assoc, strip_append_whole a _ h, Strip.quo_even _ hq, hash_data]
  simp [Strip.cutAt]

theorem quote_strip (b : ByteArray) : (stripS (⟨#[34]⟩ ++ b)).data.toList = 34 :: b.data.toList.take (Strip.cutAt true b.data.toList) := by
  rw [list_strip, quote_data]
  simp [Strip.cutAt]

theorem quote_size (b : ByteArray) : 1 ≤ (stripS (⟨#[34]⟩ ++ b)).size := by
  have h := congrArg List.length (quote_strip b)
  rw [length_bytes] at h
  simp only [List.length_cons] at h
  omega

theorem quote_first (b : ByteArray) (h : 0 < (stripS (⟨#[34]⟩ ++ b)).size) : ((stripS (⟨#[34]⟩ ++ b))[0].toNat : Int) = 34 := by
  have e : (stripS (⟨#[34]⟩ ++ b))[0] = (stripS (⟨#[34]⟩ ++ b)).data.toList[0]'(by rw [length_bytes]; exact h) := rfl
  rw [e]
  simp only [quote_strip]
  rfl

theorem quote_rest (b : ByteArray) : ((stripS (⟨#[34]⟩ ++ b)).extract 1 (stripS (⟨#[34]⟩ ++ b)).size).data.toList = b.data.toList.take (Strip.cutAt true b.data.toList) := by
  rw [Lib.extract_data, List.take_of_length_le (by rw [List.length_drop, length_bytes]; omega), quote_strip]
  rfl

theorem odd_t (a b : ByteArray) (h : stripS a = a) (hq : ¬ Strip.quotes a.data.toList % 2 = 0) :
    ((stripS (a ++ b)).toList == (a ++ (stripS (⟨#[34]⟩ ++ b)).extract 1 (stripS (⟨#[34]⟩ ++ b)).size).toList) = true := by
  refine beq_of_data ?_
  rw [strip_append_whole a b h, Strip.quo_odd _ hq, data_append, quote_rest]

theorem odd_u (a b : ByteArray) (h : stripS a = a) (hq : ¬ Strip.quotes a.data.toList % 2 = 0) :
    ((stripS (a ++ ⟨#[35]⟩ ++ b)).toList == (a ++ ⟨#[35]⟩ ++ (stripS (⟨#[34]⟩ ++ b)).extract 1 (stripS (⟨#[34]⟩ ++ b)).size).toList) = true := by
  refine beq_of_data ?_
  rw [ByteArray.append_assoc, strip_append_whole a _ h, Strip.quo_odd _ hq, hash_data, ByteArray.append_assoc, data_append, hash_data, quote_rest]
  simp [Strip.cutAt]

/-! ### THE GUARD -/
theorem guard12_yes (a b : ByteArray) (w : World) (ha : a.size ≤ 524288) (hb : b.size ≤ 524288) : Calls Try.prog 12 #[.string a, .string b] w fun e w' => e = .returned (.bool true) ∧ w' = w := by
  go_enter Try.func12, Try.ntmps12
  go_wp2
  go_ret
  exact ⟨rfl, rfl⟩

/-! ### THE WALK, ONE THEOREM A WAY -/
set_option maxHeartbeats 400000 in
theorem join_cut (a b : ByteArray) (w : World) (ha : a.size ≤ 524288) (hb : b.size ≤ 524288) (hc : (stripS a).size < a.size) :
    Calls Try.prog 5 #[.string a, .string b] w fun e w' => e = .returned (.bool true) ∧ w' = w := by
  have hd1 : decide ((524288 : Int) < (a.size : Int)) = false := by simp; omega
  have hd2 : decide ((524288 : Int) < (b.size : Int)) = false := by simp; omega
  have h1 := cut_ne a hc
  have h3 := strip_prefix a
  obtain ⟨h4', h5'⟩ := strip_end a hc
  have h4 : (a[(stripS a).size].toNat : Int) = 35 := beq_iff_eq.1 h4'
  have h6 := strip_append_cut a b hc
  have h7 := strip_append_cut a (⟨#[35]⟩ ++ b) hc
  rw [← ByteArray.append_assoc] at h7
  have h5 : ((Strip.quotes (stripS a).data.toList : Int) % 2 != 0) = false := by simp; omega
  have hqb : (Strip.quotes (stripS a).data.toList : Int) ≤ 524288 := by
    have h := Strip.quotes_le (stripS a).data.toList
    rw [length_bytes] at h
    omega
  clear h4' h5'
  have m1 : a.size ≤ maxLen := by unfold maxLen; omega
  have m2 : (stripS a).size ≤ maxLen := by unfold maxLen; omega
  go_enter Try.func5, Try.ntmps5
  go_wp2_with (first
    | (go_at_call 12; refine (guard12_yes a b _ ha hb).mono ?_; rintro e w' ⟨rfl, rfl⟩)
    | (go_at_call 11; refine (zzstrip_calls _ _ ?_).mono ?_; (first | exact m1 | (simp only [maxLen, ByteArray.size_append', ByteArray.size_mk']; simp; omega)); rintro e w' ⟨rfl, rfl⟩)
    | (go_at_call 13; refine (quotes_calls _ _ m2).mono ?_; rintro e w' ⟨rfl, rfl⟩))
  go_ret
  exact ⟨rfl, rfl⟩

end Go.Proofs.Qxb6619705a
