/-
  THE WALKS of stripComment, ZZstripComment, zzb1Quotes and the two guards on lengths.
-/
import Derived.Test.Qxb6619705aRows
import Derived.Test.Qxb6619705aStrip
import Derived.WalkKit
import Derived.WalkSpells
namespace Go.Proofs.Qxb6619705a
open Go.RowKit

/-- What stripComment answers. -/
def stripS (s : ByteArray) : ByteArray := s.extract 0 (Strip.cutAt false s.data.toList)

theorem byteTake_snoc (s : ByteArray) (k : Nat) (h : k < s.size) : s.data.toList.take (k + 1) = s.data.toList.take k ++ [s[k]] := by
  rw [List.take_succ_eq_append_getElem (by simpa using h)]; rfl

theorem extract_all (s : ByteArray) : s.extract 0 s.size = s := by simp

theorem length_bytes (s : ByteArray) : s.data.toList.length = s.size := by simp

theorem strip_whole (s : ByteArray) (k : Nat) (hk : k ≤ s.size) (hge : ¬ k < s.size) (h : Strip.cutAt false (s.data.toList.take k) = k) : s = stripS s := by
  have hl := length_bytes s
  rw [List.take_of_length_le (by omega)] at h
  have e : k = s.size := by omega
  unfold stripS
  rw [h, e, extract_all]

theorem byte_eq (c : UInt8) (n : Nat) (hn : n < 256) (h : ((c.toNat : Int) == (n : Int)) = true) : c = UInt8.ofNat n := by
  have h' : c.toNat = n := by have := beq_iff_eq.1 h; omega
  apply UInt8.toNat_inj.1
  rw [h']
  simp [UInt8.toNat_ofNat']
  omega
theorem byte_ne (c : UInt8) (n : Nat) (h : ((c.toNat : Int) == (n : Int)) = false) : c ≠ UInt8.ofNat n ∨ 256 ≤ n := by
  by_cases hn : n < 256
  · left
    rintro rfl
    have := beq_eq_false_iff_ne.1 h
    simp [UInt8.toNat_ofNat'] at this
    omega
  · right; omega

/-- A quote: the state turns, nothing is cut. -/
theorem step_quote (s : ByteArray) (k : Nat) (hlt : k < s.size) (hc : Strip.cutAt false (s.data.toList.take k) = k) (h : ((s[k].toNat : Int) == 34) = true) :
    Strip.quo false (s.data.toList.take (k + 1)) = (!(Strip.quo false (s.data.toList.take k))) ∧ Strip.cutAt false (s.data.toList.take (k + 1)) = k + 1 := by
  have hb : s[k] = 34 := byte_eq _ 34 (by omega) h
  have hl : (s.data.toList.take k).length = k := by have := length_bytes s; simp; omega
  rw [byteTake_snoc s k hlt, Strip.quo_append, Strip.cutAt_append_eq _ _ _ (by omega), hl, hb]
  exact ⟨rfl, rfl⟩

/-- Neither a quote nor an open 35: all goes on. -/
theorem step_on (s : ByteArray) (k : Nat) (hlt : k < s.size) (hc : Strip.cutAt false (s.data.toList.take k) = k) (h : ((s[k].toNat : Int) == 34) = false)
    (h2 : ((s[k].toNat : Int) == 35) = false ∨ Strip.quo false (s.data.toList.take k) = true) :
    Strip.quo false (s.data.toList.take (k + 1)) = Strip.quo false (s.data.toList.take k) ∧ Strip.cutAt false (s.data.toList.take (k + 1)) = k + 1 := by
  have hb : s[k] ≠ 34 := by rcases byte_ne _ 34 h with h | h; exact h; omega
  have hl : (s.data.toList.take k).length = k := by have := length_bytes s; simp; omega
  rw [byteTake_snoc s k hlt, Strip.quo_append, Strip.cutAt_append_eq _ _ _ (by omega), hl, Strip.cutAt_one, if_neg hb]
  refine ⟨by simp [Strip.quo, hb], ?_⟩
  rw [if_neg]
  rintro ⟨e1, e2⟩
  rcases h2 with h2 | h2
  · rcases byte_ne _ 35 h2 with h | h
    · exact h e1
    · omega
  · rw [e2] at h2; cases h2

/-- An open 35: here is the cut. -/
theorem step_cut (s : ByteArray) (k : Nat) (hlt : k < s.size) (hc : Strip.cutAt false (s.data.toList.take k) = k)
    (h : ((s[k].toNat : Int) == 35) = true) (h2 : (!(Strip.quo false (s.data.toList.take k))) = true) : s.extract 0 k = stripS s := by
  have hb : s[k] = 35 := byte_eq _ 35 (by omega) h
  have hl : (s.data.toList.take k).length = k := by have := length_bytes s; simp; omega
  have hd : s.data.toList.drop k = s[k] :: s.data.toList.drop (k + 1) := List.drop_eq_getElem_cons (by have := length_bytes s; omega)
  have hq : Strip.quo false (s.data.toList.take k) = false := by simpa using h2
  have e := Strip.cutAt_append_eq (s.data.toList.take k) (s.data.toList.drop k) false (by omega)
  rw [List.take_append_drop, hl, hq, hd, hb] at e
  unfold stripS
  rw [e]
  rfl

theorem hid_mk {p : Prop} (h : p) : Hid p := h
theorem ret_string {a b : ByteArray} (h : a = b) : Ending.returned (.string a) = .returned (.string b) := by rw [h]
theorem ret_int {k : IntKind} {a b : Int} (h : a = b) : Ending.returned (.int k a) = .returned (.int k b) := by rw [h]

set_option maxHeartbeats 400000 in
/-- profile.stripComment. -/
theorem strip_calls (s : ByteArray) (w : World) (hs : s.size ≤ maxLen) :
    Calls Try.prog 15 #[.string s] w fun e w' => e = .returned (.string (stripS s)) ∧ w' = w := by
  unfold maxLen at hs
  go_enter Try.func15, Try.ntmps15
  go_wp2
  go_loop [3, 4] (fun q i => ∃ k : Nat, k ≤ s.size ∧ i = .int .i64 k ∧ q = .bool (Strip.quo false (s.data.toList.take k)) ∧ Hid (Strip.cutAt false (s.data.toList.take k) = k)) (fun _ i => s.size - (intOf i).toNat)
  case atStart => exact ⟨0, Nat.zero_le _, rfl, rfl, hid_mk rfl⟩
  case round =>
    obtain ⟨k, hk, rfl, rfl, HC⟩ := hrel
    by_cases hlt : k < s.size
    · go_wp2
      · go_round
        case rel => exact ⟨k + 1, by omega, by go_num, by rw [(step_quote s k hlt HC.out ‹_›).1], hid_mk (step_quote s k hlt HC.out ‹_›).2⟩
        case measure => simp [intOf]; omega
      · go_ret
        exact ⟨ret_string (step_cut s k hlt HC.out ‹_› ‹_›), rfl⟩
      · have hq : Strip.quo false (s.data.toList.take k) = true := by simpa using ‹(!Strip.quo false (s.data.toList.take k)) = false›
        go_round
        case rel => exact ⟨k + 1, by omega, by go_num, by rw [(step_on s k hlt HC.out ‹_› (Or.inr hq)).1], hid_mk (step_on s k hlt HC.out ‹_› (Or.inr hq)).2⟩
        case measure => simp [intOf]; omega
      · go_round
        case rel => exact ⟨k + 1, by omega, by go_num, by rw [(step_on s k hlt HC.out ‹_› (Or.inl ‹_›)).1], hid_mk (step_on s k hlt HC.out ‹_› (Or.inl ‹_›)).2⟩
        case measure => simp [intOf]; omega
    · go_wp2
      go_ret
      exact ⟨ret_string (strip_whole s k hk hlt HC.out), rfl⟩

/-- profile.ZZstripComment. -/
theorem zzstrip_calls (s : ByteArray) (w : World) (hs : s.size ≤ maxLen) :
    Calls Try.prog 11 #[.string s] w fun e w' => e = .returned (.string (stripS s)) ∧ w' = w := by
  go_enter Try.func11, Try.ntmps11
  go_wp2_with (go_at_call 15; refine (strip_calls s _ hs).mono ?_; rintro e w' ⟨rfl, rfl⟩)
  go_ret
  exact ⟨rfl, rfl⟩

end Go.Proofs.Qxb6619705a
