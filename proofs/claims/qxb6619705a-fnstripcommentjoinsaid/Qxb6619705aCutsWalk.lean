/-
  THE WALK of the law 'the cut is at the first 35 outside quotes'.
-/
import Derived.Test.Qxb6619705aStripWalks
import Derived.Lib.Strings
import Derived.WalkLawsBesides
namespace Go.Proofs.Qxb6619705a
open Go.RowKit

/-! ### THE PLAIN FACTS on r, what stripComment answers -/
theorem size_strip (s : ByteArray) : (stripS s).size = Strip.cutAt false s.data.toList := by
  have h1 := Strip.cutAt_le s.data.toList false
  have h2 := length_bytes s
  unfold stripS
  simp only [ByteArray.size_extract]
  omega

theorem list_strip (s : ByteArray) : (stripS s).data.toList = s.data.toList.take (Strip.cutAt false s.data.toList) := by
  unfold stripS
  rw [Lib.extract_data]
  simp

theorem strip_le (s : ByteArray) : (stripS s).size ≤ s.size := by
  have h1 := Strip.cutAt_le s.data.toList false
  have h2 := length_bytes s
  rw [size_strip]; omega

theorem strip_prefix (s : ByteArray) : ((s.extract 0 (stripS s).size).toList == (stripS s).toList) = true := by
  rw [size_strip]
  show ((stripS s).toList == (stripS s).toList) = true
  simp

theorem strip_nocut (s : ByteArray) (k : Nat) (hk : k < (stripS s).size) (h : (((stripS s)[k].toNat : Int) == 35) = true) : ¬ Strip.quotes ((stripS s).data.toList.take k) % 2 = 0 := by
  have hl := length_bytes (stripS s)
  refine Strip.no_cut _ ?_ k (by omega) (byte_eq _ 35 (by omega) h)
  rw [hl, size_strip, list_strip, Strip.cutAt_take]

theorem strip_end (s : ByteArray) (h : (stripS s).size < s.size) : ((s[(stripS s).size].toNat : Int) == 35) = true ∧ Strip.quotes (stripS s).data.toList % 2 = 0 := by
  have hl := length_bytes s
  have hs := size_strip s
  obtain ⟨h1, h2⟩ := Strip.at_cut s.data.toList false (by omega)
  refine ⟨?_, ?_⟩
  · have e : s[(stripS s).size] = s.data.toList[Strip.cutAt false s.data.toList]'(by omega) := by
      simp only [hs]; rfl
    rw [e, h1]; rfl
  · rw [list_strip]; exact Strip.even_of_quo _ h2

theorem quotes_step (r : ByteArray) (k : Nat) (hlt : k < r.size) : (Strip.quotes (r.data.toList.take (k + 1)) : Int) = Strip.quotes (r.data.toList.take k) + if ((r[k].toNat : Int) == 34) = true then 1 else 0 := by
  rw [byteTake_snoc r k hlt, Strip.quotes_append]
  by_cases h : ((r[k].toNat : Int) == 34) = true
  · have hb : r[k] = 34 := byte_eq _ 34 (by omega) h
    rw [if_pos h, hb]
    simp [Strip.quotes]
  · have hb : r[k] ≠ 34 := by rcases byte_ne _ 34 (by simpa using h) with h | h; exact h; omega
    rw [if_neg h]
    simp [Strip.quotes, hb]

theorem quotes_bound (r : ByteArray) (k : Nat) : (Strip.quotes (r.data.toList.take k) : Int) ≤ k := by
  have h1 := Strip.quotes_le (r.data.toList.take k)
  have h2 : (r.data.toList.take k).length ≤ k := List.length_take_le _ _
  omega

/-! ### THE GUARD ON THE LENGTH -/
theorem guard10_yes (s : ByteArray) (w : World) (h : s.size ≤ 1048576) : Calls Try.prog 10 #[.string s] w fun e w' => e = .returned (.bool true) ∧ w' = w := by
  go_enter Try.func10, Try.ntmps10
  go_wp2
  go_ret
  exact ⟨rfl, rfl⟩

/-! ### STEP 1: THE WALK -/
set_option maxHeartbeats 400000 in
theorem cuts_walk (a0 : ByteArray) (w0 : a0.size ≤ maxLen) (w : World) :
    Calls Try.prog 4 #[.string a0] w fun e w' => e = .returned (.bool true) ∧ Grown w w' := by
  by_cases hsz : a0.size ≤ 1048576
  · have hle := strip_le a0
    have hpre := strip_prefix a0
    have hnc := strip_nocut a0
    have hend := strip_end a0
    have hz := zzstrip_calls a0
    generalize hr : stripS a0 = r at *
    have Hnc : Hid (∀ (k : Nat) (hk : k < r.size), ((r[k].toNat : Int) == 35) = true → ¬ Strip.quotes (r.data.toList.take k) % 2 = 0) := hnc
    have Hend : Hid (∀ (h : r.size < a0.size), ((a0[r.size].toNat : Int) == 35) = true ∧ Strip.quotes r.data.toList % 2 = 0) := hend
    have Hz : Hid (∀ w : World, a0.size ≤ maxLen → Calls Try.prog 11 #[.string a0] w fun e w' => e = .returned (.string r) ∧ w' = w) := hz
    clear hnc hend hr hz
    have hd1 : decide ((1048576 : Int) < (a0.size : Int)) = false := by simp; omega
    have hd2 : decide (a0.size < r.size) = false := by simp; omega
    go_enter Try.func4, Try.ntmps4
    go_wp2_with (first | (go_at_call 10; refine (guard10_yes a0 _ hsz).mono ?_; rintro e w' ⟨rfl, rfl⟩) | (go_at_call 11; refine (Hz.out _ w0).mono ?_; rintro e w' ⟨rfl, rfl⟩))
    go_loop [4, 5] (fun q i => ∃ k : Nat, k ≤ r.size ∧ i = .int .i64 k ∧ q = .int .i64 (Strip.quotes (r.data.toList.take k))) (fun _ i => r.size - (intOf i).toNat)
    case atStart => exact ⟨0, Nat.zero_le _, rfl, rfl⟩
    case round =>
      obtain ⟨k, hk, rfl, rfl⟩ := hrel
      have hqb := quotes_bound r k
      by_cases hlt : k < r.size
      · have Hs := hid_mk (quotes_step r k hlt)
        have Hn := hid_mk (Hnc.out k hlt)
        go_wp2
        · have h34 : ((r[k].toNat : Int) == 34) = true := by assumption
          go_round
          case rel => exact ⟨k + 1, by omega, by go_num, by rw [Hs.out, if_pos h34]⟩
          case measure => simp [intOf]; omega
        · have h35 : (r[k].toNat : Int) = 35 := by assumption
          have hev : ((Strip.quotes (r.data.toList.take k) : Int) % 2 == 0) = true := by assumption
          have hev' := beq_iff_eq.1 hev
          exact absurd (by omega) (Hn.out (beq_iff_eq.2 h35))
        · have h34 : ¬ ((r[k].toNat : Int) == 34) = true := by simpa using ‹((r[k].toNat : Int) == 34) = false›
          go_round
          case rel => exact ⟨k + 1, by omega, by go_num, by rw [Hs.out, if_neg h34, Int.add_zero]⟩
          case measure => simp [intOf]; omega
        · have h34 : ¬ ((r[k].toNat : Int) == 34) = true := by simpa using ‹((r[k].toNat : Int) == 34) = false›
          go_round
          case rel => exact ⟨k + 1, by omega, by go_num, by rw [Hs.out, if_neg h34, Int.add_zero]⟩
          case measure => simp [intOf]; omega
      · by_cases hsame : r.size = a0.size
        · have hsb : ((r.size : Int) == (a0.size : Int)) = true := by rw [hsame]; simp
          clear hsame
          go_wp2
          go_ret
          exact ⟨rfl, by repeat (first | exact Grown.refl _ | apply Grown.drew | apply Grown.alloc)⟩
        · have hsb : ((r.size : Int) == (a0.size : Int)) = false := by simp; omega
          have hlt2 : r.size < a0.size := by omega
          obtain ⟨he1, he2⟩ := Hend.out hlt2
          have he1' : (a0[r.size].toNat : Int) = 35 := beq_iff_eq.1 he1
          have hev : ((Strip.quotes (r.data.toList.take k) : Int) % 2 == 0) = true := by
            have hl := length_bytes r
            rw [List.take_of_length_le (by omega), beq_iff_eq]
            omega
          clear hsame he1 he2
          go_wp2
          go_ret
          exact ⟨rfl, by repeat (first | exact Grown.refl _ | apply Grown.drew | apply Grown.alloc)⟩
  · go_enter Try.func4, Try.ntmps4
    go_wp2
    go_ret
    exact ⟨rfl, by repeat (first | exact Grown.refl _ | apply Grown.drew | apply Grown.alloc)⟩

end Go.Proofs.Qxb6619705a
