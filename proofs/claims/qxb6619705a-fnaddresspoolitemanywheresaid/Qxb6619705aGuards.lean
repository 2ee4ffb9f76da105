/-
  THE WALKS of the guards on sizes: zzb1StrBytes (14), zzb1RepliesTooBig (7), zzBytes_FnAddressPoolItemAnywhere (6). Of their numbers nothing is said: each returns, and the world stands.
-/
import Derived.Test.Qxb6619705aRows
import Derived.WalkKit
import Derived.WalkSpells
namespace Go.Proofs.Qxb6619705a
open Go.RowKit

/-- The slice that begins at a, of n elements of one cell each, holds f 0, f 1, .. (of an empty one nothing is said). -/
def SView (w : World) (a : Option Addr) (n : Nat) (f : Nat → Value) : Prop :=
  n = 0 ∨ ∃ b off, a = some ⟨b, off, none⟩ ∧ ∀ k, k < n → w.cell? ⟨b, off + k, none⟩ = some (f k)

set_option maxHeartbeats 400000 in
theorem strBytes_some (b off len cap : Nat) (total : Int) (ss : Nat → ByteArray) (w : World) (hm : len ≤ maxLen) (hc : ∀ k, k < len → w.cell? ⟨b, off + k, none⟩ = some (.string (ss k))) :
    Calls Try.prog 14 #[.slice (some ⟨b, off, none⟩) len cap, .int .i64 total] w fun e w' => (∃ r : Int, e = .returned (.int .i64 r)) ∧ w' = w := by
  unfold maxLen at hm
  go_enter Try.func14, Try.ntmps14
  go_wp2
  go_loop [1, 5] (fun t i => ∃ k : Nat, ∃ r : Int, k ≤ len ∧ i = .int .i64 k ∧ t = .int .i64 r) (fun _ i => len - (intOf i).toNat)
  case atStart => exact ⟨0, _, Nat.zero_le _, rfl, rfl⟩
  case round =>
    obtain ⟨k, r, hk, rfl, rfl⟩ := hrel
    by_cases hlt : k < len
    · have hcell := hc k hlt
      generalize ss k = s at hcell
      clear hc
      go_wp2
      · go_ret
        exact ⟨⟨_, rfl⟩, rfl⟩
      · go_round
        case rel => exact ⟨k + 1, _, by omega, by go_num, rfl⟩
        case measure => simp [intOf]; omega
    · go_wp2
      go_ret
      exact ⟨⟨_, rfl⟩, rfl⟩

theorem strBytes_none (a : Option Addr) (cap : Nat) (total : Int) (w : World) :
    Calls Try.prog 14 #[.slice a 0 cap, .int .i64 total] w fun e w' => (∃ r : Int, e = .returned (.int .i64 r)) ∧ w' = w := by
  go_enter Try.func14, Try.ntmps14
  go_wp2
  refine wp_loop_rounds 1 ?_; rw [rounds_succ]
  go_wp2
  go_ret
  exact ⟨⟨_, rfl⟩, rfl⟩

theorem strBytes_any (a : Option Addr) (len cap : Nat) (total : Int) (ss : Nat → ByteArray) (w : World) (hm : len ≤ maxLen) (hv : SView w a len fun k => .string (ss k)) :
    Calls Try.prog 14 #[.slice a len cap, .int .i64 total] w fun e w' => (∃ r : Int, e = .returned (.int .i64 r)) ∧ w' = w := by
  rcases hv with rfl | ⟨b, off, rfl, hc⟩
  · exact strBytes_none a cap total w
  · exact strBytes_some b off len cap total ss w hm hc

/-! ### zzb1RepliesTooBig -/
/-- All four lengths are small. -/
def Small4 (n0 n1 n2 n3 : Nat) : Prop := n0 ≤ 65536 ∧ n1 ≤ 65536 ∧ n2 ≤ 65536 ∧ n3 ≤ 65536
/-- A bool comes back; where it is false all four lengths are small. -/
def BigPost (n0 n1 n2 n3 : Nat) (e : Ending) : Prop := ∃ r : Bool, e = .returned (.bool r) ∧ (r = false → Small4 n0 n1 n2 n3)
/-- A bool comes back. -/
def RetBool (e : Ending) : Prop := ∃ r : Bool, e = .returned (.bool r)

set_option maxHeartbeats 400000 in
theorem tooBig_any (a0 a1 a2 a3 : Option Addr) (n0 n1 n2 n3 c0 c1 c2 c3 : Nat) (s0 s1 : Nat → ByteArray) (w : World) (m0 : n0 ≤ maxLen) (m1 : n1 ≤ maxLen) (m2 : n2 ≤ maxLen) (m3 : n3 ≤ maxLen)
    (v0 : SView w a0 n0 fun k => .string (s0 k)) (v1 : SView w a1 n1 fun k => .string (s1 k)) :
    Calls Try.prog 7 #[.slice a0 n0 c0, .slice a1 n1 c1, .slice a2 n2 c2, .slice a3 n3 c3] w fun e w' =>
      BigPost n0 n1 n2 n3 e ∧ w' = w := by
  by_cases h0 : n0 ≤ 65536
  · by_cases h1 : n1 ≤ 65536
    · by_cases h2 : n2 ≤ 65536
      · by_cases h3 : n3 ≤ 65536
        · go_enter Try.func7, Try.ntmps7
          go_wp2_with fail
          refine (strBytes_any a0 n0 c0 _ s0 _ m0 v0).mono ?_
          rintro e w' ⟨⟨r, rfl⟩, rfl⟩
          go_wp2_with fail
          · go_ret
            exact ⟨⟨_, rfl, fun _ => ⟨h0, h1, h2, h3⟩⟩, rfl⟩
          · refine (strBytes_any a1 n1 c1 _ s1 _ m1 v1).mono ?_
            rintro e w' ⟨⟨r, rfl⟩, rfl⟩
            go_wp2_with fail
            go_ret
            exact ⟨⟨_, rfl, fun _ => ⟨h0, h1, h2, h3⟩⟩, rfl⟩
        · unfold maxLen at m0 m1 m2 m3
          go_enter Try.func7, Try.ntmps7
          go_wp2
          go_ret
          exact ⟨⟨true, rfl, fun h => by cases h⟩, rfl⟩
      · unfold maxLen at m0 m1 m2 m3
        go_enter Try.func7, Try.ntmps7
        go_wp2
        go_ret
        exact ⟨⟨true, rfl, fun h => by cases h⟩, rfl⟩
    · unfold maxLen at m0 m1 m2 m3
      go_enter Try.func7, Try.ntmps7
      go_wp2
      go_ret
      exact ⟨⟨true, rfl, fun h => by cases h⟩, rfl⟩
  · unfold maxLen at m0 m1 m2 m3
    go_enter Try.func7, Try.ntmps7
    go_wp2
    go_ret
    exact ⟨⟨true, rfl, fun h => by cases h⟩, rfl⟩

/-! ### zzBytes_FnAddressPoolItemAnywhere -/
theorem SView.at {w : World} {a : Option Addr} {n : Nat} {f : Nat → Value} (h : SView w a n f) (k : Nat) (hk : k < n) : ∃ b off, a = some ⟨b, off, none⟩ ∧ w.cell? ⟨b, off + k, none⟩ = some (f k) := by
  rcases h with rfl | ⟨b, off, rfl, hc⟩
  · omega
  · exact ⟨b, off, rfl, hc k hk⟩

set_option maxHeartbeats 800000 in
theorem zzBytes_any (a0 a1 a2 a3 : Option Addr) (n0 n1 n2 n3 c0 c1 c2 c3 : Nat) (i : Int) (s0 s1 : Nat → ByteArray) (w : World) (m0 : n0 ≤ maxLen) (m1 : n1 ≤ maxLen)
    (v0 : SView w a0 n0 fun k => .string (s0 k)) (v1 : SView w a1 n1 fun k => .string (s1 k)) :
    Calls Try.prog 6 #[.slice a0 n0 c0, .slice a1 n1 c1, .slice a2 n2 c2, .slice a3 n3 c3, .int .i64 i] w fun e w' =>
      RetBool e ∧ w' = w := by
  unfold maxLen at m0 m1
  go_enter Try.func6, Try.ntmps6
  go_wp2
  · go_ret
    exact ⟨⟨_, rfl⟩, rfl⟩
  · go_loop [11, 12] (fun t i => ∃ k : Nat, ∃ r : Int, k ≤ n0 ∧ i = .int .i64 k ∧ t = .int .i64 r) (fun _ i => n0 - (intOf i).toNat)
    case atStart => exact ⟨0, _, Nat.zero_le _, rfl, rfl⟩
    case round =>
      obtain ⟨k, r, hk, rfl, rfl⟩ := hrel
      by_cases hlt : k < n0
      · obtain ⟨b, off, ha, hcell⟩ := v0.at k hlt
        generalize s0 k = s at hcell
        subst ha
        go_wp2
        · go_ret
          exact ⟨⟨_, rfl⟩, rfl⟩
        · go_ret
          exact ⟨⟨_, rfl⟩, rfl⟩
        · go_round
          case rel => exact ⟨k + 1, _, by omega, by go_num, rfl⟩
          case measure => simp [intOf]; omega
      · go_wp2
        · go_ret
          exact ⟨⟨_, rfl⟩, rfl⟩
        · go_ret
          exact ⟨⟨_, rfl⟩, rfl⟩
        · go_loop [11, 13] (fun t i => ∃ k : Nat, ∃ r : Int, k ≤ n1 ∧ i = .int .i64 k ∧ t = .int .i64 r) (fun _ i => n1 - (intOf i).toNat)
          case atStart => exact ⟨0, _, Nat.zero_le _, rfl, rfl⟩
          case round =>
            obtain ⟨k', r', hk', rfl, rfl⟩ := hrel
            by_cases hlt' : k' < n1
            · obtain ⟨b, off, ha, hcell⟩ := v1.at k' hlt'
              generalize s1 k' = s at hcell
              subst ha
              go_wp2
              · go_ret
                exact ⟨⟨_, rfl⟩, rfl⟩
              · go_ret
                exact ⟨⟨_, rfl⟩, rfl⟩
              · go_round
                case rel => exact ⟨k' + 1, _, by omega, by go_num, rfl⟩
                case measure => simp [intOf]; omega
            · go_wp2
              all_goals (go_ret; exact ⟨⟨_, rfl⟩, rfl⟩)

end Go.Proofs.Qxb6619705a
