/-
  THE WALK of (*Profile).Address.
-/
import Derived.Test.Qxb6619705aGuards
import Derived.Test.Qxb6619705aItem
import Derived.WalkLawsBesides
namespace Go.Proofs.Qxb6619705a
open Go.RowKit

/-- The items that lie in block g: n of them, four cells each. -/
def Items (w : World) (g n : Nat) (nm vl : Nat → ByteArray) (nu li : Nat → Int) : Prop :=
  ∀ k, k < n → w.cell? ⟨g, k * 4, none⟩ = some (.string (nm k)) ∧ w.cell? ⟨g, k * 4 + 1, none⟩ = some (.string (vl k)) ∧
    w.cell? ⟨g, k * 4 + 2, none⟩ = some (.int .u32 (nu k)) ∧ w.cell? ⟨g, k * 4 + 3, none⟩ = some (.int .i64 (li k))

def nms (nm : Nat → ByteArray) (k : Nat) : List UInt8 := (nm k).toList

theorem fold_framed (nm : Nat → ByteArray) (nu : Nat → Int) (k : Nat) (h : ((nm k).toList == [70, 114, 97, 109, 101, 100, 45, 73, 80, 45, 65, 100, 100, 114, 101, 115, 115]) = true) :
    Item.fold (nms nm) nu (k + 1) = (nu k, (Item.fold (nms nm) nu k).2) := by
  show Item.step _ _ _ = _
  unfold Item.step
  rw [if_pos (show (nms nm k == Item.framed) = true from h)]
theorem fold_pool (nm : Nat → ByteArray) (nu : Nat → Int) (k : Nat) (h : ((nm k).toList == [70, 114, 97, 109, 101, 100, 45, 73, 80, 45, 65, 100, 100, 114, 101, 115, 115]) = false)
    (h2 : ((nm k).toList == [65, 115, 99, 101, 110, 100, 45, 65, 115, 115, 105, 103, 110, 45, 73, 80, 45, 80, 111, 111, 108]) = true) :
    Item.fold (nms nm) nu (k + 1) = ((Item.fold (nms nm) nu k).1, true) := by
  show Item.step _ _ _ = _
  unfold Item.step
  rw [if_neg (fun e => by rw [show (nms nm k == Item.framed) = false from h] at e; cases e), if_pos (show (nms nm k == Item.pool) = true from h2)]
theorem fold_other (nm : Nat → ByteArray) (nu : Nat → Int) (k : Nat) (h : ((nm k).toList == [70, 114, 97, 109, 101, 100, 45, 73, 80, 45, 65, 100, 100, 114, 101, 115, 115]) = false)
    (h2 : ((nm k).toList == [65, 115, 99, 101, 110, 100, 45, 65, 115, 115, 105, 103, 110, 45, 73, 80, 45, 80, 111, 111, 108]) = false) :
    Item.fold (nms nm) nu (k + 1) = Item.fold (nms nm) nu k := by
  show Item.step _ _ _ = _
  unfold Item.step
  rw [if_neg (fun e => by rw [show (nms nm k == Item.framed) = false from h] at e; cases e), if_neg (fun e => by rw [show (nms nm k == Item.pool) = false from h2] at e; cases e)]

theorem ans_pool (x : Int × Bool) (h : (x.1 == 4294967294) = true) : Item.answer x = (0, true) := by unfold Item.answer; rw [if_pos h]
theorem ans_caller (x : Int × Bool) (h : (x.1 == 4294967294) = false) (h2 : (x.1 == 4294967295) = true) : Item.answer x = (0, x.2) := by
  unfold Item.answer; rw [if_neg (by rw [h]; simp), if_pos h2]
theorem ans_zero (x : Int × Bool) (h : (x.1 == 4294967294) = false) (h2 : (x.1 == 4294967295) = false) (h3 : (x.1 == 0) = true) : Item.answer x = (0, x.2) := by
  unfold Item.answer; rw [if_neg (by rw [h]; simp), if_neg (by rw [h2]; simp), if_pos h3]
theorem ans_own (x : Int × Bool) (h : (x.1 == 4294967294) = false) (h2 : (x.1 == 4294967295) = false) (h3 : (x.1 == 0) = false) : Item.answer x = (x.1, false) := by
  unfold Item.answer; rw [if_neg (by rw [h]; simp), if_neg (by rw [h2]; simp), if_neg (by rw [h3]; simp)]

theorem ret_pair {x : Int × Bool} {a : Int} {p : Bool} (h : x = (a, p)) : Ending.returned (.tuple #[.int .u32 a, .bool p]) = .returned (.tuple #[.int .u32 x.1, .bool x.2]) := by rw [h]

set_option maxHeartbeats 400000 in
/-- (*Profile).Address. -/
theorem address_any (bp g n cap : Nat) (nm vl : Nat → ByteArray) (nu li : Nat → Int) (w : World) (hn : n ≤ 65537) (hp : w.cell? ⟨bp, 3, none⟩ = some (.slice (some ⟨g, 0, none⟩) n cap)) (hg : g < w.heap.size)
    (hi : Items w g n nm vl nu li) :
    Calls Try.prog 9 #[.pointer (some ⟨bp, 0, none⟩)] w fun e w' =>
      e = .returned (.tuple #[.int .u32 (Item.answer (Item.fold (nms nm) nu n)).1, .bool (Item.answer (Item.fold (nms nm) nu n)).2]) ∧ Below w.heap.size w w' := by
  go_enter Try.func9, Try.ntmps9
  go_wp2
  go_loopw [2, 3, 11] (fun a p i wr => ∃ k : Nat, k ≤ n ∧ i = .int .i64 k ∧ a = .int .u32 (Item.fold (nms nm) nu k).1 ∧ p = .bool (Item.fold (nms nm) nu k).2 ∧ Below w.heap.size w wr) (fun _ _ i _ => n - (intOf i).toNat)
  case atStart => exact ⟨0, Nat.zero_le _, rfl, rfl, rfl, Below.refl _ _⟩
  case round =>
    obtain ⟨k, hk, rfl, rfl, rfl, hb⟩ := hrel
    by_cases hlt : k < n
    · obtain ⟨c0, c1, c2, c3⟩ := hi k hlt
      have d0 : wr.cell? ⟨g, k * 4, none⟩ = some (.string (nm k)) := (hb.cell (by exact hg)).trans c0
      have d1 : wr.cell? ⟨g, k * 4 + 1, none⟩ = some (.string (vl k)) := (hb.cell (by exact hg)).trans c1
      have d2 : wr.cell? ⟨g, k * 4 + 2, none⟩ = some (.int .u32 (nu k)) := (hb.cell (by exact hg)).trans c2
      have d3 : wr.cell? ⟨g, k * 4 + 3, none⟩ = some (.int .i64 (li k)) := (hb.cell (by exact hg)).trans c3
      clear c0 c1 c2 c3
      go_wp2
      · go_roundw
        case rel => exact ⟨k + 1, by omega, by go_num, by rw [fold_framed nm nu k ‹_›], by rw [fold_framed nm nu k ‹_›], hb.alloc (by exact hb.size) _⟩
        case measure => simp [intOf]; omega
      · go_roundw
        case rel => exact ⟨k + 1, by omega, by go_num, by rw [fold_pool nm nu k ‹_› ‹_›], by rw [fold_pool nm nu k ‹_› ‹_›], hb.alloc (by exact hb.size) _⟩
        case measure => simp [intOf]; omega
      · go_roundw
        case rel => exact ⟨k + 1, by omega, by go_num, by rw [fold_other nm nu k ‹_› ‹_›], by rw [fold_other nm nu k ‹_› ‹_›], hb.alloc (by exact hb.size) _⟩
        case measure => simp [intOf]; omega
    · obtain rfl : k = n := by omega
      go_wp2
      · go_ret2
        exact ⟨ret_pair (ans_pool _ ‹_›), hb⟩
      · go_ret2
        exact ⟨ret_pair (ans_caller _ ‹_› ‹_›), hb⟩
      · go_ret2
        exact ⟨ret_pair (ans_zero _ ‹_› ‹_› ‹_›), hb⟩
      · go_ret2
        exact ⟨ret_pair (ans_own _ ‹_› ‹_› ‹_›), hb⟩
end Go.Proofs.Qxb6619705a
