/-
  THE WALKS of action.Next: every mode and every result, on no record and on a dry run's mark.
-/
import Derived.Test.Qxb6617365aNext
namespace Go.Proofs.Qxb6617365a
open Go.RowKit
set_option linter.unusedVariables false

set_option maxHeartbeats 400000 in
theorem next_npu (m r : ByteArray) (w : World) (mo : (m.toList == [111, 110]) = true) (md : (m.toList == [100, 114, 121, 45, 114, 117, 110]) = false) (rp : (r.toList == [112, 97, 115, 115]) = true) (rs : (r.toList == [115, 107, 105, 112]) = false) (rf : (r.toList == [102, 97, 105, 108]) = false) :
    Calls Try.prog 7 #[.string m, .string r, .pointer none] w fun e w' => e = .returned (.tuple #[.pointer none, .int .i64 0]) ∧ w' = w := by
  go_enter Try.func7, Try.ntmps7
  go_wp2
  go_ret2
  exact ⟨rfl, rfl⟩

set_option maxHeartbeats 400000 in
theorem next_npk (g : Nat) (m r : ByteArray) (w : World) (hc : w.cell? ⟨g, 1, none⟩ = some (.string ⟨#[100, 114, 121, 45, 114, 117, 110]⟩)) (mo : (m.toList == [111, 110]) = true) (md : (m.toList == [100, 114, 121, 45, 114, 117, 110]) = false) (rp : (r.toList == [112, 97, 115, 115]) = true) (rs : (r.toList == [115, 107, 105, 112]) = false) (rf : (r.toList == [102, 97, 105, 108]) = false) :
    Calls Try.prog 7 #[.string m, .string r, .pointer (some ⟨g, 0, none⟩)] w fun e w' => e = .returned (.tuple #[.pointer none, .int .i64 0]) ∧ w' = w := by
  go_enter Try.func7, Try.ntmps7
  go_wp2
  go_ret2
  exact ⟨rfl, rfl⟩

set_option maxHeartbeats 400000 in
theorem next_nsu (m r : ByteArray) (w : World) (mo : (m.toList == [111, 110]) = true) (md : (m.toList == [100, 114, 121, 45, 114, 117, 110]) = false) (rp : (r.toList == [112, 97, 115, 115]) = false) (rs : (r.toList == [115, 107, 105, 112]) = true) (rf : (r.toList == [102, 97, 105, 108]) = false) :
    Calls Try.prog 7 #[.string m, .string r, .pointer none] w fun e w' => e = .returned (.tuple #[.pointer none, .int .i64 0]) ∧ w' = w := by
  go_enter Try.func7, Try.ntmps7
  go_wp2
  go_ret2
  exact ⟨rfl, rfl⟩

set_option maxHeartbeats 400000 in
theorem next_nsk (g : Nat) (m r : ByteArray) (w : World) (hc : w.cell? ⟨g, 1, none⟩ = some (.string ⟨#[100, 114, 121, 45, 114, 117, 110]⟩)) (mo : (m.toList == [111, 110]) = true) (md : (m.toList == [100, 114, 121, 45, 114, 117, 110]) = false) (rp : (r.toList == [112, 97, 115, 115]) = false) (rs : (r.toList == [115, 107, 105, 112]) = true) (rf : (r.toList == [102, 97, 105, 108]) = false) :
    Calls Try.prog 7 #[.string m, .string r, .pointer (some ⟨g, 0, none⟩)] w fun e w' => e = .returned (.tuple #[.pointer none, .int .i64 0]) ∧ w' = w := by
  go_enter Try.func7, Try.ntmps7
  go_wp2
  go_ret2
  exact ⟨rfl, rfl⟩

set_option maxHeartbeats 400000 in
theorem next_nfu (m r : ByteArray) (w : World) (mo : (m.toList == [111, 110]) = true) (md : (m.toList == [100, 114, 121, 45, 114, 117, 110]) = false) (rp : (r.toList == [112, 97, 115, 115]) = false) (rs : (r.toList == [115, 107, 105, 112]) = false) (rf : (r.toList == [102, 97, 105, 108]) = true) :
    Calls Try.prog 7 #[.string m, .string r, .pointer none] w fun e w' => e = .returned (.tuple #[.pointer (some ⟨w.heap.size, 0, none⟩), .int .i64 1]) ∧ w' = w.alloc (alert bOpen) := by
  go_enter Try.func7, Try.ntmps7
  go_wp2
  go_ret2
  exact ⟨rfl, rfl⟩

set_option maxHeartbeats 400000 in
theorem next_nfk (g : Nat) (m r : ByteArray) (w : World) (hc : w.cell? ⟨g, 1, none⟩ = some (.string ⟨#[100, 114, 121, 45, 114, 117, 110]⟩)) (mo : (m.toList == [111, 110]) = true) (md : (m.toList == [100, 114, 121, 45, 114, 117, 110]) = false) (rp : (r.toList == [112, 97, 115, 115]) = false) (rs : (r.toList == [115, 107, 105, 112]) = false) (rf : (r.toList == [102, 97, 105, 108]) = true) :
    Calls Try.prog 7 #[.string m, .string r, .pointer (some ⟨g, 0, none⟩)] w fun e w' => e = .returned (.tuple #[.pointer (some ⟨w.heap.size, 0, none⟩), .int .i64 1]) ∧ w' = w.alloc (alert bOpen) := by
  go_enter Try.func7, Try.ntmps7
  go_wp2
  go_ret2
  exact ⟨rfl, rfl⟩

set_option maxHeartbeats 400000 in
theorem next_nzu (m r : ByteArray) (w : World) (mo : (m.toList == [111, 110]) = true) (md : (m.toList == [100, 114, 121, 45, 114, 117, 110]) = false) (rp : (r.toList == [112, 97, 115, 115]) = false) (rs : (r.toList == [115, 107, 105, 112]) = false) (rf : (r.toList == [102, 97, 105, 108]) = false) :
    Calls Try.prog 7 #[.string m, .string r, .pointer none] w fun e w' => e = .returned (.tuple #[.pointer none, .int .i64 0]) ∧ w' = w := by
  go_enter Try.func7, Try.ntmps7
  go_wp2
  go_ret2
  exact ⟨rfl, rfl⟩

set_option maxHeartbeats 400000 in
theorem next_nzk (g : Nat) (m r : ByteArray) (w : World) (hc : w.cell? ⟨g, 1, none⟩ = some (.string ⟨#[100, 114, 121, 45, 114, 117, 110]⟩)) (mo : (m.toList == [111, 110]) = true) (md : (m.toList == [100, 114, 121, 45, 114, 117, 110]) = false) (rp : (r.toList == [112, 97, 115, 115]) = false) (rs : (r.toList == [115, 107, 105, 112]) = false) (rf : (r.toList == [102, 97, 105, 108]) = false) :
    Calls Try.prog 7 #[.string m, .string r, .pointer (some ⟨g, 0, none⟩)] w fun e w' => e = .returned (.tuple #[.pointer none, .int .i64 0]) ∧ w' = w := by
  go_enter Try.func7, Try.ntmps7
  go_wp2
  go_ret2
  exact ⟨rfl, rfl⟩

set_option maxHeartbeats 400000 in
theorem next_dpu (m r : ByteArray) (w : World) (mo : (m.toList == [111, 110]) = false) (md : (m.toList == [100, 114, 121, 45, 114, 117, 110]) = true) (rp : (r.toList == [112, 97, 115, 115]) = true) (rs : (r.toList == [115, 107, 105, 112]) = false) (rf : (r.toList == [102, 97, 105, 108]) = false) :
    Calls Try.prog 7 #[.string m, .string r, .pointer none] w fun e w' => e = .returned (.tuple #[.pointer none, .int .i64 0]) ∧ w' = w := by
  go_enter Try.func7, Try.ntmps7
  go_wp2
  go_ret2
  exact ⟨rfl, rfl⟩

set_option maxHeartbeats 400000 in
theorem next_dpk (g : Nat) (m r : ByteArray) (w : World) (hc : w.cell? ⟨g, 1, none⟩ = some (.string ⟨#[100, 114, 121, 45, 114, 117, 110]⟩)) (mo : (m.toList == [111, 110]) = false) (md : (m.toList == [100, 114, 121, 45, 114, 117, 110]) = true) (rp : (r.toList == [112, 97, 115, 115]) = true) (rs : (r.toList == [115, 107, 105, 112]) = false) (rf : (r.toList == [102, 97, 105, 108]) = false) :
    Calls Try.prog 7 #[.string m, .string r, .pointer (some ⟨g, 0, none⟩)] w fun e w' => e = .returned (.tuple #[.pointer none, .int .i64 0]) ∧ w' = w := by
  go_enter Try.func7, Try.ntmps7
  go_wp2
  go_ret2
  exact ⟨rfl, rfl⟩

set_option maxHeartbeats 400000 in
theorem next_dsu (m r : ByteArray) (w : World) (mo : (m.toList == [111, 110]) = false) (md : (m.toList == [100, 114, 121, 45, 114, 117, 110]) = true) (rp : (r.toList == [112, 97, 115, 115]) = false) (rs : (r.toList == [115, 107, 105, 112]) = true) (rf : (r.toList == [102, 97, 105, 108]) = false) :
    Calls Try.prog 7 #[.string m, .string r, .pointer none] w fun e w' => e = .returned (.tuple #[.pointer none, .int .i64 0]) ∧ w' = w := by
  go_enter Try.func7, Try.ntmps7
  go_wp2
  go_ret2
  exact ⟨rfl, rfl⟩

set_option maxHeartbeats 400000 in
theorem next_dsk (g : Nat) (m r : ByteArray) (w : World) (hc : w.cell? ⟨g, 1, none⟩ = some (.string ⟨#[100, 114, 121, 45, 114, 117, 110]⟩)) (mo : (m.toList == [111, 110]) = false) (md : (m.toList == [100, 114, 121, 45, 114, 117, 110]) = true) (rp : (r.toList == [112, 97, 115, 115]) = false) (rs : (r.toList == [115, 107, 105, 112]) = true) (rf : (r.toList == [102, 97, 105, 108]) = false) :
    Calls Try.prog 7 #[.string m, .string r, .pointer (some ⟨g, 0, none⟩)] w fun e w' => e = .returned (.tuple #[.pointer none, .int .i64 0]) ∧ w' = w := by
  go_enter Try.func7, Try.ntmps7
  go_wp2
  go_ret2
  exact ⟨rfl, rfl⟩

set_option maxHeartbeats 400000 in
theorem next_dfu (m r : ByteArray) (w : World) (mo : (m.toList == [111, 110]) = false) (md : (m.toList == [100, 114, 121, 45, 114, 117, 110]) = true) (rp : (r.toList == [112, 97, 115, 115]) = false) (rs : (r.toList == [115, 107, 105, 112]) = false) (rf : (r.toList == [102, 97, 105, 108]) = true) :
    Calls Try.prog 7 #[.string m, .string r, .pointer none] w fun e w' => e = .returned (.tuple #[.pointer (some ⟨w.heap.size, 0, none⟩), .int .i64 0]) ∧ w' = w.alloc (alert bDry) := by
  go_enter Try.func7, Try.ntmps7
  go_wp2
  go_ret2
  exact ⟨rfl, rfl⟩

set_option maxHeartbeats 400000 in
theorem next_dfk (g : Nat) (m r : ByteArray) (w : World) (hc : w.cell? ⟨g, 1, none⟩ = some (.string ⟨#[100, 114, 121, 45, 114, 117, 110]⟩)) (mo : (m.toList == [111, 110]) = false) (md : (m.toList == [100, 114, 121, 45, 114, 117, 110]) = true) (rp : (r.toList == [112, 97, 115, 115]) = false) (rs : (r.toList == [115, 107, 105, 112]) = false) (rf : (r.toList == [102, 97, 105, 108]) = true) :
    Calls Try.prog 7 #[.string m, .string r, .pointer (some ⟨g, 0, none⟩)] w fun e w' => e = .returned (.tuple #[.pointer (some ⟨w.heap.size, 0, none⟩), .int .i64 0]) ∧ w' = w.alloc (alert bDry) := by
  go_enter Try.func7, Try.ntmps7
  go_wp2
  go_ret2
  exact ⟨rfl, rfl⟩

set_option maxHeartbeats 400000 in
theorem next_dzu (m r : ByteArray) (w : World) (mo : (m.toList == [111, 110]) = false) (md : (m.toList == [100, 114, 121, 45, 114, 117, 110]) = true) (rp : (r.toList == [112, 97, 115, 115]) = false) (rs : (r.toList == [115, 107, 105, 112]) = false) (rf : (r.toList == [102, 97, 105, 108]) = false) :
    Calls Try.prog 7 #[.string m, .string r, .pointer none] w fun e w' => e = .returned (.tuple #[.pointer none, .int .i64 0]) ∧ w' = w := by
  go_enter Try.func7, Try.ntmps7
  go_wp2
  go_ret2
  exact ⟨rfl, rfl⟩

set_option maxHeartbeats 400000 in
theorem next_dzk (g : Nat) (m r : ByteArray) (w : World) (hc : w.cell? ⟨g, 1, none⟩ = some (.string ⟨#[100, 114, 121, 45, 114, 117, 110]⟩)) (mo : (m.toList == [111, 110]) = false) (md : (m.toList == [100, 114, 121, 45, 114, 117, 110]) = true) (rp : (r.toList == [112, 97, 115, 115]) = false) (rs : (r.toList == [115, 107, 105, 112]) = false) (rf : (r.toList == [102, 97, 105, 108]) = false) :
    Calls Try.prog 7 #[.string m, .string r, .pointer (some ⟨g, 0, none⟩)] w fun e w' => e = .returned (.tuple #[.pointer (some ⟨g, 0, none⟩), .int .i64 0]) ∧ w' = w := by
  go_enter Try.func7, Try.ntmps7
  go_wp2
  go_ret2
  exact ⟨rfl, rfl⟩

set_option maxHeartbeats 400000 in
theorem next_opu (m r : ByteArray) (w : World) (mo : (m.toList == [111, 110]) = false) (md : (m.toList == [100, 114, 121, 45, 114, 117, 110]) = false) (rp : (r.toList == [112, 97, 115, 115]) = true) (rs : (r.toList == [115, 107, 105, 112]) = false) (rf : (r.toList == [102, 97, 105, 108]) = false) :
    Calls Try.prog 7 #[.string m, .string r, .pointer none] w fun e w' => e = .returned (.tuple #[.pointer none, .int .i64 0]) ∧ w' = w := by
  go_enter Try.func7, Try.ntmps7
  go_wp2
  go_ret2
  exact ⟨rfl, rfl⟩

set_option maxHeartbeats 400000 in
theorem next_opk (g : Nat) (m r : ByteArray) (w : World) (hc : w.cell? ⟨g, 1, none⟩ = some (.string ⟨#[100, 114, 121, 45, 114, 117, 110]⟩)) (mo : (m.toList == [111, 110]) = false) (md : (m.toList == [100, 114, 121, 45, 114, 117, 110]) = false) (rp : (r.toList == [112, 97, 115, 115]) = true) (rs : (r.toList == [115, 107, 105, 112]) = false) (rf : (r.toList == [102, 97, 105, 108]) = false) :
    Calls Try.prog 7 #[.string m, .string r, .pointer (some ⟨g, 0, none⟩)] w fun e w' => e = .returned (.tuple #[.pointer none, .int .i64 0]) ∧ w' = w := by
  go_enter Try.func7, Try.ntmps7
  go_wp2
  go_ret2
  exact ⟨rfl, rfl⟩

set_option maxHeartbeats 400000 in
theorem next_osu (m r : ByteArray) (w : World) (mo : (m.toList == [111, 110]) = false) (md : (m.toList == [100, 114, 121, 45, 114, 117, 110]) = false) (rp : (r.toList == [112, 97, 115, 115]) = false) (rs : (r.toList == [115, 107, 105, 112]) = true) (rf : (r.toList == [102, 97, 105, 108]) = false) :
    Calls Try.prog 7 #[.string m, .string r, .pointer none] w fun e w' => e = .returned (.tuple #[.pointer none, .int .i64 0]) ∧ w' = w := by
  go_enter Try.func7, Try.ntmps7
  go_wp2
  go_ret2
  exact ⟨rfl, rfl⟩

set_option maxHeartbeats 400000 in
theorem next_osk (g : Nat) (m r : ByteArray) (w : World) (hc : w.cell? ⟨g, 1, none⟩ = some (.string ⟨#[100, 114, 121, 45, 114, 117, 110]⟩)) (mo : (m.toList == [111, 110]) = false) (md : (m.toList == [100, 114, 121, 45, 114, 117, 110]) = false) (rp : (r.toList == [112, 97, 115, 115]) = false) (rs : (r.toList == [115, 107, 105, 112]) = true) (rf : (r.toList == [102, 97, 105, 108]) = false) :
    Calls Try.prog 7 #[.string m, .string r, .pointer (some ⟨g, 0, none⟩)] w fun e w' => e = .returned (.tuple #[.pointer none, .int .i64 0]) ∧ w' = w := by
  go_enter Try.func7, Try.ntmps7
  go_wp2
  go_ret2
  exact ⟨rfl, rfl⟩

set_option maxHeartbeats 400000 in
theorem next_ofu (m r : ByteArray) (w : World) (mo : (m.toList == [111, 110]) = false) (md : (m.toList == [100, 114, 121, 45, 114, 117, 110]) = false) (rp : (r.toList == [112, 97, 115, 115]) = false) (rs : (r.toList == [115, 107, 105, 112]) = false) (rf : (r.toList == [102, 97, 105, 108]) = true) :
    Calls Try.prog 7 #[.string m, .string r, .pointer none] w fun e w' => e = .returned (.tuple #[.pointer none, .int .i64 0]) ∧ w' = w := by
  go_enter Try.func7, Try.ntmps7
  go_wp2
  go_ret2
  exact ⟨rfl, rfl⟩

set_option maxHeartbeats 400000 in
theorem next_ofk (g : Nat) (m r : ByteArray) (w : World) (hc : w.cell? ⟨g, 1, none⟩ = some (.string ⟨#[100, 114, 121, 45, 114, 117, 110]⟩)) (mo : (m.toList == [111, 110]) = false) (md : (m.toList == [100, 114, 121, 45, 114, 117, 110]) = false) (rp : (r.toList == [112, 97, 115, 115]) = false) (rs : (r.toList == [115, 107, 105, 112]) = false) (rf : (r.toList == [102, 97, 105, 108]) = true) :
    Calls Try.prog 7 #[.string m, .string r, .pointer (some ⟨g, 0, none⟩)] w fun e w' => e = .returned (.tuple #[.pointer none, .int .i64 0]) ∧ w' = w := by
  go_enter Try.func7, Try.ntmps7
  go_wp2
  go_ret2
  exact ⟨rfl, rfl⟩

set_option maxHeartbeats 400000 in
theorem next_ozu (m r : ByteArray) (w : World) (mo : (m.toList == [111, 110]) = false) (md : (m.toList == [100, 114, 121, 45, 114, 117, 110]) = false) (rp : (r.toList == [112, 97, 115, 115]) = false) (rs : (r.toList == [115, 107, 105, 112]) = false) (rf : (r.toList == [102, 97, 105, 108]) = false) :
    Calls Try.prog 7 #[.string m, .string r, .pointer none] w fun e w' => e = .returned (.tuple #[.pointer none, .int .i64 0]) ∧ w' = w := by
  go_enter Try.func7, Try.ntmps7
  go_wp2
  go_ret2
  exact ⟨rfl, rfl⟩

set_option maxHeartbeats 400000 in
theorem next_ozk (g : Nat) (m r : ByteArray) (w : World) (hc : w.cell? ⟨g, 1, none⟩ = some (.string ⟨#[100, 114, 121, 45, 114, 117, 110]⟩)) (mo : (m.toList == [111, 110]) = false) (md : (m.toList == [100, 114, 121, 45, 114, 117, 110]) = false) (rp : (r.toList == [112, 97, 115, 115]) = false) (rs : (r.toList == [115, 107, 105, 112]) = false) (rf : (r.toList == [102, 97, 105, 108]) = false) :
    Calls Try.prog 7 #[.string m, .string r, .pointer (some ⟨g, 0, none⟩)] w fun e w' => e = .returned (.tuple #[.pointer none, .int .i64 0]) ∧ w' = w := by
  go_enter Try.func7, Try.ntmps7
  go_wp2
  go_ret2
  exact ⟨rfl, rfl⟩

/-! ### sameAlertB1 -/
set_option maxHeartbeats 400000 in
theorem same_nil (w : World) : Calls Try.prog 9 #[.pointer none, .pointer none] w fun e w' => e = .returned (.bool true) ∧ w' = w := by
  go_enter Try.func9, Try.ntmps9
  go_wp2
  go_ret
  exact ⟨rfl, rfl⟩

set_option maxHeartbeats 400000 in
theorem same_two (g1 g2 : Nat) (st : ByteArray) (w : World) (a0 : w.cell? ⟨g1, 0, none⟩ = some (.pointer none)) (a1 : w.cell? ⟨g1, 1, none⟩ = some (.string st)) (b0 : w.cell? ⟨g2, 0, none⟩ = some (.pointer none)) (b1 : w.cell? ⟨g2, 1, none⟩ = some (.string st)) :
    Calls Try.prog 9 #[.pointer (some ⟨g1, 0, none⟩), .pointer (some ⟨g2, 0, none⟩)] w fun e w' => e = .returned (.bool true) ∧ Below w.heap.size w w' := by
  go_enter Try.func9, Try.ntmps9
  go_wp2
  go_quiet (fail)
  go_wp2
  go_ret
  exact ⟨rfl, below_drewN (Below.refl _ _) _⟩

end Go.Proofs.Qxb6617365a
