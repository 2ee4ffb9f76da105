/-
  THE WALKS of mkPrevB1, action.Next and sameAlertB1.
-/
import Derived.Test.Qxb6617365aRows
import Derived.WalkKit
import Derived.WalkSpells
import Derived.WalkLawsBesides
import Derived.Deep.QuietTactic
import Derived.BigQuiet
import Derived.LaidEqlPtr
import Derived.Laws.Rows
namespace Go.Proofs.Qxb6617365a
open Go.RowKit

/-- The texts. -/
def lOn : List UInt8 := [111, 110]
def lDry : List UInt8 := [100, 114, 121, 45, 114, 117, 110]
def lPass : List UInt8 := [112, 97, 115, 115]
def lSkip : List UInt8 := [115, 107, 105, 112]
def lFail : List UInt8 := [102, 97, 105, 108]
def bDry : ByteArray := ⟨#[100, 114, 121, 45, 114, 117, 110]⟩
def bOpen : ByteArray := ⟨#[111, 112, 101, 110]⟩

/-- An alert without a notice, in its variable. -/
def alert (st : ByteArray) : Obj := .cells #[.pointer none, .string st] 31

/-- The record before: none, or one whose state lies in its second cell. -/
def Prev (w : World) (v : Value) : Prop := v = .pointer none ∨ ∃ b st, v = .pointer (some ⟨b, 0, none⟩) ∧ w.cell? ⟨b, 1, none⟩ = some (.string st) ∧ ∃ C t, w.heap[b]? = some (.cells C t (0, 0))

set_option maxHeartbeats 400000 in
theorem mkPrev_calls (h i : Bool) (n : Int) (s : ByteArray) (w : World) :
    Calls Try.prog 6 #[.bool h, .bool i, .int .u64 n, .string s] w fun e w' => (∃ v, e = .returned v ∧ Prev w' v) ∧ Below w.heap.size w w' := by
  cases h
  · go_enter Try.func6, Try.ntmps6
    go_wp2
    go_ret
    exact ⟨⟨_, rfl, .inl rfl⟩, Below.refl _ _⟩
  · cases i
    · go_enter Try.func6, Try.ntmps6
      go_wp2
      go_ret
      exact ⟨⟨_, rfl, .inr ⟨w.heap.size, s, rfl, by simp, _, _, heap_alloc_new w _⟩⟩, (Below.refl _ _).alloc (Nat.le_refl _) _⟩
    · go_enter Try.func6, Try.ntmps6
      go_wp2
      go_ret
      refine ⟨⟨_, rfl, .inr ⟨w.heap.size, s, rfl, ?_, ?_⟩⟩, ?_⟩
      · simp
      · exact ⟨_, _, heap_alloc2_old w _ _⟩
      · exact ((Below.refl _ _).alloc (Nat.le_refl _) _).alloc (by simp) _

/-! ### action.Next: a fail in a dry run, whatever the record before -/
set_option maxHeartbeats 400000 in
theorem next_mark (v : Value) (w : World) (hv : Prev w v) :
    Calls Try.prog 7 #[.string ⟨#[100, 114, 121, 45, 114, 117, 110]⟩, .string ⟨#[102, 97, 105, 108]⟩, v] w fun e w' =>
      e = .returned (.tuple #[.pointer (some ⟨w.heap.size, 0, none⟩), .int .i64 0]) ∧ w' = w.alloc (alert bDry) := by
  rcases hv with rfl | ⟨b, st, rfl, hc, -⟩
  · go_enter Try.func7, Try.ntmps7
    go_wp2
    go_ret2
    exact ⟨rfl, rfl⟩
  · by_cases h1 : (st.toList == [111, 112, 101, 110]) = true
    · by_cases h2 : (st.toList == [100, 114, 121, 45, 114, 117, 110]) = true
      · go_enter Try.func7, Try.ntmps7
        go_wp2
        go_ret2
        exact ⟨rfl, rfl⟩
      · have h2' : (st.toList == [100, 114, 121, 45, 114, 117, 110]) = false := by simpa using h2
        go_enter Try.func7, Try.ntmps7
        go_wp2
        go_ret2
        exact ⟨rfl, rfl⟩
    · have h1' : (st.toList == [111, 112, 101, 110]) = false := by simpa using h1
      by_cases h2 : (st.toList == [100, 114, 121, 45, 114, 117, 110]) = true
      · go_enter Try.func7, Try.ntmps7
        go_wp2
        go_ret2
        exact ⟨rfl, rfl⟩
      · have h2' : (st.toList == [100, 114, 121, 45, 114, 117, 110]) = false := by simpa using h2
        go_enter Try.func7, Try.ntmps7
        go_wp2
        go_ret2
        exact ⟨rfl, rfl⟩

end Go.Proofs.Qxb6617365a
