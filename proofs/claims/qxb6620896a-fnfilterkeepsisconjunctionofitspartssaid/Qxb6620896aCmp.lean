/-
  THE WALKS of bytes.Compare and uuid.Compare.
-/
import Derived.Test.Qxb6620896aRows
import Derived.WalkKit
import Derived.WalkSpells
import Derived.WalkLawsBesides
import Derived.Deep.MidRow
import Derived.Deep.QuietTactic
import Derived.BigQuiet
import Derived.Lib.BytesEntry
import Derived.Lib.Bytealg
import Derived.Laws.Externs
import Derived.Stop.BytesEq
namespace Go.Proofs.Qxb6620896a
open Go.RowKit
open Extern.Stop (cell)

theorem bytesOf_nums (xs : List UInt8) : Lib.bytesOf (xs.map fun u => (u.toNat : Int)) = xs := by
  unfold Lib.bytesOf
  rw [List.map_map]
  conv => rhs; rw [← List.map_id xs]
  apply List.map_congr_left
  intro u _
  simp

theorem run_bytesOf (xs : List UInt8) (b o c : Nat) (w : World) (h : w.rangeAt b o (xs.map cell)) : (Extern.Bytes.bytesOf (.slice (some ⟨b, o, none⟩) xs.length c)).run Try.prog w = .ok ⟨xs.toArray⟩ w := by
  unfold Extern.Bytes.bytesOf
  have e := Lib.run_loadBytesX (P := Try.prog) w (xs.map fun u => (u.toNat : Int)) ⟨b, o, none⟩ .empty (fun j x hx => by
    rw [Addr.add_mid]
    rw [List.getElem?_map, Option.map_eq_some_iff] at hx
    obtain ⟨u, hu, rfl⟩ := hx
    refine h j (cell u) ?_
    rw [List.getElem?_map, hu]; rfl)
  rw [bytesOf_nums] at e
  simpa using e

theorem run_compare (xs ys : List UInt8) (b0 o0 c0 b1 o1 c1 : Nat) (w : World) (h0 : w.rangeAt b0 o0 (xs.map cell)) (h1 : w.rangeAt b1 o1 (ys.map cell)) :
    (Extern.BytealgCompare.compare #[.slice (some ⟨b0, o0, none⟩) xs.length c0, .slice (some ⟨b1, o1, none⟩) ys.length c1]).run Try.prog w = .ok (.int .i64 (Lib.compareBytes xs ys)) w := by
  change Sem.run Try.prog (do pure (goInt (Extern.BytealgCompare.cmp (← Extern.Bytes.bytesOf (.slice (some ⟨b0, o0, none⟩) xs.length c0)) (← Extern.Bytes.bytesOf (.slice (some ⟨b1, o1, none⟩) ys.length c1))))) w = _
  simp only [Sem.run_bind, Sem.run_pure, run_bytesOf xs b0 o0 c0 w h0, run_bytesOf ys b1 o1 c1 w h1, Result.andThen]
  rw [Lib.cmp_eq]
  rfl

set_option maxHeartbeats 400000 in
set_option maxRecDepth 100000 in
/-- bytes.Compare. -/
theorem bytesCompare (xs ys : List UInt8) (b0 o0 c0 b1 o1 c1 : Nat) (w : World) (h0 : w.rangeAt b0 o0 (xs.map cell)) (h1 : w.rangeAt b1 o1 (ys.map cell)) :
    Calls Try.prog 14 #[.slice (some ⟨b0, o0, none⟩) xs.length c0, .slice (some ⟨b1, o1, none⟩) ys.length c1] w fun e w' => e = .returned (.int .i64 (Lib.compareBytes xs ys)) ∧ w' = w := by
  go_enter Try.func14, Try.ntmps14
  go_wp2
  rw [run_callFunc_extern Try.func15 (by kernel_rfl) (by kernel_rfl) (by kernel_rfl) (e := Extern.BytealgCompare.compare) (by kernel_rfl), run_compare xs ys b0 o0 c0 b1 o1 c1 w h0 h1]
  simp only [Result.andThen]
  rw [Oper.upon_value]
  go_wp2
  go_ret
  exact ⟨rfl, rfl⟩

theorem bytesCompare16 (xs ys : List UInt8) (b0 o0 c0 b1 o1 c1 : Nat) (w : World) (hx : xs.length = 16) (hy : ys.length = 16) (h0 : w.rangeAt b0 o0 (xs.map cell)) (h1 : w.rangeAt b1 o1 (ys.map cell)) :
    Calls Try.prog 14 #[.slice (some ⟨b0, o0, none⟩) 16 c0, .slice (some ⟨b1, o1, none⟩) 16 c1] w fun e w' => e = .returned (.int .i64 (Lib.compareBytes xs ys)) ∧ w' = w := by
  have h := bytesCompare xs ys b0 o0 c0 b1 o1 c1 w h0 h1
  rw [hx, hy] at h
  exact h

/-- The value of a row of bytes. -/
def row (xs : List UInt8) : Array Value := (xs.map cell).toArray

theorem size_row (xs : List UInt8) : (row xs).size = xs.length := by simp [row]
theorem range_new (w : World) (xs : List UInt8) (t : TypeId) : (w.alloc (.cells (row xs) t)).rangeAt w.heap.size 0 (xs.map cell) := fun j v hv => by
  rw [World.cell?_alloc_at _ _ _ _ rfl]
  simpa [row] using hv

set_option maxHeartbeats 400000 in
/-- uuid.Compare. -/
theorem uuidCompare (xs ys : List UInt8) (hx : xs.length = 16) (hy : ys.length = 16) (w : World) :
    Calls Try.prog 13 #[.agg (row xs), .agg (row ys)] w fun e w' => e = .returned (.int .i64 (Lib.compareBytes xs ys)) ∧ Below w.heap.size w w' := by
  go_enter Try.func13, Try.ntmps13
  go_wp2
  have r0 : ((w.alloc (.cells (row xs) 23)).alloc (.cells (row ys) 23)).rangeAt w.heap.size 0 (xs.map cell) := World.rangeAt_alloc (range_new w xs 23) _
  have r1 : ((w.alloc (.cells (row xs) 23)).alloc (.cells (row ys) 23)).rangeAt (w.heap.size + 1) 0 (ys.map cell) := by
    have h := range_new (w.alloc (.cells (row xs) 23)) ys 23
    simpa using h
  go_quiet ((go_at_call 14; exact Calls.quiet_of_same (bytesCompare16 xs ys _ _ _ _ _ _ _ hx hy (by exact r0) (by exact r1))))
  go_wp2
  go_ret
  exact ⟨rfl, below_drewN (((Below.refl _ _).alloc (Nat.le_refl _) _).alloc (by simp) _) _⟩

end Go.Proofs.Qxb6620896a
