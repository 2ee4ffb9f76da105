/-
  AN ARGUMENT THAT IS AN ARRAY OF BYTES, OPENED.
-/
import Derived.Test.Qxb6620896aCmp
import Derived.ProofKit
import Derived.OpenShut
namespace Go.Proofs.Qxb6620896a
open Go.ChangeShapes Go.WideShapes Go.ChangeAt Go.RowKit
open Extern.Stop (cell)

/-- The byte in a cell. -/
def byteIn : Value → UInt8
  | .int _ m => UInt8.ofNat m.toNat
  | _ => 0

theorem cell_byteIn (m : Int) (h : (Lit.int .u8 m).wf = true) : cell (byteIn (.int .u8 m)) = .int .u8 m := by
  obtain ⟨h0, h1⟩ := bounds_u8 h
  unfold cell byteIn
  congr 1
  rw [UInt8.toNat_ofNat']
  show ((m.toNat % 256 : Nat) : Int) = m
  omega

theorem bytes_of_trod {H : Type} {enc : TypeId × Value → H} {P : Program} {w : World} {base : Nat} {spare : Nat → Bool} {held : Bool} {t e : TypeId} {n fuel : Nat} {cs : List Value} {x : DataW H × List MemPlace}
    (ht : P.underlying t = some (.array n e)) (he : P.underlying e = some (.int .u8)) (hc : P.cellsOf e = 1) (hC : P.cellsOf t = n)
    (h : DataW.trod enc P w base spare held fuel t cs = some x) : ∃ xs : List UInt8, xs.length = n ∧ cs = xs.map cell := by
  obtain ⟨ys, m, rfl, -, hl, hn, hi⟩ := DataW.trod_array ht h
  rw [hC] at hl
  refine ⟨cs.map byteIn, by simp [hl], ?_⟩
  rw [List.map_map]
  conv => lhs; rw [← List.map_id cs]
  apply List.map_congr_left
  intro v hv
  obtain ⟨i, hi', rfl⟩ := List.getElem_of_mem hv
  have e1 := hi i (by omega)
  rw [hc, Nat.mul_one] at e1
  have e2 : (cs.drop i).take 1 = [cs[i]] := by rw [List.drop_eq_getElem_cons hi', List.take_succ_cons, List.take_zero]
  rw [e2, List.getElem?_eq_getElem (by omega)] at e1
  obtain ⟨a, ha, -, wa⟩ := DataW.trod_int he e1
  simp only [List.cons.injEq, and_true] at ha
  rw [ha]
  exact (cell_byteIn a wa).symm

theorem open_bytes {H : Type} {enc : TypeId × Value → H} {P : Program} {w : World} {r : Reach} {b0 base : Nat} {spare : Nat → Bool} {held : Bool} {t e : TypeId} {n : Nat} {v : Value} {d : DataW H} {p : List MemPlace}
    (ht : P.underlying t = some (.array n e)) (he : P.underlying e = some (.int .u8)) (hc : P.cellsOf e = 1) (hC : P.cellsOf t = n)
    (hok : Value.okWide P w r b0 t v) (h : DataW.Trod enc P w base spare held t v d p) : ∃ xs : List UInt8, xs.length = n ∧ v = .agg (row xs) := by
  unfold Value.okWide at hok
  rw [ht] at hok
  obtain ⟨cs, rfl, -, -⟩ := hok
  obtain ⟨fuel, hf⟩ := h
  obtain ⟨xs, hx, hcs⟩ := bytes_of_trod ht he hc hC hf
  refine ⟨xs, hx, ?_⟩
  unfold row
  rw [← hcs]
  simp [Value.cells]

end Go.Proofs.Qxb6620896a
