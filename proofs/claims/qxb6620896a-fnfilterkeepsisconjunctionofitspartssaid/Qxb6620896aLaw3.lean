/-
  THE WALK of FnFilterKeepsIsConjunctionOfItsParts: every filter.
-/
import Derived.Test.Qxb6620896aLaw3a
import Derived.Test.Qxb6620896aLaw3b
import Derived.Test.Qxb6620896aLaw3c
import Derived.Test.Qxb6620896aLaw3d
import Derived.Test.Qxb6620896aOpen
namespace Go.Proofs.Qxb6620896a
open Go.ChangeShapes Go.WideShapes Go.ChangeAt Go.RowKit
open Extern.Stop (cell)

/-- A pointer to sixteen bytes that came in: nil, or it leads to them. -/
def PtrV (w : World) (v : Value) : Prop := v = .pointer none ∨ ∃ (b o : Nat) (xs : List UInt8), v = .pointer (some ⟨b, o, none⟩) ∧ xs.length = 16 ∧ w.rangeAt b o (xs.map cell)

theorem law3_calls (v0 v1 v2 : Value) (x : Ent) (w : World) (h0 : PtrV w v0) (h1 : PtrV w v1) (h2 : PtrV w v2) :
    Calls Try.prog 5 #[v0, v1, v2, .agg (row x.p), .agg (row x.m), .agg (row x.t)] w fun e w' => e = .returned (.bool true) ∧ Below w.heap.size w w' := by
  rcases h0 with rfl | ⟨b0, o0, P0, rfl, l0, r0⟩
  · rcases h1 with rfl | ⟨b1, o1, P1, rfl, l1, r1⟩
    · rcases h2 with rfl | ⟨b2, o2, P2, rfl, l2, r2⟩
      · exact law3_nnn  x w 
      · exact law3_nns P2 b2 o2 l2 x w r2
    · rcases h2 with rfl | ⟨b2, o2, P2, rfl, l2, r2⟩
      · exact law3_nsn P1 b1 o1 l1 x w r1
      · exact law3_nss P1 b1 o1 l1 P2 b2 o2 l2 x w r1 r2
  · rcases h1 with rfl | ⟨b1, o1, P1, rfl, l1, r1⟩
    · rcases h2 with rfl | ⟨b2, o2, P2, rfl, l2, r2⟩
      · exact law3_snn P0 b0 o0 l0 x w r0
      · exact law3_sns P0 b0 o0 l0 P2 b2 o2 l2 x w r0 r2
    · rcases h2 with rfl | ⟨b2, o2, P2, rfl, l2, r2⟩
      · exact law3_ssn P0 b0 o0 l0 P1 b1 o1 l1 x w r0 r1
      · exact law3_sss P0 b0 o0 l0 P1 b1 o1 l1 P2 b2 o2 l2 x w r0 r1 r2

/-! ### SUCH A POINTER, OPENED -/
theorem open_ref {H : Type} {enc : TypeId × Value → H} {w : World} {r : Reach} {b0 base : Nat} {spare : Nat → Bool} {held : Bool} {v : Value} {d : DataW H} {ps : List MemPlace} (hC : Try.prog.cellsOf 22 = 16) (hc : Try.prog.cellsOf 5 = 1)
    (hval : Value.okWide Try.prog w r b0 31 v) (hd : DataW.Trod enc Try.prog w base spare held 31 v d ps) : PtrV w v := by
  rcases open_ptr Try.underlying31 (by rw [hC]; omega) hval hd with ⟨h, -, -⟩ | ⟨b, off, cs, y, fuel, h, -, -, hl, hcell, hy⟩
  · exact .inl h
  · right
    obtain ⟨xs, hx, rfl⟩ := bytes_of_trod Try.underlying22 Try.underlying5 hc hC hy
    refine ⟨b, off, xs, h, hx, fun j u hu => ?_⟩
    have hj : j < 16 := by
      have := (List.getElem?_eq_some_iff.1 hu).1
      simpa [hx] using this
    rw [hcell j (by rw [hC]; exact hj)]
    exact hu

end Go.Proofs.Qxb6620896a
