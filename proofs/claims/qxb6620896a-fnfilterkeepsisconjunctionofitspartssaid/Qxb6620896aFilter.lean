/-
  (Filter).keeps AND ZZFilterKeeps, one contract for every filter.
-/
import Derived.Test.Qxb6620896aKeeps2
namespace Go.Proofs.Qxb6620896a
open Go.RowKit
open Extern.Stop (cell)

/-- What a filter's part leads to: nothing, or sixteen bytes that lie in the world. -/
def Ref (w : World) (v : Value) (q : Option (List UInt8)) : Prop :=
  (v = .pointer none ∧ q = none) ∨ ∃ b o xs, v = .pointer (some ⟨b, o, none⟩) ∧ q = some xs ∧ xs.length = 16 ∧ w.rangeAt b o (xs.map cell) ∧ b < w.heap.size

theorem Ref.next {w w' : World} {v : Value} {q : Option (List UInt8)} (h : Ref w v q) (hb : Below w.heap.size w w') : Ref w' v q := by
  rcases h with h | ⟨b, o, xs, h1, h2, h3, h4, h5⟩
  · exact .inl h
  · exact .inr ⟨b, o, xs, h1, h2, h3, range_below h4 hb h5, Nat.lt_of_lt_of_le h5 hb.size⟩

theorem ref_nil (w : World) : Ref w (.pointer none) none := .inl ⟨rfl, rfl⟩

/-- Does the part keep x? -/
def keepB : Option (List UInt8) → List UInt8 → Bool
  | none, _ => true
  | some l, x => l == x

/-- Does the filter keep en? -/
def keep3 (q0 q1 q2 : Option (List UInt8)) (en : Ent) : Bool := keepB q0 en.p && keepB q1 en.m && keepB q2 en.t

theorem keeps_any (v0 v1 v2 : Value) (q0 q1 q2 : Option (List UInt8)) (en : Ent) (w : World) (h0 : Ref w v0 q0) (h1 : Ref w v1 q1) (h2 : Ref w v2 q2) :
    Calls Try.prog 12 #[.agg #[v0, v1, v2], .agg (row en.key)] w fun e w' => e = .returned (.bool (keep3 q0 q1 q2 en)) ∧ Below w.heap.size w w' := by
  unfold keep3
  rcases h0 with ⟨rfl, rfl⟩ | ⟨b0, o0, P0, rfl, rfl, l0, r0, -⟩
  · rcases h1 with ⟨rfl, rfl⟩ | ⟨b1, o1, P1, rfl, rfl, l1, r1, -⟩
    · rcases h2 with ⟨rfl, rfl⟩ | ⟨b2, o2, P2, rfl, rfl, l2, r2, -⟩
      · exact keeps_nnn en w
      · cases e2 : (P2 == en.t)
        · simpa [keepB, e2] using keeps_nnx P2 b2 o2 l2 en w r2 e2
        · simpa [keepB, e2] using keeps_nny P2 b2 o2 l2 en w r2 e2
    · cases e1 : (P1 == en.m)
      · simpa [keepB, e1] using keeps_nxa P1 b1 o1 l1 v2 en w r1 e1
      · rcases h2 with ⟨rfl, rfl⟩ | ⟨b2, o2, P2, rfl, rfl, l2, r2, -⟩
        · simpa [keepB, e1] using keeps_nyn P1 b1 o1 l1 en w r1 e1
        · cases e2 : (P2 == en.t)
          · simpa [keepB, e1, e2] using keeps_nyx P1 b1 o1 l1 P2 b2 o2 l2 en w r1 e1 r2 e2
          · simpa [keepB, e1, e2] using keeps_nyy P1 b1 o1 l1 P2 b2 o2 l2 en w r1 e1 r2 e2
  · cases e0 : (P0 == en.p)
    · simpa [keepB, e0] using keeps_xaa P0 b0 o0 l0 v1 v2 en w r0 e0
    · rcases h1 with ⟨rfl, rfl⟩ | ⟨b1, o1, P1, rfl, rfl, l1, r1, -⟩
      · rcases h2 with ⟨rfl, rfl⟩ | ⟨b2, o2, P2, rfl, rfl, l2, r2, -⟩
        · simpa [keepB, e0] using keeps_ynn P0 b0 o0 l0 en w r0 e0
        · cases e2 : (P2 == en.t)
          · simpa [keepB, e0, e2] using keeps_ynx P0 b0 o0 l0 P2 b2 o2 l2 en w r0 e0 r2 e2
          · simpa [keepB, e0, e2] using keeps_yny P0 b0 o0 l0 P2 b2 o2 l2 en w r0 e0 r2 e2
      · cases e1 : (P1 == en.m)
        · simpa [keepB, e0, e1] using keeps_yxa P0 b0 o0 l0 P1 b1 o1 l1 v2 en w r0 e0 r1 e1
        · rcases h2 with ⟨rfl, rfl⟩ | ⟨b2, o2, P2, rfl, rfl, l2, r2, -⟩
          · simpa [keepB, e0, e1] using keeps_yyn P0 b0 o0 l0 P1 b1 o1 l1 en w r0 e0 r1 e1
          · cases e2 : (P2 == en.t)
            · simpa [keepB, e0, e1, e2] using keeps_yyx P0 b0 o0 l0 P1 b1 o1 l1 P2 b2 o2 l2 en w r0 e0 r1 e1 r2 e2
            · simpa [keepB, e0, e1, e2] using keeps_yyy P0 b0 o0 l0 P1 b1 o1 l1 P2 b2 o2 l2 en w r0 e0 r1 e1 r2 e2

theorem keeps_l (v0 v1 v2 : Value) (q0 q1 q2 : Option (List UInt8)) (en : Ent) (w : World) (h0 : Ref w v0 q0) (h1 : Ref w v1 q1) (h2 : Ref w v2 q2) :
    Calls Try.prog 12 #[.agg #[v0, v1, v2], .agg (en.key.map cell).toArray] w fun e w' => e = .returned (.bool (keep3 q0 q1 q2 en)) ∧ Below w.heap.size w w' := keeps_any v0 v1 v2 q0 q1 q2 en w h0 h1 h2

set_option maxHeartbeats 400000 in
/-- access.ZZFilterKeeps. -/
theorem zzkeeps_any (v0 v1 v2 : Value) (q0 q1 q2 : Option (List UInt8)) (en : Ent) (w : World) (h0 : Ref w v0 q0) (h1 : Ref w v1 q1) (h2 : Ref w v2 q2) :
    Calls Try.prog 10 #[.agg #[v0, v1, v2], .agg (row en.key)] w fun e w' => e = .returned (.bool (keep3 q0 q1 q2 en)) ∧ Below w.heap.size w w' := by
  have l := keeps_lies w #[v0, v1, v2] en
  have hB := keeps_below w (.cells #[v0, v1, v2] 34) (.cells (row en.key) 25)
  have g0 := h0.next hB
  have g1 := h1.next hB
  have g2 := h2.next hB
  have hZ : w.heap.size ≤ ((w.alloc (.cells #[v0, v1, v2] 34)).alloc (.cells (row en.key) 25)).heap.size := hB.size
  go_enter Try.func10, Try.ntmps10
  go_wp2_with (first
    | ((with_reducible refine wpList_row25 en (.tmp 3) (w.heap.size + 1) 0 ?_ ?_ ?_ ?_ ?_); exact rfl; exact rfl; exact rfl; exact l))
  refine (keeps_l v0 v1 v2 q0 q1 q2 en _ g0 g1 g2).mono ?_
  rintro e w1 ⟨rfl, hb1⟩
  have hB1 := hB.trans (hb1.mono hZ)
  clear l hB g0 g1 g2 hZ hb1
  go_wp2_with fail
  go_ret
  exact ⟨rfl, hB1⟩

theorem zzkeeps_l (v0 v1 v2 : Value) (q0 q1 q2 : Option (List UInt8)) (en : Ent) (w : World) (h0 : Ref w v0 q0) (h1 : Ref w v1 q1) (h2 : Ref w v2 q2) :
    Calls Try.prog 10 #[.agg #[v0, v1, v2], .agg (en.key.map cell).toArray] w fun e w' => e = .returned (.bool (keep3 q0 q1 q2 en)) ∧ Below w.heap.size w w' := zzkeeps_any v0 v1 v2 q0 q1 q2 en w h0 h1 h2

end Go.Proofs.Qxb6620896a
