/-
  THE WALK of FnFilterKeepsIsConjunctionOfItsParts: one theorem a filter's shape.
-/
import Derived.Test.Qxb6620896aConj
namespace Go.Proofs.Qxb6620896a
open Go.RowKit
open Extern.Stop (cell)
set_option linter.unusedSimpArgs false

set_option maxRecDepth 100000 in
set_option maxHeartbeats 3000000 in
theorem law3_sss (P0 : List UInt8) (b0 o0 : Nat) (l0 : P0.length = 16) (P1 : List UInt8) (b1 o1 : Nat) (l1 : P1.length = 16) (P2 : List UInt8) (b2 o2 : Nat) (l2 : P2.length = 16) (x : Ent) (w : World) (r0 : w.rangeAt b0 o0 (P0.map cell)) (r1 : w.rangeAt b1 o1 (P1.map cell)) (r2 : w.rangeAt b2 o2 (P2.map cell)) :
    Calls Try.prog 5 #[.pointer (some ⟨b0, o0, none⟩), .pointer (some ⟨b1, o1, none⟩), .pointer (some ⟨b2, o2, none⟩), .agg (row x.p), .agg (row x.m), .agg (row x.t)] w fun e w' => e = .returned (.bool true) ∧ Below w.heap.size w w' := by
  obtain ⟨K0, k0⟩ : ∃ K, (P0 == x.p) = K := ⟨_, rfl⟩
  have z0 := (putP_zero x P0 l0).trans k0
  obtain ⟨K1, k1⟩ : ∃ K, (P1 == x.m) = K := ⟨_, rfl⟩
  have z1 := (putM_zero x P1 l1).trans k1
  obtain ⟨K2, k2⟩ : ∃ K, (P2 == x.t) = K := ⟨_, rfl⟩
  have z2 := (putT_zero x P2 l2).trans k2
  have hg : Hid (keep3 (some P0) (some P1) (some P2) x = (K0 && K1 && K2)) := by show _ = _; simp [keep3, keepB, k0, k1, k2]
  have hk0 : Hid (keep3 (some P0) none none x = K0) := by show _ = _; simp [keep3, keepB, k0]
  have hk1 : Hid (keep3 none (some P1) none x = K1) := by show _ = _; simp [keep3, keepB, k1]
  have hk2 : Hid (keep3 none none (some P2) x = K2) := by show _ = _; simp [keep3, keepB, k2]
  have hn : Hid (keep3 none none none x = true) := hid_mk rfl
  clear k0 k1 k2
  have s0 := st3 w x
  have sK := (((s0.alloc (.cells (row P0) 22)).alloc (.cells (row P1) 22)).alloc (.cells (row P2) 22))
  have c0 : ((((three w x).alloc (.cells (row P0) 22)).alloc (.cells (row P1) 22)).alloc (.cells (row P2) 22)).rangeAt (w.heap.size + 1 + 1 + 1) 0 (P0.map cell) := World.rangeAt_alloc (World.rangeAt_alloc (range_new' _ P0 22 _ (by simp [three])) _) _
  have f0 : Ref ((((three w x).alloc (.cells (row P0) 22)).alloc (.cells (row P1) 22)).alloc (.cells (row P2) 22)) (.pointer (some ⟨w.heap.size + 1 + 1 + 1, 0, none⟩)) (some P0) := .inr ⟨w.heap.size + 1 + 1 + 1, 0, P0, rfl, rfl, l0, c0, by simp [three] <;> omega⟩
  have c1 : ((((three w x).alloc (.cells (row P0) 22)).alloc (.cells (row P1) 22)).alloc (.cells (row P2) 22)).rangeAt (w.heap.size + 1 + 1 + 1 + 1) 0 (P1.map cell) := World.rangeAt_alloc (range_new' _ P1 22 _ (by simp [three])) _
  have f1 : Ref ((((three w x).alloc (.cells (row P0) 22)).alloc (.cells (row P1) 22)).alloc (.cells (row P2) 22)) (.pointer (some ⟨w.heap.size + 1 + 1 + 1 + 1, 0, none⟩)) (some P1) := .inr ⟨w.heap.size + 1 + 1 + 1 + 1, 0, P1, rfl, rfl, l1, c1, by simp [three] <;> omega⟩
  have c2 : ((((three w x).alloc (.cells (row P0) 22)).alloc (.cells (row P1) 22)).alloc (.cells (row P2) 22)).rangeAt (w.heap.size + 1 + 1 + 1 + 1 + 1) 0 (P2.map cell) := range_new' _ P2 22 _ (by simp [three])
  have f2 : Ref ((((three w x).alloc (.cells (row P0) 22)).alloc (.cells (row P1) 22)).alloc (.cells (row P2) 22)) (.pointer (some ⟨w.heap.size + 1 + 1 + 1 + 1 + 1, 0, none⟩)) (some P2) := .inr ⟨w.heap.size + 1 + 1 + 1 + 1 + 1, 0, P2, rfl, rfl, l2, c2, by simp [three] <;> omega⟩
  go_enter Try.func5, Try.ntmps5
  go_wp2_with (first
    | ((with_reducible refine wpList_row22 P0 (.tmp 29) b0 o0 l0 ?_ ?_ ?_ ?_ ?_); exact rfl; exact rfl; exact rfl; exact World.rangeAt_alloc (World.rangeAt_alloc (World.rangeAt_alloc (r0) _) _) _)
    | ((with_reducible refine wpList_fresh22 P0 l0 13 (.tmp 30) ?_ ?_ ?_ ?_ ?_ ?_ ?_ ?_); exact rfl; exact rfl; exact rfl; exact rfl; exact rfl; exact rfl; exact rfl)
    | ((with_reducible refine wpList_row22 P1 (.tmp 34) b1 o1 l1 ?_ ?_ ?_ ?_ ?_); exact rfl; exact rfl; exact rfl; exact World.rangeAt_alloc (World.rangeAt_alloc (World.rangeAt_alloc (World.rangeAt_alloc (r1) _) _) _) _)
    | ((with_reducible refine wpList_fresh22 P1 l1 14 (.tmp 35) ?_ ?_ ?_ ?_ ?_ ?_ ?_ ?_); exact rfl; exact rfl; exact rfl; exact rfl; exact rfl; exact rfl; exact rfl)
    | ((with_reducible refine wpList_row22 P2 (.tmp 39) b2 o2 l2 ?_ ?_ ?_ ?_ ?_); exact rfl; exact rfl; exact rfl; exact World.rangeAt_alloc (World.rangeAt_alloc (World.rangeAt_alloc (World.rangeAt_alloc (World.rangeAt_alloc (r2) _) _) _) _) _)
    | ((with_reducible refine wpList_fresh22 P2 l2 15 (.tmp 40) ?_ ?_ ?_ ?_ ?_ ?_ ?_ ?_); exact rfl; exact rfl; exact rfl; exact rfl; exact rfl; exact rfl; exact rfl)
    | ((with_reducible refine wpList_row22 x.p (.tmp 9) w.heap.size 0 x.hp ?_ ?_ ?_ ?_ ?_); exact rfl; exact rfl; exact rfl; exact sK.t.p)
    | ((with_reducible refine wpList_row22 x.m (.tmp 10) (w.heap.size + 1) 0 x.hm ?_ ?_ ?_ ?_ ?_); exact rfl; exact rfl; exact rfl; exact sK.t.m)
    | ((with_reducible refine wpList_row22 x.t (.tmp 11) (w.heap.size + 1 + 1) 0 x.ht ?_ ?_ ?_ ?_ ?_); exact rfl; exact rfl; exact rfl; exact sK.t.t))
  refine (zzEntry_l x _).mono ?_
  rintro e w1 ⟨rfl, hb1⟩
  have s1 := ((sK.next hb1).alloc (.cells (row x.key) 25)).alloc (.cells #[.pointer (some ⟨w.heap.size + 1 + 1 + 1, 0, none⟩), .pointer (some ⟨w.heap.size + 1 + 1 + 1 + 1, 0, none⟩), .pointer (some ⟨w.heap.size + 1 + 1 + 1 + 1 + 1, 0, none⟩)] 34)
  have lx1 := (lies_new w1 x 25).alloc (.cells #[.pointer (some ⟨w.heap.size + 1 + 1 + 1, 0, none⟩), .pointer (some ⟨w.heap.size + 1 + 1 + 1 + 1, 0, none⟩), .pointer (some ⟨w.heap.size + 1 + 1 + 1 + 1 + 1, 0, none⟩)] 34)
  have f01 := ((f0.next hb1).next (below_alloc w1 (.cells (row x.key) 25))).next (below_alloc _ (.cells #[.pointer (some ⟨w.heap.size + 1 + 1 + 1, 0, none⟩), .pointer (some ⟨w.heap.size + 1 + 1 + 1 + 1, 0, none⟩), .pointer (some ⟨w.heap.size + 1 + 1 + 1 + 1 + 1, 0, none⟩)] 34))
  have f11 := ((f1.next hb1).next (below_alloc w1 (.cells (row x.key) 25))).next (below_alloc _ (.cells #[.pointer (some ⟨w.heap.size + 1 + 1 + 1, 0, none⟩), .pointer (some ⟨w.heap.size + 1 + 1 + 1 + 1, 0, none⟩), .pointer (some ⟨w.heap.size + 1 + 1 + 1 + 1 + 1, 0, none⟩)] 34))
  have f21 := ((f2.next hb1).next (below_alloc w1 (.cells (row x.key) 25))).next (below_alloc _ (.cells #[.pointer (some ⟨w.heap.size + 1 + 1 + 1, 0, none⟩), .pointer (some ⟨w.heap.size + 1 + 1 + 1 + 1, 0, none⟩), .pointer (some ⟨w.heap.size + 1 + 1 + 1 + 1 + 1, 0, none⟩)] 34))
  have d01 : ((w1.alloc (.cells (row x.key) 25)).alloc (.cells #[.pointer (some ⟨w.heap.size + 1 + 1 + 1, 0, none⟩), .pointer (some ⟨w.heap.size + 1 + 1 + 1 + 1, 0, none⟩), .pointer (some ⟨w.heap.size + 1 + 1 + 1 + 1 + 1, 0, none⟩)] 34)).cell? ⟨w1.heap.size + 1, 0, none⟩ = some (.pointer (some ⟨w.heap.size + 1 + 1 + 1, 0, none⟩)) := by rw [World.cell?_alloc_at _ _ _ _ (by simp)]; rfl
  have d11 : ((w1.alloc (.cells (row x.key) 25)).alloc (.cells #[.pointer (some ⟨w.heap.size + 1 + 1 + 1, 0, none⟩), .pointer (some ⟨w.heap.size + 1 + 1 + 1 + 1, 0, none⟩), .pointer (some ⟨w.heap.size + 1 + 1 + 1 + 1 + 1, 0, none⟩)] 34)).cell? ⟨w1.heap.size + 1, 1, none⟩ = some (.pointer (some ⟨w.heap.size + 1 + 1 + 1 + 1, 0, none⟩)) := by rw [World.cell?_alloc_at _ _ _ _ (by simp)]; rfl
  have d21 : ((w1.alloc (.cells (row x.key) 25)).alloc (.cells #[.pointer (some ⟨w.heap.size + 1 + 1 + 1, 0, none⟩), .pointer (some ⟨w.heap.size + 1 + 1 + 1 + 1, 0, none⟩), .pointer (some ⟨w.heap.size + 1 + 1 + 1 + 1 + 1, 0, none⟩)] 34)).cell? ⟨w1.heap.size + 1, 2, none⟩ = some (.pointer (some ⟨w.heap.size + 1 + 1 + 1 + 1 + 1, 0, none⟩)) := by rw [World.cell?_alloc_at _ _ _ _ (by simp)]; rfl
  have hz1 : w1.heap.size + 1 < ((w1.alloc (.cells (row x.key) 25)).alloc (.cells #[.pointer (some ⟨w.heap.size + 1 + 1 + 1, 0, none⟩), .pointer (some ⟨w.heap.size + 1 + 1 + 1 + 1, 0, none⟩), .pointer (some ⟨w.heap.size + 1 + 1 + 1 + 1 + 1, 0, none⟩)] 34)).heap.size := by simp
  clear s0 sK hb1 c0 f0 c1 f1 c2 f2
  go_wp2_with (first
    | ((with_reducible refine wpList_ent x 16 (.tmp 44) ?_ ?_ ?_ ?_ ?_ ?_ ?_ ?_); exact rfl; exact rfl; exact rfl; exact rfl; exact rfl; exact rfl; exact rfl)
    | ((with_reducible refine wpList_row25 x (.tmp 16) w1.heap.size 0 ?_ ?_ ?_ ?_ ?_); exact rfl; exact rfl; exact rfl; exact lx1))
  refine (zzkeeps_r (.pointer (some ⟨w.heap.size + 1 + 1 + 1, 0, none⟩)) (.pointer (some ⟨w.heap.size + 1 + 1 + 1 + 1, 0, none⟩)) (.pointer (some ⟨w.heap.size + 1 + 1 + 1 + 1 + 1, 0, none⟩)) (some P0) (some P1) (some P2) x _ f01 f11 f21 (K0 && K1 && K2) hg.out).mono ?_
  rintro e w2 ⟨rfl, hb2⟩
  have s2 := s1.next hb2
  have lx2 := lx1.next hb2
  have f02 := f01.next hb2
  have f12 := f11.next hb2
  have f22 := f21.next hb2
  have d02 := (hb2.cell (p := ⟨w1.heap.size + 1, 0, none⟩) hz1).trans d01
  have d12 := (hb2.cell (p := ⟨w1.heap.size + 1, 1, none⟩) hz1).trans d11
  have d22 := (hb2.cell (p := ⟨w1.heap.size + 1, 2, none⟩) hz1).trans d21
  have hz2 := Nat.lt_of_lt_of_le hz1 hb2.size
  clear s1 lx1 f01 f11 f21 d01 d11 d21 hz1 hb2
  go_wp2_with (first
    | ((with_reducible refine wpList_row25 x (.tmp 16) w1.heap.size 0 ?_ ?_ ?_ ?_ ?_); exact rfl; exact rfl; exact rfl; exact lx2))
  refine (zzkeeps_r (.pointer (some ⟨w.heap.size + 1 + 1 + 1, 0, none⟩)) (.pointer none) (.pointer none) (some P0) none none x _ f02 (ref_nil _) (ref_nil _) K0 hk0.out).mono ?_
  rintro e w3 ⟨rfl, hb3⟩
  have s3 := s2.next hb3
  have lx3 := lx2.next hb3
  have f03 := f02.next hb3
  have f13 := f12.next hb3
  have f23 := f22.next hb3
  have d03 := (hb3.cell (p := ⟨w1.heap.size + 1, 0, none⟩) hz2).trans d02
  have d13 := (hb3.cell (p := ⟨w1.heap.size + 1, 1, none⟩) hz2).trans d12
  have d23 := (hb3.cell (p := ⟨w1.heap.size + 1, 2, none⟩) hz2).trans d22
  have hz3 := Nat.lt_of_lt_of_le hz2 hb3.size
  clear s2 lx2 f02 f12 f22 d02 d12 d22 hz2 hb3
  go_wp2_with (first
    | ((with_reducible refine wpList_row25 x (.tmp 16) w1.heap.size 0 ?_ ?_ ?_ ?_ ?_); exact rfl; exact rfl; exact rfl; exact lx3))
  refine (zzkeeps_r (.pointer none) (.pointer (some ⟨w.heap.size + 1 + 1 + 1 + 1, 0, none⟩)) (.pointer none) none (some P1) none x _ (ref_nil _) f13 (ref_nil _) K1 hk1.out).mono ?_
  rintro e w4 ⟨rfl, hb4⟩
  have s4 := s3.next hb4
  have lx4 := lx3.next hb4
  have f04 := f03.next hb4
  have f14 := f13.next hb4
  have f24 := f23.next hb4
  have d04 := (hb4.cell (p := ⟨w1.heap.size + 1, 0, none⟩) hz3).trans d03
  have d14 := (hb4.cell (p := ⟨w1.heap.size + 1, 1, none⟩) hz3).trans d13
  have d24 := (hb4.cell (p := ⟨w1.heap.size + 1, 2, none⟩) hz3).trans d23
  have hz4 := Nat.lt_of_lt_of_le hz3 hb4.size
  clear s3 lx3 f03 f13 f23 d03 d13 d23 hz3 hb4
  go_wp2_with (first
    | ((with_reducible refine wpList_row25 x (.tmp 16) w1.heap.size 0 ?_ ?_ ?_ ?_ ?_); exact rfl; exact rfl; exact rfl; exact lx4))
  refine (zzkeeps_r (.pointer none) (.pointer none) (.pointer (some ⟨w.heap.size + 1 + 1 + 1 + 1 + 1, 0, none⟩)) none none (some P2) x _ (ref_nil _) (ref_nil _) f24 K2 hk2.out).mono ?_
  rintro e w5 ⟨rfl, hb5⟩
  have s5 := s4.next hb5
  have lx5 := lx4.next hb5
  have f05 := f04.next hb5
  have f15 := f14.next hb5
  have f25 := f24.next hb5
  have d05 := (hb5.cell (p := ⟨w1.heap.size + 1, 0, none⟩) hz4).trans d04
  have d15 := (hb5.cell (p := ⟨w1.heap.size + 1, 1, none⟩) hz4).trans d14
  have d25 := (hb5.cell (p := ⟨w1.heap.size + 1, 2, none⟩) hz4).trans d24
  have hz5 := Nat.lt_of_lt_of_le hz4 hb5.size
  clear s4 lx4 f04 f14 f24 d04 d14 d24 hz4 hb5
  go_wp2_with (first
    | ((with_reducible refine wpList_row25 x (.tmp 16) w1.heap.size 0 ?_ ?_ ?_ ?_ ?_); exact rfl; exact rfl; exact rfl; exact lx5))
  refine (zzkeeps_r (.pointer none) (.pointer none) (.pointer none) none none none x _ (ref_nil _) (ref_nil _) (ref_nil _) true hn.out).mono ?_
  rintro e w6 ⟨rfl, hb6⟩
  have s6 := s5.next hb6
  have lx6 := lx5.next hb6
  have f06 := f05.next hb6
  have f16 := f15.next hb6
  have f26 := f25.next hb6
  have d06 := (hb6.cell (p := ⟨w1.heap.size + 1, 0, none⟩) hz5).trans d05
  have d16 := (hb6.cell (p := ⟨w1.heap.size + 1, 1, none⟩) hz5).trans d15
  have d26 := (hb6.cell (p := ⟨w1.heap.size + 1, 2, none⟩) hz5).trans d25
  have hz6 := Nat.lt_of_lt_of_le hz5 hb6.size
  clear s5 lx5 f05 f15 f25 d05 d15 d25 hz5 hb6
  go_wp2_with fail
  have S0 : Below w6.heap.size w6 w6.drew := (Below.refl _ _).drew
  have hzz := s6.sz
  have Y0 : ∀ w', Below w6.heap.size w6 w' → w'.rangeAt w.heap.size 0 (x.p.map cell) := fun w' h => range_below s6.t.p h (by omega)
  have Y1 : ∀ w', Below w6.heap.size w6 w' → w'.rangeAt (w.heap.size + 1) 0 (x.m.map cell) := fun w' h => range_below s6.t.m h (by omega)
  have Y2 : ∀ w', Below w6.heap.size w6 w' → w'.rangeAt (w.heap.size + 1 + 1) 0 (x.t.map cell) := fun w' h => range_below s6.t.t h (by omega)
  have YP : ∀ w', Below w6.heap.size w6 w' → w'.rangeAt (w.heap.size + 1 + 1 + 1) 0 (P0.map cell) := fun w' h => ref_range (f06.next h)
  have YE : ∀ w', Below w6.heap.size w6 w' → w'.rangeAt w1.heap.size 0 (x.key.map cell) := fun w' h => (lx6.next h).k
  refine wp_region_held_drew (S := fun w' => Below w6.heap.size w6 w') (by kernel_rfl) S0 (fun hHeld => ?_)
  refine wpAnyH_take (i := 0) rfl (by kernel_rfl) (by kernel_rfl) (by kernel_rfl) (fun _ _ _ h => h) (yields_move (.tmp 0) rfl rfl rfl) hHeld ?_
  simp only [Act.put, List.setIfInBounds_toArray, List.set_cons_zero, List.set_cons_succ]
  refine wpAnyH_take (i := 1) rfl (by kernel_rfl) (by kernel_rfl) (by kernel_rfl) (fun _ _ _ h => h) (yields_nilCheck (.tmp 72) rfl rfl rfl) hHeld ?_
  simp only [Act.put, List.setIfInBounds_toArray, List.set_cons_zero, List.set_cons_succ]
  refine wpAnyH_take (i := 2) rfl (by kernel_rfl) (by kernel_rfl) (by kernel_rfl) (fun _ _ _ h => h) (yields_row22 P0 (.tmp 73) (w.heap.size + 1 + 1 + 1) 0 l0 rfl rfl rfl YP) hHeld ?_
  simp only [Act.put, List.setIfInBounds_toArray, List.set_cons_zero, List.set_cons_succ]
  refine wpAnyH_take (i := 3) rfl (by kernel_rfl) (by kernel_rfl) (by kernel_rfl) (fun _ _ _ h => h) (yields_row22 x.m (.tmp 10) (w.heap.size + 1) 0 x.hm rfl rfl rfl Y1) hHeld ?_
  simp only [Act.put, List.setIfInBounds_toArray, List.set_cons_zero, List.set_cons_succ]
  refine wpAnyH_take (i := 4) rfl (by kernel_rfl) (by kernel_rfl) (by kernel_rfl) (fun _ _ _ h => h) (yields_row22 x.t (.tmp 11) (w.heap.size + 1 + 1) 0 x.ht rfl rfl rfl Y2) hHeld ?_
  simp only [Act.put, List.setIfInBounds_toArray, List.set_cons_zero, List.set_cons_succ]
  refine wpAnyH_take (i := 6) rfl (by kernel_rfl) (by kernel_rfl) (by kernel_rfl) (fun _ _ _ h => h) (yields_row25 x (.tmp 16) w1.heap.size 0 rfl rfl rfl YE) hHeld ?_
  simp only [Act.put, List.setIfInBounds_toArray, List.set_cons_zero, List.set_cons_succ]
  refine wpAnyH_ready (rs := [5]) (by kernel_rfl) (by simp) ?_
  refine AllReadyH.cons rfl (fun K hK => ?_) AllReadyH.nil
  go_simp
  go_wp2_with (go_at_call 7; refine (zzEntry_putP x P0 l0 _).mono ?_; rintro e w7 ⟨rfl, hb7⟩)
  have S1 := hHeld.trans (hb7.mono hHeld.size)
  refine hK.out _ _ S1 (fun hHeld => ?_)
  clear hK K hb7 S1 S0
  refine wpAnyH_ready (rs := [7]) (by kernel_rfl) (by simp) ?_
  refine AllReadyH.cons rfl (fun K hK => ?_) AllReadyH.nil
  go_simp
  go_wp2_with (go_at_call 9; refine (zzcompare_rl (putP x P0 l0) x _).mono ?_; rintro e w8 ⟨rfl, hb8⟩)
  have S2 := hHeld.trans (hb8.mono hHeld.size)
  refine hK.out _ _ S2 (fun hHeld => ?_)
  clear hK K hb8 S2
  refine wpAnyH_take (i := 8) rfl (by kernel_rfl) (by kernel_rfl) (by kernel_rfl) (fun _ _ _ h => h) (yields_zero (.tmp 79) 3 rfl rfl rfl z0) hHeld ?_
  simp only [Act.put, List.setIfInBounds_toArray, List.set_cons_zero, List.set_cons_succ]
  refine wpAnyH_take (i := 9) rfl (by kernel_rfl) (by kernel_rfl) (by kernel_rfl) (fun _ _ _ h => h) (yields_assign (.tmp 80) rfl rfl rfl) hHeld ?_
  simp only [Act.put, List.setIfInBounds_toArray, List.set_cons_zero, List.set_cons_succ]
  refine wpAnyH_done (by kernel_rfl) ?_ _
  clear Y0 Y1 Y2 YP YE hzz
  have s7 := s6.next hHeld
  have lx7 := lx6.next hHeld
  have f07 := f06.next hHeld
  have f17 := f16.next hHeld
  have f27 := f26.next hHeld
  have d07 := (hHeld.cell (p := ⟨w1.heap.size + 1, 0, none⟩) hz6).trans d06
  have d17 := (hHeld.cell (p := ⟨w1.heap.size + 1, 1, none⟩) hz6).trans d16
  have d27 := (hHeld.cell (p := ⟨w1.heap.size + 1, 2, none⟩) hz6).trans d26
  have hz7 := Nat.lt_of_lt_of_le hz6 hHeld.size
  clear s6 lx6 f06 f16 f26 d06 d16 d26 hz6 hHeld
  go_wp2_with fail
  have S0 : Below w8.heap.size w8 w8.drew := (Below.refl _ _).drew
  have hzz := s7.sz
  have Y0 : ∀ w', Below w8.heap.size w8 w' → w'.rangeAt w.heap.size 0 (x.p.map cell) := fun w' h => range_below s7.t.p h (by omega)
  have Y1 : ∀ w', Below w8.heap.size w8 w' → w'.rangeAt (w.heap.size + 1) 0 (x.m.map cell) := fun w' h => range_below s7.t.m h (by omega)
  have Y2 : ∀ w', Below w8.heap.size w8 w' → w'.rangeAt (w.heap.size + 1 + 1) 0 (x.t.map cell) := fun w' h => range_below s7.t.t h (by omega)
  have YP : ∀ w', Below w8.heap.size w8 w' → w'.rangeAt (w.heap.size + 1 + 1 + 1 + 1) 0 (P1.map cell) := fun w' h => ref_range (f17.next h)
  have YE : ∀ w', Below w8.heap.size w8 w' → w'.rangeAt w1.heap.size 0 (x.key.map cell) := fun w' h => (lx7.next h).k
  refine wp_region_held_drew (S := fun w' => Below w8.heap.size w8 w') (by kernel_rfl) S0 (fun hHeld => ?_)
  refine wpAnyH_take (i := 0) rfl (by kernel_rfl) (by kernel_rfl) (by kernel_rfl) (fun _ _ _ h => h) (yields_row22 x.p (.tmp 9) w.heap.size 0 x.hp rfl rfl rfl Y0) hHeld ?_
  simp only [Act.put, List.setIfInBounds_toArray, List.set_cons_zero, List.set_cons_succ]
  refine wpAnyH_take (i := 1) rfl (by kernel_rfl) (by kernel_rfl) (by kernel_rfl) (fun _ _ _ h => h) (yields_move (.tmp 1) rfl rfl rfl) hHeld ?_
  simp only [Act.put, List.setIfInBounds_toArray, List.set_cons_zero, List.set_cons_succ]
  refine wpAnyH_take (i := 2) rfl (by kernel_rfl) (by kernel_rfl) (by kernel_rfl) (fun _ _ _ h => h) (yields_nilCheck (.tmp 84) rfl rfl rfl) hHeld ?_
  simp only [Act.put, List.setIfInBounds_toArray, List.set_cons_zero, List.set_cons_succ]
  refine wpAnyH_take (i := 3) rfl (by kernel_rfl) (by kernel_rfl) (by kernel_rfl) (fun _ _ _ h => h) (yields_row22 P1 (.tmp 85) (w.heap.size + 1 + 1 + 1 + 1) 0 l1 rfl rfl rfl YP) hHeld ?_
  simp only [Act.put, List.setIfInBounds_toArray, List.set_cons_zero, List.set_cons_succ]
  refine wpAnyH_take (i := 4) rfl (by kernel_rfl) (by kernel_rfl) (by kernel_rfl) (fun _ _ _ h => h) (yields_row22 x.t (.tmp 11) (w.heap.size + 1 + 1) 0 x.ht rfl rfl rfl Y2) hHeld ?_
  simp only [Act.put, List.setIfInBounds_toArray, List.set_cons_zero, List.set_cons_succ]
  refine wpAnyH_take (i := 6) rfl (by kernel_rfl) (by kernel_rfl) (by kernel_rfl) (fun _ _ _ h => h) (yields_row25 x (.tmp 16) w1.heap.size 0 rfl rfl rfl YE) hHeld ?_
  simp only [Act.put, List.setIfInBounds_toArray, List.set_cons_zero, List.set_cons_succ]
  refine wpAnyH_ready (rs := [5]) (by kernel_rfl) (by simp) ?_
  refine AllReadyH.cons rfl (fun K hK => ?_) AllReadyH.nil
  go_simp
  go_wp2_with (go_at_call 7; refine (zzEntry_putM x P1 l1 _).mono ?_; rintro e w9 ⟨rfl, hb9⟩)
  have S1 := hHeld.trans (hb9.mono hHeld.size)
  refine hK.out _ _ S1 (fun hHeld => ?_)
  clear hK K hb9 S1 S0
  refine wpAnyH_ready (rs := [7]) (by kernel_rfl) (by simp) ?_
  refine AllReadyH.cons rfl (fun K hK => ?_) AllReadyH.nil
  go_simp
  go_wp2_with (go_at_call 9; refine (zzcompare_rl (putM x P1 l1) x _).mono ?_; rintro e w10 ⟨rfl, hb10⟩)
  have S2 := hHeld.trans (hb10.mono hHeld.size)
  refine hK.out _ _ S2 (fun hHeld => ?_)
  clear hK K hb10 S2
  refine wpAnyH_take (i := 8) rfl (by kernel_rfl) (by kernel_rfl) (by kernel_rfl) (fun _ _ _ h => h) (yields_zero (.tmp 90) 3 rfl rfl rfl z1) hHeld ?_
  simp only [Act.put, List.setIfInBounds_toArray, List.set_cons_zero, List.set_cons_succ]
  refine wpAnyH_take (i := 9) rfl (by kernel_rfl) (by kernel_rfl) (by kernel_rfl) (fun _ _ _ h => h) (yields_assign (.tmp 91) rfl rfl rfl) hHeld ?_
  simp only [Act.put, List.setIfInBounds_toArray, List.set_cons_zero, List.set_cons_succ]
  refine wpAnyH_done (by kernel_rfl) ?_ _
  clear Y0 Y1 Y2 YP YE hzz
  have s8 := s7.next hHeld
  have lx8 := lx7.next hHeld
  have f08 := f07.next hHeld
  have f18 := f17.next hHeld
  have f28 := f27.next hHeld
  have d08 := (hHeld.cell (p := ⟨w1.heap.size + 1, 0, none⟩) hz7).trans d07
  have d18 := (hHeld.cell (p := ⟨w1.heap.size + 1, 1, none⟩) hz7).trans d17
  have d28 := (hHeld.cell (p := ⟨w1.heap.size + 1, 2, none⟩) hz7).trans d27
  have hz8 := Nat.lt_of_lt_of_le hz7 hHeld.size
  clear s7 lx7 f07 f17 f27 d07 d17 d27 hz7 hHeld
  go_wp2_with fail
  have S0 : Below w10.heap.size w10 w10.drew := (Below.refl _ _).drew
  have hzz := s8.sz
  have Y0 : ∀ w', Below w10.heap.size w10 w' → w'.rangeAt w.heap.size 0 (x.p.map cell) := fun w' h => range_below s8.t.p h (by omega)
  have Y1 : ∀ w', Below w10.heap.size w10 w' → w'.rangeAt (w.heap.size + 1) 0 (x.m.map cell) := fun w' h => range_below s8.t.m h (by omega)
  have Y2 : ∀ w', Below w10.heap.size w10 w' → w'.rangeAt (w.heap.size + 1 + 1) 0 (x.t.map cell) := fun w' h => range_below s8.t.t h (by omega)
  have YP : ∀ w', Below w10.heap.size w10 w' → w'.rangeAt (w.heap.size + 1 + 1 + 1 + 1 + 1) 0 (P2.map cell) := fun w' h => ref_range (f28.next h)
  have YE : ∀ w', Below w10.heap.size w10 w' → w'.rangeAt w1.heap.size 0 (x.key.map cell) := fun w' h => (lx8.next h).k
  refine wp_region_held_drew (S := fun w' => Below w10.heap.size w10 w') (by kernel_rfl) S0 (fun hHeld => ?_)
  refine wpAnyH_take (i := 0) rfl (by kernel_rfl) (by kernel_rfl) (by kernel_rfl) (fun _ _ _ h => h) (yields_row22 x.p (.tmp 9) w.heap.size 0 x.hp rfl rfl rfl Y0) hHeld ?_
  simp only [Act.put, List.setIfInBounds_toArray, List.set_cons_zero, List.set_cons_succ]
  refine wpAnyH_take (i := 1) rfl (by kernel_rfl) (by kernel_rfl) (by kernel_rfl) (fun _ _ _ h => h) (yields_row22 x.m (.tmp 10) (w.heap.size + 1) 0 x.hm rfl rfl rfl Y1) hHeld ?_
  simp only [Act.put, List.setIfInBounds_toArray, List.set_cons_zero, List.set_cons_succ]
  refine wpAnyH_take (i := 2) rfl (by kernel_rfl) (by kernel_rfl) (by kernel_rfl) (fun _ _ _ h => h) (yields_move (.tmp 2) rfl rfl rfl) hHeld ?_
  simp only [Act.put, List.setIfInBounds_toArray, List.set_cons_zero, List.set_cons_succ]
  refine wpAnyH_take (i := 3) rfl (by kernel_rfl) (by kernel_rfl) (by kernel_rfl) (fun _ _ _ h => h) (yields_nilCheck (.tmp 96) rfl rfl rfl) hHeld ?_
  simp only [Act.put, List.setIfInBounds_toArray, List.set_cons_zero, List.set_cons_succ]
  refine wpAnyH_take (i := 4) rfl (by kernel_rfl) (by kernel_rfl) (by kernel_rfl) (fun _ _ _ h => h) (yields_row22 P2 (.tmp 97) (w.heap.size + 1 + 1 + 1 + 1 + 1) 0 l2 rfl rfl rfl YP) hHeld ?_
  simp only [Act.put, List.setIfInBounds_toArray, List.set_cons_zero, List.set_cons_succ]
  refine wpAnyH_take (i := 6) rfl (by kernel_rfl) (by kernel_rfl) (by kernel_rfl) (fun _ _ _ h => h) (yields_row25 x (.tmp 16) w1.heap.size 0 rfl rfl rfl YE) hHeld ?_
  simp only [Act.put, List.setIfInBounds_toArray, List.set_cons_zero, List.set_cons_succ]
  refine wpAnyH_ready (rs := [5]) (by kernel_rfl) (by simp) ?_
  refine AllReadyH.cons rfl (fun K hK => ?_) AllReadyH.nil
  go_simp
  go_wp2_with (go_at_call 7; refine (zzEntry_putT x P2 l2 _).mono ?_; rintro e w11 ⟨rfl, hb11⟩)
  have S1 := hHeld.trans (hb11.mono hHeld.size)
  refine hK.out _ _ S1 (fun hHeld => ?_)
  clear hK K hb11 S1 S0
  refine wpAnyH_ready (rs := [7]) (by kernel_rfl) (by simp) ?_
  refine AllReadyH.cons rfl (fun K hK => ?_) AllReadyH.nil
  go_simp
  go_wp2_with (go_at_call 9; refine (zzcompare_rl (putT x P2 l2) x _).mono ?_; rintro e w12 ⟨rfl, hb12⟩)
  have S2 := hHeld.trans (hb12.mono hHeld.size)
  refine hK.out _ _ S2 (fun hHeld => ?_)
  clear hK K hb12 S2
  refine wpAnyH_take (i := 8) rfl (by kernel_rfl) (by kernel_rfl) (by kernel_rfl) (fun _ _ _ h => h) (yields_zero (.tmp 101) 3 rfl rfl rfl z2) hHeld ?_
  simp only [Act.put, List.setIfInBounds_toArray, List.set_cons_zero, List.set_cons_succ]
  refine wpAnyH_take (i := 9) rfl (by kernel_rfl) (by kernel_rfl) (by kernel_rfl) (fun _ _ _ h => h) (yields_assign (.tmp 102) rfl rfl rfl) hHeld ?_
  simp only [Act.put, List.setIfInBounds_toArray, List.set_cons_zero, List.set_cons_succ]
  refine wpAnyH_done (by kernel_rfl) ?_ _
  clear Y0 Y1 Y2 YP YE hzz
  have s9 := s8.next hHeld
  have lx9 := lx8.next hHeld
  have f09 := f08.next hHeld
  have f19 := f18.next hHeld
  have f29 := f28.next hHeld
  have d09 := (hHeld.cell (p := ⟨w1.heap.size + 1, 0, none⟩) hz8).trans d08
  have d19 := (hHeld.cell (p := ⟨w1.heap.size + 1, 1, none⟩) hz8).trans d18
  have d29 := (hHeld.cell (p := ⟨w1.heap.size + 1, 2, none⟩) hz8).trans d28
  have hz9 := Nat.lt_of_lt_of_le hz8 hHeld.size
  clear s8 lx8 f08 f18 f28 d08 d18 d28 hz8 hHeld
  have fin := s9.bel
  clear hg hn s9 lx9 d09 d19 d29 hz9 hk0 z0 f09 hk1 z1 f19 hk2 z2 f29
  cases K0 <;> cases K1 <;> cases K2 <;> (go_wp2_with fail; go_ret; exact ⟨rfl, fin⟩)

end Go.Proofs.Qxb6620896a
