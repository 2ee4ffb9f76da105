/-
  THE WALKS of compareEntries, ZZcompareEntries and zzEntry.
-/
import Derived.Test.Qxb6620896aCmp
namespace Go.Proofs.Qxb6620896a
open Go.RowKit
open Extern.Stop (cell)

theorem Try.size22 : (Try.prog.info? 22).map (·.size) = some 16 := by kernel_rfl
theorem Try.size23 : (Try.prog.info? 23).map (·.size) = some 16 := by kernel_rfl
theorem Try.size25 : (Try.prog.info? 25).map (·.size) = some 48 := by kernel_rfl

theorem range_append {w : World} {b o : Nat} {xs ys : List Value} (h : w.rangeAt b o (xs ++ ys)) : w.rangeAt b o xs ∧ w.rangeAt b (o + xs.length) ys := by
  refine ⟨fun j v hv => h j v ?_, fun j v hv => ?_⟩
  · rw [List.getElem?_append_left (List.getElem?_eq_some_iff.1 hv).1]; exact hv
  · have e := h (xs.length + j) v (by rw [List.getElem?_append_right (by omega)]; simpa using hv)
    rw [← Nat.add_assoc] at e
    exact e

theorem range_below {B : Nat} {w w' : World} {b o : Nat} {cs : List Value} (h : w.rangeAt b o cs) (hb : Below B w w') (hlt : b < B) : w'.rangeAt b o cs := fun j v hv => (hb.cell (by exact hlt)).trans (h j v hv)

/-- An entry: three rows of sixteen bytes. -/
structure Ent where
  p : List UInt8
  m : List UInt8
  t : List UInt8
  hp : p.length = 16
  hm : m.length = 16
  ht : t.length = 16

def Ent.key (e : Ent) : List UInt8 := e.p ++ e.m ++ e.t
def Ent.val (e : Ent) : Value := .agg (row e.key)

theorem Ent.len (e : Ent) : e.key.length = 48 := by simp [Ent.key, e.hp, e.hm, e.ht]

/-- The entry e lies in block b from o on. -/
structure Lies (w : World) (b o : Nat) (e : Ent) : Prop where
  k : w.rangeAt b o (e.key.map cell)
  lt : b < w.heap.size

theorem Lies.parts {w : World} {b o : Nat} {e : Ent} (h : Lies w b o e) : w.rangeAt b o (e.p.map cell) ∧ w.rangeAt b (o + 16) (e.m.map cell) ∧ w.rangeAt b (o + 32) (e.t.map cell) := by
  have h := h.k
  unfold Ent.key at h
  rw [List.map_append, List.map_append] at h
  obtain ⟨h1, h3⟩ := range_append h
  obtain ⟨h1, h2⟩ := range_append h1
  simp only [List.length_append, List.length_map, e.hp, e.hm] at h2 h3
  exact ⟨h1, h2, h3⟩
theorem Lies.p {w : World} {b o : Nat} {e : Ent} (h : Lies w b o e) : w.rangeAt b o (e.p.map cell) := h.parts.1
theorem Lies.m {w : World} {b o : Nat} {e : Ent} (h : Lies w b o e) : w.rangeAt b (o + 16) (e.m.map cell) := h.parts.2.1
theorem Lies.t {w : World} {b o : Nat} {e : Ent} (h : Lies w b o e) : w.rangeAt b (o + 32) (e.t.map cell) := h.parts.2.2

theorem Lies.below {B : Nat} {w w' : World} {b o : Nat} {e : Ent} (h : Lies w b o e) (hb : Below B w w') (hlt : b < B) : Lies w' b o e :=
  ⟨range_below h.k hb hlt, Nat.lt_of_lt_of_le h.lt hb.size⟩

theorem Lies.alloc {w : World} {b o : Nat} {e : Ent} (h : Lies w b o e) (ob : Obj) : Lies (w.alloc ob) b o e :=
  h.below ((Below.refl w.heap.size w).alloc (Nat.le_refl _) ob) h.lt

theorem lies_new (w : World) (e : Ent) (t : TypeId) : Lies (w.alloc (.cells (row e.key) t)) w.heap.size 0 e :=
  ⟨range_new w e.key t, by simp⟩

/-- How the three rows are compared. -/
def cmp3 (a b : Ent) : Int := if (Lib.compareBytes a.p b.p != 0) = true then Lib.compareBytes a.p b.p else if (Lib.compareBytes a.m b.m != 0) = true then Lib.compareBytes a.m b.m else Lib.compareBytes a.t b.t

theorem sz23 (xs : List UInt8) (h : xs.length = 16) : (Try.prog.info? 23).map (·.size) = some (xs.map cell).length := by rw [List.length_map, h]; exact Try.size23

theorem uuidCompare_l (xs ys : List UInt8) (hx : xs.length = 16) (hy : ys.length = 16) (w : World) :
    Calls Try.prog 13 #[.agg (xs.map cell).toArray, .agg (ys.map cell).toArray] w fun e w' => e = .returned (.int .i64 (Lib.compareBytes xs ys)) ∧ Below w.heap.size w w' := uuidCompare xs ys hx hy w

theorem ret_i64 {a b : Int} (h : a = b) : Ending.returned (.int .i64 a) = .returned (.int .i64 b) := by rw [h]

set_option maxHeartbeats 400000 in
/-- access.compareEntries. -/
theorem compareEntries_calls (a b : Ent) (w : World) :
    Calls Try.prog 11 #[.agg (row a.key), .agg (row b.key)] w fun e w' => e = .returned (.int .i64 (cmp3 a b)) ∧ Below w.heap.size w w' := by
  have la := (lies_new w a 25).alloc (.cells (row b.key) 25)
  have lb : Lies ((w.alloc (.cells (row a.key) 25)).alloc (.cells (row b.key) 25)) (w.heap.size + 1) 0 b := by
    have h := lies_new (w.alloc (.cells (row a.key) 25)) b 25
    simpa using h
  have hB : Below w.heap.size w ((w.alloc (.cells (row a.key) 25)).alloc (.cells (row b.key) 25)) := ((Below.refl _ _).alloc (Nat.le_refl _) _).alloc (by simp) _
  have hZ : ((w.alloc (.cells (row a.key) 25)).alloc (.cells (row b.key) 25)).heap.size = w.heap.size + 2 := by simp
  go_enter Try.func11, Try.ntmps11
  go_wp2_with (first
    | (refine wpList_load_mid rfl 23 (.tmp 7) rfl w.heap.size 0 rfl (a.p.map cell) _ (by exact la.p) Try.underlying23 rfl (sz23 _ a.hp) ?_)
    | (refine wpList_load_mid rfl 23 (.tmp 9) rfl (w.heap.size + 1) 0 rfl (b.p.map cell) _ (by exact lb.p) Try.underlying23 rfl (sz23 _ b.hp) ?_))
  refine (uuidCompare_l a.p b.p a.hp b.hp _).mono ?_
  rintro e w1 ⟨rfl, hb1⟩
  rw [hZ] at hb1
  have la1 := la.below hb1 (by omega)
  have lb1 := lb.below hb1 (by omega)
  have hB1 := hB.trans (hb1.mono (by omega))
  have hz1 := hb1.size
  rw [hZ] at hz1
  clear la lb hB hZ hb1
  by_cases c1 : (Lib.compareBytes a.p b.p != 0) = true
  · have F : cmp3 a b = Lib.compareBytes a.p b.p := if_pos c1
    have HF : Hid (cmp3 a b = Lib.compareBytes a.p b.p) := F
    clear F
    go_wp2_with fail
    go_ret
    exact ⟨ret_i64 HF.out.symm, hB1⟩
  · have c1' : (Lib.compareBytes a.p b.p != 0) = false := by simpa using c1
    go_wp2_with (first
      | (refine wpList_load_mid rfl 23 (.tmp 15) rfl w.heap.size 16 rfl (a.m.map cell) _ (by exact la1.m) Try.underlying23 rfl (sz23 _ a.hm) ?_)
      | (refine wpList_load_mid rfl 23 (.tmp 17) rfl (w.heap.size + 1) 16 rfl (b.m.map cell) _ (by exact lb1.m) Try.underlying23 rfl (sz23 _ b.hm) ?_))
    refine (uuidCompare_l a.m b.m a.hm b.hm _).mono ?_
    rintro e w2 ⟨rfl, hb2⟩
    have la2 := la1.below hb2 (by omega)
    have lb2 := lb1.below hb2 (by omega)
    have hB2 := hB1.trans (hb2.mono (by omega))
    have hz2 := hb2.size
    clear la1 lb1 hb2 hB1
    by_cases c2 : (Lib.compareBytes a.m b.m != 0) = true
    · have HF : Hid (cmp3 a b = Lib.compareBytes a.m b.m) := by
        show cmp3 a b = _
        unfold cmp3
        rw [if_neg c1, if_pos c2]
      go_wp2_with fail
      go_ret
      exact ⟨ret_i64 HF.out.symm, hB2⟩
    · have c2' : (Lib.compareBytes a.m b.m != 0) = false := by simpa using c2
      have HF : Hid (cmp3 a b = Lib.compareBytes a.t b.t) := by
        show cmp3 a b = _
        unfold cmp3
        rw [if_neg c1, if_neg c2]
      go_wp2_with (first
        | (refine wpList_load_mid rfl 23 (.tmp 23) rfl w.heap.size 32 rfl (a.t.map cell) _ (by exact la2.t) Try.underlying23 rfl (sz23 _ a.ht) ?_)
        | (refine wpList_load_mid rfl 23 (.tmp 25) rfl (w.heap.size + 1) 32 rfl (b.t.map cell) _ (by exact lb2.t) Try.underlying23 rfl (sz23 _ b.ht) ?_))
      refine (uuidCompare_l a.t b.t a.ht b.ht _).mono ?_
      rintro e w3 ⟨rfl, hb3⟩
      have hB3 := hB2.trans (hb3.mono (by omega))
      clear la2 lb2 hb3 hB2
      go_wp2_with fail
      go_ret
      exact ⟨ret_i64 HF.out.symm, hB3⟩

theorem sz25 (e : Ent) : (Try.prog.info? 25).map (·.size) = some (e.key.map cell).length := by rw [List.length_map, e.len]; exact Try.size25

set_option maxHeartbeats 400000 in
/-- access.ZZcompareEntries. -/
theorem zzcompare_calls (a b : Ent) (w : World) :
    Calls Try.prog 9 #[.agg (row a.key), .agg (row b.key)] w fun e w' => e = .returned (.int .i64 (cmp3 a b)) ∧ Below w.heap.size w w' := by
  have la := (lies_new w a 25).alloc (.cells (row b.key) 25)
  have lb : Lies ((w.alloc (.cells (row a.key) 25)).alloc (.cells (row b.key) 25)) (w.heap.size + 1) 0 b := by
    have h := lies_new (w.alloc (.cells (row a.key) 25)) b 25
    simpa using h
  have hB : Below w.heap.size w ((w.alloc (.cells (row a.key) 25)).alloc (.cells (row b.key) 25)) := ((Below.refl _ _).alloc (Nat.le_refl _) _).alloc (by simp) _
  have hZ : w.heap.size ≤ ((w.alloc (.cells (row a.key) 25)).alloc (.cells (row b.key) 25)).heap.size := by simp; omega
  go_enter Try.func9, Try.ntmps9
  go_wp2_with (first
    | (refine wpList_load_mid rfl 25 (.tmp 2) rfl w.heap.size 0 rfl (a.key.map cell) _ (by exact la.k) Try.underlying25 rfl (sz25 a) ?_)
    | (refine wpList_load_mid rfl 25 (.tmp 3) rfl (w.heap.size + 1) 0 rfl (b.key.map cell) _ (by exact lb.k) Try.underlying25 rfl (sz25 b) ?_))
  refine (compareEntries_calls a b _).mono ?_
  rintro e w1 ⟨rfl, hb1⟩
  have hB1 := hB.trans (hb1.mono hZ)
  clear la lb hB hZ hb1
  go_wp2_with fail
  go_ret
  exact ⟨rfl, hB1⟩

/-! ### zzEntry -/
theorem list16 : ∀ l : List UInt8, l.length = 16 → ∃ a0 a1 a2 a3 a4 a5 a6 a7 a8 a9 a10 a11 a12 a13 a14 a15, l = [a0, a1, a2, a3, a4, a5, a6, a7, a8, a9, a10, a11, a12, a13, a14, a15]
  | [a0, a1, a2, a3, a4, a5, a6, a7, a8, a9, a10, a11, a12, a13, a14, a15], _ => ⟨a0, a1, a2, a3, a4, a5, a6, a7, a8, a9, a10, a11, a12, a13, a14, a15, rfl⟩

theorem built25 (e : Ent) : Try.prog.built 25 [(0, .agg (e.p.map cell).toArray), (1, .agg (e.m.map cell).toArray), (2, .agg (e.t.map cell).toArray)] = some (row e.key) := by
  obtain ⟨p, m, t, hp, hm, ht⟩ := e
  obtain ⟨_, _, _, _, _, _, _, _, _, _, _, _, _, _, _, _, rfl⟩ := list16 p hp
  obtain ⟨_, _, _, _, _, _, _, _, _, _, _, _, _, _, _, _, rfl⟩ := list16 m hm
  obtain ⟨_, _, _, _, _, _, _, _, _, _, _, _, _, _, _, _, rfl⟩ := list16 t ht
  kernel_rfl

theorem there_new (w : World) (C : Array Value) (t : TypeId) (n : Nat) (h : C.size = n) : (w.alloc (.cells C t)).there w.heap.size 0 n := fun j hj => by
  rw [World.cell?_alloc_at _ _ _ _ rfl, World.frozen?_alloc_at _ _ _ _ rfl]
  exact ⟨by simp; omega, rfl⟩

theorem sz22 (xs : List UInt8) (h : xs.length = 16) : (Try.prog.info? 22).map (·.size) = some (xs.map cell).length := by rw [List.length_map, h]; exact Try.size22

/-- The world behind the four variables of zzEntry. -/
def four (w : World) (x : Ent) (Z : Array Value) : World := (((w.alloc (.cells (row x.p) 22)).alloc (.cells (row x.m) 22)).alloc (.cells (row x.t) 22)).alloc (.cells Z 25)

theorem range_new' (w : World) (xs : List UInt8) (t : TypeId) (n : Nat) (hn : n = w.heap.size) : (w.alloc (.cells (row xs) t)).rangeAt n 0 (xs.map cell) := by
  subst hn
  exact range_new w xs t

theorem four_p (w : World) (x : Ent) (Z : Array Value) : (four w x Z).rangeAt w.heap.size 0 (x.p.map cell) :=
  World.rangeAt_alloc (World.rangeAt_alloc (World.rangeAt_alloc (range_new w x.p 22) _) _) _
theorem four_m (w : World) (x : Ent) (Z : Array Value) : (four w x Z).rangeAt (w.heap.size + 1) 0 (x.m.map cell) :=
  World.rangeAt_alloc (World.rangeAt_alloc (range_new' _ x.m 22 _ (by simp)) _) _
theorem four_t (w : World) (x : Ent) (Z : Array Value) : (four w x Z).rangeAt (w.heap.size + 2) 0 (x.t.map cell) :=
  World.rangeAt_alloc (range_new' _ x.t 22 _ (by simp)) _
theorem four_z (w : World) (x : Ent) (Z : Array Value) (n : Nat) (h : Z.size = n) : (four w x Z).there (w.heap.size + 3) 0 n := by
  have e := there_new ((((w.alloc (.cells (row x.p) 22)).alloc (.cells (row x.m) 22)).alloc (.cells (row x.t) 22))) Z 25 n h
  have hz : ((((w.alloc (.cells (row x.p) 22)).alloc (.cells (row x.m) 22)).alloc (.cells (row x.t) 22))).heap.size = w.heap.size + 3 := by simp
  rw [hz] at e
  exact e
theorem four_below (w : World) (x : Ent) (Z : Array Value) : Below w.heap.size w (four w x Z) :=
  ((((Below.refl _ _).alloc (Nat.le_refl _) _).alloc (by simp) _).alloc (by simp; omega) _).alloc (by simp; omega) _

theorem below_setCells {B : Nat} {a : World} (b : Nat) (hb : B ≤ b) : ∀ (vs : List Value) (o : Nat) (w : World), Below B a w → Below B a (w.setCells b o vs)
  | [], _, _, h => h
  | v :: vs, o, w, h => below_setCells b hb vs (o + 1) _ (h.setCell (by exact hb) v)

theorem row_one (xs : List UInt8) : (row xs).all (·.oneCell') = true := all_oneCell_toArray (fun v hv => by
  obtain ⟨u, _, rfl⟩ := List.mem_map.1 hv
  rfl)

/-- A result that lies in a variable of its own. -/
theorem results_cell_mid {P : Program} {fn : Func} {p : Tmp} {ty : TypeId} (h : fn.results = #[.cell p ty]) (tmps : Array Value) (w : World) (b o : Nat) (cs : List Value) (d : TypeDesc)
    (hp : tmps.getD p undef = .pointer (some ⟨b, o, none⟩)) (hc : w.rangeAt b o cs)
    (hu : P.underlying ty = some d) (hd : d.isRow = true) (hi : (P.info? ty).map (·.size) = some cs.length) :
    (results fn tmps).run P w = .ok (.agg cs.toArray) w := by
  have hp' : tmps[p]?.getD undef = .pointer (some ⟨b, o, none⟩) := by simpa using hp
  simp [results, h, hp', asAddr, run_loadVar_mid w b o ty cs d hc hu hd hi]

/-- A struct built out of its parts, at the list of a plain region's operations. -/
theorem wpList_build_of {P : Program} {ops : Array Oper} {rest : List Oper} {op : Oper} {a : Act} {w : World} {Q : Exit → Act → World → Prop} (hgd : op.guard = none) (ty : TypeId) (parts : List (Nat × Operand)) (ho : op.op = .build ty parts.toArray)
    (vals : List (Nat × Value)) (hv : (parts.map fun (i, x) => (i, a.eval x)) = vals) (cells : Array Value) (hb : P.built ty vals = some cells)
    (h : wpList P ops Q rest (a.put op.dst (.agg cells)) w) : wpList P ops Q (op :: rest) a w :=
  wpList_plain hgd fun K hK => by
    have e : (parts.toArray.map fun (i, x) => (i, a.eval x)) = vals.toArray := by rw [← hv]; simp
    have hr := run_build (P := P) w ty vals.toArray cells (by simpa using hb)
    unfold Oper.wp execOp
    simp only [ho, e, hr, Sem.run_bind, Sem.run_pure, Result.andThen_ok]
    exact hK _ _ h

set_option maxHeartbeats 400000 in
/-- zzEntry. -/
theorem zzEntry_calls (x : Ent) (w : World) :
    Calls Try.prog 7 #[.agg (row x.p), .agg (row x.m), .agg (row x.t)] w fun e w' => e = .returned (.agg (row x.key)) ∧ Below w.heap.size w w' := by
  go_enter Try.func7, Try.ntmps7
  go_wp2_with (first
    | (refine wpList_load_mid rfl 22 (.tmp 3) rfl w.heap.size 0 rfl (x.p.map cell) _ (by exact four_p w x _) Try.underlying22 rfl (sz22 _ x.hp) ?_)
    | (refine wpList_load_mid rfl 22 (.tmp 4) rfl (w.heap.size + 1) 0 rfl (x.m.map cell) _ (by exact four_m w x _) Try.underlying22 rfl (sz22 _ x.hm) ?_)
    | (refine wpList_load_mid rfl 22 (.tmp 5) rfl (w.heap.size + 2) 0 rfl (x.t.map cell) _ (by exact four_t w x _) Try.underlying22 rfl (sz22 _ x.ht) ?_)
    | (refine wpList_build_of rfl 25 [(0, .tmp 7), (1, .tmp 8), (2, .tmp 9)] rfl [(0, .agg (x.p.map cell).toArray), (1, .agg (x.m.map cell).toArray), (2, .agg (x.t.map cell).toArray)] rfl (row x.key) (built25 x) ?_)
    | (refine wpList_store_mid rfl 25 (.tmp 6) (.tmp 10) rfl (w.heap.size + 3) 0 (row x.key) rfl rfl (by exact four_z w x _ _ (by rw [size_row, x.len]; rfl)) (by rw [size_row, x.len]; exact Try.size25) (row_one _) ?_))
  refine bodyPost_ret (v := .agg (row x.key)) ?_ rfl ⟨rfl, ?_⟩
  · exact results_cell_mid Try.results7 _ _ (w.heap.size + 3) 0 (x.key.map cell) _ rfl (World.rangeAt_setCells_same _ _ _ _ (by exact four_z w x _ _ (by rw [Array.length_toList, size_row, x.len]; rfl))) Try.underlying25 rfl (sz25 x)
  · exact below_setCells _ (by omega) _ _ _ (by exact four_below w x _)

end Go.Proofs.Qxb6620896a
