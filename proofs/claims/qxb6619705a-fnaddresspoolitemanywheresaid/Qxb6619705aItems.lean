/-
  THE WALK of zzb1Items: a new row of items.
-/
import Derived.Test.Qxb6619705aAddr
import Derived.RegionTactic
import Derived.BigRegion
import Derived.OwnWalk
namespace Go.Proofs.Qxb6619705a
open Go.RowKit

theorem Try.info31 : (Try.prog.info? 31).map (fun i => (i.zero, i.size, i.bytes)) = some (some (.agg #[.string ByteArray.empty, .string ByteArray.empty, .int .u32 0, .int .i64 0]), 4, 48) := by kernel_rfl

/-- 'make([]Item, n)': a new block of four cells an item. -/
theorem make_items (n : Nat) (hn : n ≤ 65537) : ∃ C : Array Value, C.size = n * 4 ∧ ∀ w : World,
    (Instr.makeSlice 27 (.int .i64 (n : Int)) (.int .i64 (n : Int))).run Try.prog w = .ok (.slice (some ⟨w.heap.size, 0, none⟩) n n) (w.alloc (.cells C 31)) := by
  obtain ⟨i, hi, hz, hs, hb⟩ := info_parts Try.info31
  refine ⟨madeCells (Value.agg #[.string ByteArray.empty, .string ByteArray.empty, .int .u32 0, .int .i64 0]).cells (n * 4), size_madeCells _ _, fun w => ?_⟩
  have h := run_make (P := Try.prog) w 27 31 i _ Try.underlying27 hi hz .i64 .i64 n n (by omega) (by omega) (by rw [hb]; omega) (by omega)
  rw [hs] at h
  simpa using h

/-- Each cell of the row is there and may be written. -/
def Free (w : World) (g n : Nat) : Prop := ∀ o, o < n * 4 → (∃ v, w.cell? ⟨g, o, none⟩ = some v) ∧ w.frozen? ⟨g, o, none⟩ = false

theorem free_made (w : World) (C : Array Value) (n : Nat) (h : C.size = n * 4) : Free (w.alloc (.cells C 31)) w.heap.size n := fun o ho =>
  ⟨⟨C[o]'(by omega), by rw [World.cell?_alloc_at _ _ _ _ rfl]; exact Array.getElem?_eq_getElem (by omega)⟩, World.frozen?_alloc_at _ _ _ _ rfl⟩

/-- One item stored at place k of block g. -/
def put4 (w : World) (g k : Nat) (a b c d : Value) : World :=
  (((w.setCell ⟨g, k * 4, none⟩ a).setCell ⟨g, k * 4 + 1, none⟩ b).setCell ⟨g, k * 4 + 2, none⟩ c).setCell ⟨g, k * 4 + 3, none⟩ d

theorem put4_other (w : World) (g k : Nat) (a b c d : Value) (g' o : Nat) (h : g' ≠ g ∨ o < k * 4 ∨ k * 4 + 4 ≤ o) : (put4 w g k a b c d).cell? ⟨g', o, none⟩ = w.cell? ⟨g', o, none⟩ := by
  have ne : ∀ j, j < 4 → (⟨g, k * 4 + j, none⟩ : Addr) ≠ ⟨g', o, none⟩ := by
    intro j hj e
    injection e with e1 e2
    omega
  unfold put4
  rw [World.cell?_setCell_other _ _ _ _ (ne 3 (by omega)), World.cell?_setCell_other _ _ _ _ (ne 2 (by omega)), World.cell?_setCell_other _ _ _ _ (ne 1 (by omega))]
  exact World.cell?_setCell_other _ _ _ _ (ne 0 (by omega))

theorem ne_off {g i j : Nat} (h : i ≠ j) : (⟨g, i, none⟩ : Addr) ≠ ⟨g, j, none⟩ := by
  intro e
  injection e with e1 e2
  exact h e2

theorem put4_same (w : World) (g k n : Nat) (a b c d : Value) (hf : Free w g n) (hk : k < n) :
    (put4 w g k a b c d).cell? ⟨g, k * 4, none⟩ = some a ∧ (put4 w g k a b c d).cell? ⟨g, k * 4 + 1, none⟩ = some b ∧ (put4 w g k a b c d).cell? ⟨g, k * 4 + 2, none⟩ = some c ∧ (put4 w g k a b c d).cell? ⟨g, k * 4 + 3, none⟩ = some d := by
  obtain ⟨⟨x0, e0⟩, _⟩ := hf (k * 4) (by omega)
  obtain ⟨⟨x1, e1⟩, _⟩ := hf (k * 4 + 1) (by omega)
  obtain ⟨⟨x2, e2⟩, _⟩ := hf (k * 4 + 2) (by omega)
  obtain ⟨⟨x3, e3⟩, _⟩ := hf (k * 4 + 3) (by omega)
  unfold put4
  refine ⟨?_, ?_, ?_, ?_⟩
  · rw [World.cell?_setCell_other _ _ _ _ (ne_off (by omega)), World.cell?_setCell_other _ _ _ _ (ne_off (by omega)), World.cell?_setCell_other _ _ _ _ (ne_off (by omega))]
    exact World.cell?_setCell_same _ _ _ e0
  · rw [World.cell?_setCell_other _ _ _ _ (ne_off (by omega)), World.cell?_setCell_other _ _ _ _ (ne_off (by omega))]
    refine World.cell?_setCell_same (u := x1) _ _ _ ?_
    rw [World.cell?_setCell_other _ _ _ _ (ne_off (by omega))]
    exact e1
  · rw [World.cell?_setCell_other _ _ _ _ (ne_off (by omega))]
    refine World.cell?_setCell_same (u := x2) _ _ _ ?_
    rw [World.cell?_setCell_other _ _ _ _ (ne_off (by omega)), World.cell?_setCell_other _ _ _ _ (ne_off (by omega))]
    exact e2
  · refine World.cell?_setCell_same (u := x3) _ _ _ ?_
    rw [World.cell?_setCell_other _ _ _ _ (ne_off (by omega)), World.cell?_setCell_other _ _ _ _ (ne_off (by omega)), World.cell?_setCell_other _ _ _ _ (ne_off (by omega))]
    exact e3

theorem put4_frozen (w : World) (g k : Nat) (a b c d : Value) (x : Addr) : (put4 w g k a b c d).frozen? x = w.frozen? x := by
  unfold put4
  rw [World.frozen?_setCell, World.frozen?_setCell, World.frozen?_setCell, World.frozen?_setCell]

theorem put4_size (w : World) (g k : Nat) (a b c d : Value) : (put4 w g k a b c d).heap.size = w.heap.size := by
  simp [put4, World.setCell]

theorem put4_below {B g k : Nat} {w wr : World} (hb : Below B w wr) (hg : B ≤ g) (a b c d : Value) : Below B w (put4 wr g k a b c d) :=
  (((hb.setCell (by exact hg) _).setCell (by exact hg) _).setCell (by exact hg) _).setCell (by exact hg) _

theorem free_put {w : World} {g n k : Nat} (hf : Free w g n) (hk : k < n) (a b c d : Value) : Free (put4 w g k a b c d) g n := by
  intro o ho
  refine ⟨?_, (put4_frozen _ _ _ _ _ _ _ _).trans (hf o ho).2⟩
  by_cases h : o < k * 4 ∨ k * 4 + 4 ≤ o
  · rw [put4_other _ _ _ _ _ _ _ _ _ (Or.inr h)]
    exact (hf o ho).1
  · obtain ⟨s0, s1, s2, s3⟩ := put4_same w g k n a b c d hf hk
    have hc : o = k * 4 ∨ o = k * 4 + 1 ∨ o = k * 4 + 2 ∨ o = k * 4 + 3 := by omega
    rcases hc with rfl | rfl | rfl | rfl
    · exact ⟨_, s0⟩
    · exact ⟨_, s1⟩
    · exact ⟨_, s2⟩
    · exact ⟨_, s3⟩

theorem items_put {w : World} {g n k : Nat} {nm vl : Nat → ByteArray} {nu li : Nat → Int} (hi : Items w g k nm vl nu li) (hf : Free w g n) (hk : k < n) {a b : ByteArray} {c d : Int} (ea : nm k = a) (eb : vl k = b) (ec : nu k = c) (ed : li k = d) :
    Items (put4 w g k (.string a) (.string b) (.int .u32 c) (.int .i64 d)) g (k + 1) nm vl nu li := by
  subst ea eb ec ed
  intro j hj
  by_cases h : j = k
  · subst h
    exact put4_same w g j n _ _ _ _ hf hk
  · obtain ⟨c0, c1, c2, c3⟩ := hi j (by omega)
    refine ⟨?_, ?_, ?_, ?_⟩
    · rw [put4_other _ _ _ _ _ _ _ _ _ (Or.inr (Or.inl (by omega)))]; exact c0
    · rw [put4_other _ _ _ _ _ _ _ _ _ (Or.inr (Or.inl (by omega)))]; exact c1
    · rw [put4_other _ _ _ _ _ _ _ _ _ (Or.inr (Or.inl (by omega)))]; exact c2
    · rw [put4_other _ _ _ _ _ _ _ _ _ (Or.inr (Or.inl (by omega)))]; exact c3

theorem Items.drew {w : World} {g n : Nat} {nm vl : Nat → ByteArray} {nu li : Nat → Int} (h : Items w g n nm vl nu li) : Items w.drew g n nm vl nu li := h
theorem Free.drew {w : World} {g n : Nat} (h : Free w g n) : Free w.drew g n := h
theorem Items.below {B : Nat} {w w' : World} {g n : Nat} {nm vl : Nat → ByteArray} {nu li : Nat → Int} (h : Items w g n nm vl nu li) (hb : Below B w w') (hg : g < B) : Items w' g n nm vl nu li := by
  intro k hk
  obtain ⟨c0, c1, c2, c3⟩ := h k hk
  exact ⟨(hb.cell (by exact hg)).trans c0, (hb.cell (by exact hg)).trans c1, (hb.cell (by exact hg)).trans c2, (hb.cell (by exact hg)).trans c3⟩

set_option maxHeartbeats 1000000 in
theorem items_some (b0 o0 b1 o1 b2 o2 b3 o3 n c0 c1 c2 c3 : Nat) (nm vl : Nat → ByteArray) (nu li : Nat → Int) (w : World) (hn : n ≤ 65536)
    (l0 : b0 < w.heap.size) (l1 : b1 < w.heap.size) (l2 : b2 < w.heap.size) (l3 : b3 < w.heap.size)
    (v0 : ∀ k, k < n → w.cell? ⟨b0, o0 + k, none⟩ = some (.string (nm k))) (v1 : ∀ k, k < n → w.cell? ⟨b1, o1 + k, none⟩ = some (.string (vl k)))
    (v2 : ∀ k, k < n → w.cell? ⟨b2, o2 + k, none⟩ = some (.int .u32 (nu k))) (v3 : ∀ k, k < n → w.cell? ⟨b3, o3 + k, none⟩ = some (.int .i64 (li k))) :
    Calls Try.prog 8 #[.slice (some ⟨b0, o0, none⟩) n c0, .slice (some ⟨b1, o1, none⟩) n c1, .slice (some ⟨b2, o2, none⟩) n c2, .slice (some ⟨b3, o3, none⟩) n c3] w fun e w' =>
      e = .returned (.slice (some ⟨w.heap.size, 0, none⟩) n n) ∧ Items w' w.heap.size n nm vl nu li ∧ Below w.heap.size w w' ∧ w'.heap.size = w.heap.size + 1 := by
  obtain ⟨C, hC, hmk⟩ := make_items n (by omega)
  have hfree := free_made w C n hC
  go_enter Try.func8, Try.ntmps8
  go_wp2
  clear hmk
  go_loopw [10] (fun i wr => ∃ k : Nat, k ≤ n ∧ i = .int .i64 k ∧ Items wr w.heap.size k nm vl nu li ∧ Free wr w.heap.size n ∧ Below w.heap.size w wr ∧ Hid (wr.heap.size = w.heap.size + 1)) (fun i _ => n - (intOf i).toNat)
  case atStart => exact ⟨0, Nat.zero_le _, rfl, fun k hk => by omega, hfree, (Below.refl _ _).alloc (Nat.le_refl _) _, by show _ = _; simp⟩
  case round =>
    obtain ⟨k, hk, rfl, hit, hfr, hb, hsz⟩ := hrel
    clear hfree
    by_cases hlt : k < n
    · have d0 : wr.cell? ⟨b0, o0 + k, none⟩ = some (.string (nm k)) := (hb.cell (by exact l0)).trans (v0 k hlt)
      have d1 : wr.cell? ⟨b1, o1 + k, none⟩ = some (.string (vl k)) := (hb.cell (by exact l1)).trans (v1 k hlt)
      have d2 : wr.cell? ⟨b2, o2 + k, none⟩ = some (.int .u32 (nu k)) := (hb.cell (by exact l2)).trans (v2 k hlt)
      have d3 : wr.cell? ⟨b3, o3 + k, none⟩ = some (.int .i64 (li k)) := (hb.cell (by exact l3)).trans (v3 k hlt)
      obtain ⟨⟨x0, e0⟩, f0⟩ := hfr (k * 4) (by omega)
      obtain ⟨⟨x1, e1⟩, f1⟩ := hfr (k * 4 + 1) (by omega)
      obtain ⟨⟨x2, e2⟩, f2⟩ := hfr (k * 4 + 2) (by omega)
      obtain ⟨⟨x3, e3⟩, f3⟩ := hfr (k * 4 + 3) (by omega)
      generalize hg : w.heap.size = g at *
      clear v0 v1 v2 v3
      go_wp2
      go_region
      go_wp2
      go_roundw
      case rel => exact ⟨k + 1, by omega, by go_num, (items_put hit hfr hlt rfl rfl rfl rfl).drew, (free_put hfr hlt _ _ _ _).drew, (put4_below hb (Nat.le_refl _) _ _ _ _).drew, (put4_size _ _ _ _ _ _ _).trans hsz.out⟩
      case measure => simp [intOf]; omega
    · go_wp2
      go_ret
      obtain rfl : k = n := by omega
      exact ⟨rfl, hit, hb, hsz.out⟩

theorem items_none (a0 a1 a2 a3 : Option Addr) (c0 c1 c2 c3 : Nat) (nm vl : Nat → ByteArray) (nu li : Nat → Int) (w : World) :
    Calls Try.prog 8 #[.slice a0 0 c0, .slice a1 0 c1, .slice a2 0 c2, .slice a3 0 c3] w fun e w' =>
      e = .returned (.slice (some ⟨w.heap.size, 0, none⟩) 0 0) ∧ Items w' w.heap.size 0 nm vl nu li ∧ Below w.heap.size w w' ∧ w'.heap.size = w.heap.size + 1 := by
  obtain ⟨C, hC, hmk⟩ := make_items 0 (by omega)
  simp only [Int.natCast_zero] at hmk
  go_enter Try.func8, Try.ntmps8
  go_wp2
  refine wp_loop_rounds 1 ?_; rw [rounds_succ]
  go_wp2
  go_ret
  exact ⟨rfl, fun k hk => by omega, (Below.refl _ _).alloc (Nat.le_refl _) _, by simp⟩

/-- zzb1Items. -/
theorem items_any (a0 a1 a2 a3 : Option Addr) (n c0 c1 c2 c3 : Nat) (nm vl : Nat → ByteArray) (nu li : Nat → Int) (w : World) (hn : n ≤ 65536)
    (v0 : SView w a0 n fun k => .string (nm k)) (v1 : SView w a1 n fun k => .string (vl k)) (v2 : SView w a2 n fun k => .int .u32 (nu k)) (v3 : SView w a3 n fun k => .int .i64 (li k)) :
    Calls Try.prog 8 #[.slice a0 n c0, .slice a1 n c1, .slice a2 n c2, .slice a3 n c3] w fun e w' =>
      e = .returned (.slice (some ⟨w.heap.size, 0, none⟩) n n) ∧ Items w' w.heap.size n nm vl nu li ∧ Below w.heap.size w w' ∧ w'.heap.size = w.heap.size + 1 := by
  by_cases h : n = 0
  · subst h
    exact items_none a0 a1 a2 a3 c0 c1 c2 c3 nm vl nu li w
  · have lt : ∀ {b o : Nat} {f : Nat → Value}, (∀ k, k < n → w.cell? ⟨b, o + k, none⟩ = some (f k)) → b < w.heap.size := fun {b o f} hc => block_lt_of_cell (hc 0 (by omega))
    rcases v0 with rfl | ⟨b0, o0, rfl, h0⟩
    · exact absurd rfl h
    rcases v1 with rfl | ⟨b1, o1, rfl, h1⟩
    · exact absurd rfl h
    rcases v2 with rfl | ⟨b2, o2, rfl, h2⟩
    · exact absurd rfl h
    rcases v3 with rfl | ⟨b3, o3, rfl, h3⟩
    · exact absurd rfl h
    exact items_some b0 o0 b1 o1 b2 o2 b3 o3 n c0 c1 c2 c3 nm vl nu li w hn (lt h0) (lt h1) (lt h2) (lt h3) h0 h1 h2 h3

end Go.Proofs.Qxb6619705a
