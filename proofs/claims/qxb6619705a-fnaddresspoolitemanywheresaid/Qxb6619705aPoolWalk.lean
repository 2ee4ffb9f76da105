/-
  THE WALK of FnAddressPoolItemAnywhere.
-/
import Derived.Test.Qxb6619705aItems
namespace Go.Proofs.Qxb6619705a
open Go.RowKit

/-- The pool item's name. -/
def poolName : ByteArray := ⟨#[65, 115, 99, 101, 110, 100, 45, 65, 115, 115, 105, 103, 110, 45, 73, 80, 45, 80, 111, 111, 108]⟩

theorem make_items1 (n : Nat) (hn : n ≤ 65536) : ∃ C : Array Value, C.size = (n + 1) * 4 ∧ ∀ w : World,
    (Instr.makeSlice 27 (.int .i64 ((n : Int) + 1)) (.int .i64 ((n : Int) + 1))).run Try.prog w = .ok (.slice (some ⟨w.heap.size, 0, none⟩) (n + 1) (n + 1)) (w.alloc (.cells C 31)) := by
  obtain ⟨C, hC, h⟩ := make_items (n + 1) (by omega)
  refine ⟨C, hC, fun w => ?_⟩
  have h' := h w
  rw [show ((n + 1 : Nat) : Int) = (n : Int) + 1 by omega] at h'
  exact h'

theorem hid_pool {p : Prop} (h : p) : Hid p := h
theorem put_at {α : Type} (f : Nat → α) (i : Nat) (v : α) : Item.put f i v i = v := by simp [Item.put]
theorem put_past {α : Type} (f : Nat → α) (i j : Nat) (v : α) (h : i ≤ j) : Item.put f i v (j + 1) = f j := by
  unfold Item.put
  rw [if_neg (by omega), if_neg (by omega), Nat.add_sub_cancel]

/-- A Profile whose reply items are x. -/
def prof (x : Value) : Obj := .cells #[.string ⟨#[]⟩, .int .i64 0, .slice none 0 0, x] 34

theorem two_boxes (wr : World) (x y : Value) : ((wr.alloc (prof x)).alloc (prof y)).cell? ⟨wr.heap.size, 3, none⟩ = some x ∧ ((wr.alloc (prof x)).alloc (prof y)).cell? ⟨wr.heap.size + 1, 3, none⟩ = some y ∧
    ((wr.alloc (prof x)).alloc (prof y)).heap.size = wr.heap.size + 2 ∧ Below wr.heap.size wr ((wr.alloc (prof x)).alloc (prof y)) := by
  unfold prof
  refine ⟨?_, ?_, by simp, ((Below.refl _ _).alloc (Nat.le_refl _) _).alloc (by simp) _⟩
  · rw [World.cell?_alloc_past _ _ _ (by simp), World.cell?_alloc_at _ _ _ _ rfl]; rfl
  · rw [World.cell?_alloc_at _ _ _ _ (by simp)]; rfl

theorem nms_put (nm : Nat → ByteArray) (i : Nat) : nms (Item.put nm i poolName) = Item.put (nms nm) i Item.pool := by
  funext k
  unfold nms Item.put
  split
  · rfl
  · split
    · rw [ByteArray.toList_eq]; rfl
    · rfl

/-- What the two answers are: a whole address both times; or none, and a pool behind. -/
theorem answers (x : Int × Bool) : (∃ p, Item.answer x = (0, p) ∧ Item.answer (x.1, true) = (0, true)) ∨ ∃ a, (a == 0) = false ∧ Item.answer x = (a, false) ∧ Item.answer (x.1, true) = (a, false) := by
  obtain ⟨h1, h2, h3⟩ := Item.law x
  generalize Item.answer (x.1, true) = y at *
  generalize Item.answer x = z at *
  obtain ⟨a, p⟩ := z
  obtain ⟨a', p'⟩ := y
  dsimp only at h1 h2 h3
  by_cases h : a = 0
  · subst h; subst h2; left; exact ⟨p, rfl, by rw [h3]; simp⟩
  · right
    refine ⟨a, by simpa using h, ?_, ?_⟩
    · cases p
      · rfl
      · exact absurd ⟨h, rfl⟩ h1
    · rw [h2, h3]; simp [h]

set_option maxHeartbeats 1000000 in
theorem pool_main (a0 a1 a2 a3 : Option Addr) (n i c0 c1 c2 c3 : Nat) (nm vl : Nat → ByteArray) (nu li : Nat → Int) (w : World) (m0 : n ≤ maxLen) (hin : i ≤ n)
    (v0 : SView w a0 n fun k => .string (nm k)) (v1 : SView w a1 n fun k => .string (vl k)) (v2 : SView w a2 n fun k => .int .u32 (nu k)) (v3 : SView w a3 n fun k => .int .i64 (li k)) :
    Calls Try.prog 3 #[.slice a0 n c0, .slice a1 n c1, .slice a2 n c2, .slice a3 n c3, .int .i64 (i : Int)] w fun e w' => e = .returned (.bool true) ∧ Below w.heap.size w w' := by
  go_enter Try.func3, Try.ntmps3
  go_wp2_with fail
  refine (zzBytes_any a0 a1 a2 a3 n n n n c0 c1 c2 c3 _ nm vl _ m0 m0 v0 v1).mono ?_
  rintro e w' ⟨⟨b, rfl⟩, hw'⟩
  replace hw' := hw'.symm
  subst hw'
  cases b
  · go_wp2
    go_ret
    exact ⟨rfl, Below.refl _ _⟩
  go_wp2_with fail
  refine (tooBig_any a0 a1 a2 a3 n n n n c0 c1 c2 c3 nm vl _ m0 m0 m0 m0 v0 v1).mono ?_
  rintro e w' ⟨⟨b, rfl, hs⟩, hw'⟩
  replace hw' := hw'.symm
  subst hw'
  cases b
  rotate_left
  · go_wp2
    go_ret
    exact ⟨rfl, Below.refl _ _⟩
  obtain ⟨hn, -, -, -⟩ := hs rfl
  clear hs
  have q1 : ((n : Int) != (n : Int)) = false := by simp
  have q2 : decide ((i : Int) < 0) = false := by simp
  have q3 : decide ((n : Int) < (i : Int)) = false := by simp; omega
  go_wp2_with fail
  refine (items_any a0 a1 a2 a3 n c0 c1 c2 c3 nm vl nu li _ hn v0 v1 v2 v3).mono ?_
  rintro e w1 ⟨rfl, hit, hb1, hz1⟩
  obtain ⟨C, hC, hmk⟩ := make_items1 n hn
  go_wp2_with fail
  clear hmk
  have hg1 : w.heap.size < w1.heap.size := by omega
  have hfree : Free (w1.alloc (.cells C 31)) (w.heap.size + 1) (n + 1) := by have h := free_made w1 C (n + 1) hC; rw [hz1] at h; exact h
  have hit2 : Items (w1.alloc (.cells C 31)) w.heap.size n nm vl nu li := hit.below ((Below.refl w1.heap.size w1).alloc (Nat.le_refl _) _) hg1
  have hb2 : Below w.heap.size w (w1.alloc (.cells C 31)) := hb1.alloc (by omega) _
  have hz2 : Hid ((w1.alloc (.cells C 31)).heap.size = w.heap.size + 2) := by show _ = _; simp [hz1]
  generalize w1.alloc (.cells C 31) = w2 at *
  clear hit hb1 hz1 hC hg1
  go_loopw [13] (fun x wr => ∃ k : Nat, k ≤ i ∧ x = .int .i64 k ∧ Items wr (w.heap.size + 1) k (Item.put nm i poolName) (Item.put vl i ⟨#[]⟩) (Item.put nu i 0) (Item.put li i 0) ∧ Free wr (w.heap.size + 1) (n + 1) ∧ Below (w.heap.size + 1) w2 wr ∧ Hid (wr.heap.size = w.heap.size + 2))
    (fun x _ => i - (intOf x).toNat)
  case atStart => exact ⟨0, Nat.zero_le _, rfl, fun k hk => by omega, hfree, Below.refl _ _, hz2⟩
  case round =>
    obtain ⟨k, hk, rfl, ht, hf, hb, hz⟩ := hrel
    by_cases hlt : k < i
    · obtain ⟨d0, d1, d2, d3⟩ := (hit2.below hb (by omega)) k (by omega)
      obtain ⟨⟨x0, e0⟩, f0⟩ := hf (k * 4) (by omega)
      obtain ⟨⟨x1, e1⟩, f1⟩ := hf (k * 4 + 1) (by omega)
      obtain ⟨⟨x2, e2⟩, f2⟩ := hf (k * 4 + 2) (by omega)
      obtain ⟨⟨x3, e3⟩, f3⟩ := hf (k * 4 + 3) (by omega)
      go_wp2
      go_roundw
      case rel => exact ⟨k + 1, by omega, by go_num, items_put ht hf (by omega) (if_pos hlt) (if_pos hlt) (if_pos hlt) (if_pos hlt), free_put hf (by omega) _ _ _ _, put4_below hb (Nat.le_refl _) _ _ _ _, (put4_size _ _ _ _ _ _ _).trans hz.out⟩
      case measure => simp [intOf]; omega
    · obtain rfl : k = i := by omega
      obtain ⟨⟨x0, e0⟩, f0⟩ := hf (k * 4) (by omega)
      obtain ⟨⟨x1, e1⟩, f1⟩ := hf (k * 4 + 1) (by omega)
      obtain ⟨⟨x2, e2⟩, f2⟩ := hf (k * 4 + 2) (by omega)
      obtain ⟨⟨x3, e3⟩, f3⟩ := hf (k * 4 + 3) (by omega)
      have l1 : ¬ k < k := by omega
      go_wp2
      obtain ⟨wo, rfl⟩ : ∃ wo : World, wo = wr := ⟨_, rfl⟩
      go_loopw [14] (fun x wr => ∃ j : Nat, k ≤ j ∧ j ≤ n ∧ x = .int .i64 j ∧ Items wr (w.heap.size + 1) (j + 1) (Item.put nm k poolName) (Item.put vl k ⟨#[]⟩) (Item.put nu k 0) (Item.put li k 0) ∧ Free wr (w.heap.size + 1) (n + 1) ∧ Below (w.heap.size + 1) w2 wr ∧ Hid (wr.heap.size = w.heap.size + 2))
        (fun x _ => n - (intOf x).toNat)
      case atStart => exact ⟨k, Nat.le_refl _, hin, rfl, items_put ht hf (by omega) (put_at nm k _) (put_at vl k _) (put_at nu k _) (put_at li k _), free_put hf (by omega) _ _ _ _, put4_below hb (Nat.le_refl _) _ _ _ _, (put4_size _ _ _ _ _ _ _).trans hz.out⟩
      case round =>
        clear ht hf hb hz e0 e1 e2 e3 f0 f1 f2 f3
        obtain ⟨j, hkj, hjn, rfl, ht, hf, hb, hz⟩ := hrel
        by_cases hlt : j < n
        · obtain ⟨d0, d1, d2, d3⟩ := (hit2.below hb (by omega)) j hlt
          obtain ⟨⟨x0, e0⟩, f0⟩ := hf ((j + 1) * 4) (by omega)
          obtain ⟨⟨x1, e1⟩, f1⟩ := hf ((j + 1) * 4 + 1) (by omega)
          obtain ⟨⟨x2, e2⟩, f2⟩ := hf ((j + 1) * 4 + 2) (by omega)
          obtain ⟨⟨x3, e3⟩, f3⟩ := hf ((j + 1) * 4 + 3) (by omega)
          go_wp2
          go_roundw
          case rel => exact ⟨j + 1, by omega, by omega, by go_num, items_put ht hf (by omega) (put_past nm k j _ hkj) (put_past vl k j _ hkj) (put_past nu k j _ hkj) (put_past li k j _ hkj), free_put hf (by omega) _ _ _ _, put4_below hb (Nat.le_refl _) _ _ _ _, (put4_size _ _ _ _ _ _ _).trans hz.out⟩
          case measure => simp [intOf]; omega
        · obtain rfl : j = n := by omega
          go_wp2_with fail
          obtain ⟨t1, t2, t3, t4⟩ := two_boxes wr (.slice (some ⟨w.heap.size, 0, none⟩) j j) (.slice (some ⟨w.heap.size + 1, 0, none⟩) (j + 1) (j + 1))
          have hz1 : wr.heap.size ≤ w.heap.size + 2 := Nat.le_of_eq hz.out
          have hz2' : w.heap.size + 2 ≤ wr.heap.size := Nat.le_of_eq hz.out.symm
          have it1 : Items ((wr.alloc (prof (.slice (some ⟨w.heap.size, 0, none⟩) j j))).alloc (prof (.slice (some ⟨w.heap.size + 1, 0, none⟩) (j + 1) (j + 1)))) w.heap.size j nm vl nu li := (hit2.below hb (by omega)).below t4 (by omega)
          have it2 := ht.below t4 (by omega)
          have hB4 := ((hb2.trans (hb.mono (by omega))).trans (t4.mono (by omega)))
          clear hb hz
          have A1 := address_any wr.heap.size w.heap.size j j nm vl nu li _ (by omega) t1 (by omega) it1
          have A2 := fun (w5 : World) (h5 : Below (wr.heap.size + 2) _ w5) => address_any (wr.heap.size + 1) (w.heap.size + 1) (j + 1) (j + 1) _ _ _ _ w5 (by omega) ((h5.cell (by show _ < _; simp)).trans t2) (by have := h5.size; omega) (it2.below h5 (by omega))
          rw [t3] at A1
          have F : Item.fold (nms (Item.put nm k poolName)) (Item.put nu k 0) (j + 1) = ((Item.fold (nms nm) nu j).1, true) := by rw [nms_put]; exact Item.fold_high _ _ k j hkj
          simp only [F] at A2
          clear F t1 t2 it1 it2 ht hf hit2 t4
          have T3 := hid_pool t3
          clear t3
          rcases answers (Item.fold (nms nm) nu j) with ⟨p, g1, g2⟩ | ⟨a, ha, g1, g2⟩
          rotate_left
          · have ha2 : (a != 0) = true := by simp [bne, ha]
            have ha3 : ¬ a = 0 := by simpa using ha
            rw [g1] at A1
            simp only [g2] at A2
            clear g1 g2
            have HA2 := hid_pool A2
            clear A2
            unfold prof at A1
            refine A1.mono ?_
            rintro e w5 ⟨rfl, hb5⟩
            go_wp2_with fail
            refine (HA2.out w5 hb5).mono ?_
            rintro e w6 ⟨rfl, hb6⟩
            have s5 : wr.heap.size + 2 ≤ w5.heap.size := Nat.le_trans (Nat.le_of_eq T3.out.symm) hb5.size
            clear HA2
            go_wp2_with fail
            go_ret
            exact ⟨rfl, (hB4.trans (hb5.mono (by omega))).trans (hb6.mono (by omega))⟩
          · rw [g1] at A1
            simp only [g2] at A2
            clear g1 g2
            have HA2 := hid_pool A2
            clear A2
            unfold prof at A1
            refine A1.mono ?_
            rintro e w5 ⟨rfl, hb5⟩
            go_wp2_with fail
            refine (HA2.out w5 hb5).mono ?_
            rintro e w6 ⟨rfl, hb6⟩
            have s5 : wr.heap.size + 2 ≤ w5.heap.size := Nat.le_trans (Nat.le_of_eq T3.out.symm) hb5.size
            clear HA2
            go_wp2_with fail
            go_ret
            exact ⟨rfl, (hB4.trans (hb5.mono (by omega))).trans (hb6.mono (by omega))⟩
/-! ### THE WAYS ON WHICH THE LAW ANSWERS AT ONCE -/
set_option maxHeartbeats 1000000 in
theorem pool_early (a0 a1 a2 a3 : Option Addr) (n0 n1 n2 n3 c0 c1 c2 c3 : Nat) (i : Int) (nm vl : Nat → ByteArray) (w : World) (m0 : n0 ≤ maxLen) (m1 : n1 ≤ maxLen) (m2 : n2 ≤ maxLen) (m3 : n3 ≤ maxLen)
    (v0 : SView w a0 n0 fun k => .string (nm k)) (v1 : SView w a1 n1 fun k => .string (vl k))
    (h : n0 ≠ n1 ∨ (n0 = n1 ∧ n0 ≠ n2) ∨ (n0 = n1 ∧ n0 = n2 ∧ n0 ≠ n3) ∨ (n0 = n1 ∧ n0 = n2 ∧ n0 = n3 ∧ i < 0) ∨ (n0 = n1 ∧ n0 = n2 ∧ n0 = n3 ∧ 0 ≤ i ∧ (n0 : Int) < i)) :
    Calls Try.prog 3 #[.slice a0 n0 c0, .slice a1 n1 c1, .slice a2 n2 c2, .slice a3 n3 c3, .int .i64 i] w fun e w' => e = .returned (.bool true) ∧ Below w.heap.size w w' := by
  have m0' := m0
  have m1' := m1
  have m2' := m2
  have m3' := m3
  unfold maxLen at m0' m1' m2' m3'
  rcases h with h | ⟨rfl, h⟩ | ⟨rfl, rfl, h⟩ | ⟨rfl, rfl, rfl, h⟩ | ⟨rfl, rfl, rfl, h, h'⟩
  · have q : ((n0 : Int) != (n1 : Int)) = true := by rw [bne_iff_ne]; omega
    clear h
    go_enter Try.func3, Try.ntmps3
    go_wp2_with fail
    refine (zzBytes_any a0 a1 a2 a3 _ _ _ _ c0 c1 c2 c3 _ nm vl _ m0 m1 v0 v1).mono ?_
    rintro e w' ⟨⟨b, rfl⟩, hw'⟩
    replace hw' := hw'.symm
    subst hw'
    cases b
    · go_wp2
      go_ret
      exact ⟨rfl, Below.refl _ _⟩
    go_wp2_with fail
    refine (tooBig_any a0 a1 a2 a3 _ _ _ _ c0 c1 c2 c3 nm vl _ m0 m1 m2 m3 v0 v1).mono ?_
    rintro e w' ⟨⟨b, rfl, hs⟩, hw'⟩
    replace hw' := hw'.symm
    subst hw'
    clear hs
    cases b <;> (go_wp2_with fail; go_ret; exact ⟨rfl, Below.refl _ _⟩)
  · have q : ((n0 : Int) != (n2 : Int)) = true := by rw [bne_iff_ne]; omega
    clear h
    go_enter Try.func3, Try.ntmps3
    go_wp2_with fail
    refine (zzBytes_any a0 a1 a2 a3 _ _ _ _ c0 c1 c2 c3 _ nm vl _ m0 m1 v0 v1).mono ?_
    rintro e w' ⟨⟨b, rfl⟩, hw'⟩
    replace hw' := hw'.symm
    subst hw'
    cases b
    · go_wp2
      go_ret
      exact ⟨rfl, Below.refl _ _⟩
    go_wp2_with fail
    refine (tooBig_any a0 a1 a2 a3 _ _ _ _ c0 c1 c2 c3 nm vl _ m0 m1 m2 m3 v0 v1).mono ?_
    rintro e w' ⟨⟨b, rfl, hs⟩, hw'⟩
    replace hw' := hw'.symm
    subst hw'
    clear hs
    cases b <;> (go_wp2_with fail; go_ret; exact ⟨rfl, Below.refl _ _⟩)
  · have q : ((n0 : Int) != (n3 : Int)) = true := by rw [bne_iff_ne]; omega
    clear h
    go_enter Try.func3, Try.ntmps3
    go_wp2_with fail
    refine (zzBytes_any a0 a1 a2 a3 _ _ _ _ c0 c1 c2 c3 _ nm vl _ m0 m1 v0 v1).mono ?_
    rintro e w' ⟨⟨b, rfl⟩, hw'⟩
    replace hw' := hw'.symm
    subst hw'
    cases b
    · go_wp2
      go_ret
      exact ⟨rfl, Below.refl _ _⟩
    go_wp2_with fail
    refine (tooBig_any a0 a1 a2 a3 _ _ _ _ c0 c1 c2 c3 nm vl _ m0 m1 m2 m3 v0 v1).mono ?_
    rintro e w' ⟨⟨b, rfl, hs⟩, hw'⟩
    replace hw' := hw'.symm
    subst hw'
    clear hs
    cases b <;> (go_wp2_with fail; go_ret; exact ⟨rfl, Below.refl _ _⟩)
  · go_enter Try.func3, Try.ntmps3
    go_wp2_with fail
    refine (zzBytes_any a0 a1 a2 a3 _ _ _ _ c0 c1 c2 c3 _ nm vl _ m0 m1 v0 v1).mono ?_
    rintro e w' ⟨⟨b, rfl⟩, hw'⟩
    replace hw' := hw'.symm
    subst hw'
    cases b
    · go_wp2
      go_ret
      exact ⟨rfl, Below.refl _ _⟩
    go_wp2_with fail
    refine (tooBig_any a0 a1 a2 a3 _ _ _ _ c0 c1 c2 c3 nm vl _ m0 m1 m2 m3 v0 v1).mono ?_
    rintro e w' ⟨⟨b, rfl, hs⟩, hw'⟩
    replace hw' := hw'.symm
    subst hw'
    clear hs
    cases b <;> (go_wp2_with fail; go_ret; exact ⟨rfl, Below.refl _ _⟩)
  · have q : decide (i < 0) = false := by simpa using h
    have q' : decide ((n0 : Int) < i) = true := by simpa using h'
    go_enter Try.func3, Try.ntmps3
    go_wp2_with fail
    refine (zzBytes_any a0 a1 a2 a3 _ _ _ _ c0 c1 c2 c3 _ nm vl _ m0 m1 v0 v1).mono ?_
    rintro e w' ⟨⟨b, rfl⟩, hw'⟩
    replace hw' := hw'.symm
    subst hw'
    cases b
    · go_wp2
      go_ret
      exact ⟨rfl, Below.refl _ _⟩
    go_wp2_with fail
    refine (tooBig_any a0 a1 a2 a3 _ _ _ _ c0 c1 c2 c3 nm vl _ m0 m1 m2 m3 v0 v1).mono ?_
    rintro e w' ⟨⟨b, rfl, hs⟩, hw'⟩
    replace hw' := hw'.symm
    subst hw'
    clear hs
    cases b <;> (go_wp2_with fail; go_ret; exact ⟨rfl, Below.refl _ _⟩)

/-- FnAddressPoolItemAnywhere. -/
theorem pool_walk (a0 a1 a2 a3 : Option Addr) (n0 n1 n2 n3 c0 c1 c2 c3 : Nat) (i : Int) (nm vl : Nat → ByteArray) (nu li : Nat → Int) (w : World) (m0 : n0 ≤ maxLen) (m1 : n1 ≤ maxLen) (m2 : n2 ≤ maxLen) (m3 : n3 ≤ maxLen)
    (v0 : SView w a0 n0 fun k => .string (nm k)) (v1 : SView w a1 n1 fun k => .string (vl k)) (v2 : SView w a2 n2 fun k => .int .u32 (nu k)) (v3 : SView w a3 n3 fun k => .int .i64 (li k)) :
    Calls Try.prog 3 #[.slice a0 n0 c0, .slice a1 n1 c1, .slice a2 n2 c2, .slice a3 n3 c3, .int .i64 i] w fun e w' => e = .returned (.bool true) ∧ Below w.heap.size w w' := by
  by_cases h : n0 = n1 ∧ n0 = n2 ∧ n0 = n3 ∧ 0 ≤ i ∧ i ≤ (n0 : Int)
  · obtain ⟨rfl, rfl, rfl, hi, hn⟩ := h
    obtain ⟨i, rfl⟩ := Int.eq_ofNat_of_zero_le hi
    exact pool_main a0 a1 a2 a3 n0 i c0 c1 c2 c3 nm vl nu li w m0 (by omega) v0 v1 v2 v3
  · exact pool_early a0 a1 a2 a3 n0 n1 n2 n3 c0 c1 c2 c3 i nm vl w m0 m1 m2 m3 v0 v1 (by omega)

end Go.Proofs.Qxb6619705a
