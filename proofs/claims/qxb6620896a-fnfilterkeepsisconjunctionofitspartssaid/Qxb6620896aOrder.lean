/-
  PLAIN: the order of rows of bytes, off the library's own comparison.
-/
import Derived.Lib.Bytealg
namespace Go.Proofs.Qxb6620896a.Order
open Go.Lib (compareBytes)

theorem cmp_cons (x y : UInt8) (xs ys : List UInt8) : compareBytes (x :: xs) (y :: ys) = if x < y then -1 else if y < x then 1 else compareBytes xs ys := by
  rw [compareBytes]

theorem cmp_self : ∀ xs : List UInt8, compareBytes xs xs = 0
  | [] => rfl
  | x :: xs => by rw [cmp_cons, if_neg (UInt8.lt_irrefl x), if_neg (UInt8.lt_irrefl x)]; exact cmp_self xs

theorem lt_asymm {x y : UInt8} (h : x < y) : ¬ y < x := by
  rw [UInt8.lt_iff_toNat_lt] at *
  omega

theorem eq_of_not {x y : UInt8} (h : ¬ x < y) (h' : ¬ y < x) : x = y := by
  rw [UInt8.lt_iff_toNat_lt] at *
  apply UInt8.toNat_inj.1
  omega

/-- The other way round: the sign turns. -/
theorem cmp_neg : ∀ xs ys : List UInt8, compareBytes ys xs = - compareBytes xs ys
  | [], [] => rfl
  | [], _ :: _ => rfl
  | _ :: _, [] => rfl
  | x :: xs, y :: ys => by
    rw [cmp_cons, cmp_cons]
    by_cases h : x < y
    · rw [if_neg (lt_asymm h), if_pos h, if_pos h]; rfl
    · by_cases h' : y < x
      · rw [if_pos h', if_neg h, if_pos h']
      · rw [if_neg h', if_neg h, if_neg h, if_neg h']
        exact cmp_neg xs ys

theorem cmp_zero : ∀ xs ys : List UInt8, compareBytes xs ys = 0 → xs = ys
  | [], [], _ => rfl
  | [], _ :: _, h => by simp [compareBytes] at h
  | _ :: _, [], h => by simp [compareBytes] at h
  | x :: xs, y :: ys, h => by
    rw [cmp_cons] at h
    by_cases h1 : x < y
    · rw [if_pos h1] at h; omega
    · rw [if_neg h1] at h
      by_cases h2 : y < x
      · rw [if_pos h2] at h; omega
      · rw [if_neg h2] at h
        rw [eq_of_not h1 h2, cmp_zero xs ys h]

/-- One of three. -/
theorem cmp_three : ∀ xs ys : List UInt8, compareBytes xs ys = -1 ∨ compareBytes xs ys = 0 ∨ compareBytes xs ys = 1
  | [], [] => .inr (.inl rfl)
  | [], _ :: _ => .inl rfl
  | _ :: _, [] => .inr (.inr rfl)
  | x :: xs, y :: ys => by
    rw [cmp_cons]
    by_cases h1 : x < y
    · rw [if_pos h1]; exact .inl rfl
    · rw [if_neg h1]
      by_cases h2 : y < x
      · rw [if_pos h2]; exact .inr (.inr rfl)
      · rw [if_neg h2]; exact cmp_three xs ys

theorem cmp_append (xs ys xs' ys' : List UInt8) (h : xs.length = ys.length) : compareBytes (xs ++ xs') (ys ++ ys') = if compareBytes xs ys ≠ 0 then compareBytes xs ys else compareBytes xs' ys' := by
  induction xs generalizing ys with
  | nil =>
    cases ys with
    | nil => simp [compareBytes]
    | cons y ys => simp at h
  | cons x xs ih =>
    cases ys with
    | nil => simp at h
    | cons y ys =>
      rw [List.cons_append, List.cons_append, cmp_cons, cmp_cons]
      by_cases h1 : x < y
      · rw [if_pos h1, if_pos h1]; simp
      · rw [if_neg h1, if_neg h1]
        by_cases h2 : y < x
        · rw [if_pos h2, if_pos h2]; simp
        · rw [if_neg h2, if_neg h2]
          exact ih ys (by simpa using h)

/-- Transitive, below and at. -/
theorem cmp_trans : ∀ xs ys zs : List UInt8, compareBytes xs ys ≤ 0 → compareBytes ys zs ≤ 0 → compareBytes xs zs ≤ 0
  | [], ys, [], _, _ => by simp [compareBytes]
  | [], ys, z :: zs, _, _ => by simp [compareBytes]
  | x :: xs, [], zs, h, _ => by simp [compareBytes] at h
  | x :: xs, y :: ys, [], _, h => by simp [compareBytes] at h
  | x :: xs, y :: ys, z :: zs, h, h' => by
    rw [cmp_cons] at *
    by_cases h1 : x < y
    · by_cases h2 : y < z
      · have h3 : x < z := by rw [UInt8.lt_iff_toNat_lt] at *; omega
        rw [if_pos h3]; omega
      · rw [if_neg h2] at h'
        by_cases h4 : z < y
        · rw [if_pos h4] at h'; omega
        · have e := eq_of_not h2 h4
          subst e
          rw [if_pos h1]; omega
    · rw [if_neg h1] at h
      by_cases h2 : y < x
      · rw [if_pos h2] at h; omega
      · have e := eq_of_not h1 h2
        subst e
        rw [if_neg h2] at h
        by_cases h3 : x < z
        · rw [if_pos h3]; omega
        · rw [if_neg h3] at h' ⊢
          by_cases h4 : z < x
          · rw [if_pos h4] at h'; omega
          · rw [if_neg h4] at h' ⊢
            exact cmp_trans xs ys zs h h'

/-- Where the first k agree. -/
theorem cmp_take : ∀ (k : Nat) (xs ys : List UInt8), xs.take k = ys.take k → k < xs.length → k < ys.length →
    compareBytes xs ys = if xs.getD k 0 < ys.getD k 0 then -1 else if ys.getD k 0 < xs.getD k 0 then 1 else compareBytes (xs.drop (k + 1)) (ys.drop (k + 1))
  | 0, x :: xs, y :: ys, _, _, _ => by rw [cmp_cons]; rfl
  | k + 1, x :: xs, y :: ys, h, h1, h2 => by
    simp only [List.take_succ_cons, List.cons.injEq] at h
    obtain ⟨rfl, h⟩ := h
    rw [cmp_cons, if_neg (UInt8.lt_irrefl x), if_neg (UInt8.lt_irrefl x)]
    exact cmp_take k xs ys h (by simpa using h1) (by simpa using h2)
  | _, [], _, _, h, _ => by simp at h
  | _, _ :: _, [], _, _, h => by simp at h

theorem cmp_lt (k : Nat) (xs ys : List UInt8) (h : xs.take k = ys.take k) (h1 : k < xs.length) (h2 : k < ys.length) (hlt : ((xs.getD k 0).toNat : Int) < ((ys.getD k 0).toNat : Int)) : compareBytes xs ys = -1 := by
  rw [cmp_take k xs ys h h1 h2, if_pos (UInt8.lt_iff_toNat_lt.2 (by omega))]
theorem cmp_gt (k : Nat) (xs ys : List UInt8) (h : xs.take k = ys.take k) (h1 : k < xs.length) (h2 : k < ys.length) (hlt : ((ys.getD k 0).toNat : Int) < ((xs.getD k 0).toNat : Int)) : compareBytes xs ys = 1 := by
  rw [cmp_take k xs ys h h1 h2, if_neg (fun e => by have := UInt8.lt_iff_toNat_lt.1 e; omega), if_pos (UInt8.lt_iff_toNat_lt.2 (by omega))]
theorem take_more (k : Nat) (xs ys : List UInt8) (h : xs.take k = ys.take k) (h1 : k < xs.length) (h2 : k < ys.length) (n1 : ¬ ((xs.getD k 0).toNat : Int) < ((ys.getD k 0).toNat : Int)) (n2 : ¬ ((ys.getD k 0).toNat : Int) < ((xs.getD k 0).toNat : Int)) :
    xs.take (k + 1) = ys.take (k + 1) := by
  have e : xs.getD k 0 = ys.getD k 0 := UInt8.toNat_inj.1 (by omega)
  rw [List.take_succ_eq_append_getElem h1, List.take_succ_eq_append_getElem h2, h]
  rw [List.getD_eq_getElem?_getD, List.getD_eq_getElem?_getD, List.getElem?_eq_getElem h1, List.getElem?_eq_getElem h2] at e
  simp only [Option.getD_some] at e
  rw [e]

end Go.Proofs.Qxb6620896a.Order
