/-
  PLAIN: what Address reckons over items (name and number a place), and what one more pool item turns. No Go in sight.
-/
namespace Go.Proofs.Qxb6619705a.Item

def framed : List UInt8 := [70, 114, 97, 109, 101, 100, 45, 73, 80, 45, 65, 100, 100, 114, 101, 115, 115]
def pool : List UInt8 := [65, 115, 99, 101, 110, 100, 45, 65, 115, 115, 105, 103, 110, 45, 73, 80, 45, 80, 111, 111, 108]

/-- One item: the address and whether a pool was named. -/
def step (s : List UInt8) (n : Int) (x : Int × Bool) : Int × Bool :=
  if (s == framed) = true then (n, x.2) else if (s == pool) = true then (x.1, true) else x

/-- The first k items. -/
def fold (nm : Nat → List UInt8) (nu : Nat → Int) : Nat → Int × Bool
  | 0 => (0, false)
  | k + 1 => step (nm k) (nu k) (fold nm nu k)

/-- The answer. -/
def answer (x : Int × Bool) : Int × Bool :=
  if (x.1 == 4294967294) = true then (0, true) else if (x.1 == 4294967295) = true then (0, x.2) else if (x.1 == 0) = true then (0, x.2) else (x.1, false)

/-- A value laid in at place i. -/
def put {α : Type} (f : Nat → α) (i : Nat) (v : α) (k : Nat) : α := if k < i then f k else if k = i then v else f (k - 1)

theorem pool_ne : (pool == framed) = false := by decide

theorem fold_low (nm : Nat → List UInt8) (nu : Nat → Int) (i : Nat) : ∀ k, k ≤ i → fold (put nm i pool) (put nu i 0) k = fold nm nu k
  | 0, _ => rfl
  | k + 1, h => by
    have hk : k < i := by omega
    show step _ _ _ = step _ _ _
    rw [fold_low nm nu i k (by omega)]
    simp only [put, if_pos hk]

theorem step_pair (s : List UInt8) (n a : Int) (p : Bool) : step s n (a, true) = ((step s n (a, p)).1, true) := by
  unfold step
  split
  · rfl
  · split <;> rfl

theorem fold_high (nm : Nat → List UInt8) (nu : Nat → Int) (i : Nat) : ∀ k, i ≤ k → fold (put nm i pool) (put nu i 0) (k + 1) = ((fold nm nu k).1, true)
  | 0, h => by
    have hi : i = 0 := by omega
    subst hi
    show step _ _ _ = _
    simp [put, step, pool_ne, fold]
  | k + 1, h => by
    by_cases hi : i = k + 1
    · subst hi
      show step _ _ _ = _
      rw [fold_low nm nu (k + 1) (k + 1) (Nat.le_refl _)]
      simp [put, step, pool_ne]
    · have hk : i ≤ k := by omega
      show step _ _ _ = _
      rw [fold_high nm nu i k hk]
      have h1 : ¬ k + 1 < i := by omega
      have h2 : ¬ k + 1 = i := by omega
      simp only [put, if_neg h1, if_neg h2, Nat.add_sub_cancel]
      exact step_pair _ _ _ (fold nm nu k).2

/-- The law. -/
theorem law (x : Int × Bool) : ¬ ((answer x).1 ≠ 0 ∧ (answer x).2 = true) ∧ (answer (x.1, true)).1 = (answer x).1 ∧ (answer (x.1, true)).2 = decide ((answer x).1 = 0) := by
  unfold answer
  obtain ⟨a, p⟩ := x
  dsimp only
  by_cases h1 : a = 4294967294
  · subst h1; simp
  · by_cases h2 : a = 4294967295
    · subst h2; simp
    · by_cases h3 : a = 0
      · subst h3; simp
      · simp [h1, h2, h3]

end Go.Proofs.Qxb6619705a.Item
