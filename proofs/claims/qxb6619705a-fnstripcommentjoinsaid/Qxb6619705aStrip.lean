/-
  PLAIN MATHEMATICS: cutting a line at its first '#' outside double quotes. No Go in sight. Bytes: 34 is the quote, 35 is '#'.
-/
namespace Go.Proofs.Qxb6619705a.Strip

/-- The place of the first 35 that stands outside quotes, or the length; 'q': inside quotes at the start. -/
def cutAt : Bool → List UInt8 → Nat
  | _, [] => 0
  | q, c :: l => if c = 34 then cutAt (!q) l + 1 else if c = 35 ∧ q = false then 0 else cutAt q l + 1

/-- Inside quotes behind l? -/
def quo : Bool → List UInt8 → Bool
  | q, [] => q
  | q, c :: l => quo (if c = 34 then !q else q) l

/-- How many quotes. -/
def quotes : List UInt8 → Nat
  | [] => 0
  | c :: l => if c = 34 then quotes l + 1 else quotes l

theorem cutAt_le (l : List UInt8) : ∀ q, cutAt q l ≤ l.length := by
  induction l with
  | nil => intro q; simp [cutAt]
  | cons c l ih =>
    intro q
    have h1 := ih q
    have h2 := ih (!q)
    simp only [cutAt, List.length_cons]
    split
    · omega
    · split <;> omega

theorem cutAt_append_lt (a b : List UInt8) : ∀ q, cutAt q a < a.length → cutAt q (a ++ b) = cutAt q a := by
  induction a with
  | nil => intro q h; simp at h
  | cons c l ih =>
    intro q h
    simp only [cutAt, List.cons_append, List.length_cons] at h ⊢
    split
    · rename_i hc
      rw [if_pos hc] at h
      rw [ih (!q) (by omega)]
    · rename_i hc
      rw [if_neg hc] at h
      split
      · rfl
      · rename_i hd
        rw [if_neg hd] at h
        rw [ih q (by omega)]

theorem cutAt_append_eq (a b : List UInt8) : ∀ q, cutAt q a = a.length → cutAt q (a ++ b) = a.length + cutAt (quo q a) b := by
  induction a with
  | nil => intro q _; simp [quo]
  | cons c l ih =>
    intro q h
    simp only [cutAt, quo, List.cons_append, List.length_cons] at h ⊢
    split
    · rename_i hc
      rw [if_pos hc] at h
      rw [ih (!q) (by omega)]
      omega
    · rename_i hc
      rw [if_neg hc] at h
      split
      · rename_i hd
        rw [if_pos hd] at h
        omega
      · rename_i hd
        rw [if_neg hd] at h
        rw [ih q (by omega)]
        omega

theorem quo_append (a b : List UInt8) : ∀ q, quo q (a ++ b) = quo (quo q a) b := by
  induction a with
  | nil => intro q; rfl
  | cons c l ih => intro q; simp only [quo, List.cons_append]; exact ih _

theorem quotes_append (a b : List UInt8) : quotes (a ++ b) = quotes a + quotes b := by
  induction a with
  | nil => simp [quotes]
  | cons c l ih => simp only [quotes, List.cons_append]; split <;> omega

theorem quotes_le (l : List UInt8) : quotes l ≤ l.length := by
  induction l with
  | nil => simp [quotes]
  | cons c l ih => simp only [quotes, List.length_cons]; split <;> omega

theorem quo_quotes (l : List UInt8) : ∀ q, quo q l = (q ^^ decide (quotes l % 2 = 1)) := by
  induction l with
  | nil => intro q; cases q <;> rfl
  | cons c l ih =>
    intro q
    simp only [quo, quotes]
    rw [ih]
    split
    · by_cases h : quotes l % 2 = 1
      · have h' : ¬ (quotes l + 1) % 2 = 1 := by omega
        simp [h, h']
      · have h' : (quotes l + 1) % 2 = 1 := by omega
        simp [h, h']
    · rfl

theorem quo_even (l : List UInt8) (h : quotes l % 2 = 0) : quo false l = false := by
  have h' : ¬ quotes l % 2 = 1 := by omega
  rw [quo_quotes]; simp [h]
theorem quo_odd (l : List UInt8) (h : ¬ quotes l % 2 = 0) : quo false l = true := by
  have h' : quotes l % 2 = 1 := by omega
  rw [quo_quotes]; simp [h']
theorem even_of_quo (l : List UInt8) (h : quo false l = false) : quotes l % 2 = 0 := by
  rw [quo_quotes] at h
  have h' : ¬ quotes l % 2 = 1 := by simpa using h
  omega

theorem take_snoc (l : List UInt8) (k : Nat) (h : k < l.length) : l.take (k + 1) = l.take k ++ [l[k]] := by
  rw [List.take_succ_eq_append_getElem h]

/-- The part ahead of the cut is cut nowhere. -/
theorem cutAt_take (l : List UInt8) : ∀ q, cutAt q (l.take (cutAt q l)) = cutAt q l := by
  induction l with
  | nil => intro q; simp [cutAt]
  | cons c l ih =>
    intro q
    by_cases hc : c = 34
    · simp [cutAt, hc, ih]
    · by_cases hd : c = 35 ∧ q = false
      · obtain ⟨rfl, rfl⟩ := hd; simp [cutAt]
      · simp [cutAt, hc, hd, ih]

/-- At the cut stands a 35, and an even number of quotes goes before. -/
theorem at_cut (l : List UInt8) : ∀ q (h : cutAt q l < l.length), l[cutAt q l] = 35 ∧ quo q (l.take (cutAt q l)) = false := by
  induction l with
  | nil => intro q h; simp at h
  | cons c l ih =>
    intro q h
    by_cases hc : c = 34
    · have e : cutAt q (c :: l) = cutAt (!q) l + 1 := by simp [cutAt, hc]
      have h' : cutAt (!q) l < l.length := by rw [e] at h; simpa using h
      have := ih (!q) h'
      simp only [e, List.getElem_cons_succ, List.take_succ_cons, quo, if_pos hc]
      exact this
    · by_cases hd : c = 35 ∧ q = false
      · have e : cutAt q (c :: l) = 0 := by simp [cutAt, hd]
        simp only [e]
        exact ⟨hd.1, by simp [quo, hd.2]⟩
      · have e : cutAt q (c :: l) = cutAt q l + 1 := by simp only [cutAt, if_neg hc, if_neg hd]
        have h' : cutAt q l < l.length := by rw [e] at h; simpa using h
        have := ih q h'
        simp only [e, List.getElem_cons_succ, List.take_succ_cons, quo, if_neg hc]
        exact this

/-- One byte more. -/
theorem cutAt_one (q : Bool) (c : UInt8) : cutAt q [c] = if c = 34 then 1 else if c = 35 ∧ q = false then 0 else 1 := by
  simp [cutAt]

/-- Where nothing is cut, a 35 stands behind an odd number of quotes. -/
theorem no_cut (l : List UInt8) (h : cutAt false l = l.length) (k : Nat) (hk : k < l.length) (h35 : l[k] = 35) : ¬ quotes (l.take k) % 2 = 0 := by
  intro he
  have hq := quo_even _ he
  have hs : l = l.take k ++ l.drop k := (List.take_append_drop k l).symm
  have hlen : (l.take k).length = k := by simp; omega
  have hd : l.drop k = l[k] :: l.drop (k + 1) := List.drop_eq_getElem_cons hk
  rcases Nat.lt_or_ge (cutAt false (l.take k)) (l.take k).length with hlt | hge
  · have e := cutAt_append_lt (l.take k) (l.drop k) false hlt
    rw [← hs] at e
    omega
  · have heq : cutAt false (l.take k) = (l.take k).length := Nat.le_antisymm (cutAt_le _ _) hge
    have e := cutAt_append_eq (l.take k) (l.drop k) false heq
    rw [← hs, hq, hd, h35] at e
    simp only [cutAt] at e
    simp at e
    omega

end Go.Proofs.Qxb6619705a.Strip
