/- Plain laws: the indentation test as a function on lists of bytes; the keyword table. No program in sight. -/
namespace Go.Proofs.Ytkbbkfggkacplaa

def wsb (c : UInt8) : Bool := decide (c.toNat = 32 ∨ c.toNat = 9)
/-- What checkWhitespace gives from place i on. -/
def cwL : List UInt8 → List UInt8 → Nat → Nat
  | [], _, i => i
  | x :: xs, b, i => if wsb x then (match b with | [] => 0 | y :: ys => if x = y then cwL xs ys (i + 1) else 0) else i
theorem cwL_nil (b : List UInt8) (i : Nat) : cwL [] b i = i := by simp [cwL]
theorem cwL_stop (x : UInt8) (xs b : List UInt8) (i : Nat) (h : wsb x = false) : cwL (x :: xs) b i = i := by cases b <;> simp [cwL, h]
theorem cwL_short (x : UInt8) (xs : List UInt8) (i : Nat) (h : wsb x = true) : cwL (x :: xs) [] i = 0 := by simp [cwL, h]
theorem cwL_same (x : UInt8) (xs ys : List UInt8) (i : Nat) (h : wsb x = true) : cwL (x :: xs) (x :: ys) i = cwL xs ys (i + 1) := by simp [cwL, h]
theorem cwL_part (x y : UInt8) (xs ys : List UInt8) (i : Nat) (h : wsb x = true) (hne : x ≠ y) : cwL (x :: xs) (y :: ys) i = 0 := by simp [cwL, h, hne]

theorem cwL_more : ∀ (a b c : List UInt8) (i : Nat), cwL a b i ≠ 0 → cwL a (b ++ c) i = cwL a b i := by
  intro a
  induction a with
  | nil => intro b c i _; rw [cwL_nil, cwL_nil]
  | cons x xs ih =>
    intro b c i h
    cases hx : wsb x with
    | false => rw [cwL_stop x xs _ i hx, cwL_stop x xs _ i hx]
    | true =>
      cases b with
      | nil => rw [cwL_short x xs i hx] at h; exact absurd rfl h
      | cons y ys =>
        by_cases he : x = y
        · subst he
          rw [List.cons_append, cwL_same x xs _ i hx, cwL_same x xs _ i hx]
          rw [cwL_same x xs _ i hx] at h
          exact ih ys c (i + 1) h
        · rw [cwL_part x y xs ys i hx he] at h; exact absurd rfl h
theorem cwL_trans : ∀ (a b c : List UInt8) (i j : Nat), cwL a b i ≠ 0 → cwL b c j ≠ 0 → cwL a c i = cwL a b i := by
  intro a
  induction a with
  | nil => intro b c i j _ _; rw [cwL_nil, cwL_nil]
  | cons x xs ih =>
    intro b c i j h h'
    cases hx : wsb x with
    | false => rw [cwL_stop x xs _ i hx, cwL_stop x xs _ i hx]
    | true =>
      cases b with
      | nil => rw [cwL_short x xs i hx] at h; exact absurd rfl h
      | cons y ys =>
        by_cases he : x = y
        · subst he
          rw [cwL_same x xs ys i hx] at h ⊢
          cases c with
          | nil => rw [cwL_short x ys j hx] at h'; exact absurd rfl h'
          | cons z zs =>
            by_cases hz : x = z
            · subst hz
              rw [cwL_same x ys zs j hx] at h'
              rw [cwL_same x xs zs i hx]
              exact ih ys zs (i + 1) (j + 1) h h'
            · rw [cwL_part x z ys zs j hx hz] at h'; exact absurd rfl h'
        · rw [cwL_part x y xs ys i hx he] at h; exact absurd rfl h

/-- The length of the leading run of blanks. -/
def wsLen : List UInt8 → Nat
  | [] => 0
  | x :: xs => if wsb x then wsLen xs + 1 else 0
theorem wsLen_le : ∀ a : List UInt8, wsLen a ≤ a.length := by
  intro a
  induction a with
  | nil => simp [wsLen]
  | cons x xs ih =>
    rw [wsLen]
    split
    · rw [List.length_cons]; omega
    · omega
theorem wsLen_eq : ∀ (a : List UInt8) (i : Nat), i ≤ a.length → (∀ t, t < i → (h : t < a.length) → wsb a[t] = true) → (i = a.length ∨ ∃ h : i < a.length, wsb a[i] = false) → wsLen a = i := by
  intro a
  induction a with
  | nil => intro i hi _ _; simp at hi; simp [wsLen, hi]
  | cons x xs ih =>
    intro i hi hall hend
    rw [wsLen]
    cases i with
    | zero =>
      rcases hend with h | ⟨_, h⟩
      · simp at h
      · simp at h; simp [h]
    | succ i =>
      have hx : wsb x = true := hall 0 (by omega) (by simp)
      rw [if_pos hx, ih i (by simpa using hi) (fun t ht h => by have := hall (t + 1) (by omega) (by simpa using h); simpa using this) ?_]
      rcases hend with h | ⟨h, hf⟩
      · exact .inl (by simpa using h)
      · exact .inr ⟨by simpa using h, by simpa using hf⟩
/-- Does b begin with p? -/
def begins : List UInt8 → List UInt8 → Bool
  | _, [] => true
  | [], _ :: _ => false
  | y :: ys, x :: xs => decide (y = x) && begins ys xs
theorem begins_eq : ∀ (p b : List UInt8), begins b p = (decide (p.length ≤ b.length) && decide (∀ t, t < p.length → p[t]? = b[t]?)) := by
  intro p
  induction p with
  | nil => intro b; simp [begins]
  | cons x xs ih =>
    intro b
    cases b with
    | nil => simp [begins]
    | cons y ys =>
      rw [begins, ih ys, Bool.eq_iff_iff]
      simp only [Bool.and_eq_true, decide_eq_true_eq, List.length_cons]
      constructor
      · rintro ⟨rfl, h1, h2⟩
        refine ⟨by omega, fun t ht => ?_⟩
        cases t with
        | zero => rfl
        | succ t => simpa using h2 t (by omega)
      · rintro ⟨h1, h2⟩
        refine ⟨?_, by omega, fun t ht => ?_⟩
        · have := h2 0 (by omega); simpa using this.symm
        · have := h2 (t + 1) (by omega); simpa using this
theorem begins_true (b p : List UInt8) (hl : p.length ≤ b.length) (h : ∀ t, t < p.length → p[t]? = b[t]?) : begins b p = true := by
  rw [begins_eq]; simp only [Bool.and_eq_true, decide_eq_true_eq]; exact ⟨hl, h⟩
theorem begins_short (b p : List UInt8) (hl : b.length < p.length) : begins b p = false := by
  rw [begins_eq]; simp only [Bool.and_eq_false_iff, decide_eq_false_iff_not]; exact .inl (by omega)
theorem begins_parts (b p : List UInt8) (t : Nat) (ht : t < p.length) (h : p[t]? ≠ b[t]?) : begins b p = false := by
  rw [begins_eq]; simp only [Bool.and_eq_false_iff, decide_eq_false_iff_not]; exact .inr fun hh => h (hh t ht)
theorem cwL_model : ∀ (a b : List UInt8) (i : Nat), cwL a b i = if begins b (a.take (wsLen a)) then i + wsLen a else 0 := by
  intro a
  induction a with
  | nil => intro b i; cases b <;> simp [cwL_nil, wsLen, begins]
  | cons x xs ih =>
    intro b i
    cases hx : wsb x with
    | false =>
      rw [cwL_stop x xs _ i hx, wsLen]
      cases b <;> simp [hx, begins]
    | true =>
      rw [wsLen, if_pos hx, List.take_succ_cons]
      cases b with
      | nil => rw [cwL_short x xs i hx]; simp [begins]
      | cons y ys =>
        by_cases he : x = y
        · subst he
          rw [cwL_same x xs ys i hx, ih ys (i + 1), begins]
          simp only [decide_true, Bool.true_and]
          split <;> omega
        · rw [cwL_part x y xs ys i hx he, begins]
          have : decide (y = x) = false := decide_eq_false (fun h => he h.symm)
          simp [this]
end Go.Proofs.Ytkbbkfggkacplaa
