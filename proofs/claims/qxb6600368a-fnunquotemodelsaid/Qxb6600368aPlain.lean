/- The plain law: no Go in sight. 'mach': the four-state machine; 'mid': what unquote does between the quotes. -/
namespace Go.Proofs.Qxb6600368a

def mach : Nat → List UInt8 → List UInt8 → Option (List UInt8)
  | st, [], acc => if st = 3 then some acc else none
  | st, c :: r, acc =>
    if st = 0 then (if c = 34 then mach 1 r acc else none)
    else if st = 1 then (if c = 34 then mach 3 r acc else if c = 92 then mach 2 r acc else mach 1 r (acc ++ [c]))
    else if st = 2 then mach 1 r (acc ++ [c])
    else none

def mid : List UInt8 → List UInt8 → Option (List UInt8)
  | [], acc => some acc
  | [c], acc => if c = 34 then none else if c = 92 then none else some (acc ++ [c])
  | c :: d :: r, acc => if c = 34 then none else if c = 92 then mid r (acc ++ [d]) else mid (d :: r) (acc ++ [c])

theorem mid_quote (r acc : List UInt8) : mid (34 :: r) acc = none := by
  cases r <;> simp [mid]
theorem mid_esc (d : UInt8) (r acc : List UInt8) : mid (92 :: d :: r) acc = mid r (acc ++ [d]) := by simp [mid]
theorem mid_esc_end (acc : List UInt8) : mid [92] acc = none := by simp [mid]
theorem mid_plain (c : UInt8) (r acc : List UInt8) (h1 : c ≠ 34) (h2 : c ≠ 92) : mid (c :: r) acc = mid r (acc ++ [c]) := by
  cases r <;> simp [mid, h1, h2]

theorem mach3 (c : UInt8) (r acc : List UInt8) : mach 3 (c :: r) acc = none := by simp [mach]
theorem mach_mid : ∀ (n : Nat) (m acc : List UInt8), m.length ≤ n → mach 1 (m ++ [34]) acc = mid m acc := by
  intro n
  induction n with
  | zero =>
    intro m acc h
    obtain rfl : m = [] := List.length_eq_zero_iff.1 (by omega)
    simp [mach, mid]
  | succ n ih =>
    intro m acc h
    cases m with
    | nil => simp [mach, mid]
    | cons c r =>
      by_cases h1 : c = 34
      · subst h1
        rw [mid_quote, List.cons_append, mach]
        cases r <;> simp [mach]
      by_cases h2 : c = 92
      · subst h2
        cases r with
        | nil => simp [mach, mid]
        | cons d r =>
          rw [mid_esc, ← ih r _ (by simp at h; omega), List.cons_append, List.cons_append, mach]
          simp [mach]
      rw [mid_plain c r acc h1 h2, ← ih r _ (by simp at h; omega), List.cons_append, mach]
      simp [h1, h2]

/-- The machine accepts only what ends in a quote. -/
theorem mach_last : ∀ (m : List UInt8) (st : Nat) (acc : List UInt8) (x : UInt8), x ≠ 34 → mach st (m ++ [x]) acc = none := by
  intro m
  induction m with
  | nil =>
    intro st acc x hx
    simp only [List.nil_append, mach, if_neg hx]
    split
    · rfl
    · split
      · split <;> simp
      · split <;> simp
  | cons c r ih =>
    intro st acc x hx
    simp only [List.cons_append, mach]
    split
    · split
      · exact ih _ _ _ hx
      · rfl
    · split
      · split
        · exact ih _ _ _ hx
        · split
          · exact ih _ _ _ hx
          · exact ih _ _ _ hx
      · split
        · exact ih _ _ _ hx
        · rfl

theorem mach_one (c : UInt8) : mach 0 [c] [] = none := by simp [mach]
theorem mach_start (c : UInt8) (r : List UInt8) (h : c ≠ 34) : mach 0 (c :: r) [] = none := by simp [mach, h]
theorem mach_open (r : List UInt8) : mach 0 (34 :: r) [] = mach 1 r [] := by simp [mach]

/-- What unquote answers. -/
def unq (l : List UInt8) : Option (List UInt8) :=
  if l.length < 2 then none else if l.head? ≠ some 34 then none else if l.getLast? ≠ some 34 then none else mid (l.tail.dropLast) []

/-- ████ THE PLAIN LAW ████ -/
theorem unq_mach (l : List UInt8) : unq l = mach 0 l [] := by
  unfold unq
  match l with
  | [] => simp [mach]
  | [c] => rw [mach_one]; simp
  | c :: d :: r =>
    rw [if_neg (by simp)]
    by_cases hc : c = 34
    · subst hc
      rw [if_neg (by simp), mach_open]
      have hne : (d :: r) ≠ [] := by simp
      have e := List.dropLast_concat_getLast hne
      by_cases hl : (d :: r).getLast hne = 34
      · rw [if_neg (by simp [List.getLast?_cons_cons, List.getLast?_eq_some_getLast hne, hl])]
        rw [hl] at e
        show mid (d :: r).dropLast [] = _
        rw [← mach_mid _ _ _ (Nat.le_refl _), e]
      · rw [if_pos (by simp [List.getLast?_cons_cons, List.getLast?_eq_some_getLast hne, hl]), ← e, mach_last _ _ _ _ hl]
    · rw [if_pos (by simp [hc]), mach_start _ _ hc]
end Go.Proofs.Qxb6600368a
