/- The plain law: no Go in sight. Where the scanner of a multi-line string stops, told by the bytes from its start on alone. -/
namespace Go.Proofs.Qxb6601227a

/-- How many of the first bytes are q. -/
def rl (q : UInt8) : List UInt8 → Nat
  | [] => 0
  | c :: t => if c = q then rl q t + 1 else 0

/-- How far the scanner goes on, the rest of the text before it; 'f': steps enough. -/
def scn (q : UInt8) : Nat → List UInt8 → Nat
  | 0, _ => 0
  | _ + 1, [] => 0
  | f + 1, c :: t =>
    if c = 92 ∧ q = 34 then (if t.isEmpty then 1 else 2 + scn q f t.tail)
    else if c = q then (if 3 ≤ rl q (c :: t) then min (rl q (c :: t)) 5 else rl q (c :: t) + scn q f ((c :: t).drop (rl q (c :: t))))
    else 1 + scn q f t

/-- Where the scanner ends that stands at p. -/
def fin (q : UInt8) (l : List UInt8) (f p : Nat) : Nat := if l.length ≤ p then l.length else p + scn q f (l.drop p)

theorem scn_nil (q : UInt8) (f : Nat) : scn q f [] = 0 := by cases f <;> simp [scn]

theorem drop_cons {l : List UInt8} {p : Nat} {c : UInt8} {t : List UInt8} (h : l.drop p = c :: t) : t = l.drop (p + 1) ∧ p < l.length := by
  have hl : (l.drop p).length = t.length + 1 := by rw [h]; simp
  simp at hl
  refine ⟨?_, by omega⟩
  have h2 : (l.drop p).tail = t := by rw [h]; rfl
  rw [← h2, List.tail_drop]

section
variable {q : UInt8} {l : List UInt8} {f p R : Nat} {c : UInt8} {t : List UInt8}

theorem rl_le (q : UInt8) (l : List UInt8) : rl q l ≤ l.length := by
  induction l with
  | nil => simp [rl]
  | cons c t ih => simp only [rl]; split <;> simp <;> omega

theorem fin_of (h : l.length ≤ p) (g : Nat) : fin q l g p = l.length := by unfold fin; rw [if_pos h]
theorem fin_at (g : Nat) (h : p ≤ l.length) : fin q l g p = p + scn q g (l.drop p) := by
  unfold fin
  split
  · rw [List.drop_eq_nil_of_le (by omega), scn_nil]; omega
  · rfl

theorem fin_esc (hd : l.drop p = 92 :: t) (hq : q = 34) (h : fin q l (f + 1) p = R) : fin q l f (p + 2) = R := by
  obtain ⟨ht, hp⟩ := drop_cons hd
  rw [fin_at _ (by omega), hd, scn, if_pos ⟨rfl, hq⟩] at h
  cases t with
  | nil =>
    have : l.length ≤ p + 1 := by
      have := congrArg List.length ht
      simp at this; omega
    rw [fin_of (by omega)]
    simp at h; omega
  | cons d t' =>
    obtain ⟨ht', hp'⟩ := drop_cons ht.symm
    rw [fin_at _ (by omega)]
    simp at h
    have e : l.drop (p + 1 + 1) = l.drop (p + 2) := rfl
    rw [← h, ht', e]
    omega

theorem fin_step (hd : l.drop p = c :: t) (h1 : ¬ (c = 92 ∧ q = 34)) (h2 : c ≠ q) (h : fin q l (f + 1) p = R) : fin q l f (p + 1) = R := by
  obtain ⟨ht, hp⟩ := drop_cons hd
  rw [fin_at _ (by omega), hd, scn, if_neg h1, if_neg h2] at h
  rw [fin_at _ (by omega), ← ht, ← h]
  omega

theorem fin_run (hd : l.drop p = c :: t) (h1 : ¬ (c = 92 ∧ q = 34)) (h2 : c = q) (h3 : ¬ 3 ≤ rl q (l.drop p)) (h : fin q l (f + 1) p = R) : fin q l f (p + rl q (l.drop p)) = R := by
  obtain ⟨ht, hp⟩ := drop_cons hd
  have hr := rl_le q (l.drop p)
  simp at hr
  rw [fin_at _ (by omega), hd, scn, if_neg h1, if_pos h2, ← hd, if_neg h3, List.drop_drop] at h
  rw [fin_at _ (by omega), ← h]
  omega

theorem fin_close (hd : l.drop p = c :: t) (h1 : ¬ (c = 92 ∧ q = 34)) (h2 : c = q) (h3 : 3 ≤ rl q (l.drop p)) (h : fin q l (f + 1) p = R) : R = p + min (rl q (l.drop p)) 5 := by
  obtain ⟨ht, hp⟩ := drop_cons hd
  rw [fin_at _ (by omega), hd, scn, if_neg h1, if_pos h2, ← hd, if_pos h3] at h
  exact h.symm

theorem rl_pos (hd : l.drop p = c :: t) (h2 : c = q) : 1 ≤ rl q (l.drop p) := by
  rw [hd]; simp [rl, h2]
end

/-- Where the scanner ends that begins at p, its quote there. -/
def ends (l : List UInt8) (p : Nat) : Nat := fin (l.getD p 0) l l.length (p + 3)

theorem scn_fuel (q : UInt8) : ∀ (f g : Nat) (r : List UInt8), r.length ≤ f → r.length ≤ g → scn q f r = scn q g r := by
  intro f
  induction f with
  | zero =>
    intro g r hf hg
    obtain rfl : r = [] := List.length_eq_zero_iff.1 (by omega)
    rw [scn_nil, scn_nil]
  | succ f ih =>
    intro g r hf hg
    cases r with
    | nil => rw [scn_nil, scn_nil]
    | cons c t =>
      simp at hf hg
      obtain ⟨g, rfl⟩ : ∃ g', g = g' + 1 := ⟨g - 1, by omega⟩
      simp only [scn]
      split
      · cases t with
        | nil => rfl
        | cons d t' => simp at hf hg ⊢; rw [ih g t' (by omega) (by omega)]
      · split
        · rename_i hc
          split
          · rfl
          · have hr : 1 ≤ rl q (c :: t) := by simp [rl, hc]
            rw [ih g ((c :: t).drop (rl q (c :: t))) (by simp; omega) (by simp; omega)]
        · rw [ih g t (by omega) (by omega)]

/-- ████ THE PLAIN LAW: what stands ahead of the start moves the end by its own length ████ -/
theorem ends_shift (a l : List UInt8) (p : Nat) (hp : p < l.length) : ends (a ++ l) (a.length + p) = ends l p + a.length := by
  unfold ends
  have e1 : (a ++ l).getD (a.length + p) 0 = l.getD p 0 := by
    simp [List.getD_eq_getElem?_getD, List.getElem?_append_right]
  rw [e1]
  generalize l.getD p 0 = q
  by_cases h : l.length ≤ p + 3
  · rw [fin_of (by simp; omega), fin_of h]
    simp; omega
  · rw [fin_at _ (by simp; omega), fin_at _ (by omega)]
    have e2 : (a ++ l).drop (a.length + p + 3) = l.drop (p + 3) := by
      rw [show a.length + p + 3 = a.length + (p + 3) from by omega, List.drop_append]
      simp
    rw [e2, scn_fuel q (a ++ l).length l.length (l.drop (p + 3)) (by simp; omega) (by simp)]
    omega

theorem fin_le (q : UInt8) (l : List UInt8) : ∀ (f p : Nat), l.length ≤ p + f → fin q l f p ≤ l.length := by
  have key : ∀ (f : Nat) (r : List UInt8), scn q f r ≤ r.length := by
    intro f
    induction f with
    | zero => intro r; simp [scn]
    | succ f ih =>
      intro r
      cases r with
      | nil => rw [scn_nil]; omega
      | cons c t =>
        simp only [scn]
        split
        · cases t with
          | nil => simp
          | cons d t' => have := ih t'; simp; omega
        · split
          · have h1 := rl_le q (c :: t)
            split
            · omega
            · have h2 := ih ((c :: t).drop (rl q (c :: t)))
              simp at h2 h1 ⊢; omega
          · have := ih t; simp; omega
  intro f p h
  unfold fin
  split
  · omega
  · have := key f (l.drop p)
    simp at this
    omega
end Go.Proofs.Qxb6601227a
