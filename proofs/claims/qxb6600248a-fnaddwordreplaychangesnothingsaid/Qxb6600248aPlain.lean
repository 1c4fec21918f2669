/- The plain law: no Go in sight. A matcher's word tables as lists; 'addW' is what addWord does to them; a script run twice leaves what it leaves run once. -/
namespace Go.Proofs.Qxb6600248a

structure St where
  words : List ByteArray
  index : List Int
  same : List Int
  punct : List Bool
  any : Bool
  word : List Int

/-- The chain from v: none if w is met, else the last one met. -/
def look (same : List Int) (ws : List ByteArray) (w : ByteArray) : Nat → Int → Int → Option Int
  | 0, _, last => some last
  | f + 1, v, last => if v = -1 then some last else if ws.getD v.toNat ByteArray.empty = w then none else look same ws w f (same.getD v.toNat (-1)) v

/-- Is w met in the chain from v within f steps? -/
def pres (same : List Int) (ws : List ByteArray) (w : ByteArray) : Nat → Int → Prop
  | 0, _ => False
  | f + 1, v => v ≠ -1 ∧ (ws.getD v.toNat ByteArray.empty = w ∨ pres same ws w f (same.getD v.toNat (-1)))

structure Inv (S : St) : Prop where
  li : S.index.length = S.words.length
  ls : S.same.length = S.words.length
  lp : S.punct.length = S.words.length
  up : ∀ i, i < S.words.length → S.same.getD i (-1) = -1 ∨ ((i : Int) < S.same.getD i (-1) ∧ S.same.getD i (-1) < S.words.length)
  hd : ∀ i, i < S.word.length → S.word.getD i (-1) = -1 ∨ (0 ≤ S.word.getD i (-1) ∧ S.word.getD i (-1) < S.words.length)

def push (S : St) (n : Nat) (w : ByteArray) (k : Int) (p : Bool) (last : Int) : St :=
  { words := S.words ++ [w], index := S.index ++ [k], same := if last = -1 then S.same ++ [-1] else (S.same ++ [-1]).set last.toNat S.words.length,
    punct := S.punct ++ [p], any := S.any || p, word := if last = -1 then S.word.set n S.words.length else S.word }

def addW (S : St) (n : Nat) (w : ByteArray) (k : Int) (p : Bool) : St :=
  match look S.same S.words w (S.words.length + 1) (S.word.getD n (-1)) (-1) with
  | none => S
  | some last => push S n w k p last

/-- Steps are enough from v. -/
def Enough (N : Nat) (f : Nat) (v : Int) : Prop := v = -1 ∨ (0 ≤ v ∧ v < N ∧ (N : Int) - v ≤ f)

theorem look_some {S : St} (hI : Inv S) (w : ByteArray) : ∀ (f : Nat) (v last L : Int), Enough S.words.length f v → look S.same S.words w f v last = some L →
    (L = last ∧ v = -1) ∨ (0 ≤ L ∧ L < S.words.length ∧ S.same.getD L.toNat (-1) = -1) := by
  intro f
  induction f with
  | zero =>
    intro v last L hE h
    rcases hE with h1 | h1
    · simp [look] at h; exact .inl ⟨h.symm, h1⟩
    · omega
  | succ f ih =>
    intro v last L hE h
    rw [look] at h
    by_cases hv : v = -1
    · rw [if_pos hv] at h; simp at h; exact .inl ⟨h.symm, hv⟩
    rw [if_neg hv] at h
    by_cases hw : S.words.getD v.toNat ByteArray.empty = w
    · rw [if_pos hw] at h; simp at h
    rw [if_neg hw] at h
    rcases hE with h1 | ⟨h0, h1, h2⟩
    · exact absurd h1 hv
    have hu := hI.up v.toNat (by omega)
    have hE' : Enough S.words.length f (S.same.getD v.toNat (-1)) := by
      rcases hu with hu | hu
      · exact .inl hu
      · exact .inr ⟨by omega, by omega, by omega⟩
    rcases ih _ _ _ hE' h with ⟨rfl, h3⟩ | h3
    · exact .inr ⟨h0, h1, h3⟩
    · exact .inr h3

theorem look_none_pres (same : List Int) (ws : List ByteArray) (w : ByteArray) : ∀ (f : Nat) (v last : Int), look same ws w f v last = none → pres same ws w f v := by
  intro f
  induction f with
  | zero => intro v last h; simp [look] at h
  | succ f ih =>
    intro v last h
    rw [look] at h
    by_cases hv : v = -1
    · rw [if_pos hv] at h; simp at h
    rw [if_neg hv] at h
    by_cases hw : ws.getD v.toNat ByteArray.empty = w
    · exact ⟨hv, .inl hw⟩
    · rw [if_neg hw] at h
      exact ⟨hv, .inr (ih _ _ h)⟩

/-- Met within some number of steps: met within any number that is enough. -/
theorem pres_look {S : St} (hI : Inv S) (w : ByteArray) : ∀ (g f : Nat) (v last : Int), Enough S.words.length f v → pres S.same S.words w g v → look S.same S.words w f v last = none := by
  intro g
  induction g with
  | zero => intro f v last _ h; exact absurd h (by simp [pres])
  | succ g ih =>
    intro f v last hE h
    obtain ⟨hv, h⟩ := h
    rcases hE with h1 | ⟨h0, h1, h2⟩
    · exact absurd h1 hv
    obtain ⟨f', rfl⟩ : ∃ f', f = f' + 1 := ⟨f - 1, by omega⟩
    rw [look, if_neg hv]
    by_cases hw : S.words.getD v.toNat ByteArray.empty = w
    · rw [if_pos hw]
    rw [if_neg hw]
    rcases h with h | h
    · exact absurd h hw
    have hu := hI.up v.toNat (by omega)
    refine ih _ _ _ ?_ h
    rcases hu with hu | hu
    · exact .inl hu
    · exact .inr ⟨by omega, by omega, by omega⟩

theorem pres_mono {same same' : List Int} {ws ws' : List ByteArray} (w : ByteArray) (N : Nat)
    (hup : ∀ i, i < N → same.getD i (-1) = -1 ∨ ((i : Int) < same.getD i (-1) ∧ same.getD i (-1) < N))
    (hw : ∀ i, i < N → ws'.getD i ByteArray.empty = ws.getD i ByteArray.empty) (hs : ∀ i, i < N → same.getD i (-1) ≠ -1 → same'.getD i (-1) = same.getD i (-1)) :
    ∀ (f : Nat) (v : Int), v = -1 ∨ (0 ≤ v ∧ v < N) → pres same ws w f v → pres same' ws' w f v := by
  intro f
  induction f with
  | zero => intro v _ h; exact h
  | succ f ih =>
    intro v hv h
    obtain ⟨hne, h⟩ := h
    rcases hv with hv | hv
    · exact absurd hv hne
    refine ⟨hne, ?_⟩
    rcases h with h | h
    · exact .inl ((hw _ (by omega)).trans h)
    right
    have hne2 : same.getD v.toNat (-1) ≠ -1 := by
      intro e
      rw [e] at h
      cases f with
      | zero => exact h
      | succ f => exact h.1 rfl
    rw [hs _ (by omega) hne2]
    refine ih _ ?_ h
    rcases hup v.toNat (by omega) with h1 | h1
    · exact .inl h1
    · exact .inr ⟨by omega, h1.2⟩

/-- w stands in node n's chain. -/
def Here (S : St) (n : Nat) (w : ByteArray) : Prop := ∃ f, pres S.same S.words w f (S.word.getD n (-1))

theorem getD_set_ne {α : Type} (l : List α) (i j : Nat) (a d : α) (h : i ≠ j) : (l.set i a).getD j d = l.getD j d := by
  simp [List.getD_eq_getElem?_getD, h]
theorem getD_set_eq {α : Type} (l : List α) (i : Nat) (a d : α) (h : i < l.length) : (l.set i a).getD i d = a := by
  simp [List.getD_eq_getElem?_getD, h]
theorem getD_append_lt {α : Type} (l m : List α) (j : Nat) (d : α) (h : j < l.length) : (l ++ m).getD j d = l.getD j d := by
  simp [List.getD_eq_getElem?_getD, List.getElem?_append, h]
theorem getD_append_at {α : Type} (l : List α) (a d : α) : (l ++ [a]).getD l.length d = a := by
  simp [List.getD_eq_getElem?_getD]

theorem enough_head {S : St} (hI : Inv S) (n : Nat) : Enough S.words.length (S.words.length + 1) (S.word.getD n (-1)) := by
  by_cases hn : n < S.word.length
  · rcases hI.hd n hn with h | h
    · exact .inl h
    · exact .inr ⟨h.1, h.2, by omega⟩
  · left
    simp [List.getD_eq_getElem?_getD, List.getElem?_eq_none (by omega : S.word.length ≤ n)]

/-- What 'push' is given. -/
structure Ends (S : St) (n : Nat) (last : Int) : Prop where
  ends : (last = -1 ∧ S.word.getD n (-1) = -1) ∨ (0 ≤ last ∧ last < S.words.length ∧ S.same.getD last.toNat (-1) = -1)

theorem push_inv {S : St} (hI : Inv S) {n : Nat} {w : ByteArray} {k : Int} {p : Bool} {last : Int} (hE : Ends S n last) : Inv (push S n w k p last) := by
  have hl := hI.ls
  rcases hE.ends with ⟨rfl, h⟩ | ⟨h0, h1, h2⟩
  · refine ⟨by simp [push, hI.li], by simp [push, hl], by simp [push, hI.lp], ?_, ?_⟩
    · intro i hi
      simp only [push, if_true, List.length_append, List.length_singleton] at hi ⊢
      by_cases hi2 : i < S.words.length
      · rw [getD_append_lt _ _ _ _ (by omega)]
        rcases hI.up i hi2 with h | h
        · exact .inl h
        · exact .inr ⟨h.1, by omega⟩
      · have e : i = S.same.length := by omega
        rw [e, getD_append_at]; exact .inl rfl
    · intro i hi
      simp only [push, if_true, List.length_append, List.length_singleton, List.length_set] at hi ⊢
      by_cases hin : n = i
      · subst hin
        rw [getD_set_eq _ _ _ _ hi]; exact .inr ⟨by omega, by omega⟩
      · rw [getD_set_ne _ _ _ _ _ hin]
        rcases hI.hd i hi with h | h
        · exact .inl h
        · exact .inr ⟨h.1, by omega⟩
  · have hne : last ≠ -1 := by omega
    refine ⟨by simp [push, hI.li], by simp [push, hl, hne], by simp [push, hI.lp], ?_, ?_⟩
    · intro i hi
      simp only [push, if_neg hne, List.length_append, List.length_singleton] at hi ⊢
      by_cases hin : last.toNat = i
      · rw [hin, getD_set_eq _ _ _ _ (by simp; omega)]; exact .inr ⟨by omega, by omega⟩
      · rw [getD_set_ne _ _ _ _ _ hin]
        by_cases hi2 : i < S.words.length
        · rw [getD_append_lt _ _ _ _ (by omega)]
          rcases hI.up i hi2 with h | h
          · exact .inl h
          · exact .inr ⟨h.1, by omega⟩
        · have e : i = S.same.length := by omega
          rw [e, getD_append_at]; exact .inl rfl
    · intro i hi
      simp only [push, if_neg hne, List.length_append, List.length_singleton] at hi ⊢
      rcases hI.hd i hi with h | h
      · exact .inl h
      · exact .inr ⟨h.1, by omega⟩

theorem head_range {S : St} (hI : Inv S) (n : Nat) : S.word.getD n (-1) = -1 ∨ (0 ≤ S.word.getD n (-1) ∧ S.word.getD n (-1) < S.words.length) := by
  rcases enough_head hI n with h | h
  · exact .inl h
  · exact .inr ⟨h.1, h.2.1⟩

theorem push_keeps {S : St} (hI : Inv S) {n : Nat} {w : ByteArray} {k : Int} {p : Bool} {last : Int} (hE : Ends S n last) {n0 : Nat} {w0 : ByteArray} (h : Here S n0 w0) : Here (push S n w k p last) n0 w0 := by
  obtain ⟨f, hf⟩ := h
  have hl := hI.ls
  have hhead : S.word.getD n0 (-1) ≠ -1 := by
    intro e
    rw [e] at hf
    cases f with
    | zero => exact hf
    | succ f => exact hf.1 rfl
  refine ⟨f, ?_⟩
  have e1 : (push S n w k p last).word.getD n0 (-1) = S.word.getD n0 (-1) := by
    rcases hE.ends with ⟨rfl, h⟩ | ⟨h0, h1, h2⟩
    · simp only [push, if_true]
      refine getD_set_ne _ _ _ _ _ fun e => ?_
      subst e
      exact hhead h
    · simp only [push, if_neg (by omega : last ≠ -1)]
  rw [e1]
  refine pres_mono w0 S.words.length hI.up (fun i hi => getD_append_lt _ _ _ _ hi) (fun i hi hne => ?_) f _ (head_range hI n0) hf
  rcases hE.ends with ⟨rfl, h⟩ | ⟨h0, h1, h2⟩
  · simp only [push, if_true]
    exact getD_append_lt _ _ _ _ (by omega)
  · simp only [push, if_neg (by omega : last ≠ -1)]
    rw [getD_set_ne _ _ _ _ _ (fun e => hne (by rw [← e]; exact h2))]
    exact getD_append_lt _ _ _ _ (by omega)

/-- Where a chain runs to its end at last, one step more leads on: the new word is met. -/
theorem pres_reach {S S' : St} (hI : Inv S) (w : ByteArray)
    (L : Int) (hL : 0 ≤ L ∧ L < S.words.length) (hs : ∀ i, i < S.words.length → (i : Int) ≠ L → S'.same.getD i (-1) = S.same.getD i (-1))
    (hend : pres S'.same S'.words w 2 L) : ∀ (f : Nat) (v last : Int), Enough S.words.length f v → look S.same S.words w f v last = some L → v ≠ -1 → pres S'.same S'.words w (f + 2) v := by
  intro f
  induction f with
  | zero =>
    intro v last hE h hv
    rcases hE with h1 | h1
    · exact absurd h1 hv
    · omega
  | succ f ih =>
    intro v last hE h hv
    rw [look, if_neg hv] at h
    by_cases hw0 : S.words.getD v.toNat ByteArray.empty = w
    · rw [if_pos hw0] at h; simp at h
    rw [if_neg hw0] at h
    rcases hE with h1 | ⟨h0, h1, h2⟩
    · exact absurd h1 hv
    by_cases hvL : v = L
    · have mono : ∀ (f : Nat) (x : Int), pres S'.same S'.words w f x → pres S'.same S'.words w (f + 1) x := by
        intro f
        induction f with
        | zero => intro x h; exact absurd h (by simp [pres])
        | succ f ih2 =>
          intro x h
          refine ⟨h.1, ?_⟩
          rcases h.2 with h | h
          · exact .inl h
          · exact .inr (ih2 _ h)
      have up : ∀ d, pres S'.same S'.words w (2 + d) L := by
        intro d
        induction d with
        | zero => exact hend
        | succ d ih3 => exact mono _ _ ih3
      rw [hvL, show f + 1 + 2 = 2 + (f + 1) from by omega]
      exact up _
    refine ⟨hv, .inr ?_⟩
    have e := hs v.toNat (by omega) (by omega)
    have hu := hI.up v.toNat (by omega)
    rw [e]
    by_cases hnx : S.same.getD v.toNat (-1) = -1
    · rw [hnx] at h
      cases f with
      | zero => simp [look] at h; exact absurd h hvL
      | succ f => rw [look, if_pos rfl] at h; simp at h; exact absurd h hvL
    refine ih _ _ ?_ h hnx
    rcases hu with hu | hu
    · exact .inl hu
    · exact .inr ⟨by omega, by omega, by omega⟩

theorem push_here {S : St} (hI : Inv S) {n : Nat} (hn : n < S.word.length) {w : ByteArray} {k : Int} {p : Bool} {last : Int}
    (h : look S.same S.words w (S.words.length + 1) (S.word.getD n (-1)) (-1) = some last) : Here (push S n w k p last) n w := by
  have hl := hI.ls
  have hws : (push S n w k p last).words.getD S.words.length ByteArray.empty = w := by simp only [push]; exact getD_append_at _ _ _
  rcases look_some hI w _ _ _ _ (enough_head hI n) h with ⟨rfl, h1⟩ | ⟨h0, h1, h2⟩
  · refine ⟨1, ?_⟩
    have e : (push S n w k p (-1)).word.getD n (-1) = S.words.length := by simp only [push, if_true]; exact getD_set_eq _ _ _ _ hn
    rw [e]
    exact ⟨by omega, .inl (by rw [Int.toNat_natCast]; exact hws)⟩
  · have hne : last ≠ -1 := by omega
    have hhead : S.word.getD n (-1) ≠ -1 := by
      intro e
      rw [e, look, if_pos rfl] at h
      simp at h; omega
    have e : (push S n w k p last).word = S.word := by simp only [push, if_neg hne]
    have es : (push S n w k p last).same = (S.same ++ [-1]).set last.toNat S.words.length := by simp only [push, if_neg hne]
    refine ⟨S.words.length + 1 + 2, ?_⟩
    rw [e]
    refine pres_reach hI w last ⟨h0, h1⟩ (fun i hi hne2 => ?_) ?_ _ _ _ (enough_head hI n) h hhead
    · rw [es, getD_set_ne _ _ _ _ _ (by omega)]
      exact getD_append_lt _ _ _ _ (by omega)
    · refine ⟨hne, .inr ?_⟩
      rw [es, getD_set_eq _ _ _ _ (by simp; omega)]
      exact ⟨by omega, .inl (by rw [Int.toNat_natCast]; exact hws)⟩

theorem addW_inv {S : St} (hI : Inv S) (n : Nat) (w : ByteArray) (k : Int) (p : Bool) : Inv (addW S n w k p) := by
  unfold addW
  split
  · exact hI
  · rename_i last h
    refine push_inv hI ⟨?_⟩
    rcases look_some hI w _ _ _ _ (enough_head hI n) h with ⟨rfl, h1⟩ | h1
    · exact .inl ⟨rfl, h1⟩
    · exact .inr h1

theorem addW_here {S : St} (hI : Inv S) (n : Nat) (hn : n < S.word.length) (w : ByteArray) (k : Int) (p : Bool) : Here (addW S n w k p) n w := by
  unfold addW
  split
  · rename_i h
    exact ⟨_, look_none_pres _ _ _ _ _ _ h⟩
  · rename_i last h
    exact push_here hI hn h

theorem addW_keeps {S : St} (hI : Inv S) (n : Nat) (w : ByteArray) (k : Int) (p : Bool) {n0 : Nat} {w0 : ByteArray} (h : Here S n0 w0) : Here (addW S n w k p) n0 w0 := by
  unfold addW
  split
  · exact h
  · rename_i last hl
    refine push_keeps hI ⟨?_⟩ h
    rcases look_some hI w _ _ _ _ (enough_head hI n) hl with ⟨rfl, h1⟩ | h1
    · exact .inl ⟨rfl, h1⟩
    · exact .inr h1

theorem addW_still {S : St} (hI : Inv S) (n : Nat) (w : ByteArray) (k : Int) (p : Bool) (h : Here S n w) : addW S n w k p = S := by
  obtain ⟨g, hg⟩ := h
  unfold addW
  rw [pres_look hI w g _ _ _ (enough_head hI n) hg]

theorem addW_word (S : St) (n : Nat) (w : ByteArray) (k : Int) (p : Bool) : (addW S n w k p).word.length = S.word.length := by
  unfold addW
  split
  · rfl
  · simp only [push]; split <;> simp

theorem addW_words (S : St) (n : Nat) (w : ByteArray) (k : Int) (p : Bool) : (addW S n w k p).words.length ≤ S.words.length + 1 := by
  unfold addW
  split
  · omega
  · simp [push]

/-- The first c steps of a script, from S: step k is 'nd k', 'wd k', 'pt k'. -/
def runTo (nd : Nat → Nat) (wd : Nat → ByteArray) (pt : Nat → Bool) (S : St) : Nat → St
  | 0 => S
  | c + 1 => addW (runTo nd wd pt S c) (nd c) (wd c) c (pt c)

section
variable {nd : Nat → Nat} {wd : Nat → ByteArray} {pt : Nat → Bool}

theorem runTo_inv {S : St} (hI : Inv S) (c : Nat) : Inv (runTo nd wd pt S c) := by
  induction c with
  | zero => exact hI
  | succ c ih => exact addW_inv ih _ _ _ _
theorem runTo_word (S : St) (c : Nat) : (runTo nd wd pt S c).word.length = S.word.length := by
  induction c with
  | zero => rfl
  | succ c ih => exact (addW_word _ _ _ _ _).trans ih
theorem runTo_words (S : St) (c : Nat) : (runTo nd wd pt S c).words.length ≤ S.words.length + c := by
  induction c with
  | zero => exact Nat.le_refl _
  | succ c ih =>
    have := addW_words (runTo nd wd pt S c) (nd c) (wd c) c (pt c)
    show (addW (runTo nd wd pt S c) (nd c) (wd c) c (pt c)).words.length ≤ _
    omega
theorem runTo_here {S : St} (hI : Inv S) (hn : ∀ k, nd k < S.word.length) (c : Nat) : ∀ k, k < c → Here (runTo nd wd pt S c) (nd k) (wd k) := by
  induction c with
  | zero => intro k hk; omega
  | succ c ih =>
    intro k hk
    by_cases h : k < c
    · exact addW_keeps (runTo_inv hI c) _ _ _ _ (ih k h)
    · obtain rfl : k = c := by omega
      exact addW_here (runTo_inv hI k) _ (by rw [runTo_word]; exact hn k) _ _ _
theorem runTo_still {S : St} (hI : Inv S) (c : Nat) (h : ∀ k, k < c → Here S (nd k) (wd k)) : runTo nd wd pt S c = S := by
  induction c with
  | zero => rfl
  | succ c ih =>
    show addW (runTo nd wd pt S c) _ _ _ _ = S
    rw [ih fun k hk => h k (by omega)]
    exact addW_still hI _ _ _ _ (h c (by omega))

/-- ████ THE PLAIN LAW ████ -/
theorem replay {S : St} (hI : Inv S) (hn : ∀ k, nd k < S.word.length) (c : Nat) : runTo nd wd pt (runTo nd wd pt S c) c = runTo nd wd pt S c :=
  runTo_still (runTo_inv hI c) c (runTo_here hI hn c)
end
end Go.Proofs.Qxb6600248a
