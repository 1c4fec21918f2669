import Derived.Test.Qxb6600248aMt
namespace Go.Proofs.Qxb6600248a
open Go.RowKit

/-- The matcher and its tables, each table with its own length: between two appends they part. -/
structure Tabs (w : World) (B N : Nat) (any : Bool) (vw vi vs vp : Value) (lw li ls lp : Nat) (xw xi xs xp xh : List Value) : Prop where
  blk : w.heap[B + 1]? = some (.cells (mcells vw vi vs vp any B N) 58 (0, 0))
  ow : w.ownsRow (B + 2) 9 1 vw lw xw
  oi : w.ownsRow (B + 2) 3 1 vi li xi
  os : w.ownsRow (B + 2) 21 1 vs ls xs
  op : w.ownsRow (B + 2) 4 1 vp lp xp
  oh : w.ownsRow B 21 1 (.slice (some ⟨B, 0, none⟩) N N) N xh

section
variable {w w1 : World} {B N : Nat} {any : Bool} {vw vi vs vp : Value} {lw li ls lp : Nat} {xw xi xs xp xh : List Value} {o : Obj}

theorem ne_m {e n : Nat} {v : Value} {ys : List Value} (h : w.ownsRow (B + 2) e 1 v n ys) : v.ownBlock ≠ some (B + 1) := fun e => by
  have := own_ge h e
  omega
theorem ne_h {e n : Nat} {v : Value} {ys : List Value} (h : w.ownsRow (B + 2) e 1 v n ys) : v.ownBlock ≠ some B := fun e => by
  have := own_ge h e
  omega

theorem Tabs.below {row : Option Nat} (h : Tabs w B N any vw vi vs vp lw li ls lp xw xi xs xp xh) (hg : (w.alloc o).grownBy w1 row) (hr : ∀ k, row = some k → B ≤ k) (j : Nat) (v : Value) : Below B w (w1.setCell ⟨B + 1, j, none⟩ v) := by
  have hlt := lt_of_block h.blk
  exact (((Below.refl B w).alloc (by omega) o).grown hg (by simp; omega) hr).setCell (by simp) v

theorem Tabs.mid {row : Option Nat} (h : Tabs w B N any vw vi vs vp lw li ls lp xw xi xs xp xh) (hg : (w.alloc o).grownBy w1 row) (hr : row ≠ some (B + 1)) : w1.heap[B + 1]? = some (.cells (mcells vw vi vs vp any B N) 58 (0, 0)) := by
  have hlt := lt_of_block h.blk
  rw [hg.block (B + 1) (by simp; omega) (fun e => hr e.symm), Below.heap_alloc _ _ _ hlt]
  exact h.blk

theorem Tabs.midH {row : Option Nat} (h : Tabs w B N any vw vi vs vp lw li ls lp xw xi xs xp xh) (hg : (w.alloc o).grownBy w1 row) (hr : row ≠ some B) : w1.ownsRow B 21 1 (.slice (some ⟨B, 0, none⟩) N N) N xh :=
  (h.oh.alloc o).kept hg (.inr (fun e => hr (by rw [← e]; rfl)))

theorem Tabs.midS (h : Tabs w B N any vw vi vs vp lw li ls lp xw xi xs xp xh) (hg : (w.alloc o).grownBy w1 vp.ownBlock) : w1.ownsRow (B + 2) 21 1 vs ls xs :=
  (h.os.alloc o).kept hg (own_ne h.os h.op (by decide))

theorem Tabs.stepW (h : Tabs w B N any vw vi vs vp lw li ls lp xw xi xs xp xh) (hg : (w.alloc o).grownBy w1 vw.ownBlock) {v : Value} {l' : Nat} {x' : List Value} (hn : w1.ownsRow (B + 2) 9 1 v l' x') :
    Tabs (w1.setCell ⟨B + 1, 0, none⟩ v) B N any v vi vs vp l' li ls lp x' xi xs xp xh ∧ Below B w (w1.setCell ⟨B + 1, 0, none⟩ v) :=
  ⟨⟨blk_step h.blk hg (ne_m h.ow) 0 v, ownsRow_setCell_other hn (ne_m hn) v,
    own_step h.oi hg (own_ne h.oi h.ow (by decide)) 0 v (ne_m h.oi), own_step h.os hg (own_ne h.os h.ow (by decide)) 0 v (ne_m h.os), own_step h.op hg (own_ne h.op h.ow (by decide)) 0 v (ne_m h.op),
    own_step h.oh hg (own_ne h.oh h.ow (by decide)) 0 v (by simp [Value.ownBlock])⟩,
   h.below hg (fun k hk => by have := own_ge h.ow hk; omega) 0 v⟩

theorem Tabs.stepI (h : Tabs w B N any vw vi vs vp lw li ls lp xw xi xs xp xh) (hg : (w.alloc o).grownBy w1 vi.ownBlock) {v : Value} {l' : Nat} {x' : List Value} (hn : w1.ownsRow (B + 2) 3 1 v l' x') :
    Tabs (w1.setCell ⟨B + 1, 1, none⟩ v) B N any vw v vs vp lw l' ls lp xw x' xs xp xh ∧ Below B w (w1.setCell ⟨B + 1, 1, none⟩ v) :=
  ⟨⟨blk_step h.blk hg (ne_m h.oi) 1 v, own_step h.ow hg (own_ne h.ow h.oi (by decide)) 1 v (ne_m h.ow),
    ownsRow_setCell_other hn (ne_m hn) v, own_step h.os hg (own_ne h.os h.oi (by decide)) 1 v (ne_m h.os), own_step h.op hg (own_ne h.op h.oi (by decide)) 1 v (ne_m h.op),
    own_step h.oh hg (own_ne h.oh h.oi (by decide)) 1 v (by simp [Value.ownBlock])⟩,
   h.below hg (fun k hk => by have := own_ge h.oi hk; omega) 1 v⟩

theorem Tabs.stepS (h : Tabs w B N any vw vi vs vp lw li ls lp xw xi xs xp xh) (hg : (w.alloc o).grownBy w1 vs.ownBlock) {v : Value} {l' : Nat} {x' : List Value} (hn : w1.ownsRow (B + 2) 21 1 v l' x') :
    Tabs (w1.setCell ⟨B + 1, 2, none⟩ v) B N any vw vi v vp lw li l' lp xw xi x' xp xh ∧ Below B w (w1.setCell ⟨B + 1, 2, none⟩ v) :=
  ⟨⟨blk_step h.blk hg (ne_m h.os) 2 v, own_step h.ow hg (own_ne h.ow h.os (by decide)) 2 v (ne_m h.ow), own_step h.oi hg (own_ne h.oi h.os (by decide)) 2 v (ne_m h.oi),
    ownsRow_setCell_other hn (ne_m hn) v, own_step h.op hg (own_ne h.op h.os (by decide)) 2 v (ne_m h.op),
    own_step h.oh hg (.inr (fun e => ne_h h.os (by rw [← e]; rfl))) 2 v (by simp [Value.ownBlock])⟩,
   h.below hg (fun k hk => by have := own_ge h.os hk; omega) 2 v⟩

theorem Tabs.stepP (h : Tabs w B N any vw vi vs vp lw li ls lp xw xi xs xp xh) (hg : (w.alloc o).grownBy w1 vp.ownBlock) {v : Value} {l' : Nat} {x' : List Value} (hn : w1.ownsRow (B + 2) 4 1 v l' x') :
    Tabs (w1.setCell ⟨B + 1, 3, none⟩ v) B N any vw vi vs v lw li ls l' xw xi xs x' xh ∧ Below B w (w1.setCell ⟨B + 1, 3, none⟩ v) :=
  ⟨⟨blk_step h.blk hg (ne_m h.op) 3 v, own_step h.ow hg (own_ne h.ow h.op (by decide)) 3 v (ne_m h.ow), own_step h.oi hg (own_ne h.oi h.op (by decide)) 3 v (ne_m h.oi), own_step h.os hg (own_ne h.os h.op (by decide)) 3 v (ne_m h.os),
    ownsRow_setCell_other hn (ne_m hn) v, own_step h.oh hg (own_ne h.oh h.op (by decide)) 3 v (by simp [Value.ownBlock])⟩,
   h.below hg (fun k hk => by have := own_ge h.op hk; omega) 3 v⟩

theorem Tabs.stepA (h : Tabs w B N any vw vi vs vp lw li ls lp xw xi xs xp xh) (b : Bool) : Tabs (w.setCell ⟨B + 1, 4, none⟩ (.bool b)) B N b vw vi vs vp lw li ls lp xw xi xs xp xh ∧ Below B w (w.setCell ⟨B + 1, 4, none⟩ (.bool b)) :=
  ⟨⟨heap_setCell_same w (B + 1) 4 _ 58 _ h.blk, ownsRow_setCell_other h.ow (ne_m h.ow) _, ownsRow_setCell_other h.oi (ne_m h.oi) _, ownsRow_setCell_other h.os (ne_m h.os) _, ownsRow_setCell_other h.op (ne_m h.op) _,
    ownsRow_setCell_other h.oh (by simp [Value.ownBlock]) _⟩, (Below.refl B w).setCell (by simp) _⟩

theorem Tabs.stepH (h : Tabs w B N any vw vi vs vp lw li ls lp xw xi xs xp xh) (j : Nat) (u : Value) : Tabs (w.setCell ⟨B, j, none⟩ u) B N any vw vi vs vp lw li ls lp xw xi xs xp (xh.set j u) ∧ Below B w (w.setCell ⟨B, j, none⟩ u) :=
  ⟨⟨by rw [Below.heap_setCell _ _ _ _ (by simp)]; exact h.blk, ownsRow_setCell_other h.ow (ne_h h.ow) _, ownsRow_setCell_other h.oi (ne_h h.oi) _, ownsRow_setCell_other h.os (ne_h h.os) _, ownsRow_setCell_other h.op (ne_h h.op) _,
    (h.oh.stored j u).1⟩, (Below.refl B w).setCell (by simp) _⟩

theorem Tabs.stepT {g c : Nat} (h : Tabs w B N any vw vi (.slice (some ⟨g, 0, none⟩) ls c) vp lw li ls lp xw xi xs xp xh) (j : Nat) (u : Value) :
    Tabs (w.setCell ⟨g, j, none⟩ u) B N any vw vi (.slice (some ⟨g, 0, none⟩) ls c) vp lw li ls lp xw xi (xs.set j u) xp xh ∧ Below B w (w.setCell ⟨g, j, none⟩ u) := by
  have hg : B + 2 ≤ g := own_ge h.os rfl
  have ne : ∀ {b e n : Nat} {v : Value} {ys : List Value}, w.ownsRow b e 1 v n ys → e ≠ 21 → v.ownBlock ≠ some g := by
    intro b e n v ys h1 he h2
    rcases own_ne h1 h.os he with h3 | h3
    · rw [h3] at h2; simp at h2
    · exact h3 h2
  exact ⟨⟨by rw [Below.heap_setCell _ _ _ _ (by simp; omega)]; exact h.blk, ownsRow_setCell_other h.ow (ne h.ow (by decide)) _, ownsRow_setCell_other h.oi (ne h.oi (by decide)) _,
    (h.os.stored j u).1, ownsRow_setCell_other h.op (ne h.op (by decide)) _, ownsRow_setCell_other h.oh (by simp [Value.ownBlock]; omega) _⟩, (Below.refl B w).setCell (by simp; omega) _⟩

theorem mt_push_head {W : World} {S : St} {nd : Nat} {s : ByteArray} {k : Int} {p : Bool} {n : Nat} (hn : S.words.length = n) (hN : S.word.length = N) {b : Bool} (hb : (S.any || p) = b)
    (T : Tabs W B N b vw vi vs vp (n + 1) (n + 1) (n + 1) (n + 1) (S.words.map Value.string ++ [.string s]) (S.index.map (Value.int .i64) ++ [.int .i64 k]) (S.same.map (Value.int .i32) ++ [.int .i32 (-1)])
      (S.punct.map Value.bool ++ [.bool p]) ((S.word.map (Value.int .i32)).set nd (.int .i32 n))) : Mt W B (push S nd s k p (-1)) := by
  subst hn; subst hN; subst hb
  refine ⟨vw, vi, vs, vp, ?_, ?_, ?_, ?_, ?_, ?_⟩
  · simpa [push] using T.blk
  · simpa [push] using T.ow
  · simpa [push] using T.oi
  · simpa [push] using T.os
  · simpa [push] using T.op
  · simpa [push, List.map_set] using T.oh

theorem mt_push_link {W : World} {S : St} {nd : Nat} {s : ByteArray} {k : Int} {p : Bool} {n l : Nat} (hn : S.words.length = n) (hN : S.word.length = N) {b : Bool} (hb : (S.any || p) = b)
    (T : Tabs W B N b vw vi vs vp (n + 1) (n + 1) (n + 1) (n + 1) (S.words.map Value.string ++ [.string s]) (S.index.map (Value.int .i64) ++ [.int .i64 k]) ((S.same.map (Value.int .i32) ++ [Value.int .i32 (-1)]).set l (.int .i32 n))
      (S.punct.map Value.bool ++ [.bool p]) (S.word.map (Value.int .i32))) : Mt W B (push S nd s k p l) := by
  subst hn; subst hN; subst hb
  have hl : ((l : Int) = -1) = False := by simp
  refine ⟨vw, vi, vs, vp, ?_, ?_, ?_, ?_, ?_, ?_⟩
  · simpa [push, hl] using T.blk
  · simpa [push] using T.ow
  · simpa [push] using T.oi
  · simpa [push, hl, List.map_set] using T.os
  · simpa [push] using T.op
  · simpa [push, hl] using T.oh
end
end Go.Proofs.Qxb6600248a
