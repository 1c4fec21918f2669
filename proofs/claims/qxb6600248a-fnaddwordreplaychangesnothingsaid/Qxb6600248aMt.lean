import Derived.Test.Qxb6600248aSmall
namespace Go.Proofs.Qxb6600248a
open Go.RowKit

/-- The matcher's fourteen cells. -/
def mcells (vw vi vs vp : Value) (any : Bool) (B N : Nat) : Array Value :=
  #[vw, vi, vs, vp, .bool any, .slice none 0 0, .slice none 0 0, .slice none 0 0, .slice none 0 0, .slice none 0 0, .slice none 0 0, .slice (some ⟨B, 0, none⟩) N N, .slice none 0 0, .int .i64 0]

/-- The matcher lies in block B + 1, its word table in block B; its four growing tables from B + 2 on. -/
structure MtV (w : World) (B : Nat) (S : St) (vw vi vs vp : Value) : Prop where
  blk : w.heap[B + 1]? = some (.cells (mcells vw vi vs vp S.any B S.word.length) 58 (0, 0))
  ow : w.ownsRow (B + 2) 9 1 vw S.words.length (S.words.map Value.string)
  oi : w.ownsRow (B + 2) 3 1 vi S.words.length (S.index.map (Value.int .i64))
  os : w.ownsRow (B + 2) 21 1 vs S.words.length (S.same.map (Value.int .i32))
  op : w.ownsRow (B + 2) 4 1 vp S.words.length (S.punct.map Value.bool)
  oh : w.ownsRow B 21 1 (.slice (some ⟨B, 0, none⟩) S.word.length S.word.length) S.word.length (S.word.map (Value.int .i32))

def Mt (w : World) (B : Nat) (S : St) : Prop := ∃ vw vi vs vp, MtV w B S vw vi vs vp

theorem mt_cells {w : World} {B : Nat} {vw vi vs vp : Value} {any : Bool} {N : Nat} (h : w.heap[B + 1]? = some (.cells (mcells vw vi vs vp any B N) 58 (0, 0))) :
    w.cell? ⟨B + 1, 0, none⟩ = some vw ∧ w.cell? ⟨B + 1, 1, none⟩ = some vi ∧ w.cell? ⟨B + 1, 2, none⟩ = some vs ∧ w.cell? ⟨B + 1, 3, none⟩ = some vp ∧
    w.cell? ⟨B + 1, 4, none⟩ = some (.bool any) ∧ w.cell? ⟨B + 1, 11, none⟩ = some (.slice (some ⟨B, 0, none⟩) N N) ∧ ∀ j, w.frozen? ⟨B + 1, j, none⟩ = false := by
  refine ⟨?_, ?_, ?_, ?_, ?_, ?_, ?_⟩ <;> simp [World.cell?, World.frozen?, h, mcells]

theorem wordState_any (B : Nat) (S : St) (vw vi vs vp : Value) (w : World) (h : MtV w B S vw vi vs vp) :
    Calls Try.prog 26 #[.pointer (some ⟨B + 1, 0, none⟩)] w fun e w' => e = .returned (.tuple #[vw, vi, vs, vp, .bool S.any, .slice (some ⟨B, 0, none⟩) S.word.length S.word.length]) ∧ ∃ q, w' = w.drewN q := by
  obtain ⟨c0, c1, c2, c3, c4, c11, _⟩ := mt_cells h.blk
  obtain ⟨a1, k1, rfl⟩ := own_slice h.ow
  obtain ⟨a2, k2, rfl⟩ := own_slice h.oi
  obtain ⟨a3, k3, rfl⟩ := own_slice h.os
  obtain ⟨a4, k4, rfl⟩ := own_slice h.op
  clear h
  go_enter Try.func26, Try.ntmps26
  go_wp2
  go_quiet (fail)
  go_wp2
  refine bodyPost_ret (v := .tuple #[.slice a1 S.words.length k1, .slice a2 S.words.length k2, .slice a3 S.words.length k3, .slice a4 S.words.length k4, .bool S.any, .slice (some ⟨B, 0, none⟩) S.word.length S.word.length]) (by simp [results, Try.results26, go_sem]) rfl ⟨rfl, _, rfl⟩

/-- No two tables of different element types lie in one block. -/
theorem own_ne {w : World} {B B' e e' n n' : Nat} {v v' : Value} {xs xs' : List Value} (h : w.ownsRow B e 1 v n xs) (h' : w.ownsRow B' e' 1 v' n' xs') (he : e ≠ e') : v.ownBlock = none ∨ v.ownBlock ≠ v'.ownBlock := by
  rcases h.2 with ⟨rfl, _⟩ | ⟨g, cap, cur, rfl, _, hg, _⟩
  · exact .inl rfl
  · right
    rcases h'.2 with ⟨rfl, _⟩ | ⟨g', cap', cur', rfl, _, hg', _⟩
    · simp [Value.ownBlock]
    · simp only [Value.ownBlock, ne_eq, Option.some.injEq]
      rintro rfl
      rw [hg] at hg'
      simp at hg'
      exact he hg'.2
theorem own_ge {w : World} {B e n : Nat} {v : Value} {xs : List Value} (h : w.ownsRow B e 1 v n xs) {k : Nat} (hk : v.ownBlock = some k) : B ≤ k := (h.lt k hk).1

section
variable {w w1 : World} {B : Nat} {o : Obj}

/-- The matcher's block behind an append into one of its tables and the store of the new header. -/
theorem blk_step {row : Option Nat} {cur : Array Value} (hb : w.heap[B + 1]? = some (.cells cur 58 (0, 0))) (hg : (w.alloc o).grownBy w1 row) (hrow : row ≠ some (B + 1)) (j : Nat) (v : Value) :
    (w1.setCell ⟨B + 1, j, none⟩ v).heap[B + 1]? = some (.cells (cur.setIfInBounds j v) 58 (0, 0)) := by
  have hlt := lt_of_block hb
  refine heap_setCell_same w1 (B + 1) j cur 58 v ?_
  rw [hg.block (B + 1) (by simp; omega) (fun e => hrow e.symm), Below.heap_alloc _ _ _ hlt]
  exact hb

/-- Another table behind it. -/
theorem own_step {row : Option Nat} {base e n : Nat} {u : Value} {xs : List Value} (h : w.ownsRow base e 1 u n xs) (hg : (w.alloc o).grownBy w1 row) (hne : u.ownBlock = none ∨ u.ownBlock ≠ row) (j : Nat) (v : Value) (hb : u.ownBlock ≠ some (B + 1)) :
    (w1.setCell ⟨B + 1, j, none⟩ v).ownsRow base e 1 u n xs :=
  ownsRow_setCell_other ((h.alloc o).kept hg hne) hb v
end
end Go.Proofs.Qxb6600248a
