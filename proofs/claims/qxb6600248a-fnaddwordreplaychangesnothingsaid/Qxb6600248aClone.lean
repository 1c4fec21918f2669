import Derived.Test.Qxb6600248aAdd
import Derived.Lib.SliceRun
import Derived.Deep.OwnRows
import Derived.WideShapes
namespace Go.Proofs.Qxb6600248a
open Go.RowKit Go.WideShapes

theorem made_list (z : Value) (n : Nat) : (madeCells #[z] n).toList = List.replicate n z := by
  apply List.ext_getElem
  · simp [madeCells]
  · intro i h1 h2
    simp [madeCells, Nat.mod_one]

/-- What is known of a slice that came in. -/
def SlIn {α : Type} (w : World) (f : α → Value) (a : Option Addr) (len cap : Nat) (L : List α) (d : α) : Prop :=
  L.length = len ∧ len ≤ 65536 ∧ ((a = none ∧ len = 0 ∧ cap = 0) ∨ ∃ x, a = some x ∧ ∀ i, i < len → w.cell? (x.add i) = some (f (L.getD i d)))

theorem own_alloc_made (w : World) (e : TypeId) (z : Value) (n : Nat) (hn : n ≤ maxLen) :
    (w.alloc (.cells (madeCells #[z] n) e)).ownsRow w.heap.size e 1 (.slice (some ⟨w.heap.size, 0, none⟩) n n) n (List.replicate n z) := by
  have h := World.ownsRow_lit (base := w.heap.size) (e := e) (size := 1) w (madeCells #[z] n) n (Nat.le_refl _) hn (by simp [madeCells])
  rw [made_list] at h
  exact h

/-- One store more: the first k + 1 are the source's. -/
theorem copy_step {ys xs : List Value} {k : Nat} {u : Value} (h : ∀ j, j < k → ys[j]? = xs[j]?) (hu : xs[k]? = some u) (hl : k < ys.length) : ∀ j, j < k + 1 → (ys.set k u)[j]? = xs[j]? := by
  intro j hj
  by_cases e : j = k
  · subst e
    rw [hu]; simp [hl]
  · rw [List.getElem?_set_ne (by omega)]; exact h j (by omega)
theorem copy_done {ys xs : List Value} {n : Nat} (h : ∀ j, j < n → ys[j]? = xs[j]?) (h1 : ys.length = n) (h2 : xs.length = n) : ys = xs := by
  apply List.ext_getElem?
  intro j
  by_cases hj : j < n
  · exact h j hj
  · rw [List.getElem?_eq_none (by omega), List.getElem?_eq_none (by omega)]

theorem cloneInt32s_nil (c : Nat) (w : World) :
    Calls Try.prog 22 #[.slice none 0 c] w fun e w' => e = .returned (.slice none 0 0) ∧ w' = w := by
  have hq := fun w a n c => Lib.run_eql_slice_nil (P := Try.prog) w 24 21 a n c 0 0 Try.underlying24
  go_enter Try.func22, Try.ntmps22
  go_wp2
  go_ret
  exact ⟨rfl, rfl⟩

theorem cloneInt32s_some (x : Addr) (n c : Nat) (L : List Int) (w : World) (hL : L.length = n) (hn : n ≤ 65536) (hx : n ≠ 0 → x.spot = none) (hc : ∀ i, i < n → w.cell? (x.add i) = some ((Value.int .i32) (L.getD i 0))) :
    Calls Try.prog 22 #[.slice (some x) n c] w fun e w' => ∃ v, e = .returned v ∧ w'.ownsRow w.heap.size 21 1 v n (L.map (Value.int .i32)) ∧ Below w.heap.size w w' := by
  have hq := fun w a n c => Lib.run_eql_slice_nil (P := Try.prog) w 24 21 a n c 0 0 Try.underlying24
  have hmk := run_make_row' (P := Try.prog) 24 21 (.int .i32 0) 4 Try.underlying24 Try.info21 rfl .i64 .i64 n (by omega) (by omega)
  obtain ⟨b, off, spot⟩ := x
  go_enter Try.func22, Try.ntmps22
  go_wp2
  go_loopw [4] (fun i wr => ∃ k : Nat, k ≤ n ∧ i = .int .i64 k ∧ ∃ ys : List Value, ys.length = n ∧ (∀ j, j < k → ys[j]? = (L.map (Value.int .i32))[j]?) ∧ wr.ownsRow w.heap.size 21 1 (.slice (some ⟨w.heap.size, 0, none⟩) n n) n ys ∧ Below w.heap.size w wr) (fun i _ => n - (intOf i).toNat)
  case atStart => exact ⟨0, by omega, rfl, List.replicate n (.int .i32 0), by simp, fun j hj => by omega, own_alloc_made w 21 (.int .i32 0) n (by unfold maxLen; omega), (Below.refl _ _).alloc (Nat.le_refl _) _⟩
  case round =>
    obtain ⟨k, hk, rfl, ys, hl, hy, ho, hb⟩ := hrel
    by_cases hlt : k < n
    · obtain rfl : spot = none := hx (by omega)
      have hck := hc k hlt
      rw [add_plain] at hck
      have hbl : b < w.heap.size := World.block_lt_of_cell? w _ hck
      have hc1 : wr.cell? ⟨b, off + k, none⟩ = some ((Value.int .i32) (L.getD k 0)) := (hb.cell (p := ⟨b, off + k, none⟩) hbl).trans hck
      obtain ⟨y, hoc⟩ : ∃ y, wr.cell? ⟨w.heap.size, k, none⟩ = some y := ⟨_, (ho.cellAt k (by omega)).trans (List.getElem?_eq_getElem (by omega))⟩
      have hof := ho.frozenAt k
      obtain ⟨u, hu⟩ : ∃ u, L.getD k 0 = u := ⟨_, rfl⟩
      rw [hu] at hc1
      have hu2 : (L.map (Value.int .i32))[k]? = some ((Value.int .i32) u) := by
        rw [← hu]; simp [List.getD_eq_getElem?_getD, List.getElem?_eq_getElem (by omega : k < L.length)]
      have hS := (ho.stored k ((Value.int .i32) u)).1
      have hB := hb.setCell (p := ⟨w.heap.size, k, none⟩) (Nat.le_refl _) ((Value.int .i32) u)
      have hY := hide (copy_step hy hu2 (by omega))
      have hO := hide ho
      clear hc hck hb ho hu hy hu2 hq hmk
      go_wp2
      go_roundw
      case rel => exact ⟨k + 1, by omega, by go_num, _, by simpa using hl, hY.out, hS, hB⟩
      case measure => simp [intOf]; omega
    · go_wp2
      go_ret
      have e : ys = L.map (Value.int .i32) := copy_done (n := n) (fun j hj => hy j (by omega)) hl (by simpa using hL)
      rw [e] at ho
      exact ⟨_, rfl, ho, hb⟩

theorem cloneInt32s_any (a : Option Addr) (n c : Nat) (L : List Int) (w : World) (h : SlIn w (Value.int .i32) a n c L 0) :
    Calls Try.prog 22 #[.slice a n c] w fun e w' => ∃ v, e = .returned v ∧ w'.ownsRow w.heap.size 21 1 v n (L.map (Value.int .i32)) ∧ Below w.heap.size w w' := by
  obtain ⟨h1, h2, h3⟩ := h
  rcases h3 with ⟨rfl, rfl, rfl⟩ | ⟨x, rfl, hc⟩
  · refine (cloneInt32s_nil 0 w).mono ?_
    rintro e w' ⟨rfl, rfl⟩
    obtain rfl : L = [] := List.length_eq_zero_iff.1 h1
    exact ⟨_, rfl, World.ownsRow_nil _ _ _ _, Below.refl _ _⟩
  · refine cloneInt32s_some x n c L w h1 h2 (fun hn => ?_) hc
    have := World.cell?_spot (hc 0 (by omega))
    simpa [Addr.add] using this

theorem cloneStrings_nil (c : Nat) (w : World) :
    Calls Try.prog 23 #[.slice none 0 c] w fun e w' => e = .returned (.slice none 0 0) ∧ w' = w := by
  have hq := fun w a n c => Lib.run_eql_slice_nil (P := Try.prog) w 40 9 a n c 0 0 Try.underlying40
  go_enter Try.func23, Try.ntmps23
  go_wp2
  go_ret
  exact ⟨rfl, rfl⟩

theorem cloneStrings_some (x : Addr) (n c : Nat) (L : List ByteArray) (w : World) (hL : L.length = n) (hn : n ≤ 65536) (hx : n ≠ 0 → x.spot = none) (hc : ∀ i, i < n → w.cell? (x.add i) = some (Value.string (L.getD i ByteArray.empty))) :
    Calls Try.prog 23 #[.slice (some x) n c] w fun e w' => ∃ v, e = .returned v ∧ w'.ownsRow w.heap.size 9 1 v n (L.map Value.string) ∧ Below w.heap.size w w' := by
  have hq := fun w a n c => Lib.run_eql_slice_nil (P := Try.prog) w 40 9 a n c 0 0 Try.underlying40
  have hmk := run_make_row' (P := Try.prog) 40 9 (.string ByteArray.empty) 16 Try.underlying40 Try.info9 rfl .i64 .i64 n (by omega) (by omega)
  obtain ⟨b, off, spot⟩ := x
  go_enter Try.func23, Try.ntmps23
  go_wp2
  go_loopw [4] (fun i wr => ∃ k : Nat, k ≤ n ∧ i = .int .i64 k ∧ ∃ ys : List Value, ys.length = n ∧ (∀ j, j < k → ys[j]? = (L.map Value.string)[j]?) ∧ wr.ownsRow w.heap.size 9 1 (.slice (some ⟨w.heap.size, 0, none⟩) n n) n ys ∧ Below w.heap.size w wr) (fun i _ => n - (intOf i).toNat)
  case atStart => exact ⟨0, by omega, rfl, List.replicate n (.string ByteArray.empty), by simp, fun j hj => by omega, own_alloc_made w 9 (.string ByteArray.empty) n (by unfold maxLen; omega), (Below.refl _ _).alloc (Nat.le_refl _) _⟩
  case round =>
    obtain ⟨k, hk, rfl, ys, hl, hy, ho, hb⟩ := hrel
    by_cases hlt : k < n
    · obtain rfl : spot = none := hx (by omega)
      have hck := hc k hlt
      rw [add_plain] at hck
      have hbl : b < w.heap.size := World.block_lt_of_cell? w _ hck
      have hc1 : wr.cell? ⟨b, off + k, none⟩ = some (Value.string (L.getD k ByteArray.empty)) := (hb.cell (p := ⟨b, off + k, none⟩) hbl).trans hck
      obtain ⟨y, hoc⟩ : ∃ y, wr.cell? ⟨w.heap.size, k, none⟩ = some y := ⟨_, (ho.cellAt k (by omega)).trans (List.getElem?_eq_getElem (by omega))⟩
      have hof := ho.frozenAt k
      obtain ⟨u, hu⟩ : ∃ u, L.getD k ByteArray.empty = u := ⟨_, rfl⟩
      rw [hu] at hc1
      have hu2 : (L.map Value.string)[k]? = some (Value.string u) := by
        rw [← hu]; simp [List.getD_eq_getElem?_getD, List.getElem?_eq_getElem (by omega : k < L.length)]
      have hS := (ho.stored k (Value.string u)).1
      have hB := hb.setCell (p := ⟨w.heap.size, k, none⟩) (Nat.le_refl _) (Value.string u)
      have hY := hide (copy_step hy hu2 (by omega))
      have hO := hide ho
      clear hc hck hb ho hu hy hu2 hq hmk
      go_wp2
      go_roundw
      case rel => exact ⟨k + 1, by omega, by go_num, _, by simpa using hl, hY.out, hS, hB⟩
      case measure => simp [intOf]; omega
    · go_wp2
      go_ret
      have e : ys = L.map Value.string := copy_done (n := n) (fun j hj => hy j (by omega)) hl (by simpa using hL)
      rw [e] at ho
      exact ⟨_, rfl, ho, hb⟩

theorem cloneStrings_any (a : Option Addr) (n c : Nat) (L : List ByteArray) (w : World) (h : SlIn w Value.string a n c L ByteArray.empty) :
    Calls Try.prog 23 #[.slice a n c] w fun e w' => ∃ v, e = .returned v ∧ w'.ownsRow w.heap.size 9 1 v n (L.map Value.string) ∧ Below w.heap.size w w' := by
  obtain ⟨h1, h2, h3⟩ := h
  rcases h3 with ⟨rfl, rfl, rfl⟩ | ⟨x, rfl, hc⟩
  · refine (cloneStrings_nil 0 w).mono ?_
    rintro e w' ⟨rfl, rfl⟩
    obtain rfl : L = [] := List.length_eq_zero_iff.1 h1
    exact ⟨_, rfl, World.ownsRow_nil _ _ _ _, Below.refl _ _⟩
  · refine cloneStrings_some x n c L w h1 h2 (fun hn => ?_) hc
    have := World.cell?_spot (hc 0 (by omega))
    simpa [Addr.add] using this

theorem cloneBools_nil (c : Nat) (w : World) :
    Calls Try.prog 24 #[.slice none 0 c] w fun e w' => e = .returned (.slice none 0 0) ∧ w' = w := by
  have hq := fun w a n c => Lib.run_eql_slice_nil (P := Try.prog) w 41 4 a n c 0 0 Try.underlying41
  go_enter Try.func24, Try.ntmps24
  go_wp2
  go_ret
  exact ⟨rfl, rfl⟩

theorem cloneBools_some (x : Addr) (n c : Nat) (L : List Bool) (w : World) (hL : L.length = n) (hn : n ≤ 65536) (hx : n ≠ 0 → x.spot = none) (hc : ∀ i, i < n → w.cell? (x.add i) = some (Value.bool (L.getD i false))) :
    Calls Try.prog 24 #[.slice (some x) n c] w fun e w' => ∃ v, e = .returned v ∧ w'.ownsRow w.heap.size 4 1 v n (L.map Value.bool) ∧ Below w.heap.size w w' := by
  have hq := fun w a n c => Lib.run_eql_slice_nil (P := Try.prog) w 41 4 a n c 0 0 Try.underlying41
  have hmk := run_make_row' (P := Try.prog) 41 4 (.bool false) 1 Try.underlying41 Try.info4 rfl .i64 .i64 n (by omega) (by omega)
  obtain ⟨b, off, spot⟩ := x
  go_enter Try.func24, Try.ntmps24
  go_wp2
  go_loopw [4] (fun i wr => ∃ k : Nat, k ≤ n ∧ i = .int .i64 k ∧ ∃ ys : List Value, ys.length = n ∧ (∀ j, j < k → ys[j]? = (L.map Value.bool)[j]?) ∧ wr.ownsRow w.heap.size 4 1 (.slice (some ⟨w.heap.size, 0, none⟩) n n) n ys ∧ Below w.heap.size w wr) (fun i _ => n - (intOf i).toNat)
  case atStart => exact ⟨0, by omega, rfl, List.replicate n (.bool false), by simp, fun j hj => by omega, own_alloc_made w 4 (.bool false) n (by unfold maxLen; omega), (Below.refl _ _).alloc (Nat.le_refl _) _⟩
  case round =>
    obtain ⟨k, hk, rfl, ys, hl, hy, ho, hb⟩ := hrel
    by_cases hlt : k < n
    · obtain rfl : spot = none := hx (by omega)
      have hck := hc k hlt
      rw [add_plain] at hck
      have hbl : b < w.heap.size := World.block_lt_of_cell? w _ hck
      have hc1 : wr.cell? ⟨b, off + k, none⟩ = some (Value.bool (L.getD k false)) := (hb.cell (p := ⟨b, off + k, none⟩) hbl).trans hck
      obtain ⟨y, hoc⟩ : ∃ y, wr.cell? ⟨w.heap.size, k, none⟩ = some y := ⟨_, (ho.cellAt k (by omega)).trans (List.getElem?_eq_getElem (by omega))⟩
      have hof := ho.frozenAt k
      obtain ⟨u, hu⟩ : ∃ u, L.getD k false = u := ⟨_, rfl⟩
      rw [hu] at hc1
      have hu2 : (L.map Value.bool)[k]? = some (Value.bool u) := by
        rw [← hu]; simp [List.getD_eq_getElem?_getD, List.getElem?_eq_getElem (by omega : k < L.length)]
      have hS := (ho.stored k (Value.bool u)).1
      have hB := hb.setCell (p := ⟨w.heap.size, k, none⟩) (Nat.le_refl _) (Value.bool u)
      have hY := hide (copy_step hy hu2 (by omega))
      have hO := hide ho
      clear hc hck hb ho hu hy hu2 hq hmk
      go_wp2
      go_roundw
      case rel => exact ⟨k + 1, by omega, by go_num, _, by simpa using hl, hY.out, hS, hB⟩
      case measure => simp [intOf]; omega
    · go_wp2
      go_ret
      have e : ys = L.map Value.bool := copy_done (n := n) (fun j hj => hy j (by omega)) hl (by simpa using hL)
      rw [e] at ho
      exact ⟨_, rfl, ho, hb⟩

theorem cloneBools_any (a : Option Addr) (n c : Nat) (L : List Bool) (w : World) (h : SlIn w Value.bool a n c L false) :
    Calls Try.prog 24 #[.slice a n c] w fun e w' => ∃ v, e = .returned v ∧ w'.ownsRow w.heap.size 4 1 v n (L.map Value.bool) ∧ Below w.heap.size w w' := by
  obtain ⟨h1, h2, h3⟩ := h
  rcases h3 with ⟨rfl, rfl, rfl⟩ | ⟨x, rfl, hc⟩
  · refine (cloneBools_nil 0 w).mono ?_
    rintro e w' ⟨rfl, rfl⟩
    obtain rfl : L = [] := List.length_eq_zero_iff.1 h1
    exact ⟨_, rfl, World.ownsRow_nil _ _ _ _, Below.refl _ _⟩
  · refine cloneBools_some x n c L w h1 h2 (fun hn => ?_) hc
    have := World.cell?_spot (hc 0 (by omega))
    simpa [Addr.add] using this
end Go.Proofs.Qxb6600248a
