import Derived.Test.Qxb6600248aPlain
import Derived.Test.Qxb6600248aProg
import Derived.WalkKit
import Derived.WalkSpells
import Derived.Deep.QuietTactic
import Derived.BigQuiet
namespace Go.Proofs.Qxb6600248a
open Go.RowKit

def nodeOf (x : Int) (n : Nat) : Int := if x.tmod n < 0 then x.tmod n + n else x.tmod n

theorem nodeOf_bd (x : Int) (n : Nat) (h1 : 1 ≤ n) : 0 ≤ nodeOf x n ∧ nodeOf x n < n := by
  unfold nodeOf
  have := Int.tmod_lt_of_pos x (b := (n : Int)) (by omega)
  have h3 := Int.lt_tmod_of_pos x (b := (n : Int)) (by omega)
  split <;> omega

theorem ret_int {k : IntKind} {a b : Int} (h : a = b) : Ending.returned (.int k a) = .returned (.int k b) := by rw [h]

theorem nodeOf_any (x : Int) (n : Nat) (h1 : 1 ≤ n) (h2 : n ≤ 65536) (w : World) :
    Calls Try.prog 27 #[.int .i32 x, .int .i64 n] w fun e w' => e = .returned (.int .i32 (nodeOf x n)) ∧ w' = w := by
  have hb1 := Int.tmod_lt_of_pos x (b := (n : Int)) (by omega)
  have hb2 := Int.lt_tmod_of_pos x (b := (n : Int)) (by omega)
  go_enter Try.func27, Try.ntmps27
  go_wp2
  · go_ret
    exact ⟨ret_int (by unfold nodeOf; rw [if_pos (by assumption)]), rfl⟩
  · go_ret
    exact ⟨ret_int (by unfold nodeOf; rw [if_neg (by omega)]), rfl⟩

theorem wordAt_in (b off n c k : Nat) (s : ByteArray) (hk : k < n) (w : World) (hc : w.cell? ⟨b, off + k, none⟩ = some (.string s)) :
    Calls Try.prog 28 #[.slice (some ⟨b, off, none⟩) n c, .int .i64 k] w fun e w' => e = .returned (.string s) ∧ w' = w := by
  go_enter Try.func28, Try.ntmps28
  go_wp2
  go_ret
  exact ⟨rfl, rfl⟩

theorem wordAt_out (a : Option Addr) (n c k : Nat) (hk : n ≤ k) (w : World) :
    Calls Try.prog 28 #[.slice a n c, .int .i64 k] w fun e w' => e = .returned (.string ByteArray.empty) ∧ w' = w := by
  go_enter Try.func28, Try.ntmps28
  go_wp2
  go_ret
  exact ⟨rfl, rfl⟩

theorem punctAt_in (b off n c k : Nat) (s : Bool) (hk : k < n) (w : World) (hc : w.cell? ⟨b, off + k, none⟩ = some (.bool s)) :
    Calls Try.prog 29 #[.slice (some ⟨b, off, none⟩) n c, .int .i64 k] w fun e w' => e = .returned (.bool s) ∧ w' = w := by
  go_enter Try.func29, Try.ntmps29
  go_wp2
  go_ret
  exact ⟨rfl, rfl⟩

theorem punctAt_out (a : Option Addr) (n c k : Nat) (hk : n ≤ k) (w : World) :
    Calls Try.prog 29 #[.slice a n c, .int .i64 k] w fun e w' => e = .returned (.bool false) ∧ w' = w := by
  go_enter Try.func29, Try.ntmps29
  go_wp2
  go_ret
  exact ⟨rfl, rfl⟩

theorem newForWords_any (ao : Option Addr) (n c : Nat) (w : World) :
    Calls Try.prog 39 #[.slice ao n c] w fun e w' => e = .returned (.pointer (some ⟨w.heap.size, 0, none⟩)) ∧
      w' = w.alloc (.cells #[.slice none 0 0, .slice none 0 0, .slice none 0 0, .slice none 0 0, .bool false, .slice none 0 0, .slice none 0 0, .slice none 0 0, .slice none 0 0, .slice none 0 0, .slice none 0 0, .slice ao n c, .slice none 0 0, .int .i64 0] 58) := by
  go_enter Try.func39, Try.ntmps39
  go_wp2
  go_ret
  exact ⟨rfl, rfl⟩

theorem own_slice {w : World} {B e n : Nat} {v : Value} {xs : List Value} (h : w.ownsRow B e 1 v n xs) : ∃ a c, v = .slice a n c := by
  rcases h.2 with ⟨rfl, rfl⟩ | ⟨g, cap, cur, rfl, _⟩
  · exact ⟨_, _, rfl⟩
  · exact ⟨_, _, rfl⟩
theorem own_some {w : World} {B e n : Nat} {v : Value} {xs : List Value} (h : w.ownsRow B e 1 v n xs) (hn : 0 < n) : ∃ g c, v = .slice (some ⟨g, 0, none⟩) n c ∧ n ≤ maxLen := by
  rcases h.2 with ⟨rfl, rfl⟩ | ⟨g, cap, cur, rfl, _, _, h1, h2, _⟩
  · omega
  · exact ⟨_, _, rfl, by omega⟩
theorem own_cell {α : Type} {w : World} {B e n g c : Nat} {l : List α} {f : α → Value} (h : w.ownsRow B e 1 (.slice (some ⟨g, 0, none⟩) n c) n (l.map f)) (f' : α → Value) (d : α) (k : Nat) (hk : k < n) (hf : f' = f := by rfl) :
    w.cell? ⟨g, k, none⟩ = some (f' (l.getD k d)) := by
  subst hf
  have hl := h.1
  simp at hl
  rw [h.cellAt k (by omega)]
  simp [List.getD_eq_getElem?_getD, List.getElem?_eq_getElem (by omega : k < l.length)]

theorem eqStrings_some (b1 b2 n c1 c2 : Nat) (l : List ByteArray) (w : World) (hm : n ≤ maxLen)
    (h1 : ∀ k, k < n → w.cell? ⟨b1, k, none⟩ = some (Value.string (l.getD k ByteArray.empty)))
    (h2 : ∀ k, k < n → w.cell? ⟨b2, k, none⟩ = some (Value.string (l.getD k ByteArray.empty))) :
    Calls Try.prog 31 #[.slice (some ⟨b1, 0, none⟩) n c1, .slice (some ⟨b2, 0, none⟩) n c2] w fun e w' => e = .returned (.bool true) ∧ ∃ q, w' = w.drewN q := by
  unfold maxLen at hm
  go_enter Try.func31, Try.ntmps31
  go_wp2
  go_loopw [5] (fun i wr => ∃ k : Nat, k ≤ n ∧ i = .int .i64 k ∧ ∃ q, wr = w.drewN q) (fun i _ => n - (intOf i).toNat)
  case atStart => exact ⟨0, by omega, rfl, 0, rfl⟩
  case round =>
    obtain ⟨k, hk, rfl, q, rfl⟩ := hrel
    by_cases hlt : k < n
    · have e1 := h1 k hlt
      have e2 := h2 k hlt
      go_wp2
      go_quiet (fail)
      go_wp2
      go_roundw
      case rel => exact ⟨k + 1, by omega, by go_num, _, rfl⟩
      case measure => simp [intOf]; omega
    · go_wp2
      go_ret
      exact ⟨rfl, _, rfl⟩

theorem eqStrings_zero (a1 a2 : Option Addr) (c1 c2 : Nat) (w : World) :
    Calls Try.prog 31 #[.slice a1 0 c1, .slice a2 0 c2] w fun e w' => e = .returned (.bool true) ∧ ∃ q, w' = w.drewN q := by
  go_enter Try.func31, Try.ntmps31
  go_wp2
  refine wp_loop_rounds 1 ?_
  rw [rounds_succ]
  go_wp2
  go_ret
  exact ⟨rfl, 0, rfl⟩

theorem eqStrings_any (B1 B2 : Nat) (v1 v2 : Value) (l : List ByteArray) (w : World) (h1 : w.ownsRow B1 9 1 v1 l.length (l.map Value.string)) (h2 : w.ownsRow B2 9 1 v2 l.length (l.map Value.string)) :
    Calls Try.prog 31 #[v1, v2] w fun e w' => e = .returned (.bool true) ∧ ∃ q, w' = w.drewN q := by
  by_cases h0 : l.length = 0
  · obtain ⟨a1, c1, rfl⟩ := own_slice h1
    obtain ⟨a2, c2, rfl⟩ := own_slice h2
    rw [h0]
    exact eqStrings_zero a1 a2 c1 c2 w
  · obtain ⟨b1, c1, rfl, hm⟩ := own_some h1 (by omega)
    obtain ⟨b2, c2, rfl, _⟩ := own_some h2 (by omega)
    exact eqStrings_some b1 b2 l.length c1 c2 l w hm (fun k hk => own_cell h1 Value.string ByteArray.empty k hk) (fun k hk => own_cell h2 Value.string ByteArray.empty k hk)

theorem eqInts_some (b1 b2 n c1 c2 : Nat) (l : List Int) (w : World) (hm : n ≤ maxLen)
    (h1 : ∀ k, k < n → w.cell? ⟨b1, k, none⟩ = some ((Value.int .i64) (l.getD k (-1))))
    (h2 : ∀ k, k < n → w.cell? ⟨b2, k, none⟩ = some ((Value.int .i64) (l.getD k (-1)))) :
    Calls Try.prog 32 #[.slice (some ⟨b1, 0, none⟩) n c1, .slice (some ⟨b2, 0, none⟩) n c2] w fun e w' => e = .returned (.bool true) ∧ ∃ q, w' = w.drewN q := by
  unfold maxLen at hm
  go_enter Try.func32, Try.ntmps32
  go_wp2
  go_loopw [5] (fun i wr => ∃ k : Nat, k ≤ n ∧ i = .int .i64 k ∧ ∃ q, wr = w.drewN q) (fun i _ => n - (intOf i).toNat)
  case atStart => exact ⟨0, by omega, rfl, 0, rfl⟩
  case round =>
    obtain ⟨k, hk, rfl, q, rfl⟩ := hrel
    by_cases hlt : k < n
    · have e1 := h1 k hlt
      have e2 := h2 k hlt
      go_wp2
      go_quiet (fail)
      go_wp2
      go_roundw
      case rel => exact ⟨k + 1, by omega, by go_num, _, rfl⟩
      case measure => simp [intOf]; omega
    · go_wp2
      go_ret
      exact ⟨rfl, _, rfl⟩

theorem eqInts_zero (a1 a2 : Option Addr) (c1 c2 : Nat) (w : World) :
    Calls Try.prog 32 #[.slice a1 0 c1, .slice a2 0 c2] w fun e w' => e = .returned (.bool true) ∧ ∃ q, w' = w.drewN q := by
  go_enter Try.func32, Try.ntmps32
  go_wp2
  refine wp_loop_rounds 1 ?_
  rw [rounds_succ]
  go_wp2
  go_ret
  exact ⟨rfl, 0, rfl⟩

theorem eqInts_any (B1 B2 : Nat) (v1 v2 : Value) (l : List Int) (w : World) (h1 : w.ownsRow B1 3 1 v1 l.length (l.map (Value.int .i64))) (h2 : w.ownsRow B2 3 1 v2 l.length (l.map (Value.int .i64))) :
    Calls Try.prog 32 #[v1, v2] w fun e w' => e = .returned (.bool true) ∧ ∃ q, w' = w.drewN q := by
  by_cases h0 : l.length = 0
  · obtain ⟨a1, c1, rfl⟩ := own_slice h1
    obtain ⟨a2, c2, rfl⟩ := own_slice h2
    rw [h0]
    exact eqInts_zero a1 a2 c1 c2 w
  · obtain ⟨b1, c1, rfl, hm⟩ := own_some h1 (by omega)
    obtain ⟨b2, c2, rfl, _⟩ := own_some h2 (by omega)
    exact eqInts_some b1 b2 l.length c1 c2 l w hm (fun k hk => own_cell h1 (Value.int .i64) (-1) k hk) (fun k hk => own_cell h2 (Value.int .i64) (-1) k hk)

theorem eqInt32s_some (b1 b2 n c1 c2 : Nat) (l : List Int) (w : World) (hm : n ≤ maxLen)
    (h1 : ∀ k, k < n → w.cell? ⟨b1, k, none⟩ = some ((Value.int .i32) (l.getD k (-1))))
    (h2 : ∀ k, k < n → w.cell? ⟨b2, k, none⟩ = some ((Value.int .i32) (l.getD k (-1)))) :
    Calls Try.prog 33 #[.slice (some ⟨b1, 0, none⟩) n c1, .slice (some ⟨b2, 0, none⟩) n c2] w fun e w' => e = .returned (.bool true) ∧ ∃ q, w' = w.drewN q := by
  unfold maxLen at hm
  go_enter Try.func33, Try.ntmps33
  go_wp2
  go_loopw [5] (fun i wr => ∃ k : Nat, k ≤ n ∧ i = .int .i64 k ∧ ∃ q, wr = w.drewN q) (fun i _ => n - (intOf i).toNat)
  case atStart => exact ⟨0, by omega, rfl, 0, rfl⟩
  case round =>
    obtain ⟨k, hk, rfl, q, rfl⟩ := hrel
    by_cases hlt : k < n
    · have e1 := h1 k hlt
      have e2 := h2 k hlt
      go_wp2
      go_quiet (fail)
      go_wp2
      go_roundw
      case rel => exact ⟨k + 1, by omega, by go_num, _, rfl⟩
      case measure => simp [intOf]; omega
    · go_wp2
      go_ret
      exact ⟨rfl, _, rfl⟩

theorem eqInt32s_zero (a1 a2 : Option Addr) (c1 c2 : Nat) (w : World) :
    Calls Try.prog 33 #[.slice a1 0 c1, .slice a2 0 c2] w fun e w' => e = .returned (.bool true) ∧ ∃ q, w' = w.drewN q := by
  go_enter Try.func33, Try.ntmps33
  go_wp2
  refine wp_loop_rounds 1 ?_
  rw [rounds_succ]
  go_wp2
  go_ret
  exact ⟨rfl, 0, rfl⟩

theorem eqInt32s_any (B1 B2 : Nat) (v1 v2 : Value) (l : List Int) (w : World) (h1 : w.ownsRow B1 21 1 v1 l.length (l.map (Value.int .i32))) (h2 : w.ownsRow B2 21 1 v2 l.length (l.map (Value.int .i32))) :
    Calls Try.prog 33 #[v1, v2] w fun e w' => e = .returned (.bool true) ∧ ∃ q, w' = w.drewN q := by
  by_cases h0 : l.length = 0
  · obtain ⟨a1, c1, rfl⟩ := own_slice h1
    obtain ⟨a2, c2, rfl⟩ := own_slice h2
    rw [h0]
    exact eqInt32s_zero a1 a2 c1 c2 w
  · obtain ⟨b1, c1, rfl, hm⟩ := own_some h1 (by omega)
    obtain ⟨b2, c2, rfl, _⟩ := own_some h2 (by omega)
    exact eqInt32s_some b1 b2 l.length c1 c2 l w hm (fun k hk => own_cell h1 (Value.int .i32) (-1) k hk) (fun k hk => own_cell h2 (Value.int .i32) (-1) k hk)

theorem eqBools_some (b1 b2 n c1 c2 : Nat) (l : List Bool) (w : World) (hm : n ≤ maxLen)
    (h1 : ∀ k, k < n → w.cell? ⟨b1, k, none⟩ = some (Value.bool (l.getD k false)))
    (h2 : ∀ k, k < n → w.cell? ⟨b2, k, none⟩ = some (Value.bool (l.getD k false))) :
    Calls Try.prog 34 #[.slice (some ⟨b1, 0, none⟩) n c1, .slice (some ⟨b2, 0, none⟩) n c2] w fun e w' => e = .returned (.bool true) ∧ ∃ q, w' = w.drewN q := by
  unfold maxLen at hm
  go_enter Try.func34, Try.ntmps34
  go_wp2
  go_loopw [5] (fun i wr => ∃ k : Nat, k ≤ n ∧ i = .int .i64 k ∧ ∃ q, wr = w.drewN q) (fun i _ => n - (intOf i).toNat)
  case atStart => exact ⟨0, by omega, rfl, 0, rfl⟩
  case round =>
    obtain ⟨k, hk, rfl, q, rfl⟩ := hrel
    by_cases hlt : k < n
    · have e1 := h1 k hlt
      have e2 := h2 k hlt
      go_wp2
      go_quiet (fail)
      go_wp2
      go_roundw
      case rel => exact ⟨k + 1, by omega, by go_num, _, rfl⟩
      case measure => simp [intOf]; omega
    · go_wp2
      go_ret
      exact ⟨rfl, _, rfl⟩

theorem eqBools_zero (a1 a2 : Option Addr) (c1 c2 : Nat) (w : World) :
    Calls Try.prog 34 #[.slice a1 0 c1, .slice a2 0 c2] w fun e w' => e = .returned (.bool true) ∧ ∃ q, w' = w.drewN q := by
  go_enter Try.func34, Try.ntmps34
  go_wp2
  refine wp_loop_rounds 1 ?_
  rw [rounds_succ]
  go_wp2
  go_ret
  exact ⟨rfl, 0, rfl⟩

theorem eqBools_any (B1 B2 : Nat) (v1 v2 : Value) (l : List Bool) (w : World) (h1 : w.ownsRow B1 4 1 v1 l.length (l.map Value.bool)) (h2 : w.ownsRow B2 4 1 v2 l.length (l.map Value.bool)) :
    Calls Try.prog 34 #[v1, v2] w fun e w' => e = .returned (.bool true) ∧ ∃ q, w' = w.drewN q := by
  by_cases h0 : l.length = 0
  · obtain ⟨a1, c1, rfl⟩ := own_slice h1
    obtain ⟨a2, c2, rfl⟩ := own_slice h2
    rw [h0]
    exact eqBools_zero a1 a2 c1 c2 w
  · obtain ⟨b1, c1, rfl, hm⟩ := own_some h1 (by omega)
    obtain ⟨b2, c2, rfl, _⟩ := own_some h2 (by omega)
    exact eqBools_some b1 b2 l.length c1 c2 l w hm (fun k hk => own_cell h1 Value.bool false k hk) (fun k hk => own_cell h2 Value.bool false k hk)
end Go.Proofs.Qxb6600248a
