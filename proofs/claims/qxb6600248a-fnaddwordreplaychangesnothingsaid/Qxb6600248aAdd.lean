import Derived.Test.Qxb6600248aTabs
namespace Go.Proofs.Qxb6600248a
open Go.RowKit

def LookIs (S : St) (w : ByteArray) (f : Nat) (x l : Int) (R : Option Int) : Prop := look S.same S.words w f x l = R
def msr (n : Nat) (v : Value) : Nat := if intOf v < 0 then 0 else n - (intOf v).toNat

theorem msr_int (n : Nat) (k : IntKind) (x : Int) : msr n (.int k x) = if x < 0 then 0 else n - x.toNat := rfl
theorem hide {p : Prop} (h : p) : Hid p := h
theorem unhide {p : Prop} (h : Hid p) : p := h

theorem bytes_eq {a b : ByteArray} (h : (a.toList == b.toList) = true) : a = b := by
  have h1 : a.toList = b.toList := by simpa using h
  rw [ByteArray.toList_eq, ByteArray.toList_eq] at h1
  cases a; cases b
  simp at h1
  rw [h1]
theorem bytes_ne {a b : ByteArray} (h : (a.toList == b.toList) = false) : a ≠ b := by
  rintro rfl
  simp at h

theorem look_found {S : St} {s : ByteArray} {f u : Nat} {l : Int} {R : Option Int} {n : Nat} (hf : Enough n f u) (hL : LookIs S s f u l R) (h : ((S.words[u]?.getD ByteArray.empty).toList == s.toList) = true) : R = none := by
  obtain ⟨g, rfl⟩ : ∃ g, f = g + 1 := ⟨f - 1, by rcases hf with h | h <;> omega⟩
  have h2 := bytes_eq h
  rw [← hL, look, if_neg (by omega), if_pos]
  rw [Int.toNat_natCast, List.getD_eq_getElem?_getD]
  exact h2
theorem look_next {S : St} (hI : Inv S) {s : ByteArray} {f u : Nat} {l : Int} {R : Option Int} (hf : Enough S.words.length f u) (hL : LookIs S s f u l R) (h : ((S.words[u]?.getD ByteArray.empty).toList == s.toList) = false) :
    ∃ g, Enough S.words.length g (S.same[u]?.getD (-1)) ∧ LookIs S s g (S.same[u]?.getD (-1)) u R ∧ msr S.words.length (.int .i32 (S.same[u]?.getD (-1))) < msr S.words.length (.int .i32 u) := by
  obtain ⟨g, rfl⟩ : ∃ g, f = g + 1 := ⟨f - 1, by rcases hf with h | h <;> omega⟩
  have h2 := bytes_ne h
  have hu := hI.up u (by rcases hf with h | h <;> omega)
  have hb : u < S.words.length ∧ S.words.length - u ≤ g + 1 := by rcases hf with h | h <;> omega
  rw [List.getD_eq_getElem?_getD] at hu
  refine ⟨g, ?_, ?_, ?_⟩
  · rcases hu with hu | hu
    · exact .inl hu
    · exact .inr ⟨by omega, by omega, by omega⟩
  · unfold LookIs at hL ⊢
    rw [← hL, look, if_neg (by omega), if_neg (by rw [Int.toNat_natCast, List.getD_eq_getElem?_getD]; exact h2), Int.toNat_natCast, List.getD_eq_getElem?_getD]
  · rw [msr_int, msr_int]
    rcases hu with hu | hu
    · rw [hu, if_pos (by omega), if_neg (by omega)]; omega
    · rw [if_neg (by omega), if_neg (by omega)]; omega
theorem look_end {S : St} {s : ByteArray} {f : Nat} {l : Int} {R : Option Int} (hL : LookIs S s f (-1) l R) : R = some l := by
  rw [← hL]
  cases f with
  | zero => rfl
  | succ f => rw [look, if_pos rfl]

theorem one_new (w : World) (a : Addr) (u v : Value) (t : TypeId) : ∀ j x, [v][j]? = some x → ((w.setCell a u).alloc (.cells #[v] t)).cell? ((⟨w.heap.size, 0, none⟩ : Addr).add j) = some x := by
  have h := cell_one_new (w.setCell a u) v t
  have e : (w.setCell a u).heap.size = w.heap.size := by simp [World.setCell]
  rw [e] at h
  exact h

theorem Try.info9 : (Try.prog.info? 9).map (fun i => (i.zero, i.size, i.bytes)) = some (some (.string ByteArray.empty), 1, 16) := by kernel_rfl
theorem Try.info3 : (Try.prog.info? 3).map (fun i => (i.zero, i.size, i.bytes)) = some (some (.int .i64 0), 1, 8) := by kernel_rfl
theorem Try.info21 : (Try.prog.info? 21).map (fun i => (i.zero, i.size, i.bytes)) = some (some (.int .i32 0), 1, 4) := by kernel_rfl
theorem Try.info4 : (Try.prog.info? 4).map (fun i => (i.zero, i.size, i.bytes)) = some (some (.bool false), 1, 1) := by kernel_rfl

set_option maxHeartbeats 400000 in
theorem addWord_any (B : Nat) (S : St) (nd : Nat) (s : ByteArray) (k : Int) (p : Bool) (w : World) (hM : Mt w B S) (hI : Inv S) (hnd : nd < S.word.length) (hn : S.words.length ≤ 131072) (hN : S.word.length ≤ 65536) :
    Calls Try.prog 41 #[.pointer (some ⟨B + 1, 0, none⟩), .int .i32 nd, .string s, .int .i64 k, .bool p] w fun e w' => e = .returned (.tuple #[]) ∧ Mt w' B (addW S nd s k p) ∧ Below B w w' := by
  obtain ⟨vw, vi, vs, vp, hV⟩ := hM
  obtain ⟨c0, c1, c2, c3, c4, c11, cf⟩ := mt_cells hV.blk
  obtain ⟨a1, k1, rfl⟩ := own_slice hV.ow
  obtain ⟨a2, k2, rfl⟩ := own_slice hV.oi
  obtain ⟨a3, k3, rfl⟩ := own_slice hV.os
  obtain ⟨a4, k4, rfl⟩ := own_slice hV.op
  have T0 : Tabs w B S.word.length S.any _ _ _ _ _ _ _ _ _ _ _ _ _ := ⟨hV.blk, hV.ow, hV.oi, hV.os, hV.op, hV.oh⟩
  have ch := own_cell hV.oh (Value.int .i32) (-1) nd hnd
  have hE := enough_head hI nd
  have HV := hide hV
  clear hV
  obtain ⟨i9, hi9, z9, y9, b9⟩ := info_parts Try.info9
  obtain ⟨i3, hi3, z3, y3, b3⟩ := info_parts Try.info3
  obtain ⟨i21, hi21, z21, y21, b21⟩ := info_parts Try.info21
  obtain ⟨i4, hi4, z4, y4, b4⟩ := info_parts Try.info4
  obtain ⟨x0, hx0⟩ : ∃ x0, S.word.getD nd (-1) = x0 := ⟨_, rfl⟩
  rw [hx0] at ch hE
  have R0 : LookIs S s (S.words.length + 1) x0 (-1) (look S.same S.words s (S.words.length + 1) x0 (-1)) := rfl
  generalize hR : look S.same S.words s (S.words.length + 1) x0 (-1) = R at R0
  have HX : Hid (S.word.getD nd (-1) = x0 ∧ look S.same S.words s (S.words.length + 1) x0 (-1) = R) := ⟨hx0, hR⟩
  clear hx0 hR
  generalize hany : S.any = an at *
  have HA := hide hany
  clear hany
  generalize hnn : S.words.length = n at *
  generalize hNN : S.word.length = N at *
  have HN : Hid (S.words.length = n ∧ S.word.length = N) := ⟨hnn, hNN⟩
  clear hnn hNN
  go_enter Try.func41, Try.ntmps41
  go_wp2
  go_loop [10, 11] (fun last v => ∃ (f : Nat) (l x : Int), last = .int .i32 l ∧ v = .int .i32 x ∧ Enough n f x ∧ (l = -1 ∨ 0 ≤ l ∧ l < n) ∧ LookIs S s f x l R) (fun _ v => msr n v)
  case atStart => exact ⟨n + 1, -1, x0, rfl, rfl, hE, .inl rfl, R0⟩
  case round =>
    obtain ⟨f, l, x, rfl, rfl, hf, hl, hL⟩ := hrel
    by_cases hx : x = -1
    · subst hx
      have hRl := hide (look_end hL)
      clear hL hf
      go_wp2_with (at_builtin; refine wpList_append_own _ rfl (.tmp 49) (.tmp 51) 40 rfl (B + 2) 9 i9 (.string ByteArray.empty) 1 16 Try.underlying40 hi9 z9 y9 b9 rfl (by decide) _ _ _ rfl (T0.ow.alloc _) ⟨w.heap.size, 0, none⟩ 1 1 [.string s] rfl rfl ?c1 ?c2 ?c3 ?c4 ?c5 ?_)
      case c2 => first | rfl | (intro u hu; simp at hu; subst hu; rfl)
      case c3 => unfold maxLen; omega
      case c4 => omega
      case c5 => have := lt_of_block T0.blk; simp; omega
      intro v1 w1 ow1 hg1 _
      obtain ⟨g1, j1, rfl, _⟩ := own_some ow1 (by omega)
      obtain ⟨T1, B1⟩ := T0.stepW hg1 ow1
      obtain ⟨c0, c1, c2, c3, c4, c11, cf⟩ := mt_cells (T0.mid hg1 (ne_m T0.ow))
      go_wp2_with (at_builtin; refine wpList_append_own _ rfl (.tmp 59) (.tmp 61) 47 rfl (B + 2) 3 i3 (.int .i64 0) 1 8 Try.underlying47 hi3 z3 y3 b3 rfl (by decide) _ _ _ rfl (T1.oi.alloc _) ⟨w1.heap.size, 0, none⟩ 1 1 [.int .i64 k] rfl rfl ?d12 ?d22 ?d32 ?d42 ?d52 ?_)
      case d12 => exact one_new _ _ _ _ _
      all_goals try (case d22 => first | rfl | (intro u hu; simp at hu; subst hu; rfl))
      case d32 => unfold maxLen; omega
      case d42 => omega
      case d52 => have := lt_of_block T1.blk; simp at this ⊢; omega
      intro v2 w2 o2 hg2 _
      obtain ⟨g2, j2, rfl, _⟩ := own_some o2 (by omega)
      obtain ⟨T2, B2⟩ := T1.stepI hg2 o2
      obtain ⟨c0, c1, c2, c3, c4, c11, cf⟩ := mt_cells (T1.mid hg2 (ne_m T1.oi))
      go_wp2_with (at_builtin; refine wpList_append_own _ rfl (.tmp 69) (.tmp 70) 24 rfl (B + 2) 21 i21 (.int .i32 0) 1 4 Try.underlying24 hi21 z21 y21 b21 rfl (by decide) _ _ _ rfl (T2.os.alloc _) ⟨w2.heap.size, 0, none⟩ 1 1 [.int .i32 (-1)] rfl rfl ?d13 ?d23 ?d33 ?d43 ?d53 ?_)
      case d13 => exact one_new _ _ _ _ _
      all_goals try (case d23 => first | rfl | (intro u hu; simp at hu; subst hu; rfl))
      case d33 => unfold maxLen; omega
      case d43 => omega
      case d53 => have := lt_of_block T2.blk; simp at this ⊢; omega
      intro v3 w3 o3 hg3 _
      obtain ⟨g3, j3, rfl, _⟩ := own_some o3 (by omega)
      obtain ⟨T3, B3⟩ := T2.stepS hg3 o3
      obtain ⟨c0, c1, c2, c3, c4, c11, cf⟩ := mt_cells (T2.mid hg3 (ne_m T2.os))
      go_wp2_with (at_builtin; refine wpList_append_own _ rfl (.tmp 78) (.tmp 80) 41 rfl (B + 2) 4 i4 (.bool false) 1 1 Try.underlying41 hi4 z4 y4 b4 rfl (by decide) _ _ _ rfl (T3.op.alloc _) ⟨w3.heap.size, 0, none⟩ 1 1 [.bool p] rfl rfl ?d14 ?d24 ?d34 ?d44 ?d54 ?_)
      case d14 => exact one_new _ _ _ _ _
      all_goals try (case d24 => first | rfl | (intro u hu; simp at hu; subst hu; rfl))
      case d34 => unfold maxLen; omega
      case d44 => omega
      case d54 => have := lt_of_block T3.blk; simp at this ⊢; omega
      intro v4 w4 o4 hg4 _
      obtain ⟨g4, j4, rfl, _⟩ := own_some o4 (by omega)
      obtain ⟨T4, B4⟩ := T3.stepP hg4 o4
      obtain ⟨c0, c1, c2, c3, c4, c11, cf⟩ := mt_cells (T3.mid hg4 (ne_m T3.op))
      have oh4 := T3.midH hg4 (ne_h T3.op)
      have os4 := T3.midS hg4
      have hg3 : B + 2 ≤ g3 := own_ge os4 rfl
      have ne1 : ¬ g3 = B + 1 := by omega
      have ne2 : ¬ B + 1 = g3 := by omega
      have eA : ∀ l, R = some l → addW S nd s k p = push S nd s k p l := by
        intro l hl
        have e := HX.out
        have e2 := HN.out
        rw [hl, ← e2.1, ← e.1] at e
        unfold addW; rw [e.2]
      have EA := hide eA
      clear eA
      have Bel := hide (((B1.trans B2).trans B3).trans B4)
      obtain ⟨T5, B5⟩ := T4.stepA (an || p)
      have T5' := hide T5
      have B5' := hide B5
      clear T5 B5 B1 B2 B3 B4
      rcases hl with rfl | hl
      · have ch4 := own_cell oh4 (Value.int .i32) (-1) nd hnd
        have fh4 := oh4.frozenAt nd
        obtain ⟨x1, hx1⟩ : ∃ x1, S.word.getD nd (-1) = x1 := ⟨_, rfl⟩
        rw [hx1] at ch4
        clear hx1
        cases an
        all_goals
          go_wp2
          go_end0
          rw [EA.out _ hRl.out]
          have e2 := HN.out
          have T5 := T5'.out
          have B5 := B5'.out
          have hA := HA.out
          simp only [Bool.false_or, Bool.true_or] at T5 B5
          obtain ⟨T6, B6⟩ := T5.stepH nd (.int .i32 n)
          exact ⟨rfl, mt_push_head e2.1 e2.2 (by rw [hA]; rfl) T6, (Bel.out.trans B5).trans B6⟩
      · obtain ⟨l, rfl⟩ : ∃ l' : Nat, l = l' := ⟨l.toNat, by omega⟩
        have hll : l < n + 1 := by omega
        obtain ⟨y, cs4⟩ : ∃ y, w4.cell? ⟨g3, l, none⟩ = some y := ⟨_, (os4.cellAt l (by omega)).trans (List.getElem?_eq_getElem (by have := os4.1; omega))⟩
        have fs4 := os4.frozenAt l
        cases an
        all_goals
          go_wp2
          go_end0
          rw [EA.out _ hRl.out]
          have e2 := HN.out
          have T5 := T5'.out
          have B5 := B5'.out
          have hA := HA.out
          simp only [Bool.false_or, Bool.true_or] at T5 B5
          obtain ⟨T6, B6⟩ := T5.stepT l (.int .i32 n)
          exact ⟨rfl, mt_push_link e2.1 e2.2 (by rw [hA]; rfl) T6, (Bel.out.trans B5).trans B6⟩
    · obtain ⟨u, rfl⟩ : ∃ u : Nat, x = u := ⟨x.toNat, by rcases hf with h | h <;> omega⟩
      have hun : u < n := by rcases hf with h | h <;> omega
      obtain ⟨g1, j1, e1, _⟩ := own_some T0.ow (by omega)
      obtain ⟨g3, j3, e3, _⟩ := own_some T0.os (by omega)
      simp only [Value.slice.injEq] at e1 e3
      obtain ⟨rfl, _, rfl⟩ := e1
      obtain ⟨rfl, _, rfl⟩ := e3
      have d1 := own_cell T0.ow Value.string ByteArray.empty u hun
      have d3 := own_cell T0.os (Value.int .i32) (-1) u hun
      go_wp2
      · have hR := look_found hf hL (by assumption)
        refine bodyPost_ret (results_none (by rfl) _ _ _) rfl ?_
        refine ⟨rfl, ?_, Below.refl _ _⟩
        have e := HX.out
        have e2 := HN.out
        rw [hR, ← e2.1, ← e.1] at e
        have e3 : addW S nd s k p = S := by unfold addW; rw [e.2]
        rw [e3]
        exact ⟨_, _, _, _, unhide HV⟩
      · go_round
        case rel =>
          have e2 := HN.out
          obtain ⟨rfl, rfl⟩ := e2
          obtain ⟨g, q1, q2, q3⟩ := look_next hI hf hL (by assumption)
          exact ⟨g, _, _, rfl, rfl, q1, .inr ⟨by omega, by omega⟩, q2⟩
        case measure =>
          have e2 := HN.out
          obtain ⟨rfl, rfl⟩ := e2
          obtain ⟨g, q1, q2, q3⟩ := look_next hI hf hL (by assumption)
          exact q3
end Go.Proofs.Qxb6600248a
