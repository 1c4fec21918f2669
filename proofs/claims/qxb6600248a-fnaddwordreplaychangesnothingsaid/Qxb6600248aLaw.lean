import Derived.Test.Qxb6600248aRun
namespace Go.Proofs.Qxb6600248a
open Go.RowKit Go.WideShapes

/-- What is known of a slice that came in, whatever its length. -/
def SlAt {α : Type} (w : World) (f : α → Value) (a : Option Addr) (len cap : Nat) (L : List α) (d : α) : Prop :=
  L.length = len ∧ len ≤ maxLen ∧ ((a = none ∧ len = 0 ∧ cap = 0) ∨ ∃ x, a = some x ∧ ∀ i, i < len → w.cell? (x.add i) = some (f (L.getD i d)))

theorem SlAt.inn {α : Type} {w w' : World} {f : α → Value} {a : Option Addr} {len cap : Nat} {L : List α} {d : α} (h : SlAt w f a len cap L d) (hl : len ≤ 65536) (hb : Below w.heap.size w w') : SlIn w' f a len cap L d := by
  refine ⟨h.1, hl, ?_⟩
  rcases h.2.2 with h2 | ⟨x, h2, h3⟩
  · exact .inl h2
  · exact .inr ⟨x, h2, fun i hi => (hb.cell (World.block_lt_of_cell? w _ (h3 i hi))).trans (h3 i hi)⟩

theorem SlAt.place {α : Type} {w : World} {f : α → Value} {a : Option Addr} {len cap : Nat} {L : List α} {d : α} (h : SlAt w f a len cap L d) (hl : 0 < len) :
    ∃ b off, a = some ⟨b, off, none⟩ ∧ ∀ i, i < len → w.cell? ⟨b, off + i, none⟩ = some (f (L.getD i d)) := by
  rcases h.2.2 with h2 | ⟨x, h2, h3⟩
  · omega
  · obtain ⟨b, off, spot⟩ := x
    have hs : spot = none := by
      have := World.cell?_spot (h3 0 hl)
      simpa [Addr.add] using this
    subst hs
    exact ⟨b, off, h2, fun i hi => by rw [← add_plain]; exact h3 i hi⟩

def IsBool (e : Ending) : Prop := ∃ b, e = .returned (.bool b)
theorem isBool (b : Bool) : IsBool (.returned (.bool b)) := ⟨b, rfl⟩

set_option maxHeartbeats 400000 in
theorem bytes_any (N : Int) (an aw ap : Option Addr) (ln cn lw cw lp cp : Nat) (Lw : List ByteArray) (w : World) (h1 : ln ≤ maxLen) (h2 : SlAt w Value.string aw lw cw Lw ByteArray.empty) (h3 : lp ≤ maxLen) :
    Calls Try.prog 30 #[.int .i64 N, .slice an ln cn, .slice aw lw cw, .slice ap lp cp] w fun e w' => IsBool e ∧ w' = w := by
  have hlw := h2.2.1
  unfold maxLen at h1 h3 hlw
  have H2 := hide h2
  clear h2
  by_cases q1 : (1048576 : Int) < (ln : Int)
  · go_enter Try.func30, Try.ntmps30
    go_wp2
    go_ret
    exact ⟨isBool false, rfl⟩
  by_cases q2 : (1048576 : Int) < (lw : Int)
  · go_enter Try.func30, Try.ntmps30
    go_wp2
    go_ret
    exact ⟨isBool false, rfl⟩
  by_cases q3 : (1048576 : Int) < (ln : Int) + (lw : Int)
  · go_enter Try.func30, Try.ntmps30
    go_wp2
    go_ret
    exact ⟨isBool false, rfl⟩
  go_enter Try.func30, Try.ntmps30
  go_wp2
  go_loop [9, 10] (fun z i => ∃ (k : Nat) (x : Int), k ≤ lw ∧ i = .int .i64 k ∧ z = .int .i64 x ∧ 0 ≤ x ∧ x ≤ 1048576) (fun _ i => lw - (intOf i).toNat)
  case atStart => exact ⟨0, _, by omega, rfl, rfl, by omega, by omega⟩
  case round =>
    obtain ⟨k, x, hk, rfl, rfl, hx0, hx1⟩ := hrel
    by_cases hlt : k < lw
    · obtain ⟨b, off, rfl, hc⟩ := H2.out.place (by omega)
      have hck := hc k hlt
      obtain ⟨s, hs⟩ : ∃ s, Lw.getD k ByteArray.empty = s := ⟨_, rfl⟩
      rw [hs] at hck
      clear hs hc H2
      go_wp2
      · go_ret
        exact ⟨isBool false, rfl⟩
      · go_ret
        exact ⟨isBool false, rfl⟩
      · go_round
        case rel => exact ⟨k + 1, _, by omega, by go_num, rfl, by omega, by omega⟩
        case measure => simp [intOf]; omega
    · clear H2
      go_wp2
      · go_ret
        exact ⟨isBool false, rfl⟩
      · go_ret
        exact ⟨isBool false, rfl⟩
      · go_ret
        exact ⟨isBool true, rfl⟩

theorem own_heap {w w' : World} {base e n : Nat} {v : Value} {xs : List Value} (h : w.ownsRow base e 1 v n xs) (hh : w'.heap = w.heap) : w'.ownsRow base e 1 v n xs := by
  unfold World.ownsRow at h ⊢
  rw [hh]
  exact h
theorem mt_heap {w w' : World} {B : Nat} {S : St} {vw vi vs vp : Value} (h : MtV w B S vw vi vs vp) (hh : w'.heap = w.heap) : MtV w' B S vw vi vs vp :=
  ⟨by rw [hh]; exact h.blk, own_heap h.ow hh, own_heap h.oi hh, own_heap h.os hh, own_heap h.op hh, own_heap h.oh hh⟩
theorem mt_below {w w' : World} {B C : Nat} {S : St} {vw vi vs vp : Value} (h : MtV w B S vw vi vs vp) (hb : Below C w w') (hC : w.heap.size ≤ C) : MtV w' B S vw vi vs vp :=
  ⟨by rw [hb.block (B + 1) (by have := lt_of_block h.blk; omega)]; exact h.blk, own_below h.ow hb hC, own_below h.oi hb hC, own_below h.os hb hC, own_below h.op hb hC, own_below h.oh hb hC⟩
theorem heap_drewN (w : World) (q : Nat) : (w.drewN q).heap = w.heap := by
  induction q with
  | zero => rfl
  | succ q ih => exact ih
theorem below_drewN' {B : Nat} {w : World} (q : Nat) : Below B w (w.drewN q) := by
  induction q with
  | zero => exact Below.refl _ _
  | succ q ih => exact ih.drew

set_option maxHeartbeats 1000000 in
theorem walk (N : Int) (an aw ap : Option Addr) (ln cn lw cw lp cp : Nat) (Ln : List Int) (Lw : List ByteArray) (Lp : List Bool) (w : World)
    (h1 : SlAt w (Value.int .i32) an ln cn Ln 0) (h2 : SlAt w Value.string aw lw cw Lw ByteArray.empty) (h3 : SlAt w Value.bool ap lp cp Lp false) :
    Calls Try.prog 7 #[.int .i64 N, .slice an ln cn, .slice aw lw cw, .slice ap lp cp] w fun e w' => e = .returned (.bool true) ∧ Below w.heap.size w w' := by
  have C30 := hide (bytes_any N an aw ap ln cn lw cw lp cp Lw w h1.2.1 h2 h3.2.1)
  have g1 := h1.2.1
  have g2 := h2.2.1
  have g3 := h3.2.1
  unfold maxLen at g1 g2 g3
  have H1 := hide h1
  have H2 := hide h2
  have H3 := hide h3
  clear h1 h2 h3
  go_enter Try.func7, Try.ntmps7
  go_wp2_with fail
  refine (unhide C30).mono ?_
  rintro e w' ⟨hbo, hw⟩
  rw [hw]; clear hw w'
  obtain ⟨b, rfl⟩ := hbo
  clear C30
  cases b
  · go_wp2
    go_ret
    exact ⟨rfl, Below.refl _ _⟩
  by_cases q1 : (65536 : Int) < (ln : Int)
  · go_wp2
    go_ret
    exact ⟨rfl, Below.refl _ _⟩
  by_cases q2 : (65536 : Int) < (lw : Int)
  · go_wp2
    go_ret
    exact ⟨rfl, Below.refl _ _⟩
  by_cases q3 : (65536 : Int) < (lp : Int)
  · go_wp2
    go_ret
    exact ⟨rfl, Below.refl _ _⟩
  go_wp2
  go_loop [9, 10] (fun z i => ∃ (k : Nat) (x : Int), k ≤ lw ∧ i = .int .i64 k ∧ z = .int .i64 x ∧ 0 ≤ x ∧ x ≤ 1400000) (fun _ i => lw - (intOf i).toNat)
  case atStart => exact ⟨0, _, by omega, rfl, rfl, by omega, by omega⟩
  case round =>
    obtain ⟨k, x, hk, rfl, rfl, hx0, hx1⟩ := hrel
    by_cases hlt : k < lw
    · obtain ⟨b, off, rfl, hc⟩ := H2.out.place (by omega)
      have hck := hc k hlt
      obtain ⟨s, hs⟩ : ∃ s, Lw.getD k ByteArray.empty = s := ⟨_, rfl⟩
      rw [hs] at hck
      clear hs hc H1 H2 H3
      go_wp2
      · go_ret
        exact ⟨rfl, Below.refl _ _⟩
      · go_ret
        exact ⟨rfl, Below.refl _ _⟩
      · go_round
        case rel => exact ⟨k + 1, _, by omega, by go_num, rfl, by omega, by omega⟩
        case measure => simp [intOf]; omega
    · by_cases n1 : N < 1
      · clear H1 H2 H3
        go_wp2
        go_ret
        exact ⟨rfl, Below.refl _ _⟩
      by_cases n2 : 65536 < N
      · clear H1 H2 H3
        go_wp2
        go_ret
        exact ⟨rfl, Below.refl _ _⟩
      obtain ⟨M, rfl⟩ : ∃ M : Nat, N = M := ⟨N.toNat, by omega⟩
      have l1 := H1.out.1
      have l2 := H2.out.1
      have l3 := H3.out.1
      have HL := hide (And.intro l1 (And.intro l2 l3))
      clear l1 l2 l3
      go_wp2_with fail
      refine (cloneInt32s_any an ln cn Ln _ (H1.out.inn (by omega) (Below.refl _ _))).mono ?_
      rintro e w1 ⟨vn, rfl, on, b1⟩
      go_wp2_with fail
      refine (cloneStrings_any aw lw cw Lw _ (H2.out.inn (by omega) b1)).mono ?_
      rintro e w2 ⟨vw, rfl, ow, b2⟩
      have b2' := b1.trans (b2.mono b1.size)
      go_wp2_with fail
      refine (cloneBools_any ap lp cp Lp _ (H3.out.inn (by omega) b2')).mono ?_
      rintro e w3 ⟨vp, rfl, op, b3⟩
      have b3' := b2'.trans (b3.mono b2'.size)
      have on3 := own_below (own_below on b2 (Nat.le_refl _)) b3 (Nat.le_refl _)
      have ow3 := own_below ow b3 (Nat.le_refl _)
      obtain ⟨rfl, rfl, rfl⟩ := HL.out
      have C1 := hide (run_any M Ln Lw Lp vn vw vp 1 (by omega) (by omega) (by omega) (by omega) _ _ _ w3 on3 ow3 op)
      clear b1 b2 b3 on ow
      have HB3 := hide b3'
      have O3 := hide (And.intro on3 (And.intro ow3 op))
      clear on3 ow3 op b3' b2' HL H1 H2 H3
      go_wp2_with fail
      refine (unhide C1).mono ?_
      rintro e w4 ⟨rfl, hM1, b4⟩
      have C2 := hide (run_any M Ln Lw Lp vn vw vp 2 (by omega) (by omega) (by omega) (by omega) _ _ _ w4 (own_below O3.out.1 b4 (Nat.le_refl _)) (own_below O3.out.2.1 b4 (Nat.le_refl _)) (own_below O3.out.2.2 b4 (Nat.le_refl _)))
      have HM1 := hide hM1
      have HB4 := hide (HB3.out.trans (b4.mono HB3.out.size))
      clear hM1 b4 C1 O3 HB3
      go_wp2_with fail
      refine (unhide C2).mono ?_
      rintro e w5 ⟨rfl, hM2, b5⟩
      obtain ⟨x1, x2, x3, x4, m1⟩ := HM1.out
      have m1' := mt_below m1 b5 (Nat.le_refl _)
      rw [twice_once (by omega)] at hM2
      obtain ⟨y1, y2, y3, y4, m2⟩ := hM2
      have HB5 := hide (HB4.out.trans (b5.mono HB4.out.size))
      clear HM1 m1 b5 C2 HB4
      have C3 := hide (wordState_any _ _ _ _ _ _ w5 m1')
      have HP := hide (And.intro m1' m2)
      clear m1' m2
      go_wp2_with fail
      refine (unhide C3).mono ?_
      rintro e w6 ⟨rfl, p6, hw6⟩
      have m2 := mt_heap (w' := w6) HP.out.2 (by rw [hw6]; exact heap_drewN w5 p6)
      have m1 := mt_heap (w' := w6) HP.out.1 (by rw [hw6]; exact heap_drewN w5 p6)
      have HB6 := hide (HB5.out.trans (hw6 ▸ below_drewN' p6))
      clear hw6 HP C3 HB5
      have C4 := hide (wordState_any _ _ _ _ _ _ w6 m2)
      have HP := hide (And.intro m1 m2)
      clear m1 m2
      go_wp2_with fail
      refine (unhide C4).mono ?_
      rintro e w7 ⟨rfl, p7, hw7⟩
      have m2 := mt_heap (w' := w7) HP.out.2 (by rw [hw7]; exact heap_drewN w6 p7)
      have m1 := mt_heap (w' := w7) HP.out.1 (by rw [hw7]; exact heap_drewN w6 p7)
      have HB7 := hide (HB6.out.trans (hw7 ▸ below_drewN' p7))
      clear hw7 HP C4 HB6
      have hI := reps_inv (N := M) (Ln := Ln) (Lw := Lw) (Lp := Lp) 1
      generalize reps M Ln Lw Lp 1 = S at *
      have i1 := m1.oi; rw [← hI.li] at i1
      have i2 := m2.oi; rw [← hI.li] at i2
      have s1 := m1.os; rw [← hI.ls] at s1
      have s2 := m2.os; rw [← hI.ls] at s2
      have r1 := m1.op; rw [← hI.lp] at r1
      have r2 := m2.op; rw [← hI.lp] at r2
      have K1 := hide fun W (hW : Hid (W.heap = w7.heap)) => eqStrings_any _ _ x1 y1 S.words W (own_heap m1.ow hW.out) (own_heap m2.ow hW.out)
      have K2 := hide fun W (hW : Hid (W.heap = w7.heap)) => eqInts_any _ _ x2 y2 S.index W (own_heap i1 hW.out) (own_heap i2 hW.out)
      have K3 := hide fun W (hW : Hid (W.heap = w7.heap)) => eqInt32s_any _ _ x3 y3 S.same W (own_heap s1 hW.out) (own_heap s2 hW.out)
      have K4 := hide fun W (hW : Hid (W.heap = w7.heap)) => eqBools_any _ _ x4 y4 S.punct W (own_heap r1 hW.out) (own_heap r2 hW.out)
      have K5 := hide fun W (hW : Hid (W.heap = w7.heap)) => eqInt32s_any _ _ _ _ S.word W (own_heap m1.oh hW.out) (own_heap m2.oh hW.out)
      clear m1 m2 i1 i2 s1 s2 r1 r2 hI
      generalize S.any = sa at *
      generalize S.word.length = sl at *
      go_wp2_with fail
      refine ((unhide K1) _ (hide rfl)).mono ?_
      rintro e w8 ⟨rfl, t, hw⟩
      have E8 : Hid (w8.heap = w7.heap) := hide (by rw [hw, heap_drewN])
      have HB8 := hide (HB7.out.trans (hw ▸ below_drewN' t))
      clear hw t HB7 K1
      go_wp2_with fail
      refine ((unhide K2) _ E8).mono ?_
      rintro e w9 ⟨rfl, t, hw⟩
      have E9 : Hid (w9.heap = w7.heap) := hide (by rw [hw, heap_drewN]; exact E8.out)
      have HB9 := hide (HB8.out.trans (hw ▸ below_drewN' t))
      clear hw t HB8 K2
      go_wp2_with fail
      refine ((unhide K3) _ E9).mono ?_
      rintro e w10 ⟨rfl, t, hw⟩
      have E10 : Hid (w10.heap = w7.heap) := hide (by rw [hw, heap_drewN]; exact E9.out)
      have HB10 := hide (HB9.out.trans (hw ▸ below_drewN' t))
      clear hw t HB9 K3
      go_wp2_with fail
      refine ((unhide K4) _ E10).mono ?_
      rintro e w11 ⟨rfl, t, hw⟩
      have E11 : Hid (w11.heap = w7.heap) := hide (by rw [hw, heap_drewN]; exact E10.out)
      have HB11 := hide (HB10.out.trans (hw ▸ below_drewN' t))
      clear hw t HB10 K4
      go_wp2_with fail
      refine ((unhide K5) _ E11).mono ?_
      rintro e w12 ⟨rfl, t, hw⟩
      have E12 : Hid (w12.heap = w7.heap) := hide (by rw [hw, heap_drewN]; exact E11.out)
      have HB12 := hide (HB11.out.trans (hw ▸ below_drewN' t))
      clear hw t HB11 K5
      go_wp2
      go_ret
      exact ⟨rfl, HB12.out⟩
end Go.Proofs.Qxb6600248a
