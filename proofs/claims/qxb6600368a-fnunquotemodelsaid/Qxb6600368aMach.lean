import Derived.Test.Qxb6600368aBuilder
import Derived.Laws.IdiomStrings
import Derived.Lib.BufferRead
namespace Go.Proofs.Qxb6600368a
open Go.RowKit

def MachIs (st : Nat) (l acc : List UInt8) (R : Option (List UInt8)) : Prop := mach st l acc = R
def ansS (R : Option (List UInt8)) : ByteArray := ⟨(R.getD []).toArray⟩
def ansB (R : Option (List UInt8)) : Bool := R.isSome

theorem drop_at (s : ByteArray) (k : Nat) (h : k < s.size) : s.data.toList.drop k = s[k] :: s.data.toList.drop (k + 1) := by
  rw [List.drop_eq_getElem_cons (by simpa using h)]
  rfl
theorem byteCells_snoc (l : List UInt8) (c : UInt8) : Lib.byteCells (l ++ [c]) = Lib.byteCells l ++ [.int .u8 c.toNat] := by simp [Lib.byteCells]
theorem ne34 {c : UInt8} (h : c ≠ 34) : ((c.toNat : Int) == 34) = false ∧ ((c.toNat : Int) != 34) = true := by
  have h1 : ((c.toNat : Int) == 34) = false := by
    rw [beq_eq_false_iff_ne]
    intro e
    exact h (UInt8.toNat_inj.1 (by simp; omega))
  exact ⟨h1, by rw [bne, h1]; rfl⟩
theorem ne92 {c : UInt8} (h : c ≠ 92) : ((c.toNat : Int) == 92) = false := by
  rw [beq_eq_false_iff_ne]
  intro e
  exact h (UInt8.toNat_inj.1 (by simp; omega))

section
variable {l acc : List UInt8} {R : Option (List UInt8)} {c : UInt8}
theorem m0_open (h : MachIs 0 (34 :: l) acc R) : MachIs 1 l acc R := by
  unfold MachIs at h ⊢
  rw [← h]; simp [mach]
theorem m0_none (hc : c ≠ 34) (h : MachIs 0 (c :: l) acc R) : R = none := by
  unfold MachIs at h
  rw [← h]; simp [mach, hc]
theorem m1_close (h : MachIs 1 (34 :: l) acc R) : MachIs 3 l acc R := by
  unfold MachIs at h ⊢
  rw [← h]; simp [mach]
theorem m1_esc (h : MachIs 1 (92 :: l) acc R) : MachIs 2 l acc R := by
  unfold MachIs at h ⊢
  rw [← h]; simp [mach]
theorem m1_put (h1 : c ≠ 34) (h2 : c ≠ 92) (h : MachIs 1 (c :: l) acc R) : MachIs 1 l (acc ++ [c]) R := by
  unfold MachIs at h ⊢
  rw [← h]; simp [mach, h1, h2]
theorem m2_put (h : MachIs 2 (c :: l) acc R) : MachIs 1 l (acc ++ [c]) R := by
  unfold MachIs at h ⊢
  rw [← h]; simp [mach]
theorem m3_none (h : MachIs 3 (c :: l) acc R) : R = none := by
  unfold MachIs at h
  rw [← h]; simp [mach]
theorem m_done (h : MachIs 3 [] acc R) : R = some acc := by
  unfold MachIs at h
  rw [← h]; simp [mach]
theorem m_undone {st : Nat} (hs : st ≠ 3) (h : MachIs st [] acc R) : R = none := by
  unfold MachIs at h
  rw [← h]; simp [mach, hs]
end

set_option maxHeartbeats 1000000 in
theorem mach_any (s : ByteArray) (w : World) (hs : s.size ≤ 1048576) :
    Calls Try.prog 20 #[.string s] w fun e w' => e = .returned (.tuple #[.string (ansS (mach 0 s.data.toList [])), .bool (ansB (mach 0 s.data.toList []))]) ∧ Below w.heap.size w w' := by
  obtain ⟨i0, hi, hz0, hz1, hz2⟩ := info_parts Try.info5
  have R0 : MachIs 0 (s.data.toList.drop 0) [] (mach 0 s.data.toList []) := rfl
  generalize mach 0 s.data.toList [] = R at *
  go_enter Try.func20, Try.ntmps20
  go_wp2
  go_loopw [4, 5, 6] (fun t v i wr => ∃ (k st : Nat) (acc : List UInt8), k ≤ s.size ∧ i = .int .i64 k ∧ st ≤ 3 ∧ t = .int .i64 st ∧ acc.length ≤ k ∧ wr.ownsRow w.heap.size 5 1 v acc.length (Lib.byteCells acc) ∧ Below w.heap.size w wr ∧ MachIs st (s.data.toList.drop k) acc R) (fun _ _ i _ => s.size - (intOf i).toNat)
  case atStart => exact ⟨0, 0, [], by omega, rfl, by omega, rfl, by simp, World.ownsRow_nil _ _ _ _, Below.refl _ _, R0⟩
  case round =>
    obtain ⟨k, st, acc, hk, rfl, hst, rfl, hacc, ho, hb, hR⟩ := hrel
    clear R0
    by_cases hlt : k < s.size
    · rw [drop_at s k hlt] at hR
      obtain ⟨c, hc⟩ : ∃ c, s[k] = c := ⟨_, rfl⟩
      rw [hc] at hR
      have hbs := hb.size
      have ho2 := hide ho
      rcases (by omega : st = 0 ∨ st = 1 ∨ st = 2 ∨ st = 3) with rfl | rfl | rfl | rfl
      · by_cases h34 : c = 34
        · subst h34
          have HM := hide (m0_open hR)
          clear hR
          go_wp2
          go_roundw
          case rel => exact ⟨k + 1, 1, acc, by omega, by go_num, by omega, rfl, by omega, ho2.out, hb, HM.out⟩
          case measure => simp [intOf]; omega
        · obtain ⟨b1, b2⟩ := ne34 h34
          have HM := hide (m0_none h34 hR)
          clear hR
          go_wp2
          go_ret2
          rw [HM.out]
          exact ⟨rfl, hb⟩
      · by_cases h34 : c = 34
        · subst h34
          have HM := hide (m1_close hR)
          clear hR
          go_wp2
          go_roundw
          case rel => exact ⟨k + 1, 3, acc, by omega, by go_num, by omega, rfl, by omega, ho2.out, hb, HM.out⟩
          case measure => simp [intOf]; omega
        obtain ⟨b1, b2⟩ := ne34 h34
        by_cases h92 : c = 92
        · subst h92
          have HM := hide (m1_esc hR)
          clear hR h34
          go_wp2
          go_roundw
          case rel => exact ⟨k + 1, 2, acc, by omega, by go_num, by omega, rfl, by omega, ho2.out, hb, HM.out⟩
          case measure => simp [intOf]; omega
        · have b3 := ne92 h92
          have HM := hide (m1_put h34 h92 hR)
          clear hR h34 h92
          go_wp2_with (at_builtin; refine wpList_append_own _ rfl (.tmp 27) (.tmp 29) 32 rfl w.heap.size 5 i0 (.int .u8 0) 1 1 Try.underlying32 hi hz0 hz1 hz2 rfl (by decide) _ _ _ rfl (ho2.out.alloc _) ⟨wr.heap.size, 0, none⟩ 1 1 [.int .u8 c.toNat] rfl rfl ?c1x ?c2x ?c3x ?c4x ?c5x ?_)
          all_goals try (case c1x => exact cell_one_new _ _ _)
          all_goals try (case c2x => first | rfl | (intro u hu; simp at hu; subst hu; rfl))
          case c3x => unfold maxLen; omega
          case c4x => omega
          case c5x => simp; omega
          intro v' w1 hown' hgrow _
          have hO := hide hown'
          have hB1 := hide ((hb.alloc hbs _).grown hgrow (by simp; omega) (fun k hk => (ho2.out.lt k hk).1))
          clear hown' hgrow
          go_wp2
          go_roundw
          case rel => exact ⟨k + 1, 1, acc ++ [c], by omega, by go_num, by omega, rfl, by simp; omega, by rw [byteCells_snoc, List.length_append]; exact hO.out, hB1.out, HM.out⟩
          case measure => simp [intOf]; omega
      · have HM := hide (m2_put hR)
        clear hR
        go_wp2_with (at_builtin; refine wpList_append_own _ rfl (.tmp 33) (.tmp 35) 32 rfl w.heap.size 5 i0 (.int .u8 0) 1 1 Try.underlying32 hi hz0 hz1 hz2 rfl (by decide) _ _ _ rfl (ho2.out.alloc _) ⟨wr.heap.size, 0, none⟩ 1 1 [.int .u8 c.toNat] rfl rfl ?c1y ?c2y ?c3y ?c4y ?c5y ?_)
        all_goals try (case c1y => exact cell_one_new _ _ _)
        all_goals try (case c2y => first | rfl | (intro u hu; simp at hu; subst hu; rfl))
        case c3y => unfold maxLen; omega
        case c4y => omega
        case c5y => simp; omega
        intro v' w1 hown' hgrow _
        have hO := hide hown'
        have hB1 := hide ((hb.alloc hbs _).grown hgrow (by simp; omega) (fun k hk => (ho2.out.lt k hk).1))
        clear hown' hgrow
        go_wp2
        go_roundw
        case rel => exact ⟨k + 1, 1, acc ++ [c], by omega, by go_num, by omega, rfl, by simp; omega, by rw [byteCells_snoc, List.length_append]; exact hO.out, hB1.out, HM.out⟩
        case measure => simp [intOf]; omega
      · have HM := hide (m3_none hR)
        clear hR
        go_wp2
        go_ret2
        rw [HM.out]
        exact ⟨rfl, hb⟩
    · rw [List.drop_eq_nil_of_le (by simp; omega)] at hR
      by_cases h3 : st = 3
      · subst h3
        have hRs := hide (m_done hR)
        clear hR
        have e32 := Try.underlying32
        rcases ho.2 with ⟨hv, h0⟩ | ⟨g, cap, cur, hv, _, hg, _, _, _, htk⟩
        · subst hv
          obtain rfl : acc = [] := List.length_eq_zero_iff.1 h0
          have hcv := fun w => Lib.run_convert_nil_bytes (P := Try.prog) w 32 9 5 0 Try.underlying32 Try.underlying5 Try.underlying9
          go_wp2
          go_ret2
          rw [hRs.out]
          exact ⟨rfl, hb⟩
        · subst hv
          have hcv := run_convert_bytes_back (P := Try.prog) wr 32 9 5 ⟨g, 0, none⟩ cap acc Try.underlying32 Try.underlying5 Try.underlying9 (Lib.bytes_of_row hg (by simpa using htk))
          clear hg htk ho
          go_wp2
          go_ret2
          rw [hRs.out]
          exact ⟨rfl, hb⟩
      · have hRs := hide (m_undone h3 hR)
        clear hR
        have h3' : ((st : Int) != 3) = true := by rw [bne_iff_ne]; omega
        go_wp2
        go_ret2
        rw [hRs.out]
        exact ⟨rfl, hb⟩
end Go.Proofs.Qxb6600368a
