import Derived.Test.Qxb6600368aMach
namespace Go.Proofs.Qxb6600368a
open Go.RowKit

def MidIs (l acc : List UInt8) (R : Option (List UInt8)) : Prop := mid l acc = R
/-- What lies between the first and the last byte, from place k on (places as in the whole). -/
def rest (s : ByteArray) (k : Nat) : List UInt8 := (s.data.toList.tail.dropLast).drop (k - 1)

theorem rest_at (s : ByteArray) (k : Nat) (h1 : 1 ≤ k) (h2 : k + 1 < s.size) : rest s k = s[k] :: rest s (k + 1) := by
  unfold rest
  have hl : s.data.toList.length = s.size := by simp
  rw [List.drop_eq_getElem_cons (by simp; omega)]
  congr 1
  · rw [List.getElem_dropLast, List.getElem_tail]
    show s.data.toList[k - 1 + 1] = _
    simp only [show k - 1 + 1 = k from by omega]
    rfl
  · rw [show k - 1 + 1 = k + 1 - 1 from by omega]
theorem rest_end (s : ByteArray) (k : Nat) (h1 : 1 ≤ k) (h2 : s.size ≤ k + 1) : rest s k = [] := by
  unfold rest
  exact List.drop_eq_nil_of_le (by simp; omega)

theorem unq_short (s : ByteArray) (h : s.size < 2) : unq s.data.toList = none := by
  unfold unq
  rw [if_pos (by simpa using h)]
theorem unq_head (s : ByteArray) (h : 0 < s.size) (h0 : s[0] ≠ 34) : unq s.data.toList = none := by
  unfold unq
  split
  · rfl
  · rw [if_pos]
    rw [List.head?_eq_getElem?, List.getElem?_eq_getElem (by simpa using h)]
    intro e
    have e' : s.data[0] = 34 := by simpa using e
    exact h0 e'
theorem unq_last (s : ByteArray) (h : 1 < s.size) (h0 : s[s.size - 1] ≠ 34) : unq s.data.toList = none := by
  unfold unq
  split
  · rfl
  · split
    · rfl
    · rw [if_pos]
      rw [List.getLast?_eq_getElem?, List.getElem?_eq_getElem (by simp; omega)]
      intro e
      have e' : s.data[s.size - 1]'(by show s.size - 1 < s.size; omega) = 34 := by simpa using e
      exact h0 e'
theorem unq_mid (s : ByteArray) (h : 1 < s.size) (h0 : s[0] = 34) (h1 : s[s.size - 1] = 34) : unq s.data.toList = mid (rest s 1) [] := by
  unfold unq rest
  rw [if_neg (by simp; omega), if_neg, if_neg]
  · rfl
  · rw [List.getLast?_eq_getElem?, List.getElem?_eq_getElem (by simp; omega)]
    have e' : s.data[s.size - 1]'(by show s.size - 1 < s.size; omega) = 34 := h1
    simpa using e'
  · rw [List.head?_eq_getElem?, List.getElem?_eq_getElem (by simp; omega)]
    have e' : s.data[0]'(by show 0 < s.size; omega) = 34 := h0
    simpa using e'

section
variable {l acc : List UInt8} {R : Option (List UInt8)} {c d : UInt8}
theorem d_quote (h : MidIs (34 :: l) acc R) : R = none := by rw [← h]; exact mid_quote _ _
theorem d_esc (h : MidIs (92 :: d :: l) acc R) : MidIs l (acc ++ [d]) R := by unfold MidIs at h ⊢; rw [← h]; exact (mid_esc _ _ _).symm
theorem d_esc_end (h : MidIs [92] acc R) : R = none := by rw [← h]; exact mid_esc_end _
theorem d_put (h1 : c ≠ 34) (h2 : c ≠ 92) (h : MidIs (c :: l) acc R) : MidIs l (acc ++ [c]) R := by unfold MidIs at h ⊢; rw [← h]; exact (mid_plain _ _ _ h1 h2).symm
theorem d_end (h : MidIs [] acc R) : R = some acc := by rw [← h]; rfl
end

set_option maxHeartbeats 1000000 in
theorem unquote_any (s : ByteArray) (w : World) (hs : s.size ≤ 1048576) :
    Calls Try.prog 25 #[.string s] w fun e w' => e = .returned (.tuple #[.string (ansS (unq s.data.toList)), .bool (ansB (unq s.data.toList))]) ∧ Below w.heap.size w w' := by
  by_cases h2 : s.size < 2
  · rw [unq_short s h2]
    have q1 : decide ((s.size : Int) < 2) = true := by simp; omega
    go_enter Try.func25, Try.ntmps25
    go_wp2
    go_ret2
    exact ⟨rfl, Below.refl _ _⟩
  by_cases h0 : s[0] = 34
  case neg =>
    rw [unq_head s (by omega) h0]
    obtain ⟨b1, b2⟩ := ne34 h0
    go_enter Try.func25, Try.ntmps25
    go_wp2
    go_ret2
    exact ⟨rfl, Below.refl _ _⟩
  by_cases h1 : s[s.size - 1] = 34
  case neg =>
    rw [unq_last s (by omega) h1]
    obtain ⟨b1, b2⟩ := ne34 h1
    go_enter Try.func25, Try.ntmps25
    go_wp2
    go_ret2
    exact ⟨rfl, Below.refl _ _⟩
  rw [unq_mid s (by omega) h0 h1]
  have R0 : MidIs (rest s 1) [] (mid (rest s 1) []) := rfl
  generalize mid (rest s 1) [] = R at *
  go_enter Try.func25, Try.ntmps25
  go_wp2
  go_loopw [5] (fun i wr => ∃ (k : Nat) (acc : List UInt8), 1 ≤ k ∧ k + 1 ≤ s.size ∧ i = .int .i64 k ∧ acc.length ≤ k ∧ Lib.IsBuilder 35 5 w.heap.size w.heap.size (Lib.byteCells acc) wr ∧ Below w.heap.size w wr ∧ MidIs (rest s k) acc R) (fun i _ => s.size - (intOf i).toNat)
  case atStart => exact ⟨1, [], by omega, by omega, rfl, by simp, .inl ⟨Nat.le_refl _, .slice none 0 0, heap_alloc_new w _, World.ownsRow_nil _ _ _ _, by simp [Value.ownBlock]⟩, (Below.refl _ _).alloc (Nat.le_refl _) _, R0⟩
  case round =>
    obtain ⟨k, acc, hk1, hk2, rfl, hacc, hI, hb, hR⟩ := hrel
    clear R0 h0 h1
    have hbs := hb.size
    by_cases hlt : k + 1 < s.size
    · rw [rest_at s k hk1 hlt] at hR
      have hks : k < s.size := by omega
      obtain ⟨c, hc⟩ : ∃ c, s[k] = c := ⟨_, rfl⟩
      rw [hc] at hR
      by_cases h34 : c = 34
      · subst h34
        have HM := hide (d_quote hR)
        clear hR
        go_wp2
        go_ret2
        rw [HM.out]
        exact ⟨rfl, hb⟩
      obtain ⟨b1, b2⟩ := ne34 h34
      by_cases h92 : c = 92
      · subst h92
        clear b1 b2 h34
        by_cases hke : k + 2 = s.size
        · rw [rest_end s (k + 1) (by omega) (by omega)] at hR
          have HM := hide (d_esc_end hR)
          have HK := hide hke
          have q1 : (((k : Int) + 1) == ((s.size : Int) - 1)) = true := by rw [beq_iff_eq]; omega
          clear hR hke
          go_wp2
          go_ret2
          rw [HM.out]
          exact ⟨rfl, hb⟩
        · rw [rest_at s (k + 1) (by omega) (by omega)] at hR
          have hks1 : k + 1 < s.size := by omega
          obtain ⟨d, hd⟩ : ∃ d, s[k + 1] = d := ⟨_, rfl⟩
          rw [hd] at hR
          have HM := hide (d_esc hR)
          have q1 : (((k : Int) + 1) == ((s.size : Int) - 1)) = false := by rw [beq_eq_false_iff_ne]; omega
          clear hR
          go_wp2_with fail
          refine (writeByte_any w.heap.size w.heap.size (Lib.byteCells acc) d.toNat wr hI (by rw [Lib.byteCells_length]; omega) hbs).mono ?_
          rintro e w1 ⟨rfl, hI1, hb1⟩
          have hO := hide (byteCells_snoc acc d ▸ hI1)
          have hB1 := hide (hb.trans hb1)
          clear hI1 hb1 hI hb
          go_wp2
          go_roundw
          case rel => exact ⟨k + 2, acc ++ [d], by omega, by omega, by go_num, by simp; omega, .inr hO.out, hB1.out, HM.out⟩
          case measure => simp [intOf]; omega
      · have b3 := ne92 h92
        have HM := hide (d_put h34 h92 hR)
        clear hR
        go_wp2_with fail
        refine (writeByte_any w.heap.size w.heap.size (Lib.byteCells acc) c.toNat wr hI (by rw [Lib.byteCells_length]; omega) hbs).mono ?_
        rintro e w1 ⟨rfl, hI1, hb1⟩
        have hO := hide (byteCells_snoc acc c ▸ hI1)
        have hB1 := hide (hb.trans hb1)
        clear hI1 hb1 hI hb
        go_wp2
        go_roundw
        case rel => exact ⟨k + 1, acc ++ [c], by omega, by omega, by go_num, by simp; omega, .inr hO.out, hB1.out, HM.out⟩
        case measure => simp [intOf]; omega
    · rw [rest_end s k hk1 (by omega)] at hR
      have HM := hide (d_end hR)
      clear hR
      go_wp2_with fail
      refine (Try.Builder_String_any w.heap.size w.heap.size acc wr hI hbs).mono ?_
      rintro e w1 ⟨rfl, hb1⟩
      have hB1 := hide (hb.trans hb1)
      clear hb1 hb hI
      go_wp2
      go_ret2
      rw [HM.out]
      exact ⟨rfl, hB1.out⟩
end Go.Proofs.Qxb6600368a
