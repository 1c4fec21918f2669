import Derived.Test.Qxb6600644aProg
import Derived.WalkKit
import Derived.WalkSpells
import Derived.WalkLawsBesides
namespace Go.Proofs.Qxb6600644a
open Go.RowKit

theorem hide {p : Prop} (h : p) : Hid p := h
theorem unhide {p : Prop} (h : Hid p) : p := h

theorem bytes_of {s : ByteArray} {l : List UInt8} (h : (s.toList == l) = true) : s = ⟨l.toArray⟩ := by
  have h1 : s.toList = l := by simpa using h
  rw [ByteArray.toList_eq] at h1
  cases s
  simp at h1 ⊢
  rw [← h1]
theorem parts (s : ByteArray) (k : Nat) : s.toList = (s.extract 0 k).toList ++ (s.extract k s.size).toList := by
  simp only [ByteArray.toList_eq]
  have e : s.size = s.data.toList.length := by simp
  have h1 : (s.extract 0 k).data.toList = s.data.toList.take k := by simp [ByteArray.data_extract, Array.toList_extract]
  have h2 : (s.extract k s.size).data.toList = s.data.toList.drop k := by
    simp only [ByteArray.data_extract, Array.toList_extract, List.extract_eq_take_drop]
    rw [List.take_of_length_le (by rw [List.length_drop]; omega)]
  rw [h1, h2, List.take_append_drop]

/-- ValueKind at a string that is none of the three interface kinds: the string itself. -/
theorem kind_else (s : ByteArray) (w : World) (nR : (s.toList == [114, 101, 115, 111, 117, 114, 99, 101, 32, 105, 110, 116, 101, 114, 102, 97, 99, 101]) = false) (nS : (s.toList == [115, 116, 114, 117, 99, 116, 32, 105, 110, 116, 101, 114, 102, 97, 99, 101]) = false) (nC : (s.toList == [99, 111, 110, 116, 114, 97, 99, 116, 32, 105, 110, 116, 101, 114, 102, 97, 99, 101]) = false) :
    Calls Try.prog 9 #[.string s] w fun e w' => e = .returned (.string s) ∧ w' = w := by
  go_enter Try.func9, Try.ntmps9
  go_wp2
  go_ret
  exact ⟨rfl, rfl⟩

theorem model_short (s : ByteArray) (w : World) (h : s.size < 10) :
    Calls Try.prog 10 #[.string s] w fun e w' => e = .returned (.string s) ∧ w' = w := by
  go_enter Try.func10, Try.ntmps10
  go_wp2
  go_ret
  exact ⟨rfl, rfl⟩

theorem model_other (s : ByteArray) (w : World) (hm : s.size ≤ 1048576) (h : 10 ≤ s.size) (hq : ((s.extract (s.size - 10) s.size).toList == [32, 105, 110, 116, 101, 114, 102, 97, 99, 101]) = false) :
    Calls Try.prog 10 #[.string s] w fun e w' => e = .returned (.string s) ∧ w' = w := by
  go_enter Try.func10, Try.ntmps10
  go_wp2
  go_ret
  exact ⟨rfl, rfl⟩

theorem model_stem (s : ByteArray) (w : World) (hm : s.size ≤ 1048576) (h : 10 ≤ s.size) (hq : ((s.extract (s.size - 10) s.size).toList == [32, 105, 110, 116, 101, 114, 102, 97, 99, 101]) = true)
    (nR : ((s.extract 0 (s.size - 10)).toList == [114, 101, 115, 111, 117, 114, 99, 101]) = false) (nS : ((s.extract 0 (s.size - 10)).toList == [115, 116, 114, 117, 99, 116]) = false) (nC : ((s.extract 0 (s.size - 10)).toList == [99, 111, 110, 116, 114, 97, 99, 116]) = false) :
    Calls Try.prog 10 #[.string s] w fun e w' => e = .returned (.string s) ∧ w' = w := by
  have mR : ¬ (s.extract 0 (s.size - 10)).toList = [114, 101, 115, 111, 117, 114, 99, 101] := by simpa using nR
  have mS : ¬ (s.extract 0 (s.size - 10)).toList = [115, 116, 114, 117, 99, 116] := by simpa using nS
  have mC : ¬ (s.extract 0 (s.size - 10)).toList = [99, 111, 110, 116, 114, 97, 99, 116] := by simpa using nC
  go_enter Try.func10, Try.ntmps10
  go_wp2
  go_ret
  exact ⟨rfl, rfl⟩

theorem model_else (s : ByteArray) (w : World) (hm : s.size ≤ 1048576) (nR : (s.toList == [114, 101, 115, 111, 117, 114, 99, 101, 32, 105, 110, 116, 101, 114, 102, 97, 99, 101]) = false) (nS : (s.toList == [115, 116, 114, 117, 99, 116, 32, 105, 110, 116, 101, 114, 102, 97, 99, 101]) = false) (nC : (s.toList == [99, 111, 110, 116, 114, 97, 99, 116, 32, 105, 110, 116, 101, 114, 102, 97, 99, 101]) = false) :
    Calls Try.prog 10 #[.string s] w fun e w' => e = .returned (.string s) ∧ w' = w := by
  by_cases h : s.size < 10
  · exact model_short s w h
  cases hq : ((s.extract (s.size - 10) s.size).toList == [32, 105, 110, 116, 101, 114, 102, 97, 99, 101])
  · exact model_other s w hm (by omega) hq
  have hp := parts s (s.size - 10)
  have hq' : (s.extract (s.size - 10) s.size).toList = [32, 105, 110, 116, 101, 114, 102, 97, 99, 101] := by simpa using hq
  rw [hq'] at hp
  refine model_stem s w hm (by omega) hq ?_ ?_ ?_
  · rw [beq_eq_false_iff_ne]
    intro e
    rw [e] at hp
    rw [hp] at nR
    simp at nR
  · rw [beq_eq_false_iff_ne]
    intro e
    rw [e] at hp
    rw [hp] at nS
    simp at nS
  · rw [beq_eq_false_iff_ne]
    intro e
    rw [e] at hp
    rw [hp] at nC
    simp at nC
theorem kind_R (w : World) : Calls Try.prog 9 #[.string ⟨#[114, 101, 115, 111, 117, 114, 99, 101, 32, 105, 110, 116, 101, 114, 102, 97, 99, 101]⟩] w fun e w' => e = .returned (.string ⟨#[114, 101, 115, 111, 117, 114, 99, 101]⟩) ∧ w' = w := by
  go_enter Try.func9, Try.ntmps9
  go_wp2
  go_ret
  exact ⟨rfl, rfl⟩
theorem cut_R : (⟨#[114, 101, 115, 111, 117, 114, 99, 101, 32, 105, 110, 116, 101, 114, 102, 97, 99, 101]⟩ : ByteArray).extract 8 18 = ⟨#[32, 105, 110, 116, 101, 114, 102, 97, 99, 101]⟩ ∧ (⟨#[114, 101, 115, 111, 117, 114, 99, 101, 32, 105, 110, 116, 101, 114, 102, 97, 99, 101]⟩ : ByteArray).extract 0 8 = ⟨#[114, 101, 115, 111, 117, 114, 99, 101]⟩ := by
  constructor <;> rfl
theorem model_R (w : World) : Calls Try.prog 10 #[.string ⟨#[114, 101, 115, 111, 117, 114, 99, 101, 32, 105, 110, 116, 101, 114, 102, 97, 99, 101]⟩] w fun e w' => e = .returned (.string ⟨#[114, 101, 115, 111, 117, 114, 99, 101]⟩) ∧ w' = w := by
  obtain ⟨q1, q2⟩ := cut_R
  go_enter Try.func10, Try.ntmps10
  go_wp2
  go_ret
  exact ⟨rfl, rfl⟩

theorem kind_S (w : World) : Calls Try.prog 9 #[.string ⟨#[115, 116, 114, 117, 99, 116, 32, 105, 110, 116, 101, 114, 102, 97, 99, 101]⟩] w fun e w' => e = .returned (.string ⟨#[115, 116, 114, 117, 99, 116]⟩) ∧ w' = w := by
  go_enter Try.func9, Try.ntmps9
  go_wp2
  go_ret
  exact ⟨rfl, rfl⟩
theorem cut_S : (⟨#[115, 116, 114, 117, 99, 116, 32, 105, 110, 116, 101, 114, 102, 97, 99, 101]⟩ : ByteArray).extract 6 16 = ⟨#[32, 105, 110, 116, 101, 114, 102, 97, 99, 101]⟩ ∧ (⟨#[115, 116, 114, 117, 99, 116, 32, 105, 110, 116, 101, 114, 102, 97, 99, 101]⟩ : ByteArray).extract 0 6 = ⟨#[115, 116, 114, 117, 99, 116]⟩ := by
  constructor <;> rfl
theorem model_S (w : World) : Calls Try.prog 10 #[.string ⟨#[115, 116, 114, 117, 99, 116, 32, 105, 110, 116, 101, 114, 102, 97, 99, 101]⟩] w fun e w' => e = .returned (.string ⟨#[115, 116, 114, 117, 99, 116]⟩) ∧ w' = w := by
  obtain ⟨q1, q2⟩ := cut_S
  go_enter Try.func10, Try.ntmps10
  go_wp2
  go_ret
  exact ⟨rfl, rfl⟩

theorem kind_C (w : World) : Calls Try.prog 9 #[.string ⟨#[99, 111, 110, 116, 114, 97, 99, 116, 32, 105, 110, 116, 101, 114, 102, 97, 99, 101]⟩] w fun e w' => e = .returned (.string ⟨#[99, 111, 110, 116, 114, 97, 99, 116]⟩) ∧ w' = w := by
  go_enter Try.func9, Try.ntmps9
  go_wp2
  go_ret
  exact ⟨rfl, rfl⟩
theorem cut_C : (⟨#[99, 111, 110, 116, 114, 97, 99, 116, 32, 105, 110, 116, 101, 114, 102, 97, 99, 101]⟩ : ByteArray).extract 8 18 = ⟨#[32, 105, 110, 116, 101, 114, 102, 97, 99, 101]⟩ ∧ (⟨#[99, 111, 110, 116, 114, 97, 99, 116, 32, 105, 110, 116, 101, 114, 102, 97, 99, 101]⟩ : ByteArray).extract 0 8 = ⟨#[99, 111, 110, 116, 114, 97, 99, 116]⟩ := by
  constructor <;> rfl
theorem model_C (w : World) : Calls Try.prog 10 #[.string ⟨#[99, 111, 110, 116, 114, 97, 99, 116, 32, 105, 110, 116, 101, 114, 102, 97, 99, 101]⟩] w fun e w' => e = .returned (.string ⟨#[99, 111, 110, 116, 114, 97, 99, 116]⟩) ∧ w' = w := by
  obtain ⟨q1, q2⟩ := cut_C
  go_enter Try.func10, Try.ntmps10
  go_wp2
  go_ret
  exact ⟨rfl, rfl⟩

end Go.Proofs.Qxb6600644a
