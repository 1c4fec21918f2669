import Derived.Test.Qxb6600644aRows
import Derived.Test.Qxb6600644aKinds
import Derived.WalkKit
import Derived.ProofKit
import Derived.OpenShut
import Derived.ShutString
namespace Go.Proofs.Qxb6600644a.fnValueKindStripsInterfaceSuffix
open Go.ChangeShapes Go.WideShapes Go.ChangeAt Go.RowKit
open Go.ChangeMaps (open_string shut_string)
set_option linter.unusedVariables false      -- a walk need not use every 'w<i>' (that an integer argument fits its kind)

theorem own : ownKnob Try.prog.godebug = none := by kernel_rfl

theorem bytes_yes (s : ByteArray) (w : World) (hs : s.size ≤ 1048576) :
    Calls Try.prog 8 #[.string s] w fun e w' => e = .returned (.bool true) ∧ w' = w := by
  go_enter Try.func8, Try.ntmps8
  go_wp2
  go_ret
  exact ⟨rfl, rfl⟩
theorem bytes_no (s : ByteArray) (w : World) (hm : s.size ≤ maxLen) (hs : 1048576 < (s.size : Int)) :
    Calls Try.prog 8 #[.string s] w fun e w' => e = .returned (.bool false) ∧ w' = w := by
  unfold maxLen at hm
  go_enter Try.func8, Try.ntmps8
  go_wp2
  go_ret
  exact ⟨rfl, rfl⟩

theorem walkOf (s t : ByteArray) (w : World) (hm : s.size ≤ 1048576) (C9 : Hid (Calls Try.prog 9 #[.string s] w fun e w' => e = .returned (.string t) ∧ w' = w)) (C10 : Hid (Calls Try.prog 10 #[.string s] w fun e w' => e = .returned (.string t) ∧ w' = w)) :
    Calls Try.prog 4 #[.string s] w fun e w' => e = .returned (.bool true) ∧ Grown w w' := by
  go_enter Try.func4, Try.ntmps4
  go_wp2_with fail
  refine (bytes_yes s w hm).mono ?_
  rintro e w' ⟨rfl, hw⟩
  rw [hw]; clear hw w'
  go_wp2_with fail
  refine (unhide C9).mono ?_
  rintro e w' ⟨rfl, hw⟩
  rw [hw]; clear hw w'
  go_wp2_with fail
  refine (unhide C10).mono ?_
  rintro e w' ⟨rfl, hw⟩
  rw [hw]; clear hw w'
  go_wp2
  go_ret
  exact ⟨rfl, Grown.refl _⟩

theorem walk (a0 : ByteArray) (w0 : a0.size ≤ maxLen) (w : World) :
    Calls Try.prog 4 #[.string a0] w fun e w' => e = .returned (.bool true) ∧ Grown w w' := by
  by_cases hs : a0.size ≤ 1048576
  · cases nR : (a0.toList == [114, 101, 115, 111, 117, 114, 99, 101, 32, 105, 110, 116, 101, 114, 102, 97, 99, 101])
    · cases nS : (a0.toList == [115, 116, 114, 117, 99, 116, 32, 105, 110, 116, 101, 114, 102, 97, 99, 101])
      · cases nC : (a0.toList == [99, 111, 110, 116, 114, 97, 99, 116, 32, 105, 110, 116, 101, 114, 102, 97, 99, 101])
        · exact walkOf a0 a0 w hs (hide (kind_else a0 w nR nS nC)) (hide (model_else a0 w hs nR nS nC))
        · rw [bytes_of nC]; exact walkOf _ _ w (by decide) (hide (kind_C w)) (hide (model_C w))
      · rw [bytes_of nS]; exact walkOf _ _ w (by decide) (hide (kind_S w)) (hide (model_S w))
    · rw [bytes_of nR]; exact walkOf _ _ w (by decide) (hide (kind_R w)) (hide (model_R w))
  · have hs' : 1048576 < (a0.size : Int) := by omega
    go_enter Try.func4, Try.ntmps4
    go_wp2_with fail
    refine (bytes_no a0 w w0 hs').mono ?_
    rintro e w' ⟨rfl, hw⟩
    rw [hw]; clear hw w'
    go_wp2
    go_ret
    exact ⟨rfl, Grown.refl _⟩

/-! ### THE ROW's STEP: WRITTEN OUT: LEAVE IT -/
set_option maxRecDepth 100000 in
theorem lifted (os : Os) (started : os.Started) (H : Type) (enc : TypeId × Value → H) :
    ReturnsInHanded {} Try.checked os 4 .any (Rows.fnValueKindStripsInterfaceSuffixSpec.pre6 enc Try.prog Try.f4 Rows.fnValueKindStripsInterfaceSuffixRow.domain false) (Rows.fnValueKindStripsInterfaceSuffixSpec.post enc Try.prog Try.f4 false true false false) := by
  refine returnsInHanded_of_change (C := Try.checked) own started (by kernel_rfl) Try.func4
    (ChangeSpec.witness6 (enc := enc) (C := Try.checked) false ⟨#[], #[.string ByteArray.empty], []⟩ 8 (by kernel_rfl) (by kernel_rfl) (by kernel_rfl) (by kernel_rfl)) ?_
  intro W base args ds gs before hval0 hW hcnd _
  have hval : ∀ (j : Nat) t v, Try.f4.params[j]? = some t → args[j]? = some v → Value.okWide Try.prog W .any base t v := hval0
  have hW' := hW
  obtain ⟨p, q, hA0, hV, rfl, hfz, hnd⟩ := hW
  have hA : DataW.TrodAll enc Try.prog W 0 (fun _ => true) true Try.f4.params.toList args.toList ds p := hA0
  rw [Try.params4] at hA hval
  obtain ⟨v0, vs0, d0, ds0, p0, q0, hargs, rfl, rfl, h0, r0⟩ := trodAll_cons hA
  obtain ⟨rfl, rfl, rfl⟩ := trodAll_nil r0
  obtain rfl : args = #[v0] := by cases args; simp_all
  obtain ⟨rfl, rfl⟩ := trodVars_none hV
  obtain ⟨a0, rfl, rfl, rfl, w0⟩ := open_string Try.underlying9 (hval 0 9 v0 rfl rfl) h0
  clear hA0 hval0
  simp only [List.append_nil] at hW'
  refine (walk a0 w0 W).mono fun e W' ⟨he, hg⟩ => ?_
  subst he
  exact ⟨_, rfl, post_of_same (pa := []) (pv := []) hW' (fun _ _ _ => (trodAll_cons_mk (shut_bool Try.underlying4 _) trodAll_mk0)) (fun sp _ => (trodAll_cons_mk (shut_string Try.underlying9 w0) trodAll_mk0)) (fun _ _ => rfl) rfl
    (hg.frame _) hg.2.1 (ok_one (by kernel_rfl) rfl (okWide_bool_mk Try.underlying4 _))⟩

theorem over : Rows.fnValueKindStripsInterfaceSuffixRow.holds Try.pinned (OpenSpec.ofChange Rows.fnValueKindStripsInterfaceSuffixSpec) :=
  OpenClaim.holds_of_wide 4 Try.f4 rfl rfl rfl rfl rfl rfl rfl ⟨rfl, rfl, rfl, rfl, rfl⟩ rfl rfl rfl rfl rfl (by kernel_rfl) Try.func4 (by kernel_rfl)
    (of_decide_eq_true (by kernel_rfl)) (by unfold Func.isWrapper; first | (rw [if_pos (by decide +kernel)]; kernel_rfl) | (rw [if_neg (by decide +kernel)]; exact ⟨rfl, rfl⟩))
    (fun os started H enc _ => lifted os started H enc)

/-- ████ THE STATEMENT ████ -/
theorem proved : Rows.FnValueKindStripsInterfaceSuffixSaid :=
  over
end Go.Proofs.Qxb6600644a.fnValueKindStripsInterfaceSuffix
