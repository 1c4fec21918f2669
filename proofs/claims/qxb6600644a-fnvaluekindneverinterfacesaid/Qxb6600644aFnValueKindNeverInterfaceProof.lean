import Derived.Test.Qxb6600644aRows
import Derived.Test.Qxb6600644aKinds
import Derived.WalkKit
import Derived.ProofKit
import Derived.OpenShut
import Derived.ShutString
namespace Go.Proofs.Qxb6600644a.fnValueKindNeverInterface
open Go.ChangeShapes Go.WideShapes Go.ChangeAt Go.RowKit
open Go.ChangeMaps (open_string shut_string)
set_option linter.unusedVariables false      -- a walk need not use every 'w<i>' (that an integer argument fits its kind)

theorem own : ownKnob Try.prog.godebug = none := by kernel_rfl

theorem bytes_yes (s : ByteArray) (w : World) (hs : s.size ≤ 1048576) :
    Calls Try.prog 12 #[.string s] w fun e w' => e = .returned (.bool true) ∧ w' = w := by
  go_enter Try.func12, Try.ntmps12
  go_wp2
  go_ret
  exact ⟨rfl, rfl⟩
theorem bytes_no (s : ByteArray) (w : World) (hm : s.size ≤ maxLen) (hs : 1048576 < (s.size : Int)) :
    Calls Try.prog 12 #[.string s] w fun e w' => e = .returned (.bool false) ∧ w' = w := by
  unfold maxLen at hm
  go_enter Try.func12, Try.ntmps12
  go_wp2
  go_ret
  exact ⟨rfl, rfl⟩

theorem isIface_no (s : ByteArray) (w : World) (nR : (s.toList == [114, 101, 115, 111, 117, 114, 99, 101, 32, 105, 110, 116, 101, 114, 102, 97, 99, 101]) = false) (nS : (s.toList == [115, 116, 114, 117, 99, 116, 32, 105, 110, 116, 101, 114, 102, 97, 99, 101]) = false) (nC : (s.toList == [99, 111, 110, 116, 114, 97, 99, 116, 32, 105, 110, 116, 101, 114, 102, 97, 99, 101]) = false) :
    Calls Try.prog 13 #[.string s] w fun e w' => e = .returned (.bool false) ∧ w' = w := by
  go_enter Try.func13, Try.ntmps13
  go_wp2
  go_ret
  exact ⟨rfl, rfl⟩
theorem kind_sR (w : World) : Calls Try.prog 9 #[.string ⟨#[114, 101, 115, 111, 117, 114, 99, 101]⟩] w fun e w' => e = .returned (.string ⟨#[114, 101, 115, 111, 117, 114, 99, 101]⟩) ∧ w' = w := by
  go_enter Try.func9, Try.ntmps9
  go_wp2
  go_ret
  exact ⟨rfl, rfl⟩
theorem isIface_R (w : World) : Calls Try.prog 13 #[.string ⟨#[114, 101, 115, 111, 117, 114, 99, 101, 32, 105, 110, 116, 101, 114, 102, 97, 99, 101]⟩] w fun e w' => e = .returned (.bool true) ∧ w' = w := by
  go_enter Try.func13, Try.ntmps13
  go_wp2
  go_ret
  exact ⟨rfl, rfl⟩
theorem isIface_sR (w : World) : Calls Try.prog 13 #[.string ⟨#[114, 101, 115, 111, 117, 114, 99, 101]⟩] w fun e w' => e = .returned (.bool false) ∧ w' = w := by
  go_enter Try.func13, Try.ntmps13
  go_wp2
  go_ret
  exact ⟨rfl, rfl⟩
theorem kind_sS (w : World) : Calls Try.prog 9 #[.string ⟨#[115, 116, 114, 117, 99, 116]⟩] w fun e w' => e = .returned (.string ⟨#[115, 116, 114, 117, 99, 116]⟩) ∧ w' = w := by
  go_enter Try.func9, Try.ntmps9
  go_wp2
  go_ret
  exact ⟨rfl, rfl⟩
theorem isIface_S (w : World) : Calls Try.prog 13 #[.string ⟨#[115, 116, 114, 117, 99, 116, 32, 105, 110, 116, 101, 114, 102, 97, 99, 101]⟩] w fun e w' => e = .returned (.bool true) ∧ w' = w := by
  go_enter Try.func13, Try.ntmps13
  go_wp2
  go_ret
  exact ⟨rfl, rfl⟩
theorem isIface_sS (w : World) : Calls Try.prog 13 #[.string ⟨#[115, 116, 114, 117, 99, 116]⟩] w fun e w' => e = .returned (.bool false) ∧ w' = w := by
  go_enter Try.func13, Try.ntmps13
  go_wp2
  go_ret
  exact ⟨rfl, rfl⟩
theorem kind_sC (w : World) : Calls Try.prog 9 #[.string ⟨#[99, 111, 110, 116, 114, 97, 99, 116]⟩] w fun e w' => e = .returned (.string ⟨#[99, 111, 110, 116, 114, 97, 99, 116]⟩) ∧ w' = w := by
  go_enter Try.func9, Try.ntmps9
  go_wp2
  go_ret
  exact ⟨rfl, rfl⟩
theorem isIface_C (w : World) : Calls Try.prog 13 #[.string ⟨#[99, 111, 110, 116, 114, 97, 99, 116, 32, 105, 110, 116, 101, 114, 102, 97, 99, 101]⟩] w fun e w' => e = .returned (.bool true) ∧ w' = w := by
  go_enter Try.func13, Try.ntmps13
  go_wp2
  go_ret
  exact ⟨rfl, rfl⟩
theorem isIface_sC (w : World) : Calls Try.prog 13 #[.string ⟨#[99, 111, 110, 116, 114, 97, 99, 116]⟩] w fun e w' => e = .returned (.bool false) ∧ w' = w := by
  go_enter Try.func13, Try.ntmps13
  go_wp2
  go_ret
  exact ⟨rfl, rfl⟩
theorem walkR (w : World) : Calls Try.prog 6 #[.string ⟨#[114, 101, 115, 111, 117, 114, 99, 101, 32, 105, 110, 116, 101, 114, 102, 97, 99, 101]⟩] w fun e w' => e = .returned (.bool true) ∧ Grown w w' := by
  go_enter Try.func6, Try.ntmps6
  go_wp2_with fail
  refine (bytes_yes _ w (by decide)).mono ?_
  rintro e w' ⟨rfl, hw⟩
  rw [hw]; clear hw w'
  go_wp2_with fail
  refine (kind_R w).mono ?_
  rintro e w' ⟨rfl, hw⟩
  rw [hw]; clear hw w'
  go_wp2_with fail
  refine (isIface_sR w).mono ?_
  rintro e w' ⟨rfl, hw⟩
  rw [hw]; clear hw w'
  go_wp2_with fail
  refine (isIface_R w).mono ?_
  rintro e w' ⟨rfl, hw⟩
  rw [hw]; clear hw w'
  go_wp2_with fail
  refine (isIface_R w).mono ?_
  rintro e w' ⟨rfl, hw⟩
  rw [hw]; clear hw w'
  go_wp2
  go_ret
  exact ⟨rfl, Grown.refl _⟩

theorem walkStemR (w : World) : Calls Try.prog 6 #[.string ⟨#[114, 101, 115, 111, 117, 114, 99, 101]⟩] w fun e w' => e = .returned (.bool true) ∧ Grown w w' := by
  go_enter Try.func6, Try.ntmps6
  go_wp2_with fail
  refine (bytes_yes _ w (by decide)).mono ?_
  rintro e w' ⟨rfl, hw⟩
  rw [hw]; clear hw w'
  go_wp2_with fail
  refine (kind_sR w).mono ?_
  rintro e w' ⟨rfl, hw⟩
  rw [hw]; clear hw w'
  go_wp2_with fail
  refine (isIface_sR w).mono ?_
  rintro e w' ⟨rfl, hw⟩
  rw [hw]; clear hw w'
  go_wp2
  go_ret
  exact ⟨rfl, Grown.refl _⟩

theorem walkS (w : World) : Calls Try.prog 6 #[.string ⟨#[115, 116, 114, 117, 99, 116, 32, 105, 110, 116, 101, 114, 102, 97, 99, 101]⟩] w fun e w' => e = .returned (.bool true) ∧ Grown w w' := by
  go_enter Try.func6, Try.ntmps6
  go_wp2_with fail
  refine (bytes_yes _ w (by decide)).mono ?_
  rintro e w' ⟨rfl, hw⟩
  rw [hw]; clear hw w'
  go_wp2_with fail
  refine (kind_S w).mono ?_
  rintro e w' ⟨rfl, hw⟩
  rw [hw]; clear hw w'
  go_wp2_with fail
  refine (isIface_sS w).mono ?_
  rintro e w' ⟨rfl, hw⟩
  rw [hw]; clear hw w'
  go_wp2_with fail
  refine (isIface_S w).mono ?_
  rintro e w' ⟨rfl, hw⟩
  rw [hw]; clear hw w'
  go_wp2_with fail
  refine (isIface_S w).mono ?_
  rintro e w' ⟨rfl, hw⟩
  rw [hw]; clear hw w'
  go_wp2
  go_ret
  exact ⟨rfl, Grown.refl _⟩

theorem walkStemS (w : World) : Calls Try.prog 6 #[.string ⟨#[115, 116, 114, 117, 99, 116]⟩] w fun e w' => e = .returned (.bool true) ∧ Grown w w' := by
  go_enter Try.func6, Try.ntmps6
  go_wp2_with fail
  refine (bytes_yes _ w (by decide)).mono ?_
  rintro e w' ⟨rfl, hw⟩
  rw [hw]; clear hw w'
  go_wp2_with fail
  refine (kind_sS w).mono ?_
  rintro e w' ⟨rfl, hw⟩
  rw [hw]; clear hw w'
  go_wp2_with fail
  refine (isIface_sS w).mono ?_
  rintro e w' ⟨rfl, hw⟩
  rw [hw]; clear hw w'
  go_wp2
  go_ret
  exact ⟨rfl, Grown.refl _⟩

theorem walkC (w : World) : Calls Try.prog 6 #[.string ⟨#[99, 111, 110, 116, 114, 97, 99, 116, 32, 105, 110, 116, 101, 114, 102, 97, 99, 101]⟩] w fun e w' => e = .returned (.bool true) ∧ Grown w w' := by
  go_enter Try.func6, Try.ntmps6
  go_wp2_with fail
  refine (bytes_yes _ w (by decide)).mono ?_
  rintro e w' ⟨rfl, hw⟩
  rw [hw]; clear hw w'
  go_wp2_with fail
  refine (kind_C w).mono ?_
  rintro e w' ⟨rfl, hw⟩
  rw [hw]; clear hw w'
  go_wp2_with fail
  refine (isIface_sC w).mono ?_
  rintro e w' ⟨rfl, hw⟩
  rw [hw]; clear hw w'
  go_wp2_with fail
  refine (isIface_C w).mono ?_
  rintro e w' ⟨rfl, hw⟩
  rw [hw]; clear hw w'
  go_wp2_with fail
  refine (isIface_C w).mono ?_
  rintro e w' ⟨rfl, hw⟩
  rw [hw]; clear hw w'
  go_wp2
  go_ret
  exact ⟨rfl, Grown.refl _⟩

theorem walkStemC (w : World) : Calls Try.prog 6 #[.string ⟨#[99, 111, 110, 116, 114, 97, 99, 116]⟩] w fun e w' => e = .returned (.bool true) ∧ Grown w w' := by
  go_enter Try.func6, Try.ntmps6
  go_wp2_with fail
  refine (bytes_yes _ w (by decide)).mono ?_
  rintro e w' ⟨rfl, hw⟩
  rw [hw]; clear hw w'
  go_wp2_with fail
  refine (kind_sC w).mono ?_
  rintro e w' ⟨rfl, hw⟩
  rw [hw]; clear hw w'
  go_wp2_with fail
  refine (isIface_sC w).mono ?_
  rintro e w' ⟨rfl, hw⟩
  rw [hw]; clear hw w'
  go_wp2
  go_ret
  exact ⟨rfl, Grown.refl _⟩

theorem walkElse (s : ByteArray) (w : World) (hm : s.size ≤ 1048576) (nR : (s.toList == [114, 101, 115, 111, 117, 114, 99, 101, 32, 105, 110, 116, 101, 114, 102, 97, 99, 101]) = false) (nS : (s.toList == [115, 116, 114, 117, 99, 116, 32, 105, 110, 116, 101, 114, 102, 97, 99, 101]) = false) (nC : (s.toList == [99, 111, 110, 116, 114, 97, 99, 116, 32, 105, 110, 116, 101, 114, 102, 97, 99, 101]) = false) (mR : (s.toList == [114, 101, 115, 111, 117, 114, 99, 101]) = false) (mS : (s.toList == [115, 116, 114, 117, 99, 116]) = false) (mC : (s.toList == [99, 111, 110, 116, 114, 97, 99, 116]) = false) : Calls Try.prog 6 #[.string s] w fun e w' => e = .returned (.bool true) ∧ Grown w w' := by
  have C9 := hide (kind_else s w nR nS nC)
  have C13 := hide (isIface_no s w nR nS nC)
  clear nR nS nC
  go_enter Try.func6, Try.ntmps6
  go_wp2_with fail
  refine (bytes_yes _ w hm).mono ?_
  rintro e w' ⟨rfl, hw⟩
  rw [hw]; clear hw w'
  go_wp2_with fail
  refine (unhide C9).mono ?_
  rintro e w' ⟨rfl, hw⟩
  rw [hw]; clear hw w'
  go_wp2_with fail
  refine (unhide C13).mono ?_
  rintro e w' ⟨rfl, hw⟩
  rw [hw]; clear hw w'
  go_wp2_with fail
  refine (unhide C13).mono ?_
  rintro e w' ⟨rfl, hw⟩
  rw [hw]; clear hw w'
  go_wp2
  go_ret
  exact ⟨rfl, Grown.refl _⟩

theorem walk (a0 : ByteArray) (w0 : a0.size ≤ maxLen) (w : World) :
    Calls Try.prog 6 #[.string a0] w fun e w' => e = .returned (.bool true) ∧ Grown w w' := by
  by_cases hs : a0.size ≤ 1048576
  · cases nR : (a0.toList == [114, 101, 115, 111, 117, 114, 99, 101, 32, 105, 110, 116, 101, 114, 102, 97, 99, 101])
    case true => rw [bytes_of nR]; exact walkR w
    cases nS : (a0.toList == [115, 116, 114, 117, 99, 116, 32, 105, 110, 116, 101, 114, 102, 97, 99, 101])
    case true => rw [bytes_of nS]; exact walkS w
    cases nC : (a0.toList == [99, 111, 110, 116, 114, 97, 99, 116, 32, 105, 110, 116, 101, 114, 102, 97, 99, 101])
    case true => rw [bytes_of nC]; exact walkC w
    cases mR : (a0.toList == [114, 101, 115, 111, 117, 114, 99, 101])
    case true => rw [bytes_of mR]; exact walkStemR w
    cases mS : (a0.toList == [115, 116, 114, 117, 99, 116])
    case true => rw [bytes_of mS]; exact walkStemS w
    cases mC : (a0.toList == [99, 111, 110, 116, 114, 97, 99, 116])
    case true => rw [bytes_of mC]; exact walkStemC w
    exact walkElse a0 w hs nR nS nC mR mS mC
  · have hs' : 1048576 < (a0.size : Int) := by omega
    go_enter Try.func6, Try.ntmps6
    go_wp2_with fail
    refine (bytes_no a0 w w0 hs').mono ?_
    rintro e w' ⟨rfl, hw⟩
    rw [hw]; clear hw w'
    go_wp2
    go_ret
    exact ⟨rfl, Grown.refl _⟩

/-! ### THE ROW's STEP: WRITTEN OUT: LEAVE IT -/
set_option maxRecDepth 100000 in
theorem lifted (os : Os) (started : os.Started) (H : Type) (enc : TypeId × Value → H) :
    ReturnsInHanded {} Try.checked os 6 .any (Rows.fnValueKindNeverInterfaceSpec.pre6 enc Try.prog Try.f6 Rows.fnValueKindNeverInterfaceRow.domain false) (Rows.fnValueKindNeverInterfaceSpec.post enc Try.prog Try.f6 false true false false) := by
  refine returnsInHanded_of_change (C := Try.checked) own started (by kernel_rfl) Try.func6
    (ChangeSpec.witness6 (enc := enc) (C := Try.checked) false ⟨#[], #[.string ByteArray.empty], []⟩ 8 (by kernel_rfl) (by kernel_rfl) (by kernel_rfl) (by kernel_rfl)) ?_
  intro W base args ds gs before hval0 hW hcnd _
  have hval : ∀ (j : Nat) t v, Try.f6.params[j]? = some t → args[j]? = some v → Value.okWide Try.prog W .any base t v := hval0
  have hW' := hW
  obtain ⟨p, q, hA0, hV, rfl, hfz, hnd⟩ := hW
  have hA : DataW.TrodAll enc Try.prog W 0 (fun _ => true) true Try.f6.params.toList args.toList ds p := hA0
  rw [Try.params6] at hA hval
  obtain ⟨v0, vs0, d0, ds0, p0, q0, hargs, rfl, rfl, h0, r0⟩ := trodAll_cons hA
  obtain ⟨rfl, rfl, rfl⟩ := trodAll_nil r0
  obtain rfl : args = #[v0] := by cases args; simp_all
  obtain ⟨rfl, rfl⟩ := trodVars_none hV
  obtain ⟨a0, rfl, rfl, rfl, w0⟩ := open_string Try.underlying9 (hval 0 9 v0 rfl rfl) h0
  clear hA0 hval0
  simp only [List.append_nil] at hW'
  refine (walk a0 w0 W).mono fun e W' ⟨he, hg⟩ => ?_
  subst he
  exact ⟨_, rfl, post_of_same (pa := []) (pv := []) hW' (fun _ _ _ => (trodAll_cons_mk (shut_bool Try.underlying4 _) trodAll_mk0)) (fun sp _ => (trodAll_cons_mk (shut_string Try.underlying9 w0) trodAll_mk0)) (fun _ _ => rfl) rfl
    (hg.frame _) hg.2.1 (ok_one (by kernel_rfl) rfl (okWide_bool_mk Try.underlying4 _))⟩

theorem over : Rows.fnValueKindNeverInterfaceRow.holds Try.pinned (OpenSpec.ofChange Rows.fnValueKindNeverInterfaceSpec) :=
  OpenClaim.holds_of_wide 6 Try.f6 rfl rfl rfl rfl rfl rfl rfl ⟨rfl, rfl, rfl, rfl, rfl⟩ rfl rfl rfl rfl rfl (by kernel_rfl) Try.func6 (by kernel_rfl)
    (of_decide_eq_true (by kernel_rfl)) (by unfold Func.isWrapper; first | (rw [if_pos (by decide +kernel)]; kernel_rfl) | (rw [if_neg (by decide +kernel)]; exact ⟨rfl, rfl⟩))
    (fun os started H enc _ => lifted os started H enc)

/-- ████ THE STATEMENT ████ -/
theorem proved : Rows.FnValueKindNeverInterfaceSaid :=
  over
end Go.Proofs.Qxb6600644a.fnValueKindNeverInterface
