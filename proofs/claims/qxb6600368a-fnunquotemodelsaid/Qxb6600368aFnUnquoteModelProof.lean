import Derived.Test.Qxb6600368aRows
import Derived.Test.Qxb6600368aUnq
import Derived.WalkKit
import Derived.ProofKit
import Derived.OpenShut
import Derived.ShutString
namespace Go.Proofs.Qxb6600368a.fnUnquoteModel
open Go.ChangeShapes Go.WideShapes Go.ChangeAt Go.RowKit
open Go.ChangeMaps (open_string shut_string)
set_option linter.unusedVariables false

theorem own : ownKnob Try.prog.godebug = none := by kernel_rfl

theorem zzUnquote_any (s : ByteArray) (w : World) (hs : s.size ≤ 1048576) :
    Calls Try.prog 19 #[.string s] w fun e w' => e = .returned (.tuple #[.string (ansS (unq s.data.toList)), .bool (ansB (unq s.data.toList))]) ∧ Below w.heap.size w w' := by
  have C := hide (unquote_any s w hs)
  generalize unq s.data.toList = R at *
  go_enter Try.func19, Try.ntmps19
  go_wp2_with fail
  refine (unhide C).mono ?_
  rintro e w1 ⟨rfl, hb⟩
  go_wp2
  go_ret2
  exact ⟨rfl, hb⟩

theorem bytes_yes (s : ByteArray) (w : World) (hs : s.size ≤ 1048576) :
    Calls Try.prog 18 #[.string s] w fun e w' => e = .returned (.bool true) ∧ w' = w := by
  go_enter Try.func18, Try.ntmps18
  go_wp2
  go_ret
  exact ⟨rfl, rfl⟩
theorem bytes_no (s : ByteArray) (w : World) (hm : s.size ≤ maxLen) (hs : 1048576 < (s.size : Int)) :
    Calls Try.prog 18 #[.string s] w fun e w' => e = .returned (.bool false) ∧ w' = w := by
  unfold maxLen at hm
  go_enter Try.func18, Try.ntmps18
  go_wp2
  go_ret
  exact ⟨rfl, rfl⟩

/-! ### THE WALK: the Go text returns true -/
set_option maxHeartbeats 400000 in
theorem walk (a0 : ByteArray) (w0 : a0.size ≤ maxLen) (w : World) :
    Calls Try.prog 7 #[.string a0] w fun e w' => e = .returned (.bool true) ∧ Below w.heap.size w w' := by
  by_cases hs : a0.size ≤ 1048576
  · have C1 := hide (zzUnquote_any a0 w hs)
    have C2 := hide (fun w => mach_any a0 w hs)
    rw [unq_mach] at C1
    generalize mach 0 a0.data.toList [] = R at *
    generalize ansS R = x at *
    generalize ansB R = y at *
    go_enter Try.func7, Try.ntmps7
    go_wp2_with fail
    refine (bytes_yes a0 w hs).mono ?_
    rintro e w' ⟨rfl, hw⟩
    rw [hw]; clear hw w'
    go_wp2_with fail
    refine (unhide C1).mono ?_
    rintro e w1 ⟨rfl, b1⟩
    have hb1 := hide b1
    clear b1
    go_wp2_with fail
    refine ((unhide C2) _).mono ?_
    rintro e w2 ⟨rfl, b2⟩
    have hb2 := hide (hb1.out.trans (b2.mono hb1.out.size))
    clear b2 hb1
    go_wp2
    go_ret
    exact ⟨rfl, hb2.out⟩
  · have hs' : 1048576 < (a0.size : Int) := by omega
    go_enter Try.func7, Try.ntmps7
    go_wp2_with fail
    refine (bytes_no a0 w w0 hs').mono ?_
    rintro e w' ⟨rfl, hw⟩
    rw [hw]; clear hw w'
    go_wp2
    go_ret
    exact ⟨rfl, Below.refl _ _⟩

/-! ### THE ROW's STEP -/
set_option maxRecDepth 100000 in
theorem lifted (os : Os) (started : os.Started) (H : Type) (enc : TypeId × Value → H) :
    ReturnsInHanded {} Try.checked os 7 .any (Rows.fnUnquoteModelSpec.pre6 enc Try.prog Try.f7 Rows.fnUnquoteModelRow.domain false) (Rows.fnUnquoteModelSpec.post enc Try.prog Try.f7 false true false false) := by
  refine returnsInHanded_of_change (C := Try.checked) own started (by kernel_rfl) Try.func7
    (ChangeSpec.witness6 (enc := enc) (C := Try.checked) false ⟨#[], #[.string ByteArray.empty], []⟩ 8 (by kernel_rfl) (by kernel_rfl) (by kernel_rfl) (by kernel_rfl)) ?_
  intro W base args ds gs before hval0 hW hcnd _
  have hval : ∀ (j : Nat) t v, Try.f7.params[j]? = some t → args[j]? = some v → Value.okWide Try.prog W .any base t v := hval0
  have hW' := hW
  obtain ⟨p, q, hA0, hV, rfl, hfz, hnd⟩ := hW
  have hA : DataW.TrodAll enc Try.prog W 0 (fun _ => true) true Try.f7.params.toList args.toList ds p := hA0
  rw [Try.params7] at hA hval
  obtain ⟨v0, vs0, d0, ds0, p0, q0, hargs, rfl, rfl, h0, r0⟩ := trodAll_cons hA
  obtain ⟨rfl, rfl, rfl⟩ := trodAll_nil r0
  obtain rfl : args = #[v0] := by cases args; simp_all
  obtain ⟨rfl, rfl⟩ := trodVars_none hV
  obtain ⟨a0, rfl, rfl, rfl, w0⟩ := open_string Try.underlying9 (hval 0 9 v0 rfl rfl) h0
  clear hA0 hval0
  refine (walk a0 w0 W).mono fun e W' ⟨he, bel⟩ => ?_
  subst he
  exact ⟨_, rfl, _, _, _, [], _, [], hW', trodAll_mk1 (shut_bool Try.underlying4 _), (trodAll_cons_mk (shut_string Try.underlying9 w0) trodAll_mk0), rfl, bel.frame _, fun h => by cases h⟩

theorem over : Rows.fnUnquoteModelRow.holds Try.pinned (OpenSpec.ofChange Rows.fnUnquoteModelSpec) :=
  OpenClaim.holds_of_wide 7 Try.f7 rfl rfl rfl rfl rfl rfl rfl ⟨rfl, rfl, rfl, rfl, rfl⟩ rfl rfl rfl rfl rfl (by kernel_rfl) Try.func7 (by kernel_rfl)
    (of_decide_eq_true (by kernel_rfl)) (by unfold Func.isWrapper; first | (rw [if_pos (by decide +kernel)]; kernel_rfl) | (rw [if_neg (by decide +kernel)]; exact ⟨rfl, rfl⟩))
    (fun os started H enc _ => lifted os started H enc)

/-- ████ THE STATEMENT ████ -/
theorem proved : Rows.FnUnquoteModelSaid :=
  over
end Go.Proofs.Qxb6600368a.fnUnquoteModel
