import Derived.Test.Qxb6601227aRows
import Derived.Test.Qxb6601227aScan
import Derived.WalkKit
import Derived.ProofKit
import Derived.OpenShut
import Derived.ShutString
namespace Go.Proofs.Qxb6601227a.fnMultilineStringIgnoresWhatPrecedes
open Go.ChangeShapes Go.WideShapes Go.ChangeAt Go.RowKit
open Go.ChangeMaps (open_string shut_string)
set_option linter.unusedVariables false      -- a walk need not use every 'w<i>' (that an integer argument fits its kind)

theorem own : ownKnob Try.prog.godebug = none := by kernel_rfl

theorem zz_any (s : ByteArray) (p : Nat) (w : World) (hs : s.size ≤ 1048576) (hp : p < s.size) :
    Calls Try.prog 8 #[.string s, .int .i64 p] w fun e w' => e = .returned (.int .i64 (ends s.data.toList p)) ∧ Below w.heap.size w w' := by
  have C := hide (scan_any w.heap.size w.heap.size s p _ (Nat.le_refl _) (heap_alloc_new w (.cells (sc s p) 34)) hs hp)
  generalize ends s.data.toList p = R at *
  go_enter Try.func8, Try.ntmps8
  go_wp2_with fail
  refine (unhide C).mono ?_
  rintro e w1 ⟨rfl, hA, hb⟩
  obtain ⟨c0, c1, f1⟩ := hA.cells
  have HB := hide (((Below.refl w.heap.size w).alloc (Nat.le_refl _) _).trans hb)
  clear hA hb C
  go_wp2
  go_ret
  exact ⟨rfl, HB.out⟩

def IsBool (e : Ending) : Prop := ∃ b, e = .returned (.bool b)
theorem isBool (b : Bool) : IsBool (.returned (.bool b)) := ⟨b, rfl⟩

theorem bytes_any (a0 a1 : ByteArray) (a2 : Int) (w : World) (w0 : a0.size ≤ maxLen) (w1 : a1.size ≤ maxLen) :
    Calls Try.prog 9 #[.string a0, .string a1, .int .i64 a2] w fun e w' => IsBool e ∧ w' = w := by
  unfold maxLen at w0 w1
  go_enter Try.func9, Try.ntmps9
  go_wp2
  all_goals go_ret
  all_goals first | exact ⟨isBool false, rfl⟩ | exact ⟨isBool true, rfl⟩

/-! ### THE WALK: the Go text returns true -/
set_option maxHeartbeats 400000 in
theorem walk (a0 : ByteArray) (a1 : ByteArray) (a2 : Int) (w0 : a0.size ≤ maxLen) (w1 : a1.size ≤ maxLen) (w2 : (Lit.int .i64 a2).wf = true) (w : World) :
    Calls Try.prog 4 #[.string a0, .string a1, .int .i64 a2] w fun e w' => e = .returned (.bool true) ∧ Below w.heap.size w w' := by
  have C9 := hide (bytes_any a0 a1 a2 w w0 w1)
  unfold maxLen at w0 w1
  clear w2
  go_enter Try.func4, Try.ntmps4
  go_wp2_with fail
  refine (unhide C9).mono ?_
  rintro e w' ⟨hbo, hw⟩
  rw [hw]; clear hw w' C9
  obtain ⟨b, rfl⟩ := hbo
  cases b
  · go_wp2
    go_ret
    exact ⟨rfl, Below.refl _ _⟩
  by_cases q0 : (524288 : Int) < (a0.size : Int)
  · go_wp2
    go_ret
    exact ⟨rfl, Below.refl _ _⟩
  by_cases q1 : (524288 : Int) < (a1.size : Int)
  · go_wp2
    go_ret
    exact ⟨rfl, Below.refl _ _⟩
  by_cases q2 : a2 < 0
  · go_wp2
    go_ret
    exact ⟨rfl, Below.refl _ _⟩
  by_cases q3 : (a1.size : Int) ≤ a2
  · go_wp2
    go_ret
    exact ⟨rfl, Below.refl _ _⟩
  obtain ⟨p, rfl⟩ : ∃ p : Nat, a2 = p := ⟨a2.toNat, by omega⟩
  have hsz : (a0 ++ a1).size = a0.size + a1.size := by simp
  have C1 := hide (zz_any (a0 ++ a1) (a0.size + p) w (by omega) (by omega))
  have C2 := hide (fun w => zz_any a1 p w (by omega) (by omega))
  have hE : ends (a0 ++ a1).data.toList (a0.size + p) = ends a1.data.toList p + a0.size := by
    have h1 : (a0 ++ a1).data.toList = a0.data.toList ++ a1.data.toList := by simp
    have h2 : a0.size = a0.data.toList.length := by simp
    rw [h1, h2]
    exact ends_shift _ _ _ (by simp; omega)
  rw [hE] at C1
  have hle : ends a1.data.toList p ≤ a1.size := by
    have := fin_le (a1.data.toList.getD p 0) a1.data.toList a1.data.toList.length (p + 3) (by omega)
    simpa [ends] using this
  generalize ends a1.data.toList p = R at *
  have HS := hide hsz
  clear hE hsz
  rw [Int.natCast_add, Int.natCast_add] at C1
  go_wp2_with fail
  refine (unhide C1).mono ?_
  rintro e w3 ⟨rfl, b3⟩
  have HB3 := hide b3
  clear b3 C1
  go_wp2_with fail
  refine ((unhide C2) _).mono ?_
  rintro e w4 ⟨rfl, b4⟩
  have HB4 := hide (HB3.out.trans (b4.mono HB3.out.size))
  clear b4 C2 HB3
  go_wp2
  go_ret
  exact ⟨rfl, HB4.out⟩

/-! ### THE ROW's STEP: WRITTEN OUT: LEAVE IT -/
set_option maxRecDepth 100000 in
theorem lifted (os : Os) (started : os.Started) (H : Type) (enc : TypeId × Value → H) :
    ReturnsInHanded {} Try.checked os 4 .any (Rows.fnMultilineStringIgnoresWhatPrecedesSpec.pre6 enc Try.prog Try.f4 Rows.fnMultilineStringIgnoresWhatPrecedesRow.domain false) (Rows.fnMultilineStringIgnoresWhatPrecedesSpec.post enc Try.prog Try.f4 false true false false) := by
  refine returnsInHanded_of_change (C := Try.checked) own started (by kernel_rfl) Try.func4
    (ChangeSpec.witness6 (enc := enc) (C := Try.checked) false ⟨#[], #[.string ByteArray.empty, .string ByteArray.empty, .int .i64 0], []⟩ 8 (by kernel_rfl) (by kernel_rfl) (by kernel_rfl) (by kernel_rfl)) ?_
  intro W base args ds gs before hval0 hW hcnd _
  have hval : ∀ (j : Nat) t v, Try.f4.params[j]? = some t → args[j]? = some v → Value.okWide Try.prog W .any base t v := hval0
  have hW' := hW
  obtain ⟨p, q, hA0, hV, rfl, hfz, hnd⟩ := hW
  have hA : DataW.TrodAll enc Try.prog W 0 (fun _ => true) true Try.f4.params.toList args.toList ds p := hA0
  rw [Try.params4] at hA hval
  obtain ⟨v0, vs0, d0, ds0, p0, q0, hargs, rfl, rfl, h0, r0⟩ := trodAll_cons hA
  obtain ⟨v1, vs1, d1, ds1, p1, q1, rfl, rfl, rfl, h1, r1⟩ := trodAll_cons r0
  obtain ⟨v2, vs2, d2, ds2, p2, q2, rfl, rfl, rfl, h2, r2⟩ := trodAll_cons r1
  obtain ⟨rfl, rfl, rfl⟩ := trodAll_nil r2
  obtain rfl : args = #[v0, v1, v2] := by cases args; simp_all
  obtain ⟨rfl, rfl⟩ := trodVars_none hV
  obtain ⟨a0, rfl, rfl, rfl, w0⟩ := open_string Try.underlying9 (hval 0 9 v0 rfl rfl) h0
  obtain ⟨a1, rfl, rfl, rfl, w1⟩ := open_string Try.underlying9 (hval 1 9 v1 rfl rfl) h1
  obtain ⟨a2, rfl, rfl, rfl, w2⟩ := open_int Try.underlying3 (hval 2 3 v2 rfl rfl) h2
  clear hA0 hval0
  refine (walk a0 a1 a2 w0 w1 w2 W).mono fun e W' ⟨he, bel⟩ => ?_
  subst he
  exact ⟨_, rfl, _, _, _, [], _, [], hW', trodAll_mk1 (shut_bool Try.underlying4 _), (trodAll_cons_mk (shut_string Try.underlying9 w0) (trodAll_cons_mk (shut_string Try.underlying9 w1) (trodAll_cons_mk (shut_int Try.underlying3 w2) trodAll_mk0))), rfl, bel.frame _, fun h => by cases h⟩

theorem over : Rows.fnMultilineStringIgnoresWhatPrecedesRow.holds Try.pinned (OpenSpec.ofChange Rows.fnMultilineStringIgnoresWhatPrecedesSpec) :=
  OpenClaim.holds_of_wide 4 Try.f4 rfl rfl rfl rfl rfl rfl rfl ⟨rfl, rfl, rfl, rfl, rfl⟩ rfl rfl rfl rfl rfl (by kernel_rfl) Try.func4 (by kernel_rfl)
    (of_decide_eq_true (by kernel_rfl)) (by unfold Func.isWrapper; first | (rw [if_pos (by decide +kernel)]; kernel_rfl) | (rw [if_neg (by decide +kernel)]; exact ⟨rfl, rfl⟩))
    (fun os started H enc _ => lifted os started H enc)

/-- ████ THE STATEMENT ████ -/
theorem proved : Rows.FnMultilineStringIgnoresWhatPrecedesSaid :=
  over
end Go.Proofs.Qxb6601227a.fnMultilineStringIgnoresWhatPrecedes
