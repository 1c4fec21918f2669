import Derived.Test.Qxb6600248aClone
namespace Go.Proofs.Qxb6600248a
open Go.RowKit

theorem zzAddWord_any (B : Nat) (S : St) (nd : Nat) (s : ByteArray) (k : Int) (p : Bool) (w : World) (hM : Mt w B S) (hI : Inv S) (hnd : nd < S.word.length) (hn : S.words.length ≤ 131072) (hN : S.word.length ≤ 65536) :
    Calls Try.prog 40 #[.pointer (some ⟨B + 1, 0, none⟩), .int .i32 nd, .string s, .int .i64 k, .bool p] w fun e w' => e = .returned (.tuple #[]) ∧ Mt w' B (addW S nd s k p) ∧ Below B w w' := by
  have H := hide (addWord_any B S nd s k p w hM hI hnd hn hN)
  clear hM hI hnd hn hN
  go_enter Try.func40, Try.ntmps40
  go_wp2_with fail
  refine (unhide H).mono ?_
  rintro e w' ⟨rfl, h1, h2⟩
  go_wp2
  go_end0
  exact ⟨rfl, h1, h2⟩

theorem wordAt_own (base k : Nat) (v : Value) (l : List ByteArray) (w : World) (h : w.ownsRow base 9 1 v l.length (l.map Value.string)) :
    Calls Try.prog 28 #[v, .int .i64 k] w fun e w' => e = .returned (.string (l.getD k ByteArray.empty)) ∧ w' = w := by
  by_cases hk : k < l.length
  · obtain ⟨g, c, rfl, _⟩ := own_some h (by omega)
    exact wordAt_in g 0 _ c k _ hk w (by rw [Nat.zero_add]; exact own_cell h Value.string ByteArray.empty k hk)
  · obtain ⟨a, c, rfl⟩ := own_slice h
    rw [List.getD_eq_getElem?_getD, List.getElem?_eq_none (by omega)]
    exact wordAt_out a _ c k (by omega) w

theorem punctAt_own (base k : Nat) (v : Value) (l : List Bool) (w : World) (h : w.ownsRow base 4 1 v l.length (l.map Value.bool)) :
    Calls Try.prog 29 #[v, .int .i64 k] w fun e w' => e = .returned (.bool (l.getD k false)) ∧ w' = w := by
  by_cases hk : k < l.length
  · obtain ⟨g, c, rfl, _⟩ := own_some h (by omega)
    exact punctAt_in g 0 _ c k _ hk w (by rw [Nat.zero_add]; exact own_cell h Value.bool false k hk)
  · obtain ⟨a, c, rfl⟩ := own_slice h
    rw [List.getD_eq_getElem?_getD, List.getElem?_eq_none (by omega)]
    exact punctAt_out a _ c k (by omega) w

/-- What lies below is owned as it was. -/
theorem own_below {w w' : World} {B base e n : Nat} {v : Value} {xs : List Value} (h : w.ownsRow base e 1 v n xs) (hb : Below B w w') (hB : w.heap.size ≤ B) : w'.ownsRow base e 1 v n xs := by
  refine ⟨h.1, ?_⟩
  rcases h.2 with h2 | ⟨g, cap, cur, hv, hg, hh, r⟩
  · exact .inl h2
  · exact .inr ⟨g, cap, cur, hv, hg, by rw [hb.block g (by have := lt_of_block hh; omega)]; exact hh, r⟩

def S0 (N : Nat) : St := { words := [], index := [], same := [], punct := [], any := false, word := List.replicate N (-1) }
theorem S0_inv (N : Nat) : Inv (S0 N) := by
  refine ⟨rfl, rfl, rfl, fun i hi => by simp [S0] at hi, fun i hi => .inl ?_⟩
  simp only [S0, List.length_replicate] at hi ⊢
  simp [List.getD_eq_getElem?_getD, hi]

def ndOf (N : Nat) (Ln : List Int) (k : Nat) : Nat := (nodeOf (Ln.getD k 0) N).toNat
def wdOf (Lw : List ByteArray) (k : Nat) : ByteArray := Lw.getD k ByteArray.empty
def ptOf (Lp : List Bool) (k : Nat) : Bool := Lp.getD k false
theorem ndOf_lt (N : Nat) (hN : 1 ≤ N) (Ln : List Int) (k : Nat) : ndOf N Ln k < N := by
  have := nodeOf_bd (Ln.getD k 0) N hN
  unfold ndOf; omega

/-- The script, from S, as far as step c. -/
def scr (N : Nat) (Ln : List Int) (Lw : List ByteArray) (Lp : List Bool) (S : St) (c : Nat) : St := runTo (ndOf N Ln) (wdOf Lw) (ptOf Lp) S c
/-- The script r times whole. -/
def reps (N : Nat) (Ln : List Int) (Lw : List ByteArray) (Lp : List Bool) : Nat → St
  | 0 => S0 N
  | r + 1 => scr N Ln Lw Lp (reps N Ln Lw Lp r) Ln.length

section
variable {N : Nat} {Ln : List Int} {Lw : List ByteArray} {Lp : List Bool}
theorem scr_inv {S : St} (h : Inv S) (c : Nat) : Inv (scr N Ln Lw Lp S c) := runTo_inv h c
theorem scr_word (S : St) (c : Nat) : (scr N Ln Lw Lp S c).word.length = S.word.length := runTo_word S c
theorem scr_words (S : St) (c : Nat) : (scr N Ln Lw Lp S c).words.length ≤ S.words.length + c := runTo_words S c
theorem scr_zero (S : St) : scr N Ln Lw Lp S 0 = S := rfl
theorem scr_succ (S : St) (c : Nat) : scr N Ln Lw Lp S (c + 1) = addW (scr N Ln Lw Lp S c) (ndOf N Ln c) (Lw.getD c ByteArray.empty) c (Lp.getD c false) := rfl
theorem reps_inv (r : Nat) : Inv (reps N Ln Lw Lp r) := by
  induction r with
  | zero => exact S0_inv N
  | succ r ih => exact scr_inv ih _
theorem reps_word (r : Nat) : (reps N Ln Lw Lp r).word.length = N := by
  induction r with
  | zero => simp [reps, S0]
  | succ r ih => exact (scr_word _ _).trans ih
theorem reps_words (r : Nat) : (reps N Ln Lw Lp r).words.length ≤ r * Ln.length := by
  induction r with
  | zero => simp [reps, S0]
  | succ r ih =>
    have := scr_words (N := N) (Ln := Ln) (Lw := Lw) (Lp := Lp) (reps N Ln Lw Lp r) Ln.length
    rw [Nat.succ_mul]
    show (scr N Ln Lw Lp (reps N Ln Lw Lp r) Ln.length).words.length ≤ _
    omega
/-- ████ THE PLAIN LAW, at the script ████ -/
theorem twice_once (hN : 1 ≤ N) : reps N Ln Lw Lp 2 = reps N Ln Lw Lp 1 :=
  replay (S0_inv N) (fun k => by rw [show (S0 N).word.length = N from by simp [S0]]; exact ndOf_lt N hN Ln k) Ln.length
end

theorem new_mt (B N : Nat) (w : World) (hsz : w.heap.size = B + 1) (ho : w.ownsRow B 21 1 (.slice (some ⟨B, 0, none⟩) N N) N ((S0 N).word.map (Value.int .i32))) :
    Calls Try.prog 39 #[.slice (some ⟨B, 0, none⟩) N N] w fun e w' => e = .returned (.pointer (some ⟨B + 1, 0, none⟩)) ∧ Mt w' B (S0 N) ∧ Below (B + 1) w w' := by
  refine (newForWords_any (some ⟨B, 0, none⟩) N N w).mono ?_
  rintro e w' ⟨rfl, rfl⟩
  have eN : (S0 N).word.length = N := by simp [S0]
  refine ⟨by rw [hsz], ⟨.slice none 0 0, .slice none 0 0, .slice none 0 0, .slice none 0 0, ?_, World.ownsRow_nil _ _ _ _, World.ownsRow_nil _ _ _ _, World.ownsRow_nil _ _ _ _, World.ownsRow_nil _ _ _ _, ?_⟩, (Below.refl _ _).alloc (by omega) _⟩
  · rw [← hsz, heap_alloc_new, eN]; rfl
  · rw [eN]; exact ho.alloc _

theorem nodeOf_nat (x : Int) (n : Nat) (h1 : 1 ≤ n) (h2 : n ≤ 65536) (w : World) :
    Calls Try.prog 27 #[.int .i32 x, .int .i64 n] w fun e w' => e = .returned (.int .i32 ((nodeOf x n).toNat : Nat)) ∧ w' = w := by
  refine (nodeOf_any x n h1 h2 w).mono ?_
  rintro e w' ⟨rfl, rfl⟩
  have := nodeOf_bd x n h1
  exact ⟨ret_int (by omega), rfl⟩

set_option maxHeartbeats 400000 in
theorem run_any (N : Nat) (Ln : List Int) (Lw : List ByteArray) (Lp : List Bool) (vn vw vp : Value) (t : Nat) (ht : t ≤ 2) (hN1 : 1 ≤ N) (hN2 : N ≤ 65536) (hl : Ln.length ≤ 65536) (bn bw bp : Nat) (w : World)
    (on : w.ownsRow bn 21 1 vn Ln.length (Ln.map (Value.int .i32))) (ow : w.ownsRow bw 9 1 vw Lw.length (Lw.map Value.string)) (op : w.ownsRow bp 4 1 vp Lp.length (Lp.map Value.bool)) :
    Calls Try.prog 25 #[.int .i64 N, vn, vw, vp, .int .i64 t] w fun e w' => e = .returned (.pointer (some ⟨w.heap.size + 1, 0, none⟩)) ∧ Mt w' w.heap.size (reps N Ln Lw Lp t) ∧ Below w.heap.size w w' := by
  obtain ⟨an, cn, rfl⟩ := own_slice on
  obtain ⟨aw, cw, rfl⟩ := own_slice ow
  obtain ⟨ap, cp, rfl⟩ := own_slice op
  have hmk := run_make_row' (P := Try.prog) 24 21 (.int .i32 0) 4 Try.underlying24 Try.info21 rfl .i64 .i64 N (by omega) (by omega)
  go_enter Try.func25, Try.ntmps25
  go_wp2
  go_loopw [12] (fun i wr => ∃ k : Nat, k ≤ N ∧ i = .int .i64 k ∧ wr.heap.size = w.heap.size + 1 ∧ ∃ ys : List Value, ys.length = N ∧ (∀ j, j < k → ys[j]? = (List.replicate N (Value.int .i32 (-1)))[j]?) ∧ wr.ownsRow w.heap.size 21 1 (.slice (some ⟨w.heap.size, 0, none⟩) N N) N ys ∧ Below w.heap.size w wr) (fun i _ => N - (intOf i).toNat)
  case atStart => exact ⟨0, by omega, rfl, by simp, List.replicate N (.int .i32 0), by simp, fun j hj => by omega, own_alloc_made w 21 (.int .i32 0) N (by unfold maxLen; omega), (Below.refl _ _).alloc (Nat.le_refl _) _⟩
  case round =>
    obtain ⟨k, hk, rfl, hsz, ys, hyl, hy, ho, hb⟩ := hrel
    by_cases hlt : k < N
    · obtain ⟨y, hoc⟩ : ∃ y, wr.cell? ⟨w.heap.size, k, none⟩ = some y := ⟨_, (ho.cellAt k (by omega)).trans (List.getElem?_eq_getElem (by omega))⟩
      have hof := ho.frozenAt k
      have hS := (ho.stored k (.int .i32 (-1))).1
      have hB := hb.setCell (p := ⟨w.heap.size, k, none⟩) (Nat.le_refl _) (.int .i32 (-1))
      have hY := hide (copy_step (u := .int .i32 (-1)) hy (by simp [hlt]) (by omega))
      have hSZ := hide hsz
      clear hb ho hy hmk hsz
      go_wp2
      go_roundw
      case rel => exact ⟨k + 1, by omega, by go_num, by have := hSZ.out; simpa using this, _, by simpa using hyl, hY.out, hS, hB⟩
      case measure => simp [intOf]; omega
    · have e : ys = (S0 N).word.map (Value.int .i32) := by
        rw [copy_done (n := N) (fun j hj => hy j (by omega)) hyl (by simp)]
        simp [S0]
      rw [e] at ho
      have hSZ := hide hsz
      clear e hy hyl hsz
      go_wp2_with fail
      refine (new_mt w.heap.size N wr hSZ.out ho).mono ?_
      rintro e wm ⟨rfl, hM0, hb0⟩
      have hb1 : Below w.heap.size w wm := hb.trans (hb0.mono (by omega))
      clear ho hb hb0 hSZ hmk
      go_wp2
      go_loopw [14] (fun rep wr => ∃ r : Nat, r ≤ t ∧ rep = .int .i64 r ∧ Mt wr w.heap.size (reps N Ln Lw Lp r) ∧ Below w.heap.size w wr) (fun rep _ => t - (intOf rep).toNat)
      case atStart => exact ⟨0, by omega, rfl, hM0, hb1⟩
      case round =>
        obtain ⟨r, hr, rfl, hMr, hbr⟩ := hrel
        by_cases hrt : r < t
        · clear hM0 hb1
          go_wp2
          go_loopw [15] (fun k wr => ∃ c : Nat, c ≤ Ln.length ∧ k = .int .i64 c ∧ Mt wr w.heap.size (scr N Ln Lw Lp (reps N Ln Lw Lp r) c) ∧ Below w.heap.size w wr) (fun k _ => Ln.length - (intOf k).toNat)
          case atStart => exact ⟨0, by omega, rfl, hMr, hbr⟩
          case round =>
            obtain ⟨c, hc, rfl, hMc, hbc⟩ := hrel
            by_cases hlt : c < Ln.length
            · obtain ⟨g, cc, e1, _⟩ := own_some on (by omega)
              simp only [Value.slice.injEq] at e1
              obtain ⟨rfl, _, rfl⟩ := e1
              have hgl : g < w.heap.size := (on.lt g rfl).2
              have d := own_cell on (Value.int .i32) 0 c hlt
              obtain ⟨x, hx⟩ : ∃ x, Ln.getD c 0 = x := ⟨_, rfl⟩
              rw [hx] at d
              have HX := hide hx
              clear hx
              have d' : wr.cell? ⟨g, c, none⟩ = some (.int .i32 x) := (hbc.cell (p := ⟨g, c, none⟩) hgl).trans d
              have C27 := nodeOf_nat x N hN1 hN2 wr
              have C28 := wordAt_own bw c _ Lw wr (own_below ow hbc (Nat.le_refl _))
              have C29 := punctAt_own bp c _ Lp wr (own_below op hbc (Nat.le_refl _))
              have hndl := ndOf_lt N hN1 Ln c
              obtain ⟨nd, hnd⟩ : ∃ nd, (nodeOf x N).toNat = nd := ⟨_, rfl⟩
              have hnd2 : ndOf N Ln c = nd := by unfold ndOf; rw [HX.out]; exact hnd
              rw [hnd] at C27
              rw [hnd2] at hndl
              obtain ⟨sw, hsw⟩ : ∃ sw, Lw.getD c ByteArray.empty = sw := ⟨_, rfl⟩
              obtain ⟨pw, hpw⟩ : ∃ pw, Lp.getD c false = pw := ⟨_, rfl⟩
              rw [hsw] at C28
              rw [hpw] at C29
              have hw0 := reps_word (N := N) (Ln := Ln) (Lw := Lw) (Lp := Lp) r
              have hw1 := reps_words (N := N) (Ln := Ln) (Lw := Lw) (Lp := Lp) r
              have hw2 := scr_word (N := N) (Ln := Ln) (Lw := Lw) (Lp := Lp) (reps N Ln Lw Lp r) c
              have hw3 := scr_words (N := N) (Ln := Ln) (Lw := Lw) (Lp := Lp) (reps N Ln Lw Lp r) c
              have hw4 : r * Ln.length ≤ 1 * Ln.length := Nat.mul_le_mul_right _ (by omega)
              have C40 := zzAddWord_any w.heap.size _ nd sw c pw wr hMc (scr_inv (reps_inv r) c) (by omega) (by omega) (by omega)
              have eS : addW (scr N Ln Lw Lp (reps N Ln Lw Lp r) c) nd sw c pw = scr N Ln Lw Lp (reps N Ln Lw Lp r) (c + 1) := by rw [scr_succ, hnd2, hsw, hpw]
              rw [eS] at C40
              have H27 := hide C27
              have H28 := hide C28
              have H29 := hide C29
              have H40 := hide C40
              have HB := hide hbc
              clear C27 C28 C29 C40 eS hw0 hw1 hw2 hw3 hw4 hnd hnd2 hsw hpw HX d hMc hbc hndl hMr hbr
              go_wp2_with fail
              refine (unhide H27).mono ?_
              rintro e w' ⟨rfl, hw⟩
              rw [hw]; clear hw w'
              go_wp2_with fail
              refine (unhide H28).mono ?_
              rintro e w' ⟨rfl, hw⟩
              rw [hw]; clear hw w'
              go_wp2_with fail
              refine (unhide H29).mono ?_
              rintro e w' ⟨rfl, hw⟩
              rw [hw]; clear hw w'
              go_wp2_with fail
              refine (unhide H40).mono ?_
              rintro e w' ⟨rfl, hM', hb'⟩
              have HM' := hide hM'
              have HB' := hide (HB.out.trans hb')
              clear hM' hb' d'
              go_wp2
              go_roundw
              case rel => exact ⟨c + 1, by omega, by go_num, HM'.out, HB'.out⟩
              case measure => simp [intOf]; omega
            · obtain rfl : c = Ln.length := by omega
              go_wp2
              go_roundw
              case rel => exact ⟨r + 1, by omega, by go_num, hMc, hbc⟩
              case measure => simp [intOf]; omega
        · obtain rfl : r = t := by omega
          go_wp2
          go_ret
          exact ⟨rfl, hMr, hbr⟩
end Go.Proofs.Qxb6600248a
