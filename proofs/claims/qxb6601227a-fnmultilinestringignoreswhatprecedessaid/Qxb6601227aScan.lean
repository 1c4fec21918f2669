import Derived.Test.Qxb6601227aPlain
import Derived.Test.Qxb6601227aProg
import Derived.WalkKit
import Derived.WalkSpells
import Derived.Deep.QuietTactic
import Derived.BigQuiet
import Derived.WalkLawsBesides
import Derived.Deep.LoopGhost
import Derived.RegionTactic
namespace Go.Proofs.Qxb6601227a
open Go.RowKit

theorem hide {p : Prop} (h : p) : Hid p := h
theorem unhide {p : Prop} (h : Hid p) : p := h

/-- The scanner's six cells. -/
def sc (s : ByteArray) (p : Int) : Array Value := #[.string s, .int .i64 p, .slice none 0 0, .map none, .map none, .map none]

/-- The scanner lies in block b, over s, at p. -/
def At (w : World) (b : Nat) (s : ByteArray) (p : Int) : Prop := w.heap[b]? = some (.cells (sc s p) 34 (0, 0))

theorem At.cells {w : World} {b : Nat} {s : ByteArray} {p : Int} (h : At w b s p) : w.cell? ⟨b, 0, none⟩ = some (.string s) ∧ w.cell? ⟨b, 1, none⟩ = some (.int .i64 p) ∧ w.frozen? ⟨b, 1, none⟩ = false := by
  unfold At at h
  refine ⟨?_, ?_, ?_⟩ <;> simp [World.cell?, World.frozen?, h, sc]
theorem At.put {w : World} {b : Nat} {s : ByteArray} {p : Int} (h : At w b s p) (p' : Int) : At (w.setCell ⟨b, 1, none⟩ (.int .i64 p')) b s p' :=
  heap_setCell_same w b 1 _ 34 _ h
theorem heap_drewN (w : World) (q : Nat) : (w.drewN q).heap = w.heap := by
  induction q with
  | zero => rfl
  | succ q ih => exact ih
theorem At.drewN {w : World} {b : Nat} {s : ByteArray} {p : Int} (h : At w b s p) (q : Nat) : At (w.drewN q) b s p := by
  unfold At; rw [heap_drewN]; exact h
theorem below_drewN' {B : Nat} {w0 w : World} (h : Below B w0 w) (q : Nat) : Below B w0 (w.drewN q) := by
  induction q with
  | zero => exact h
  | succ q ih => exact ih.drew

theorem done_any (b : Nat) (s : ByteArray) (p : Int) (w : World) (h : At w b s p) :
    Calls Try.prog 15 #[.pointer (some ⟨b, 0, none⟩)] w fun e w' => e = .returned (.bool (decide ((s.size : Int) ≤ p))) ∧ ∃ q, w' = w.drewN q := by
  obtain ⟨c0, c1, _⟩ := h.cells
  clear h
  go_enter Try.func15, Try.ntmps15
  go_wp2
  go_quiet (fail)
  go_wp2
  go_ret
  exact ⟨rfl, _, rfl⟩

theorem done_no (b : Nat) (s : ByteArray) (p : Nat) (w : World) (h : At w b s p) (hp : p < s.size) :
    Calls Try.prog 15 #[.pointer (some ⟨b, 0, none⟩)] w fun e w' => e = .returned (.bool false) ∧ ∃ q, w' = w.drewN q := by
  refine (done_any b s p w h).mono ?_
  rintro e w' ⟨rfl, h2⟩
  exact ⟨by rw [decide_eq_false (by omega)], h2⟩
theorem done_yes (b : Nat) (s : ByteArray) (p : Nat) (w : World) (h : At w b s p) (hp : s.size ≤ p) :
    Calls Try.prog 15 #[.pointer (some ⟨b, 0, none⟩)] w fun e w' => e = .returned (.bool true) ∧ ∃ q, w' = w.drewN q := by
  refine (done_any b s p w h).mono ?_
  rintro e w' ⟨rfl, h2⟩
  exact ⟨by rw [decide_eq_true (by omega)], h2⟩

theorem drop_at (s : ByteArray) (k : Nat) (h : k < s.size) : s.data.toList.drop k = s[k] :: s.data.toList.drop (k + 1) := by
  rw [List.drop_eq_getElem_cons (by simpa using h)]
  rfl
theorem u8_eq {c d : UInt8} (h : c = d) : ((c.toNat : Int) == (d.toNat : Int)) = true := by rw [h]; simp
theorem u8_ne {c d : UInt8} (h : c ≠ d) : ((c.toNat : Int) == (d.toNat : Int)) = false := by
  rw [beq_eq_false_iff_ne]
  intro e
  exact h (UInt8.toNat_inj.1 (by omega))

def RunIs (q : UInt8) (l : List UInt8) (p m K : Nat) : Prop := (m - p) + rl q (l.drop m) = K
theorem run_step {q c : UInt8} {l t : List UInt8} {p m K : Nat} (hd : l.drop m = c :: t) (ht : t = l.drop (m + 1)) (hc : c = q) (hm : p ≤ m) (h : RunIs q l p m K) : RunIs q l p (m + 1) K := by
  unfold RunIs at h ⊢
  rw [hd] at h
  simp only [rl, if_pos hc] at h
  rw [← ht]
  omega
theorem run_stop {q c : UInt8} {l t : List UInt8} {p m K : Nat} (hd : l.drop m = c :: t) (hc : c ≠ q) (h : RunIs q l p m K) : m - p = K := by
  unfold RunIs at h
  rw [hd] at h
  simp only [rl, if_neg hc] at h
  omega
theorem run_end {q : UInt8} {l : List UInt8} {p m K : Nat} (hd : l.length ≤ m) (h : RunIs q l p m K) : m - p = K := by
  unfold RunIs at h
  rw [List.drop_eq_nil_of_le hd] at h
  simp only [rl] at h
  omega

def FinIs (q : UInt8) (l : List UInt8) (f p R : Nat) : Prop := fin q l f p = R

set_option maxHeartbeats 1000000 in
set_option maxRecDepth 100000 in
theorem scan_any (B b : Nat) (s : ByteArray) (p0 : Nat) (w : World) (hB : B ≤ b) (hA : At w b s p0) (hs : s.size ≤ 1048576) (hp : p0 < s.size) :
    Calls Try.prog 13 #[.pointer (some ⟨b, 0, none⟩)] w fun e w' => e = .returned (.tuple #[]) ∧ At w' b s (ends s.data.toList p0) ∧ Below B w w' := by
  have R0 : FinIs s[p0] s.data.toList s.size (p0 + 3) (ends s.data.toList p0) := by
    unfold FinIs ends
    have e : s.data.toList.getD p0 0 = s[p0] := by
      rw [List.getD_eq_getElem?_getD, List.getElem?_eq_getElem (by simpa using hp)]; rfl
    rw [e]; simp
  generalize ends s.data.toList p0 = R at *
  obtain ⟨q, hq⟩ : ∃ q, s[p0] = q := ⟨_, rfl⟩
  rw [hq] at R0
  have HA := hide hA
  obtain ⟨c0, c1, f1⟩ := hA.cells
  clear hA
  have hp' : (p0 : Int) < (s.size : Int) := by omega
  go_enter Try.func13, Try.ntmps13
  go_wp2
  go_quiet (fail)
  go_wp2
  have HA3 : At ((w.drewN nq).setCell ⟨b, 1, none⟩ (.int .i64 ((p0 : Int) + 3))) b s ((p0 + 3 : Nat) : Int) := (HA.out.drewN nq).put _
  have HB3 : Below B w ((w.drewN nq).setCell ⟨b, 1, none⟩ (.int .i64 ((p0 : Int) + 3))) := (below_drewN' (Below.refl B w) nq).setCell hB _
  clear c0 c1 f1 HA hq hp'
  go_loopg [4] (s.size + 4 - (p0 + 3)) (fun k _ wr => ∃ p f : Nat, k = s.size + 4 - p ∧ p ≤ s.size + 2 ∧ At wr b s p ∧ Below B w wr ∧ s.size ≤ p + f ∧ FinIs q s.data.toList f p R)
  case atStart => exact ⟨p0 + 3, s.size, rfl, by omega, HA3, HB3, by omega, R0⟩
  case round =>
    obtain ⟨p, f, rfl, hp2, hA, hb, hf, hF⟩ := hrel
    clear HA3 HB3 R0
    by_cases hlt : p < s.size
    · have C := hide (done_no b s p wr hA hlt)
      obtain ⟨f, rfl⟩ : ∃ f', f = f' + 1 := ⟨f - 1, by omega⟩
      have hD := drop_at s p hlt
      obtain ⟨c, hc⟩ : ∃ c, s[p] = c := ⟨_, rfl⟩
      rw [hc] at hD
      have HD := hide hD
      have HF := hide hF
      have HA := hide hA
      have HB := hide hb
      clear hD hF hA hb
      go_wp2_with fail
      refine (unhide C).mono ?_
      rintro e w1 ⟨rfl, t, hw1⟩
      have HA1 := hide (show At w1 b s p from by rw [hw1]; exact HA.out.drewN t)
      have HB1 := hide (show Below B w w1 from by rw [hw1]; exact below_drewN' HB.out t)
      clear hw1 C HA HB
      obtain ⟨c0, c1, f1⟩ := HA1.out.cells
      have hp' : (p : Int) < (s.size : Int) := by omega
      have HC := hide hc
      go_wp2
      go_quiet (fail)
      by_cases hAq : c = 92 ∧ q = 34
      · obtain ⟨rfl, rfl⟩ := hAq
        go_wp2
        go_roundg (s.size + 4 - (p + 2))
        case measure => omega
        case rel => exact ⟨p + 2, f, rfl, by omega, (HA1.out.drewN _).put _, (below_drewN' HB1.out _).setCell hB _, by omega, fin_esc HD.out rfl HF.out⟩
      · have HAq := hide hAq
        have g : (((c.toNat : Int) == 92) = false) ∨ (((c.toNat : Int) == 92) = true ∧ ((q.toNat : Int) == 34) = false) := by
          by_cases h92 : c = 92
          · exact .inr ⟨u8_eq h92, u8_ne (d := 34) (fun h => hAq ⟨h92, h⟩)⟩
          · exact .inl (u8_ne (d := 92) h92)
        clear hAq
        by_cases hcq : c = q
        · have gq := u8_eq hcq
          have HCQ := hide hcq
          clear hcq
          rcases g with g1 | ⟨g1, g2⟩
          all_goals
            go_wp2
            obtain ⟨K, hK⟩ : ∃ K, rl q (s.data.toList.drop p) = K := ⟨_, rfl⟩
            have HFr : Hid (¬ 3 ≤ K → ∀ m, m - p = K → FinIs q s.data.toList f m R) := hide (fun h m hm => by
              have h1 := fin_run HD.out HAq.out HCQ.out (by rw [hK]; exact h) HF.out
              rw [hK] at h1
              have h2 := rl_pos HD.out HCQ.out
              rw [hK] at h2
              rw [show m = p + K from by omega]
              exact h1)
            have HFc : Hid (3 ≤ K → R = p + min K 5) := hide (fun h => by
              have h1 := fin_close HD.out HAq.out HCQ.out (by rw [hK]; exact h) HF.out
              rw [hK] at h1
              exact h1)
            have hK1 : 1 ≤ K := by rw [← hK]; exact rl_pos HD.out HCQ.out
            have K0 : RunIs q s.data.toList p p K := by unfold RunIs; omega
            clear hK
            go_loop [4] (fun r => ∃ m : Nat, r = .int .i64 m ∧ p ≤ m ∧ m ≤ s.size ∧ RunIs q s.data.toList p m K) (fun r => s.size - (intOf r).toNat)
            case atStart => exact ⟨p, rfl, by omega, by omega, K0⟩
            case round =>
              obtain ⟨m, rfl, hm1, hm2, hRun⟩ := hrel
              clear K0 gq g1
              by_cases hmn : m < s.size
              · have hDm := drop_at s m hmn
                obtain ⟨d, hd⟩ : ∃ d, s[m] = d := ⟨_, rfl⟩
                rw [hd] at hDm
                have hmn' : (m : Int) < (s.size : Int) := by omega
                by_cases hdq : d = q
                · have HRun := hide (run_step hDm rfl hdq hm1 hRun)
                  have gd := u8_eq hdq
                  clear hDm hRun hdq hc
                  go_wp2
                  go_round
                  case rel => exact ⟨m + 1, by go_num, by omega, by omega, HRun.out⟩
                  case measure => simp [intOf]; omega
                · have hmK := run_stop hDm hdq hRun
                  have gd := u8_ne hdq
                  clear hDm hRun hdq hc
                  by_cases h3 : 3 ≤ K
                  · have t3 : (3 : Int) ≤ (m : Int) - (p : Int) := by omega
                    by_cases h5 : 5 < K
                    · have t5 : (5 : Int) < (m : Int) - (p : Int) := by omega
                      have hE : ((R : Nat) : Int) = (p : Int) + 5 := by have := HFc.out h3; omega
                      have HE := hide hE
                      clear hE
                      go_wp2
                      go_region
                      go_wp2
                      refine bodyPost_ret (results_none (by rfl) _ _ _) rfl ?_
                      rw [HE.out]
                      exact ⟨rfl, (HA1.out.drewN _).put _, (below_drewN' HB1.out _).setCell hB _⟩
                    · have t5 : ¬ (5 : Int) < (m : Int) - (p : Int) := by omega
                      have hE : ((R : Nat) : Int) = (p : Int) + ((m : Int) - (p : Int)) := by have := HFc.out h3; omega
                      have HE := hide hE
                      clear hE
                      go_wp2
                      go_region
                      go_wp2
                      refine bodyPost_ret (results_none (by rfl) _ _ _) rfl ?_
                      rw [HE.out]
                      exact ⟨rfl, (HA1.out.drewN _).put _, (below_drewN' HB1.out _).setCell hB _⟩
                  · have t3 : ¬ (3 : Int) ≤ (m : Int) - (p : Int) := by omega
                    go_wp2
                    go_roundg (s.size + 4 - m)
                    case measure => omega
                    case rel => exact ⟨m, f, rfl, by omega, (HA1.out.drewN _).put _, (below_drewN' HB1.out _).setCell hB _, by omega, HFr.out h3 m hmK⟩
              · have hmK := run_end (by simp; omega) hRun
                have hmn' : ¬ (m : Int) < (s.size : Int) := by omega
                clear hRun hc
                by_cases h3 : 3 ≤ K
                · have t3 : (3 : Int) ≤ (m : Int) - (p : Int) := by omega
                  by_cases h5 : 5 < K
                  · have t5 : (5 : Int) < (m : Int) - (p : Int) := by omega
                    have hE : ((R : Nat) : Int) = (p : Int) + 5 := by have := HFc.out h3; omega
                    have HE := hide hE
                    clear hE
                    go_wp2
                    go_region
                    go_wp2
                    refine bodyPost_ret (results_none (by rfl) _ _ _) rfl ?_
                    rw [HE.out]
                    exact ⟨rfl, (HA1.out.drewN _).put _, (below_drewN' HB1.out _).setCell hB _⟩
                  · have t5 : ¬ (5 : Int) < (m : Int) - (p : Int) := by omega
                    have hE : ((R : Nat) : Int) = (p : Int) + ((m : Int) - (p : Int)) := by have := HFc.out h3; omega
                    have HE := hide hE
                    clear hE
                    go_wp2
                    go_region
                    go_wp2
                    refine bodyPost_ret (results_none (by rfl) _ _ _) rfl ?_
                    rw [HE.out]
                    exact ⟨rfl, (HA1.out.drewN _).put _, (below_drewN' HB1.out _).setCell hB _⟩
                · have t3 : ¬ (3 : Int) ≤ (m : Int) - (p : Int) := by omega
                  go_wp2
                  go_roundg (s.size + 4 - m)
                  case measure => omega
                  case rel => exact ⟨m, f, rfl, by omega, (HA1.out.drewN _).put _, (below_drewN' HB1.out _).setCell hB _, by omega, HFr.out h3 m hmK⟩
        · have gq := u8_ne hcq
          rcases g with g1 | ⟨g1, g2⟩
          all_goals
            go_wp2
            go_roundg (s.size + 4 - (p + 1))
            case measure => omega
            case rel => exact ⟨p + 1, f, rfl, by omega, (HA1.out.drewN _).put _, (below_drewN' HB1.out _).setCell hB _, by omega, fin_step HD.out HAq.out hcq HF.out⟩
    · have C := hide (done_yes b s p wr hA (by omega))
      have hR : R = s.size := by
        unfold FinIs at hF
        rw [← hF, fin_of (by simp; omega)]; simp
      have HR := hide hR
      have HA := hide hA
      clear hF hR hA
      go_wp2_with fail
      refine (unhide C).mono ?_
      rintro e w1 ⟨rfl, t, hw1⟩
      have HA1 : At w1 b s p := by rw [hw1]; exact HA.out.drewN t
      have HB1 := hide (show Below B w w1 from by rw [hw1]; exact below_drewN' hb t)
      clear hw1 hb C HA
      obtain ⟨c0, c1, f1⟩ := HA1.cells
      have HA1 := hide HA1
      go_wp2
      go_end0
      rw [HR.out]
      exact ⟨rfl, HA1.out.put _, HB1.out.setCell hB _⟩
end Go.Proofs.Qxb6601227a
