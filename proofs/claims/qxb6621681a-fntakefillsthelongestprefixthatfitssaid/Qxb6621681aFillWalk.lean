import Derived.Test.Qxb6621681aFill
import Derived.Deep.DeepCutAuto
namespace Go.Proofs.Qxb6621681a
open Go.RowKit
set_option linter.unusedVariables false
set_option linter.unusedSimpArgs false

theorem below_next' {w a b : World} (h : Below w.heap.size w a) (k : Below a.heap.size a b) : Below w.heap.size w b := h.trans (k.mono h.size)

set_option maxRecDepth 100000 in
set_option maxHeartbeats 400000 in
theorem walk7_few (c0 b0 : Int) (a : Option Addr) (n cap : Nat) (A : Nat → Option Addr) (L C : Nat → Nat) (w : World) (hr : IsRows w a n A L C) (hf : fewB n L = false) :
    Calls Try.prog 7 #[.int .i64 c0, .int .i64 b0, .slice a n cap] w fun e w' => e = .returned (.bool true) ∧ Below w.heap.size w w' := by
  have HR : Hid (IsRows w a n A L C) := hr
  have HF : Hid (fewB n L = false) := hf
  clear hr hf
  go_enter Try.func7, Try.ntmps7
  go_wp2_with (go_at_call 19; refine (zzBytes19_no _ _ _ _ _ A L C _ HR.out HF.out).mono ?_; rintro e w' ⟨rfl, rfl⟩)
  go_ret
  exact ⟨rfl, Below.refl _ _⟩

set_option maxRecDepth 100000 in
set_option maxHeartbeats 1000000 in
theorem walk7_many (c0 b0 : Int) (b off : Nat) (n cap : Nat) (A : Nat → Option Addr) (L C : Nat → Nat) (w : World) (hn0 : 0 < n) (hr : ∀ i, i < n → w.cell? ⟨b, off + i, none⟩ = some (.slice (A i) (L i) (C i)) ∧ L i ≤ maxLen) (hf : n + sumL L n ≤ 1048576) :
    Calls Try.prog 7 #[.int .i64 c0, .int .i64 b0, .slice (some ⟨b, off, none⟩) n cap] w fun e w' => e = .returned (.bool true) ∧ Below w.heap.size w w' := by
  have HF : Hid (fewB n L = true) := by show _ = _; simp [fewB]; omega
  have HR : Hid (IsRows w (some ⟨b, off, none⟩) n A L C) := ⟨by unfold maxLen; omega, .inr ⟨b, off, rfl, hr⟩⟩
  have hb : b < w.heap.size := by simpa using World.block_lt_of_cell? w _ (hr 0 hn0).1
  have HC : Hid (∀ i, i < n → w.cell? ⟨b, off + i, none⟩ = some (.slice (A i) (L i) (C i))) := fun i hi => (hr i hi).1
  clear hr
  go_enter Try.func7, Try.ntmps7
  go_wp2_with (go_at_call 19; refine (zzBytes19_yes _ _ _ _ _ A L C _ HR.out HF.out).mono ?_; rintro e w' ⟨rfl, rfl⟩)
  go_loop [7, 8] (fun z i => ∃ k : Nat, k ≤ n ∧ z = .int .i64 ((24 * k + sumL L k : Nat) : Int) ∧ i = .int .i64 k) (fun _ i => n - (intOf i).toNat)
  case atStart => exact ⟨0, Nat.zero_le _, rfl, rfl⟩
  case round =>
    obtain ⟨k, hk, rfl, rfl⟩ := hrel
    by_cases hlt : k < n
    · have hcell := HC.out k hlt
      have hLk := le_sumL L hlt
      have HS : Hid (sumL L (k + 1) = sumL L k + L k) := rfl
      have hsk := sumL_mono L hk
      by_cases h3 : 24 * k + sumL L k + (24 + L k) ≤ 1048576
      · have h3' : ((24 * k + sumL L k : Nat) : Int) + (24 + L k) ≤ 1048576 := by omega
        go_wp2
        go_round
        case rel => exact ⟨k + 1, by omega, by rw [HS.out]; go_num, by go_num⟩
        case measure => simp [intOf]; omega
      · have h3' : (1048576 : Int) < ((24 * k + sumL L k : Nat) : Int) + (24 + L k) := by omega
        go_wp2
        go_ret
        exact ⟨rfl, Below.refl _ _⟩
    · by_cases c1 : c0 < 0
      · go_wp2
        go_ret
        exact ⟨rfl, Below.refl _ _⟩
      · by_cases c2 : 1024 < c0
        · go_wp2
          go_ret
          exact ⟨rfl, Below.refl _ _⟩
        · by_cases b1 : b0 < 0
          · go_wp2
            go_ret
            exact ⟨rfl, Below.refl _ _⟩
          · by_cases b2 : 1073741824 < b0
            · go_wp2
              go_ret
              exact ⟨rfl, Below.refl _ _⟩
            · go_wp2
              go_loopw [9, 10, 11] (fun c d i wr => ∃ r : Nat, r ≤ n ∧ c0 + r ≤ 1024 ∧ c = .int .i64 (c0 + r) ∧ d = .int .i64 (b0 + sumL L r) ∧ i = .int .i64 r ∧ Hid (Fits c0 b0 L r) ∧ Hid (Below w.heap.size w wr)) (fun _ _ i _ => n - (intOf i).toNat)
              case atStart => exact ⟨0, Nat.zero_le _, by omega, by simp, by simp [sumL], rfl, Or.inl rfl, Below.refl _ _⟩
              case round =>
                obtain ⟨r, hr, hc, rfl, rfl, rfl, HFi, HB⟩ := hrel
                have hsr := sumL_mono L hr
                by_cases hlt' : r < n
                · have hcell := cell_later HB.out (HC.out r hlt')
                  have hLr := le_sumL L hlt'
                  have HS : Hid (sumL L (r + 1) = sumL L r + L r) := rfl
                  cases ht : tookB (c0 + r) (b0 + sumL L r) (L r)
                  · have HT : Hid (tookB (c0 + r) (b0 + sumL L r) (L r) = false) := ht
                    clear ht
                    go_wp2_with (go_at_call 20; refine (zzTake_no _ _ _ _ _ _ (by omega) (by omega) (by omega) (by omega) (by omega) HT.out).mono ?_; rintro e w1 ⟨rfl, hb1⟩)
                    have HB1 : Hid (Below w.heap.size w w1) := below_next' HB.out hb1
                    clear hb1 hcell
                    go_loop [15, 16] (fun z i => ∃ j : Nat, j ≤ r ∧ z = .int .i64 ((sumL L j : Nat) : Int) ∧ i = .int .i64 j) (fun _ i => r - (intOf i).toNat)
                    case atStart => exact ⟨0, Nat.zero_le _, rfl, rfl⟩
                    case round =>
                      obtain ⟨j, hj, rfl, rfl⟩ := hrel
                      by_cases hj' : j < r
                      · have hcj := cell_later HB1.out (HC.out j (by omega))
                        have hLj := le_sumL L (show j < n by omega)
                        have HSj : Hid (sumL L (j + 1) = sumL L j + L j) := rfl
                        have hsj := sumL_mono L (show j ≤ n by omega)
                        go_wp2
                        go_round
                        case rel => exact ⟨j + 1, by omega, by rw [HSj.out]; go_num, by go_num⟩
                        case measure => simp [intOf]; omega
                      · obtain rfl : r = j := by omega
                        have HY : Hid (fitsB c0 b0 r (sumL L r) = true) := HFi.out.fits
                        have HN : Hid (fitsB c0 b0 ((r : Int) + 1) ((sumL L r : Int) + L r) = false) := Fits.no c1 hc HT.out
                        have hcell := cell_later HB1.out (HC.out r hlt')
                        go_wp2_with fail
                        refine (batchFits_yes _ _ _ _ _ (by omega) (by omega) (by omega) (by omega) (by omega) (by omega) (by omega) (by omega) HY.out).mono ?_
                        rintro e w' ⟨rfl, rfl⟩
                        go_wp2_with fail
                        refine (batchFits_no _ _ _ _ _ (by omega) (by omega) (by omega) (by omega) (by omega) (by omega) (by omega) (by omega) HN.out).mono ?_
                        rintro e w' ⟨rfl, rfl⟩
                        go_wp2
                        go_ret
                        exact ⟨rfl, HB1.out⟩
                  · have HT : Hid (tookB (c0 + r) (b0 + sumL L r) (L r) = true) := ht
                    clear ht
                    go_wp2_with fail
                    refine (zzTake_yes _ _ _ _ _ _ (by omega) (by omega) (by omega) (by omega) (by omega) HT.out).mono ?_
                    rintro e w1 ⟨rfl, hb1⟩
                    have HB1 : Hid (Below w.heap.size w w1) := below_next' HB.out hb1
                    clear hb1 hcell
                    have hcell := cell_later HB1.out (HC.out r hlt')
                    have hst := HFi.out.step c1 c2 hc HT.out
                    have HFn : Hid (Fits c0 b0 L (r + 1)) := hst.1
                    have hcn : c0 + ((r + 1 : Nat) : Int) ≤ 1024 := hst.2
                    clear hst
                    go_wp2
                    go_roundw
                    case rel => exact ⟨r + 1, by omega, hcn, by go_num, by rw [HS.out]; go_num, by go_num, HFn, HB1⟩
                    case measure => simp [intOf]; omega
                · obtain rfl : n = r := by omega
                  go_wp2
                  go_loop [15, 16] (fun z i => ∃ j : Nat, j ≤ n ∧ z = .int .i64 ((sumL L j : Nat) : Int) ∧ i = .int .i64 j) (fun _ i => n - (intOf i).toNat)
                  case atStart => exact ⟨0, Nat.zero_le _, rfl, rfl⟩
                  case round =>
                    obtain ⟨j, hj, rfl, rfl⟩ := hrel
                    by_cases hj' : j < n
                    · have hcj := cell_later HB.out (HC.out j (by omega))
                      have hLj := le_sumL L (show j < n by omega)
                      have HSj : Hid (sumL L (j + 1) = sumL L j + L j) := rfl
                      have hsj := sumL_mono L (show j ≤ n by omega)
                      go_wp2
                      go_round
                      case rel => exact ⟨j + 1, by omega, by rw [HSj.out]; go_num, by go_num⟩
                      case measure => simp [intOf]; omega
                    · obtain rfl : n = j := by omega
                      have HY : Hid (fitsB c0 b0 n (sumL L n) = true) := HFi.out.fits
                      go_wp2_with (go_at_call 21; refine (batchFits_yes _ _ _ _ _ (by omega) (by omega) (by omega) (by omega) (by omega) (by omega) (by omega) (by omega) HY.out).mono ?_; rintro e w' ⟨rfl, rfl⟩)
                      go_ret
                      exact ⟨rfl, HB.out⟩

set_option maxRecDepth 100000 in
set_option maxHeartbeats 400000 in
theorem walk7_none (c0 b0 : Int) (a : Option Addr) (cap : Nat) (w : World) :
    Calls Try.prog 7 #[.int .i64 c0, .int .i64 b0, .slice a 0 cap] w fun e w' => e = .returned (.bool true) ∧ Below w.heap.size w w' := by
  have HR : Hid (IsRows w a 0 (fun _ => none) (fun _ => 0) (fun _ => 0)) := ⟨Nat.zero_le _, .inl rfl⟩
  have HF : Hid (fewB 0 (fun _ => 0) = true) := by show _ = _; decide
  go_enter Try.func7, Try.ntmps7
  go_wp2_with (go_at_call 19; refine (zzBytes19_yes _ _ _ _ _ _ _ _ _ HR.out HF.out).mono ?_; rintro e w' ⟨rfl, rfl⟩)
  go_loop [7, 8] (fun z i => z = .int .i64 0 ∧ i = .int .i64 0) (fun _ _ => 0)
  case atStart => exact ⟨rfl, rfl⟩
  case round =>
    obtain ⟨rfl, rfl⟩ := hrel
    by_cases c1 : c0 < 0
    · go_wp2
      go_ret
      exact ⟨rfl, Below.refl _ _⟩
    · by_cases c2 : 1024 < c0
      · go_wp2
        go_ret
        exact ⟨rfl, Below.refl _ _⟩
      · by_cases b1 : b0 < 0
        · go_wp2
          go_ret
          exact ⟨rfl, Below.refl _ _⟩
        · by_cases b2 : 1073741824 < b0
          · go_wp2
            go_ret
            exact ⟨rfl, Below.refl _ _⟩
          · have HY : Hid (fitsB c0 b0 0 0 = true) := by show _ = _; simp [fitsB]
            go_wp2
            go_loop [9, 10, 11] (fun c d i => c = .int .i64 c0 ∧ d = .int .i64 b0 ∧ i = .int .i64 0) (fun _ _ _ => 0)
            case atStart => exact ⟨rfl, rfl, rfl⟩
            case round =>
              obtain ⟨rfl, rfl, rfl⟩ := hrel
              go_wp2
              go_loop [15, 16] (fun z i => z = .int .i64 0 ∧ i = .int .i64 0) (fun _ _ => 0)
              case atStart => exact ⟨rfl, rfl⟩
              case round =>
                obtain ⟨rfl, rfl⟩ := hrel
                go_wp2_with (go_at_call 21; refine (batchFits_yes _ _ _ _ _ (by omega) (by omega) (by omega) (by omega) (by omega) (by omega) (by omega) (by omega) HY.out).mono ?_; rintro e w' ⟨rfl, rfl⟩)
                go_ret
                exact ⟨rfl, Below.refl _ _⟩

theorem walk7 (c0 b0 : Int) (a : Option Addr) (n cap : Nat) (A : Nat → Option Addr) (L C : Nat → Nat) (w : World) (hr : IsRows w a n A L C) :
    Calls Try.prog 7 #[.int .i64 c0, .int .i64 b0, .slice a n cap] w fun e w' => e = .returned (.bool true) ∧ Below w.heap.size w w' := by
  cases hf : fewB n L
  · exact walk7_few c0 b0 a n cap A L C w hr hf
  · by_cases h0 : n = 0
    · subst h0
      exact walk7_none c0 b0 a cap w
    · obtain ⟨hn, h | ⟨b, off, rfl, hc⟩⟩ := hr
      · exact absurd h h0
      · exact walk7_many c0 b0 b off n cap A L C w (by omega) hc (by simpa [fewB] using hf)

end Go.Proofs.Qxb6621681a
