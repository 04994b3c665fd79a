import Derived.Test.Qxb6621681aTake
import Derived.Deep.DeepCutAuto
namespace Go.Proofs.Qxb6621681a
open Go.RowKit
set_option linter.unusedVariables false
set_option linter.unusedSimpArgs false

/-- The sum of the first k lengths. -/
def sumL (L : Nat → Nat) : Nat → Nat
  | 0 => 0
  | k + 1 => sumL L k + L k

theorem sumL_mono (L : Nat → Nat) {j k : Nat} (h : j ≤ k) : sumL L j ≤ sumL L k := by
  induction k with
  | zero => have : j = 0 := by omega
            subst this; exact Nat.le_refl _
  | succ k ih =>
    rcases Nat.lt_or_ge j (k + 1) with h1 | h1
    · have := ih (by omega); simp only [sumL]; omega
    · have : j = k + 1 := by omega
      subst this; exact Nat.le_refl _
theorem le_sumL (L : Nat → Nat) {i k : Nat} (h : i < k) : L i ≤ sumL L k := by
  have := sumL_mono L (show i + 1 ≤ k from h)
  simp only [sumL] at this; omega

/-- A slice of slices that came in: row i's cell holds '.slice (A i) (L i) (C i)'. -/
def IsRows (w : World) (a : Option Addr) (n : Nat) (A : Nat → Option Addr) (L C : Nat → Nat) : Prop :=
  n ≤ maxLen ∧ (n = 0 ∨ ∃ b off, a = some ⟨b, off, none⟩ ∧ ∀ i, i < n → w.cell? ⟨b, off + i, none⟩ = some (.slice (A i) (L i) (C i)) ∧ L i ≤ maxLen)

/-- Do the lengths sum to at most 2^20? -/
def fewB (n : Nat) (L : Nat → Nat) : Bool := decide (n + sumL L n ≤ 1048576)

theorem ret_bool {a b : Bool} (h : a = b) : Ending.returned (.bool a) = .returned (.bool b) := by rw [h]

set_option maxRecDepth 100000 in
set_option maxHeartbeats 400000 in
theorem zzBytes19 (c m : Int) (a : Option Addr) (n cap : Nat) (A : Nat → Option Addr) (L C : Nat → Nat) (w : World) (hr : IsRows w a n A L C) :
    Calls Try.prog 19 #[.int .i64 c, .int .i64 m, .slice a n cap] w fun e w' => e = .returned (.bool (fewB n L)) ∧ w = w' := by
  obtain ⟨hn, hr⟩ := hr
  unfold maxLen at hn
  by_cases h1 : n ≤ 1048576
  · rcases hr with rfl | ⟨b, off, rfl, hc⟩
    · have HF : Hid (fewB 0 L = true) := by show _ = _; simp [fewB, sumL]
      go_enter Try.func19, Try.ntmps19
      go_wp2
      go_loop [7, 8] (fun z i => z = .int .i64 0 ∧ i = .int .i64 0) (fun _ _ => 0)
      case atStart => exact ⟨rfl, rfl⟩
      case round =>
        obtain ⟨rfl, rfl⟩ := hrel
        go_wp2
        go_ret
        exact ⟨ret_bool HF.out.symm, rfl⟩
    · go_enter Try.func19, Try.ntmps19
      go_wp2
      go_loop [7, 8] (fun z i => ∃ k : Nat, k ≤ n ∧ n + sumL L k ≤ 1048576 ∧ z = .int .i64 ((n + sumL L k : Nat) : Int) ∧ i = .int .i64 k) (fun _ i => n - (intOf i).toNat)
      case atStart => exact ⟨0, Nat.zero_le _, by simp [sumL]; omega, by simp [sumL], rfl⟩
      case round =>
        obtain ⟨k, hk, hs, rfl, rfl⟩ := hrel
        by_cases hlt : k < n
        · obtain ⟨hcell, hL⟩ := hc k hlt
          unfold maxLen at hL
          have HS : Hid (sumL L (k + 1) = sumL L k + L k) := rfl
          have HM : Hid (sumL L (k + 1) ≤ sumL L n) := sumL_mono L hlt
          clear hc
          by_cases h2 : L k ≤ 1048576
          · by_cases h3 : n + sumL L k + L k ≤ 1048576
            · have h3' : ((n + sumL L k : Nat) : Int) + L k ≤ 1048576 := by omega
              go_wp2
              go_round
              case rel => exact ⟨k + 1, by omega, by rw [HS.out]; omega, by rw [HS.out]; go_num, by go_num⟩
              case measure => simp [intOf]; omega
            · have h3' : (1048576 : Int) < ((n + sumL L k : Nat) : Int) + L k := by omega
              have HF : Hid (fewB n L = false) := by
                show _ = _
                have := HS.out; have := HM.out; simp [fewB]; omega
              go_wp2
              go_ret
              exact ⟨ret_bool HF.out.symm, rfl⟩
          · have HF : Hid (fewB n L = false) := by
              show _ = _
              have := HS.out; have := HM.out; simp [fewB]; omega
            go_wp2
            go_ret
            exact ⟨ret_bool HF.out.symm, rfl⟩
        · have HF : Hid (fewB n L = true) := by
            have : k = n := by omega
            subst this
            show _ = _
            simp [fewB]; omega
          go_wp2
          go_ret
          exact ⟨ret_bool HF.out.symm, rfl⟩
  · have HF : Hid (fewB n L = false) := by show _ = _; simp [fewB]; omega
    go_enter Try.func19, Try.ntmps19
    go_wp2
    go_ret
    exact ⟨ret_bool HF.out.symm, rfl⟩

/-- 'zzBatchFits'. -/
def fitsB (c0 b0 k s : Int) : Bool := decide (k = 0) || (decide (c0 = 0) && decide (k = 1)) || (decide (c0 + k ≤ 1024) && decide (b0 + s ≤ 4194304))

set_option maxRecDepth 100000 in
set_option maxHeartbeats 400000 in
theorem batchFits (c0 b0 k s : Int) (w : World) (hc : 0 ≤ c0) (hc' : c0 ≤ 1024) (hb : 0 ≤ b0) (hb' : b0 ≤ 1073741824) (hk : 0 ≤ k) (hk' : k ≤ 4194304) (hs : 0 ≤ s) (hs' : s ≤ 4194304) :
    Calls Try.prog 21 #[.int .i64 c0, .int .i64 b0, .int .i64 k, .int .i64 s] w fun e w' => e = .returned (.bool (fitsB c0 b0 k s)) ∧ w = w' := by
  by_cases h1 : k = 0
  · subst h1
    go_enter Try.func21, Try.ntmps21
    go_wp2
    go_ret
    exact ⟨ret_bool (by simp [fitsB]), rfl⟩
  · have h1' : (k == 0) = false := by simpa using h1
    by_cases h2 : c0 = 0
    · subst h2
      by_cases h3 : k = 1
      · subst h3
        go_enter Try.func21, Try.ntmps21
        go_wp2
        go_ret
        exact ⟨ret_bool (by simp [fitsB]), rfl⟩
      · have h3' : (k == 1) = false := by simpa using h3
        by_cases h4 : k ≤ 1024
        · by_cases h5 : b0 + s ≤ 4194304
          all_goals
            go_enter Try.func21, Try.ntmps21
            go_wp2
            go_ret
            exact ⟨ret_bool (by simp [fitsB, h1, h3, h4, h5]), rfl⟩
        · go_enter Try.func21, Try.ntmps21
          go_wp2
          go_ret
          exact ⟨ret_bool (by simp [fitsB, h1, h3]; omega), rfl⟩
    · have h2' : (c0 == 0) = false := by simpa using h2
      by_cases h4 : c0 + k ≤ 1024
      · by_cases h5 : b0 + s ≤ 4194304
        all_goals
          go_enter Try.func21, Try.ntmps21
          go_wp2
          go_ret
          exact ⟨ret_bool (by simp [fitsB, h1, h2, h4, h5]), rfl⟩
      · go_enter Try.func21, Try.ntmps21
        go_wp2
        go_ret
        exact ⟨ret_bool (by simp [fitsB, h1, h2]; omega), rfl⟩

theorem batchFits_yes (c0 b0 k s : Int) (w : World) (hc : 0 ≤ c0) (hc' : c0 ≤ 1024) (hb : 0 ≤ b0) (hb' : b0 ≤ 1073741824) (hk : 0 ≤ k) (hk' : k ≤ 4194304) (hs : 0 ≤ s) (hs' : s ≤ 4194304) (h : fitsB c0 b0 k s = true) :
    Calls Try.prog 21 #[.int .i64 c0, .int .i64 b0, .int .i64 k, .int .i64 s] w fun e w' => e = .returned (.bool true) ∧ w = w' := by
  simpa [h] using batchFits c0 b0 k s w hc hc' hb hb' hk hk' hs hs'
theorem batchFits_no (c0 b0 k s : Int) (w : World) (hc : 0 ≤ c0) (hc' : c0 ≤ 1024) (hb : 0 ≤ b0) (hb' : b0 ≤ 1073741824) (hk : 0 ≤ k) (hk' : k ≤ 4194304) (hs : 0 ≤ s) (hs' : s ≤ 4194304) (h : fitsB c0 b0 k s = false) :
    Calls Try.prog 21 #[.int .i64 c0, .int .i64 b0, .int .i64 k, .int .i64 s] w fun e w' => e = .returned (.bool false) ∧ w = w' := by
  simpa [h] using batchFits c0 b0 k s w hc hc' hb hb' hk hk' hs hs'
theorem zzBytes19_yes (c m : Int) (a : Option Addr) (n cap : Nat) (A : Nat → Option Addr) (L C : Nat → Nat) (w : World) (hr : IsRows w a n A L C) (h : fewB n L = true) :
    Calls Try.prog 19 #[.int .i64 c, .int .i64 m, .slice a n cap] w fun e w' => e = .returned (.bool true) ∧ w = w' := by
  simpa [h] using zzBytes19 c m a n cap A L C w hr
theorem zzBytes19_no (c m : Int) (a : Option Addr) (n cap : Nat) (A : Nat → Option Addr) (L C : Nat → Nat) (w : World) (hr : IsRows w a n A L C) (h : fewB n L = false) :
    Calls Try.prog 19 #[.int .i64 c, .int .i64 m, .slice a n cap] w fun e w' => e = .returned (.bool false) ∧ w = w' := by
  simpa [h] using zzBytes19 c m a n cap A L C w hr

/-- What holds of a prefix of k commands that has been taken. -/
def Fits (c0 b0 : Int) (L : Nat → Nat) (k : Nat) : Prop := k = 0 ∨ (c0 = 0 ∧ k = 1) ∨ (c0 + k ≤ 1024 ∧ b0 + sumL L k ≤ 4194304)

theorem Fits.step {c0 b0 : Int} {L : Nat → Nat} {k : Nat} (h0 : 0 ≤ c0) (_h1 : c0 ≤ 1024) (h : Fits c0 b0 L k) (hk : c0 + k ≤ 1024) (ht : tookB (c0 + k) (b0 + sumL L k) (L k) = true) : Fits c0 b0 L (k + 1) ∧ c0 + (k + 1 : Nat) ≤ 1024 := by
  simp [tookB] at ht
  unfold Fits at *
  simp only [sumL]
  omega
theorem Fits.fits {c0 b0 : Int} {L : Nat → Nat} {k : Nat} (h : Fits c0 b0 L k) : fitsB c0 b0 k (sumL L k) = true := by
  unfold Fits at h
  simp [fitsB]; omega
theorem Fits.no {c0 b0 : Int} {L : Nat → Nat} {k : Nat} (h0 : 0 ≤ c0) (hk : c0 + k ≤ 1024) (ht : tookB (c0 + k) (b0 + sumL L k) (L k) = false) : fitsB c0 b0 ((k : Int) + 1) ((sumL L k : Int) + L k) = false := by
  simp [tookB] at ht
  simp [fitsB]; omega

end Go.Proofs.Qxb6621681a
