import Derived.Test.Qxb6623326aDoorWalks
namespace Go.Proofs.Qxb6623326aDoor
open Go.RowKit
set_option linter.unusedVariables false
set_option linter.unusedSimpArgs false

theorem zzBytes7_is (b : Bool) (s : ByteArray) (n : Int) (w : World) (hs : s.size ≤ maxLen) (h : decide (s.size ≤ 1048576) = b) :
    Calls Tryd.prog 7 #[.string s, .int .i64 n] w fun e w' => e = .returned (.bool b) ∧ w = w' := by
  subst h; exact zzBytes7 s n w hs

theorem num_pos (n : Int) (h : n ≤ -1) : 1 ≤ (num n).size := by
  rw [num_neg n h, ByteArray.size_append]
  have : (⟨#[45]⟩ : ByteArray).size = 1 := rfl
  omega
theorem head_back (s x : ByteArray) : (s ++ x).extract 0 s.size = s := by
  apply ByteArray.ext
  rw [ByteArray.data_extract, ByteArray.data_append]
  have : s.size = s.data.size := rfl
  rw [this, Array.extract_append_left, Array.extract_size]

set_option maxRecDepth 100000 in
set_option maxHeartbeats 1000000 in
theorem walkNeg (s : ByteArray) (i : Int) (w : World) (hs : s.size ≤ maxLen) (hi : -9223372036854775808 ≤ i) (ht : Tab w) :
    Calls Tryd.prog 4 #[.string s, .int .i64 i] w fun e w' => e = .returned (.bool true) ∧ Below w.heap.size w w' := by
  have HT : Hid (Tab w) := ht
  have HM : Hid (s.size ≤ maxLen) := hs
  unfold maxLen at hs
  clear ht
  by_cases hz : s.size ≤ 1048576
  · have HZ : Hid (decide (s.size ≤ 1048576) = true) := by show _ = _; simpa using hz
    by_cases hi0 : -2 < i
    · go_enter Tryd.func4, Tryd.ntmps4
      go_wp2_with (go_at_call 7; refine (zzBytes7_is true _ _ _ HM.out HZ.out).mono ?_; rintro e w' ⟨rfl, rfl⟩)
      go_ret
      exact ⟨rfl, Below.refl _ _⟩
    have hx1 := num_pos (i + 1) (by omega)
    have hx2 := num_size (i + 1) (by omega) (by omega)
    have HSN : Hid ((s ++ ⟨#[45]⟩) ++ num (-(i + 2) + 1) = s ++ num (i + 1)) := by
      show _ = _
      rw [num_neg (i + 1) (by omega), ← ByteArray.append_assoc, show -(i + 1) = -(i + 2) + 1 by omega]
    have hsm : (s ++ (⟨#[45]⟩ : ByteArray)).size ≤ 2097152 := by
      rw [ByteArray.size_append]
      have : (⟨#[45]⟩ : ByteArray).size = 1 := rfl
      omega
    have HSM : Hid ((s ++ (⟨#[45]⟩ : ByteArray)).size ≤ 2097152) := hsm
    clear hsm
    go_enter Tryd.func4, Tryd.ntmps4
    go_wp2_with fail
    refine (zzBytes7_is true _ _ _ HM.out HZ.out).mono ?_
    rintro e w' ⟨rfl, rfl⟩
    go_wp2_with fail
    refine (zzOpPlace s i w (by omega) (by omega) (by omega) HT.out).mono ?_
    rintro e w1 ⟨rfl, hb1⟩
    have B1 : Hid (Below w.heap.size w w1) := hb1
    have HT1 : Hid (Tab w1) := HT.out.later hb1
    clear hb1 HT
    go_wp2_with fail
    refine (zzOpPlace (s ++ ⟨#[45]⟩) (-(i + 2)) w1 HSM.out (by omega) (by omega) HT1.out).mono ?_
    rintro e w2 ⟨rfl, hb2⟩
    have B2 : Hid (Below w.heap.size w w2) := below_on B1.out hb2
    clear hb2 HT1 B1
    rw [HSN.out]
    revert hx1 hx2 HSN
    generalize num (i + 1) = x
    intro hx1 hx2 HSN
    clear HSN HSM
    have hsz : (s ++ x).size = s.size + x.size := ByteArray.size_append
    have hex := head_back s x
    go_wp2
    go_ret
    exact ⟨rfl, B2.out⟩
  · have HZ : Hid (decide (s.size ≤ 1048576) = false) := by show _ = _; simpa using hz
    go_enter Tryd.func4, Tryd.ntmps4
    go_wp2_with (go_at_call 7; refine (zzBytes7_is false _ _ _ HM.out HZ.out).mono ?_; rintro e w' ⟨rfl, rfl⟩)
    go_ret
    exact ⟨rfl, Below.refl _ _⟩

end Go.Proofs.Qxb6623326aDoor
