import Derived.Test.Qxb6623326aDoorWalks
namespace Go.Proofs.Qxb6623326aDoor
open Go.RowKit
set_option linter.unusedVariables false
set_option linter.unusedSimpArgs false

theorem zzBytes5_is (b : Bool) (s : ByteArray) (n d : Int) (w : World) (hs : s.size ≤ maxLen) (h : decide (s.size ≤ 1048576) = b) :
    Calls Tryd.prog 5 #[.string s, .int .i64 n, .int .u8 d] w fun e w' => e = .returned (.bool b) ∧ w = w' := by
  subst h; exact zzBytes5 s n d w hs

/-- 'string([]byte{c})'. -/
theorem conv_one (c : Int) (h0 : 0 ≤ c) (h1 : c ≤ 255) (w : World) :
    (convert 24 9 (.slice (some ⟨w.heap.size, 0, none⟩) 1 1)).run Tryd.prog (w.alloc (.cells #[.int .u8 c] 5)) = .ok (.string ⟨#[UInt8.ofNat c.toNat]⟩) (w.alloc (.cells #[.int .u8 c] 5)) := by
  refine run_convert_bytes_back (P := Tryd.prog) _ 24 9 5 ⟨w.heap.size, 0, none⟩ 1 [UInt8.ofNat c.toNat] Tryd.underlying24 Tryd.underlying5 Tryd.underlying9 ?_
  intro j hj
  have hj0 : j = 0 := by simpa using hj
  subst hj0
  have e : ((UInt8.ofNat c.toNat).toNat : Int) = c := by
    simp [UInt8.toNat_ofNat']; omega
  show _ = some (Value.int .u8 ((UInt8.ofNat c.toNat).toNat : Int))
  rw [e]
  exact cell_one_new w (.int .u8 c) 5 0 (.int .u8 c) rfl

set_option maxRecDepth 100000 in
set_option maxHeartbeats 1000000 in
theorem walkDigit (s : ByteArray) (i d : Int) (w : World) (hs : s.size ≤ maxLen) (hd0 : 0 ≤ d) (hd1 : d ≤ 255) (ht : Tab w) :
    Calls Tryd.prog 3 #[.string s, .int .i64 i, .int .u8 d] w fun e w' => e = .returned (.bool true) ∧ Below w.heap.size w w' := by
  have HT : Hid (Tab w) := ht
  have HM : Hid (s.size ≤ maxLen) := hs
  unfold maxLen at hs
  clear ht
  by_cases hz : s.size ≤ 1048576
  · have hzd : decide (s.size ≤ 1048576) = true := by simpa using hz
    have HZ : Hid (decide (s.size ≤ 1048576) = true) := hzd
    clear hzd
    by_cases hi0 : i < 0
    · go_enter Tryd.func3, Tryd.ntmps3
      go_wp2_with (go_at_call 5; refine (zzBytes5_is true _ _ _ _ HM.out HZ.out).mono ?_; rintro e w' ⟨rfl, rfl⟩)
      go_ret
      exact ⟨rfl, Below.refl _ _⟩
    by_cases hi1 : 922337203685477579 ≤ i
    · go_enter Tryd.func3, Tryd.ntmps3
      go_wp2_with (go_at_call 5; refine (zzBytes5_is true _ _ _ _ HM.out HZ.out).mono ?_; rintro e w' ⟨rfl, rfl⟩)
      go_ret
      exact ⟨rfl, Below.refl _ _⟩
    by_cases hd : 9 < d
    · go_enter Tryd.func3, Tryd.ntmps3
      go_wp2_with (go_at_call 5; refine (zzBytes5_is true _ _ _ _ HM.out HZ.out).mono ?_; rintro e w' ⟨rfl, rfl⟩)
      go_ret
      exact ⟨rfl, Below.refl _ _⟩
    go_enter Tryd.func3, Tryd.ntmps3
    go_wp2_with fail
    refine (zzBytes5_is true _ _ _ _ HM.out HZ.out).mono ?_
    rintro e w' ⟨rfl, rfl⟩
    have hq := num_size (i + 1) (by omega) (by omega)
    have HSN : Hid (s ++ num (10 * (i + 1) + d - 1 + 1) = (s ++ num (i + 1)) ++ ⟨#[UInt8.ofNat (48 + d).toNat]⟩) := by
      show _ = _
      rw [num_snoc i d (by omega) hd0 (by omega), ByteArray.append_assoc, show (48 + d).toNat = 48 + d.toNat by omega]
    have htz : (s ++ num (i + 1)).size ≤ 1048597 := by rw [ByteArray.size_append]; omega
    clear hq
    go_wp2_with fail
    refine (zzOpPlace s i w (by omega) (by omega) (by omega) HT.out).mono ?_
    rintro e w1 ⟨rfl, hb1⟩
    have B1 : Hid (Below w.heap.size w w1) := hb1
    have HT1 : Hid (Tab w1) := HT.out.later hb1
    clear hb1 HT
    go_wp2_with fail
    refine (zzOpPlace s (10 * (i + 1) + d - 1) w1 (by omega) (by omega) (by omega) HT1.out).mono ?_
    rintro e w2 ⟨rfl, hb2⟩
    have B2 : Hid (Below w.heap.size w w2) := below_on B1.out hb2
    clear hb2 HT1 B1
    rw [HSN.out]
    have hcv := fun W => conv_one (48 + d) (by omega) (by omega) W
    revert htz HSN
    generalize s ++ num (i + 1) = t
    intro HSN htz
    clear HSN
    go_wp2
    go_ret
    exact ⟨rfl, B2.out.alloc B2.out.size _⟩
  · have HZ : Hid (decide (s.size ≤ 1048576) = false) := by show _ = _; simpa using hz
    go_enter Tryd.func3, Tryd.ntmps3
    go_wp2_with (go_at_call 5; refine (zzBytes5_is false _ _ _ _ HM.out HZ.out).mono ?_; rintro e w' ⟨rfl, rfl⟩)
    go_ret
    exact ⟨rfl, Below.refl _ _⟩

end Go.Proofs.Qxb6623326aDoor
