import Derived.Test.Qxb6621681aAdr
import Derived.Deep.DeepCutAuto
namespace Go.Proofs.Qxb6621681a
open Go.RowKit
set_option linter.unusedVariables false
set_option linter.unusedSimpArgs false

theorem same_refl (ms : List (Int × ByteArray)) : sameB ms ms = true := by simp [sameB]
theorem same_comm (ms ms' : List (Int × ByteArray)) : sameB ms' ms = sameB ms ms' := by
  simp only [sameB]; congr 1; exact propext ⟨Eq.symm, Eq.symm⟩
theorem same_cut (ms ms' : List (Int × ByteArray)) (k : Nat) (h : ms.length = ms'.length) :
    sameB ms ms' = (sameB (ms.take k) (ms'.take k) && sameB (ms.drop k) (ms'.drop k)) := by
  simp only [sameB, ← Bool.decide_and]
  congr 1
  refine propext ⟨fun e => by rw [e]; exact ⟨rfl, rfl⟩, fun ⟨h1, h2⟩ => ?_⟩
  rw [← List.take_append_drop k ms, ← List.take_append_drop k ms', h1, h2]
theorem same_len (ms ms' : List (Int × ByteArray)) (h : ms.length ≠ ms'.length) : sameB ms ms' = false := by
  simp only [sameB, decide_eq_false_iff_not]
  rintro rfl; exact h rfl

theorem one_at {α : Type} {ms : List α} {j : Nat} {m : α} (h : ms[j]? = some m) : (ms.drop j).take 1 = [m] := by
  have h1 := (List.getElem?_eq_some_iff.1 h).1
  have h2 := (List.getElem?_eq_some_iff.1 h).2
  rw [List.drop_eq_getElem_cons h1, h2]; simp

set_option maxRecDepth 100000 in
set_option maxHeartbeats 1000000 in
theorem walk3 (k : Int) (a a' : Option Addr) (cap cap' : Nat) (ms ms' : List (Int × ByteArray)) (w : World) (hs : Seg w a ms) (hf : Fit ms) (hn : ms.length ≤ maxLen) (hs' : Seg w a' ms') (hf' : Fit ms') (hn' : ms'.length ≤ maxLen) (hk0 : (Lit.int .i64 k).wf = true) :
    Calls Try.prog 3 #[.slice a ms.length cap, .slice a' ms'.length cap', .int .i64 k] w fun e w' => e = .returned (.bool true) ∧ Below w.heap.size w w' := by
  have HS : Hid (Seg w a ms) := hs
  have HF : Hid (Fit ms) := hf
  have HS' : Hid (Seg w a' ms') := hs'
  have HF' : Hid (Fit ms') := hf'
  have HN : Hid (ms.length ≤ maxLen) := hn
  have HN' : Hid (ms'.length ≤ maxLen) := hn'
  clear hs hf hs' hf' hn hn' hk0
  go_enter Try.func3, Try.ntmps3
  go_wp2_with fail
  refine (zzBytes9 k a a' cap cap' ms ms' w HS.out HF.out HN.out HS'.out HF'.out HN'.out).mono ?_
  rintro e w' ⟨t, rfl, ht, rfl⟩
  cases t
  · go_wp2
    go_ret
    exact ⟨rfl, Below.refl _ _⟩
  obtain ⟨hl, hl'⟩ := ht rfl
  clear ht
  go_wp2_with fail
  refine (membersBytes 0 a cap ms w HS.out HF.out (by omega) (by omega) hl).mono ?_
  rintro e w' ⟨t1, rfl, ht1, rfl⟩
  by_cases hb1 : 1048576 < t1
  · go_wp2
    go_ret
    exact ⟨rfl, Below.refl _ _⟩
  go_wp2_with fail
  refine (membersBytes t1 a' cap' ms' w HS'.out HF'.out (by omega) (by omega) hl').mono ?_
  rintro e w' ⟨t2, rfl, ht2, rfl⟩
  by_cases hb2 : 1048576 < t2
  · go_wp2
    go_ret
    exact ⟨rfl, Below.refl _ _⟩
  by_cases hk1 : k < 0
  · go_wp2
    go_ret
    exact ⟨rfl, Below.refl _ _⟩
  by_cases hk2 : (ms.length : Int) < k
  · go_wp2
    go_ret
    exact ⟨rfl, Below.refl _ _⟩
  by_cases hk3 : (ms'.length : Int) < k
  · go_wp2
    go_ret
    exact ⟨rfl, Below.refl _ _⟩
  obtain ⟨j, rfl⟩ := Int.eq_ofNat_of_zero_le (show 0 ≤ k by omega)
  go_wp2_with fail
  refine (zzCluster a cap ms w HS.out hl).mono ?_
  rintro e w1 ⟨v, rfl, ⟨c, cc, rfl, hc1, hc2, hsc⟩, hbel1⟩
  have B1 : Hid (Below w.heap.size w w1) := hbel1
  clear hbel1
  have HC : Hid (Seg w1 c ms) := hsc
  clear hsc
  go_wp2_with fail
  refine (zzCluster a' cap' ms' w1 (HS'.out.later B1.out) hl').mono ?_
  rintro e w2 ⟨v, rfl, ⟨d, dc, rfl, hd1, hd2, hsd⟩, hbel2⟩
  have B2 : Hid (Below w.heap.size w w2) := below_here B1.out hbel2
  have HC2 : Hid (Seg w2 c ms) := HC.out.later hbel2
  have HD2 : Hid (Seg w2 d ms') := hsd
  clear hsd hbel2 B1 HC
  unfold maxLen at hc2 hd2
  go_wp2_with fail
  refine (zzEqual c d _ _ cc dc ms ms' w2 rfl rfl HC2.out HD2.out hl hl').mono ?_
  rintro e w3 ⟨rfl, q3, rfl⟩
  obtain ⟨W, hW⟩ : ∃ W, W = sameB ms ms' := ⟨_, rfl⟩
  rw [← hW]
  have HW : Hid (sameB ms ms' = W) := hW.symm
  clear hW
  go_wp2_with fail
  refine (zzEqual_is true c c _ _ cc cc ms ms _ rfl rfl (HC2.out.drewN _) (HC2.out.drewN _) hl hl (same_refl _)).mono ?_
  rintro e w4 ⟨rfl, q4, rfl⟩
  rw [World.drewN_drewN]
  go_wp2_with fail
  refine (zzEqual_is true d d _ _ dc dc ms' ms' _ rfl rfl (HD2.out.drewN _) (HD2.out.drewN _) hl' hl' (same_refl _)).mono ?_
  rintro e w5 ⟨rfl, q5, rfl⟩
  rw [World.drewN_drewN]
  go_wp2_with fail
  refine (zzEqual_is W d c _ _ dc cc ms' ms _ rfl rfl (HD2.out.drewN _) (HC2.out.drewN _) hl' hl ((same_comm _ _).trans HW.out)).mono ?_
  rintro e w6 ⟨rfl, q6, rfl⟩
  rw [World.drewN_drewN]
  have B7 : Hid (Below w.heap.size w (w2.drewN (q3 + q4 + q5 + q6))) := below_drewN B2.out _
  have HC7 : Hid (Seg (w2.drewN (q3 + q4 + q5 + q6)) c ms) := HC2.out
  have HD7 : Hid (Seg (w2.drewN (q3 + q4 + q5 + q6)) d ms') := HD2.out
  clear B2 HC2 HD2
  generalize w2.drewN (q3 + q4 + q5 + q6) = w7 at *
  go_upto_region 16 with fail
  go_cut [12] (fun x wx => x = .bool W ∧ Hid (∃ q, wx = w7.drewN q))
  case first =>
    by_cases hll : ms.length = ms'.length
    · have hlb : ((ms.length : Int) == (ms'.length : Int)) = true := by rw [hll]; simp
      have hcut := same_cut ms ms' j hll
      rw [HW.out] at hcut
      have hjc : j ≤ ms.length := by omega
      have hjd : j ≤ ms'.length := by omega
      have E1 : Hid ((ms.take j).length = j) := by show _ = _; simp; omega
      have E2 : Hid ((ms'.take j).length = j) := by show _ = _; simp; omega
      have E3 : Hid ((ms.drop j).length = ms.length - j) := by show _ = _; simp
      have E4 : Hid ((ms'.drop j).length = ms'.length - j) := by show _ = _; simp
      have S1 : Hid (Seg w7 c (ms.take j)) := HC7.out.take j
      have S2 : Hid (Seg w7 d (ms'.take j)) := HD7.out.take j
      have S3h : Hid (Seg w7 (if cc = j then c else c.map (·.add (j * 2))) (ms.drop j)) := HC7.out.drop j cc hc1
      have S4h : Hid (Seg w7 (if dc = j then d else d.map (·.add (j * 2))) (ms'.drop j)) := HD7.out.drop j dc hd1
      clear hll
      have b0 : (0 : Int) ≤ j := by omega
      have b1 : (j : Int) ≤ cc := by omega
      have b2 : (j : Int) ≤ dc := by omega
      have b3 : (j : Int) ≤ ms.length := by omega
      have b4 : (j : Int) ≤ ms'.length := by omega
      cases hT : sameB (ms.take j) (ms'.take j)
      · rw [hT] at hcut
        simp only [Bool.false_and] at hcut
        have HT : Hid (sameB (ms.take j) (ms'.take j) = false) := hT
        clear hT
        subst hcut
        go_quiet ((go_at_call 12; exact Calls.quiet_of (zzEqual_is false _ _ _ _ _ _ (ms.take j) (ms'.take j) _ E1.out E2.out (S1.out.drewN _) (S2.out.drewN _) (by omega) (by omega) HT.out)))
        go_wp2
        go_meet
        case rel => exact ⟨rfl, _, rfl⟩
      · rw [hT] at hcut
        simp only [Bool.true_and] at hcut
        have HT : Hid (sameB (ms.take j) (ms'.take j) = true) := hT
        have HD : Hid (sameB (ms.drop j) (ms'.drop j) = W) := hcut.symm
        clear hT hcut
        go_quiet (first
          | (go_at_call_of 12 (Value.slice c j cc); exact Calls.quiet_of (zzEqual_is true _ _ _ _ _ _ (ms.take j) (ms'.take j) _ E1.out E2.out (S1.out.drewN _) (S2.out.drewN _) (by omega) (by omega) HT.out))
          | (go_at_call 12; exact (Calls.quiet_of (zzEqual_is W _ _ _ _ _ _ (ms.drop j) (ms'.drop j) _ E3.out E4.out (S3h.out.drewN _) (S4h.out.drewN _) (by omega) (by omega) HD.out))))
        clear S3h S4h
        generalize (if cc = j then c else c.map (·.add (j * 2))) = z1
        generalize (if dc = j then d else d.map (·.add (j * 2))) = z2
        go_wp2
        go_meet
        case rel => exact ⟨rfl, _, rfl⟩
    · have hlb : ((ms.length : Int) == (ms'.length : Int)) = false := by simp; omega
      have HWF : W = false := HW.out.symm.trans (same_len _ _ hll)
      subst HWF
      go_quiet (fail)
      go_wp2
      go_meet
      case rel => exact ⟨rfl, _, rfl⟩
  case rest =>
    obtain ⟨rfl, HQ⟩ := hcut
    have hb8 := below_of_drew HQ.out
    have B8 : Hid (Below w.heap.size w wc) := below_here B7.out hb8
    have HC8 : Hid (Seg wc c ms) := HC7.out.later hb8
    have HD8 : Hid (Seg wc d ms') := HD7.out.later hb8
    clear hb8 HQ B7 HC7 HD7
    by_cases hj1 : j < ms.length
    · by_cases hj2 : j < ms'.length
      · obtain ⟨b, off, x, s, rfl, hx, ha1, ha2⟩ := (HS.out.later B8.out).at hj1
        obtain ⟨b', off', y, t, rfl, hy, hb1', hb2'⟩ := (HS'.out.later B8.out).at hj2
        have S5 : Hid (Seg wc (c.map (·.add (j * 2))) [(x, s)]) := by
          have := (HC8.out.drop j cc hc1).take 1
          rwa [if_neg (by omega), one_at hx] at this
        have S6 : Hid (Seg wc (d.map (·.add (j * 2))) [(y, t)]) := by
          have := (HD8.out.drop j dc hd1).take 1
          rwa [if_neg (by omega), one_at hy] at this
        clear hx hy HC8 HD8 HS HS' HF HF' HN HN' HW
        have i0 : (0 : Int) ≤ j := by omega
        have i1 : (j : Int) < ms.length := by omega
        have i2 : (j : Int) < ms'.length := by omega
        have i3 : (j : Int) + 1 ≤ cc := by omega
        have i4 : (j : Int) + 1 ≤ dc := by omega
        have n1 : ¬ cc = j := by omega
        have n2 : ¬ dc = j := by omega
        by_cases hxy : x = y
        · subst hxy
          have g1 : (x == x) = true := by simp
          by_cases hst : s = t
          · subst hst
            have HR : Hid (sameB [(x, s)] [(x, s)] = true) := same_refl _
            go_wp2
            go_quiet (fail)
            have B9 : Hid (Below w.heap.size w (wc.drewN nq)) := below_drewN B8.out _
            have S7 : Hid (Seg (wc.drewN nq) (c.map (·.add (j * 2))) [(x, s)]) := S5.out
            have S8 : Hid (Seg (wc.drewN nq) (d.map (·.add (j * 2))) [(x, s)]) := S6.out
            replace ha1 : (wc.drewN nq).cell? _ = _ := ha1
            replace ha2 : (wc.drewN nq).cell? _ = _ := ha2
            clear B8 S5 S6 ha1 ha2 hb1' hb2'
            generalize wc.drewN nq = w9 at *
            go_wp2
            go_quiet ((go_at_call 12; exact (Calls.quiet_of (zzEqual_is true _ _ 1 1 _ _ [(x, s)] [(x, s)] _ rfl rfl (S7.out.drewN _) (S8.out.drewN _) (by omega) (by omega) HR.out))))
            go_wp2
            go_ret
            exact ⟨rfl, below_drewN B9.out _⟩
          · have hst' : (s.toList == t.toList) = false := by simpa using bytes_ne hst
            have HR : Hid (sameB [(x, s)] [(x, t)] = false) := by show _ = _; simp [sameB, hst]
            go_wp2
            go_quiet (fail)
            have B9 : Hid (Below w.heap.size w (wc.drewN nq)) := below_drewN B8.out _
            have S7 : Hid (Seg (wc.drewN nq) (c.map (·.add (j * 2))) [(x, s)]) := S5.out
            have S8 : Hid (Seg (wc.drewN nq) (d.map (·.add (j * 2))) [(x, t)]) := S6.out
            replace ha1 : (wc.drewN nq).cell? _ = _ := ha1
            replace ha2 : (wc.drewN nq).cell? _ = _ := ha2
            clear B8 S5 S6 ha1 ha2 hb1' hb2'
            generalize wc.drewN nq = w9 at *
            go_wp2
            go_quiet ((go_at_call 12; exact (Calls.quiet_of (zzEqual_is false _ _ 1 1 _ _ [(x, s)] [(x, t)] _ rfl rfl (S7.out.drewN _) (S8.out.drewN _) (by omega) (by omega) HR.out))))
            go_wp2
            go_ret
            exact ⟨rfl, below_drewN B9.out _⟩
        · have g1 : (x == y) = false := by simpa using hxy
          have HR : Hid (sameB [(x, s)] [(y, t)] = false) := by show _ = _; simp [sameB, hxy]
          go_wp2
          go_quiet (fail)
          have B9 : Hid (Below w.heap.size w (wc.drewN nq)) := below_drewN B8.out _
          have S7 : Hid (Seg (wc.drewN nq) (c.map (·.add (j * 2))) [(x, s)]) := S5.out
          have S8 : Hid (Seg (wc.drewN nq) (d.map (·.add (j * 2))) [(y, t)]) := S6.out
          replace ha1 : (wc.drewN nq).cell? _ = _ := ha1
          replace ha2 : (wc.drewN nq).cell? _ = _ := ha2
          clear B8 S5 S6 ha1 ha2 hb1' hb2'
          generalize wc.drewN nq = w9 at *
          go_wp2
          go_quiet ((go_at_call 12; exact (Calls.quiet_of (zzEqual_is false _ _ 1 1 _ _ [(x, s)] [(y, t)] _ rfl rfl (S7.out.drewN _) (S8.out.drewN _) (by omega) (by omega) HR.out))))
          go_wp2
          go_ret
          exact ⟨rfl, below_drewN B9.out _⟩
      · go_wp2
        go_ret
        exact ⟨rfl, B8.out⟩
    · go_wp2
      go_ret
      exact ⟨rfl, B8.out⟩

end Go.Proofs.Qxb6621681a
