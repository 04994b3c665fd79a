import Derived.Test.Qxb6621681aAdr
namespace Go.Proofs.Qxb6621681a
open Go.RowKit
set_option linter.unusedVariables false
set_option linter.unusedSimpArgs false

/-- A cluster is equal to itself without id exactly when no member has that id. -/
theorem same_fil (id : Int) (ms : List (Int × ByteArray)) : sameB (fil id ms) ms = !hasB ms id := by
  cases h : hasB ms id
  · have : fil id ms = ms := by
      unfold fil
      rw [List.filter_eq_self]
      intro m hm
      simp only [hasB, List.any_eq_false] at h
      have := h m hm
      simpa using this
    simp [sameB, this]
  · have : fil id ms ≠ ms := by
      unfold fil
      intro e
      rw [List.filter_eq_self] at e
      simp only [hasB, List.any_eq_true] at h
      obtain ⟨m, hm, hx⟩ := h
      have := e m hm
      simp at hx this
      exact this hx
    simp [sameB, this]
theorem same_sym (ms ms' : List (Int × ByteArray)) : sameB ms' ms = sameB ms ms' := by
  simp only [sameB]; congr 1; exact propext ⟨Eq.symm, Eq.symm⟩

set_option maxRecDepth 100000 in
set_option maxHeartbeats 1000000 in
theorem walk4 (id : Int) (a : Option Addr) (cap : Nat) (ms : List (Int × ByteArray)) (w : World) (hs : Seg w a ms) (hf : Fit ms) (hn : ms.length ≤ maxLen) :
    Calls Try.prog 4 #[.slice a ms.length cap, .int .u32 id] w fun e w' => e = .returned (.bool true) ∧ Below w.heap.size w w' := by
  have HS : Hid (Seg w a ms) := hs
  have HF : Hid (Fit ms) := hf
  have HN : Hid (ms.length ≤ maxLen) := hn
  clear hs hf hn
  go_enter Try.func4, Try.ntmps4
  go_wp2_with fail
  refine (zzBytes13 id a cap ms w HS.out HF.out HN.out).mono ?_
  rintro e w' ⟨t, rfl, ht, rfl⟩
  cases t
  · go_wp2
    go_ret
    exact ⟨rfl, Below.refl _ _⟩
  have hl := ht rfl
  clear ht
  go_wp2_with fail
  refine (membersBytes 0 a cap ms w HS.out HF.out (by omega) (by omega) hl).mono ?_
  rintro e w' ⟨t1, rfl, ht1, rfl⟩
  by_cases hb1 : 1048576 < t1
  · go_wp2
    go_ret
    exact ⟨rfl, Below.refl _ _⟩
  go_wp2_with fail
  refine (zzCluster a cap ms w HS.out hl).mono ?_
  rintro e w1 ⟨v, rfl, ⟨c, cc, rfl, hc1, hc2, hsc⟩, hbel1⟩
  have B1 : Hid (Below w.heap.size w w1) := hbel1
  have HC : Hid (Seg w1 c ms) := hsc
  clear hbel1 hsc
  go_wp2_with fail
  refine (hasID id a cap ms w1 (HS.out.later B1.out) hl).mono ?_
  rintro e w' ⟨rfl, rfl⟩
  have HQ1 : Hid (sameB (fil id ms) ms = !hasB ms id) := same_fil id ms
  have HQ2 : Hid (sameB ms (fil id ms) = !hasB ms id) := (same_sym _ _).trans (same_fil id ms)
  revert HQ1 HQ2
  generalize hasB ms id = z
  intro HQ1 HQ2
  go_wp2_with fail
  refine (zzWithout id c _ cc ms w1 rfl HC.out hl).mono ?_
  rintro e w2 ⟨v, rfl, ⟨d, dc, rfl, hd1, hd2, hsd⟩, hbel2⟩
  have B2 : Hid (Below w.heap.size w w2) := below_here B1.out hbel2
  have HC2 : Hid (Seg w2 c ms) := HC.out.later hbel2
  have HD2 : Hid (Seg w2 d (fil id ms)) := hsd
  have hfl := fil_len id ms
  clear hbel2 hsd B1 HC
  cases z
  all_goals
    go_wp2_with fail
    refine (zzEqual_is _ d c _ _ dc cc (fil id ms) ms w2 rfl rfl HD2.out HC2.out (by omega) hl HQ1.out).mono ?_
    rintro e w3 ⟨rfl, q3, rfl⟩
    go_wp2_with fail
    refine (zzEqual_is _ c d _ _ cc dc ms (fil id ms) _ rfl rfl (HC2.out.drewN _) (HD2.out.drewN _) hl (by omega) HQ2.out).mono ?_
    rintro e w4 ⟨rfl, q4, rfl⟩
    go_wp2
    go_ret
    exact ⟨rfl, below_drewN B2.out _⟩

end Go.Proofs.Qxb6621681a
