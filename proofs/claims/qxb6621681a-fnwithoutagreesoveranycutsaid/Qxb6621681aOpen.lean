import Derived.Test.Qxb6621681aMs
import Derived.ProofKit
import Derived.OpenShut
import Derived.ShutString
import Derived.ChangeOld
import Derived.Below
import Derived.Deep.SlicePairs
namespace Go.Proofs.Qxb6621681a
open Go.ChangeShapes Go.WideShapes Go.ChangeAt Go.RowKit
set_option linter.unusedVariables false

theorem Try.cells31 : Try.prog.cellsOf 31 = 2 := by kernel_rfl
theorem Try.cells29 : Try.prog.cellsOf 29 = 1 := by kernel_rfl
theorem Try.cells9 : Try.prog.cellsOf 9 = 1 := by kernel_rfl

/-- A slice of members that came in, opened. -/
theorem open_ms {H : Type} {enc : TypeId × Value → H} {W : World} {base : Nat} {fuel : Nat} {a : Option Addr} {len cap : Nat} {x : DataW H × List MemPlace}
    (hf : DataW.trod enc Try.prog W base (fun _ => true) true fuel 22 [.slice a len cap] = some x) :
    ∃ ms : List (Int × ByteArray), ms.length = len ∧ Seg W a ms ∧ Fit ms ∧ ms.length ≤ maxLen := by
  rcases Deep.open_slice_pairs Try.underlying22 Try.underlying31 Try.cells31 rfl rfl Try.cells29 Try.cells9 hf with ⟨hcs, _⟩ | ⟨y, l, c, m, n, V0, V1, D0, D1, P0, P1, hcs, _, hl, hm, hmm, _, hcell⟩
  · simp at hcs
    obtain ⟨rfl, rfl, rfl⟩ := hcs
    exact ⟨[], rfl, .inl rfl, fun m hm => by simp at hm, Nat.zero_le _⟩
  · simp at hcs
    obtain ⟨rfl, rfl, rfl⟩ := hcs
    simp at hmm
    subst hmm
    have each : ∀ i, i < m → ∃ q : Int × ByteArray, V0 i = .int .u32 q.1 ∧ V1 i = .string q.2 ∧ 0 ≤ q.1 ∧ q.1 ≤ 4294967295 ∧ q.2.size ≤ maxLen := by
      intro i hi
      obtain ⟨_, _, h0, h1⟩ := hcell i hi
      obtain ⟨z, e0, _, w0⟩ := DataW.trod_int Try.underlying29 h0
      obtain ⟨s, e1, _, w1⟩ := DataW.trod_string Try.underlying9 h1
      simp at e0 e1
      have hb := bounds_u32 w0
      exact ⟨(z, s), e0, e1, hb.1, by have := hb.2; omega, w1⟩
    have : Inhabited (Int × ByteArray) := ⟨(0, ⟨#[]⟩)⟩
    obtain ⟨q, hq⟩ := Deep.choose_lt each
    refine ⟨(List.range len).map q, by simp, ?_, ?_, by simp; omega⟩
    · by_cases h0 : len = 0
      · subst h0; exact .inl rfl
      · right
        obtain ⟨b, off, spot⟩ := y
        have hspot : spot = none := by simpa [Addr.add] using World.cell?_spot (hcell 0 (by omega)).1
        subst hspot
        refine ⟨b, off, rfl, fun i z s hi => ?_⟩
        have hlt : i < len := by
          have := (List.getElem?_eq_some_iff.1 hi).1
          simpa using this
        simp [hlt] at hi
        obtain ⟨c0, c1, _, _⟩ := hcell i (by omega)
        obtain ⟨v0, v1, _⟩ := hq i (by omega)
        rw [add_plain] at c0 c1
        rw [v0, hi] at c0
        rw [v1, hi] at c1
        exact ⟨c0, by rw [Nat.add_assoc]; exact c1⟩
    · intro mm hmem
      obtain ⟨i, hi, rfl⟩ := List.mem_map.1 hmem
      have := List.mem_range.1 hi
      obtain ⟨_, _, r1, r2, r3⟩ := hq i (by omega)
      exact ⟨r1, r2, r3⟩

theorem ownAll : ownKnob Try.prog.godebug = none := by kernel_rfl
theorem laidOutAll : laidOutB Try.prog = true := by kernel_rfl

end Go.Proofs.Qxb6621681a
