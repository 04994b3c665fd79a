import Derived.Test.Qxb6621681aMs
import Derived.Laws.StructEq
namespace Go.Proofs.Qxb6621681a
open Go.RowKit
set_option linter.unusedVariables false
set_option linter.unusedSimpArgs false

/-- 'equal': the same members in the same order. -/
def sameB (ms ms' : List (Int × ByteArray)) : Bool := decide (ms = ms')

theorem bytes_ne {s t : ByteArray} (h : s ≠ t) : ¬ s.toList = t.toList := fun e => h (by
  rw [ByteArray.toList_eq, ByteArray.toList_eq] at e
  obtain ⟨⟨x⟩⟩ := s
  obtain ⟨⟨y⟩⟩ := t
  simp at e; rw [e])

theorem below_here {w a b : World} (h : Below w.heap.size w a) (k : Below a.heap.size a b) : Below w.heap.size w b := h.trans (k.mono h.size)

theorem below_of_drew {w w' : World} (h : ∃ q, w' = w.drewN q) : Below w.heap.size w w' := by
  obtain ⟨q, rfl⟩ := h
  exact below_drewN (Below.refl _ _) q
theorem drew_more {w w' : World} (h : ∃ q, w' = w.drewN q) (n : Nat) : ∃ q, w'.drewN n = w.drewN q := by
  obtain ⟨q, rfl⟩ := h
  exact ⟨q + n, World.drewN_drewN ..⟩
theorem Seg.drewN {w : World} {a : Option Addr} {ms : List (Int × ByteArray)} (h : Seg w a ms) (n : Nat) : Seg (w.drewN n) a ms := h

theorem take_same {α : Type} {ms ms' : List α} {k : Nat} {m : α} (h : ms.take k = ms'.take k) (h1 : ms[k]? = some m) (h2 : ms'[k]? = some m) : ms.take (k + 1) = ms'.take (k + 1) := by
  rw [List.take_add_one, List.take_add_one, h, h1, h2]

theorem same_not {ms ms' : List (Int × ByteArray)} {k : Nat} {m m' : Int × ByteArray} (h1 : ms[k]? = some m) (h2 : ms'[k]? = some m') (h : m ≠ m') : sameB ms ms' = false := by
  simp only [sameB, decide_eq_false_iff_not]
  rintro rfl
  rw [h1] at h2
  exact h (Option.some.inj h2)

set_option maxRecDepth 100000 in
set_option maxHeartbeats 1000000 in
theorem equal23 (a a' : Option Addr) (cap cap' : Nat) (ms ms' : List (Int × ByteArray)) (w : World) (hs : Seg w a ms) (hs' : Seg w a' ms') (hn : ms.length ≤ 1048576) (hn' : ms'.length ≤ 1048576) :
    Calls Try.prog 23 #[.slice a ms.length cap, .slice a' ms'.length cap'] w fun e w' => e = .returned (.bool (sameB ms ms')) ∧ ∃ q, w' = w.drewN q := by
  have HS : Hid (Seg w a ms) := hs
  have HS' : Hid (Seg w a' ms') := hs'
  clear hs hs'
  by_cases hlen : ms.length = ms'.length
  · have hlb : ((ms.length : Int) != (ms'.length : Int)) = false := by rw [hlen]; simp
    have HL : Hid (ms.length = ms'.length) := hlen
    clear hlen
    go_enter Try.func23, Try.ntmps23
    go_wp2
    go_loopw [13] (fun i wr => ∃ k : Nat, k ≤ ms.length ∧ i = .int .i64 k ∧ Hid (ms.take k = ms'.take k) ∧ Hid (∃ q, wr = w.drewN q)) (fun i _ => ms.length - (intOf i).toNat)
    case atStart => exact ⟨0, Nat.zero_le _, rfl, rfl, 0, rfl⟩
    case round =>
      obtain ⟨k, hk, rfl, HT, HQ⟩ := hrel
      have HB : Hid (Below w.heap.size w wr) := below_of_drew HQ.out
      by_cases hlt : k < ms.length
      · have hlt' : k < ms'.length := by have := HL.out; omega
        obtain ⟨b, off, x, s, rfl, hx, hc1, hc2⟩ := (HS.out.later HB.out).at hlt
        obtain ⟨b', off', y, t, rfl, hy, hd1, hd2⟩ := (HS'.out.later HB.out).at hlt'
        have HX : Hid (ms[k]? = some (x, s)) := hx
        have HY : Hid (ms'[k]? = some (y, t)) := hy
        clear hx hy
        have i1 : (0 : Int) ≤ k := by omega
        have i2 : (k : Int) < ms.length := by omega
        have i3 : (k : Int) < ms'.length := by omega
        by_cases hxy : x = y
        · subst hxy
          by_cases hst : s = t
          · subst hst
            have HT' : Hid (ms.take (k + 1) = ms'.take (k + 1)) := take_same HT.out HX.out HY.out
            go_wp2
            go_quiet (fail)
            go_wp2
            go_roundw
            case rel => exact ⟨k + 1, by omega, by go_num, HT', drew_more HQ.out _⟩
            case measure => simp [intOf]; omega
          · have hst' := bytes_ne hst
            have HE : Hid (sameB ms ms' = false) := same_not HX.out HY.out (by simp [hst])
            go_wp2
            go_quiet (fail)
            go_wp2
            go_ret
            exact ⟨ret_bool' HE.out.symm, drew_more HQ.out _⟩
        · have HE : Hid (sameB ms ms' = false) := same_not HX.out HY.out (by simp [hxy])
          go_wp2
          go_quiet (fail)
          go_wp2
          go_ret
          exact ⟨ret_bool' HE.out.symm, drew_more HQ.out _⟩
      · have HE : Hid (sameB ms ms' = true) := by
          show _ = _
          have h1 := HT.out
          rw [List.take_of_length_le (by omega), List.take_of_length_le (by have := HL.out; omega)] at h1
          simp only [sameB, decide_eq_true_eq]
          exact h1
        go_wp2
        go_ret
        exact ⟨ret_bool' HE.out.symm, HQ.out⟩
  · have hlb : ((ms.length : Int) != (ms'.length : Int)) = true := by simp; omega
    have HE : Hid (sameB ms ms' = false) := by
      show _ = _
      simp only [sameB, decide_eq_false_iff_not]
      rintro rfl
      exact hlen rfl
    clear hlen
    go_enter Try.func23, Try.ntmps23
    go_wp2
    go_ret
    exact ⟨ret_bool' HE.out.symm, 0, rfl⟩

theorem zzEqual (a a' : Option Addr) (n n' cap cap' : Nat) (ms ms' : List (Int × ByteArray)) (w : World) (e1 : ms.length = n) (e2 : ms'.length = n') (hs : Seg w a ms) (hs' : Seg w a' ms') (hn : n ≤ 1048576) (hn' : n' ≤ 1048576) :
    Calls Try.prog 12 #[.slice a n cap, .slice a' n' cap'] w fun e w' => e = .returned (.bool (sameB ms ms')) ∧ ∃ q, w' = w.drewN q := by
  subst e1 e2
  have HS : Hid (Seg w a ms) := hs
  have HS' : Hid (Seg w a' ms') := hs'
  clear hs hs'
  go_enter Try.func12, Try.ntmps12
  go_wp2_with fail
  refine (equal23 a a' cap cap' ms ms' w HS.out HS'.out hn hn').mono ?_
  rintro e w' ⟨rfl, hb⟩
  go_wp2
  go_ret
  exact ⟨rfl, hb⟩

/-- The same, its answer told by a bool of the caller's. -/
theorem zzEqual_is (r : Bool) (a a' : Option Addr) (n n' cap cap' : Nat) (ms ms' : List (Int × ByteArray)) (w : World) (e1 : ms.length = n) (e2 : ms'.length = n') (hs : Seg w a ms) (hs' : Seg w a' ms') (hn : n ≤ 1048576) (hn' : n' ≤ 1048576) (hr : sameB ms ms' = r) :
    Calls Try.prog 12 #[.slice a n cap, .slice a' n' cap'] w fun e w' => e = .returned (.bool r) ∧ ∃ q, w' = w.drewN q := by
  subst hr
  exact zzEqual a a' n n' cap cap' ms ms' w e1 e2 hs hs' hn hn'

theorem Seg.drop {w : World} {a : Option Addr} {ms : List (Int × ByteArray)} (h : Seg w a ms) (k cap : Nat) (hc : ms.length ≤ cap) : Seg w (if cap = k then a else a.map (·.add (k * 2))) (ms.drop k) := by
  rcases h with rfl | ⟨b, off, rfl, hcell⟩
  · exact .inl (by simp)
  · by_cases hk : cap = k
    · exact .inl (by apply List.drop_eq_nil_of_le; omega)
    · refine .inr ⟨b, off + k * 2, ?_, fun i x s hi => ?_⟩
      · rw [if_neg hk]
        simp only [Option.map_some, Addr.add]
        split <;> simp_all
      · rw [List.getElem?_drop] at hi
        have := hcell _ _ _ hi
        rw [show off + k * 2 + i * 2 = off + (k + i) * 2 by omega]
        exact this
theorem Seg.take {w : World} {a : Option Addr} {ms : List (Int × ByteArray)} (h : Seg w a ms) (k : Nat) : Seg w a (ms.take k) := by
  rcases h with rfl | ⟨b, off, rfl, hcell⟩
  · exact .inl (by simp)
  · refine .inr ⟨b, off, rfl, fun i x s hi => ?_⟩
    rw [List.getElem?_take] at hi
    split at hi
    · exact hcell _ _ _ hi
    · cases hi

end Go.Proofs.Qxb6621681a
