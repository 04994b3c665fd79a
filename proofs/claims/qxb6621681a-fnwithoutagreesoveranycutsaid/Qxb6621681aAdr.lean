import Derived.Test.Qxb6621681aClu
namespace Go.Proofs.Qxb6621681a
open Go.RowKit
set_option linter.unusedVariables false
set_option linter.unusedSimpArgs false

theorem zzWithout (id : Int) (a : Option Addr) (n cap : Nat) (ms : List (Int × ByteArray)) (w : World) (e1 : ms.length = n) (hs : Seg w a ms) (hn : n ≤ 1048576) :
    Calls Try.prog 15 #[.slice a n cap, .int .u32 id] w fun e w' => ∃ v, e = .returned v ∧ Held w' v (fil id ms) ∧ Below w.heap.size w w' := by
  subst e1
  have HS : Hid (Seg w a ms) := hs
  clear hs
  go_enter Try.func15, Try.ntmps15
  go_wp2_with fail
  refine (without24 id a cap ms w HS.out hn).mono ?_
  rintro e w' ⟨v, rfl, hh, hb⟩
  go_wp2
  go_ret
  exact ⟨v, rfl, hh, hb⟩

/-- The first address of an id; else the empty string. -/
def adrOf (ms : List (Int × ByteArray)) (id : Int) : ByteArray := ((ms.find? fun m => m.1 == id).map (·.2)).getD ⟨#[]⟩

theorem adr_found {ms : List (Int × ByteArray)} {id : Int} {k : Nat} {x : Int} {s : ByteArray} (h0 : hasB (ms.take k) id = false) (hk : ms[k]? = some (x, s)) (hx : x = id) : adrOf ms id = s ∧ hasB ms id = true := by
  have hsplit : ms = ms.take k ++ (x, s) :: ms.drop (k + 1) := by
    have hlt := (List.getElem?_eq_some_iff.1 hk).1
    have := (List.getElem?_eq_some_iff.1 hk).2
    conv => lhs; rw [← List.take_append_drop k ms, List.drop_eq_getElem_cons hlt, this]
  have hnone : (ms.take k).find? (fun m => m.1 == id) = none := by
    rw [List.find?_eq_none]
    intro m hm
    simp only [hasB, List.any_eq_false] at h0
    exact h0 m hm
  constructor
  · unfold adrOf
    rw [hsplit, List.find?_append, hnone]
    simp [hx]
  · simp only [hasB, List.any_eq_true]
    exact ⟨(x, s), List.mem_of_getElem? hk, by simpa using hx⟩
theorem adr_none {ms : List (Int × ByteArray)} {id : Int} (h0 : hasB ms id = false) : adrOf ms id = ⟨#[]⟩ := by
  unfold adrOf
  have : ms.find? (fun m => m.1 == id) = none := by
    rw [List.find?_eq_none]
    intro m hm
    simp only [hasB, List.any_eq_false] at h0
    exact h0 m hm
  rw [this]; rfl
theorem has_step {ms : List (Int × ByteArray)} {id : Int} {k : Nat} {x : Int} {s : ByteArray} (h0 : hasB (ms.take k) id = false) (hk : ms[k]? = some (x, s)) (hx : (x == id) = false) : hasB (ms.take (k + 1)) id = false := by
  rw [List.take_add_one, hk]
  simp only [hasB, Option.toList_some, List.any_append, List.any_cons, List.any_nil, Bool.or_false] at h0 ⊢
  rw [h0, hx]; rfl

theorem ret_two {a b : ByteArray} {p q : Bool} (h : a = b) (h' : p = q) : Ending.returned (.tuple #[.string a, .bool p]) = .returned (.tuple #[.string b, .bool q]) := by rw [h, h']

set_option maxRecDepth 100000 in
set_option maxHeartbeats 1000000 in
theorem address18 (id : Int) (a : Option Addr) (n cap : Nat) (ms : List (Int × ByteArray)) (w : World) (e1 : ms.length = n) (hs : Seg w a ms) (hn : n ≤ 1048576) :
    Calls Try.prog 18 #[.slice a n cap, .int .u32 id] w fun e w' => e = .returned (.tuple #[.string (adrOf ms id), .bool (hasB ms id)]) ∧ Below w.heap.size w w' := by
  subst e1
  have HS : Hid (Seg w a ms) := hs
  clear hs
  go_enter Try.func18, Try.ntmps18
  go_wp2
  go_loopw [10] (fun i wr => ∃ k : Nat, k ≤ ms.length ∧ i = .int .i64 k ∧ Hid (hasB (ms.take k) id = false) ∧ Hid (Below w.heap.size w wr)) (fun i _ => ms.length - (intOf i).toNat)
  case atStart => exact ⟨0, Nat.zero_le _, rfl, by show _ = _; simp [hasB], Below.refl _ _⟩
  case round =>
    obtain ⟨k, hk, rfl, HH, HB⟩ := hrel
    have hsz := HB.out.size
    by_cases hlt : k < ms.length
    · obtain ⟨b, off, x, s, rfl, hx, hc1, hc2⟩ := (HS.out.later HB.out).at hlt
      have HX : Hid (ms[k]? = some (x, s)) := hx
      clear hx
      by_cases he : x = id
      · have hb : (x == id) = true := by simpa using he
        have hf := adr_found HH.out HX.out he
        have HE : Hid (adrOf ms id = s) := hf.1
        have HE' : Hid (hasB ms id = true) := hf.2
        clear he hf
        go_wp2
        go_ret2
        exact ⟨ret_two HE.out.symm HE'.out.symm, HB.out.alloc hsz _⟩
      · have hb : (x == id) = false := by simpa using he
        have HN : Hid (hasB (ms.take (k + 1)) id = false) := has_step HH.out HX.out hb
        clear he
        go_wp2
        go_roundw
        case rel => exact ⟨k + 1, by omega, by go_num, HN, HB.out.alloc hsz _⟩
        case measure => simp [intOf]; omega
    · have HE : Hid (hasB ms id = false) := by
        have h1 := HH.out
        rwa [List.take_of_length_le (by omega)] at h1
      have HE' : Hid (adrOf ms id = ⟨#[]⟩) := adr_none HE.out
      go_wp2
      go_ret2
      exact ⟨ret_two HE'.out.symm HE.out.symm, HB.out⟩

end Go.Proofs.Qxb6621681a
