import Derived.Test.Qxb6621681aRows
import Derived.WalkKit
import Derived.WalkSpells
import Derived.WalkLawsBesides
import Derived.Deep.QuietTactic
import Derived.BigQuiet
namespace Go.Proofs.Qxb6621681a
open Go.RowKit
set_option linter.unusedVariables false
set_option linter.unusedSimpArgs false

/-- A row of members (an id, an address) in memory: from address a on, two cells a member. -/
def Seg (w : World) (a : Option Addr) (ms : List (Int × ByteArray)) : Prop :=
  ms = [] ∨ ∃ b off, a = some ⟨b, off, none⟩ ∧ ∀ i x s, ms[i]? = some (x, s) → w.cell? ⟨b, off + i * 2, none⟩ = some (.int .u32 x) ∧ w.cell? ⟨b, off + i * 2 + 1, none⟩ = some (.string s)

/-- What an id and an address may be. -/
def Fit (ms : List (Int × ByteArray)) : Prop := ∀ m, m ∈ ms → 0 ≤ m.1 ∧ m.1 ≤ 4294967295 ∧ m.2.size ≤ maxLen

theorem Seg.later {w w' : World} {a : Option Addr} {ms : List (Int × ByteArray)} (h : Seg w a ms) (hb : Below w.heap.size w w') : Seg w' a ms := by
  rcases h with h | ⟨b, off, h1, h2⟩
  · exact .inl h
  · exact .inr ⟨b, off, h1, fun i x s hi => ⟨cell_later hb (h2 i x s hi).1, cell_later hb (h2 i x s hi).2⟩⟩

theorem Seg.at {w : World} {a : Option Addr} {ms : List (Int × ByteArray)} (h : Seg w a ms) {k : Nat} (hk : k < ms.length) :
    ∃ b off x s, a = some ⟨b, off, none⟩ ∧ ms[k]? = some (x, s) ∧ w.cell? ⟨b, off + k * 2, none⟩ = some (.int .u32 x) ∧ w.cell? ⟨b, off + k * 2 + 1, none⟩ = some (.string s) := by
  rcases h with rfl | ⟨b, off, h1, h2⟩
  · simp at hk
  · have hx : ms[k]? = some (ms[k].1, ms[k].2) := by simp [hk]
    exact ⟨b, off, _, _, h1, hx, h2 _ _ _ hx⟩

theorem Fit.at {ms : List (Int × ByteArray)} (h : Fit ms) {k : Nat} {x : Int} {s : ByteArray} (hk : ms[k]? = some (x, s)) : 0 ≤ x ∧ x ≤ 4294967295 ∧ s.size ≤ maxLen :=
  h (x, s) (List.mem_of_getElem? hk)

set_option maxRecDepth 100000 in
set_option maxHeartbeats 400000 in
theorem membersBytes (st : Int) (a : Option Addr) (cap : Nat) (ms : List (Int × ByteArray)) (w : World) (hs : Seg w a ms) (hf : Fit ms) (h0 : 0 ≤ st) (h1 : st ≤ 1048576) (hn : ms.length ≤ 1048576) :
    Calls Try.prog 10 #[.int .i64 st, .slice a ms.length cap] w fun e w' => ∃ t : Int, e = .returned (.int .i64 t) ∧ 0 ≤ t ∧ w = w' := by
  have HS : Hid (Seg w a ms) := hs
  have HF : Hid (Fit ms) := hf
  clear hs hf
  go_enter Try.func10, Try.ntmps10
  go_wp2
  go_loop [5, 6] (fun z i => ∃ (k : Nat) (t : Int), k ≤ ms.length ∧ 0 ≤ t ∧ t ≤ 1048576 ∧ z = .int .i64 t ∧ i = .int .i64 k) (fun _ i => ms.length - (intOf i).toNat)
  case atStart => exact ⟨0, st, Nat.zero_le _, h0, h1, rfl, rfl⟩
  case round =>
    obtain ⟨k, t, hk, ht0, ht1, rfl, rfl⟩ := hrel
    by_cases hlt : k < ms.length
    · obtain ⟨b, off, x, s, rfl, hx, hc1, hc2⟩ := HS.out.at hlt
      have hsz := (HF.out.at hx).2.2
      unfold maxLen at hsz
      clear hx
      by_cases h2 : s.size ≤ 1048576
      · by_cases h3 : t + (24 + (s.size : Int)) ≤ 1048576
        · go_wp2
          go_round
          case rel => exact ⟨k + 1, _, by omega, by omega, h3, rfl, by go_num⟩
          case measure => simp [intOf]; omega
        · go_wp2
          go_ret
          exact ⟨_, rfl, by omega, rfl⟩
      · go_wp2
        go_ret
        exact ⟨_, rfl, by omega, rfl⟩
    · go_wp2
      go_ret
      exact ⟨_, rfl, ht0, rfl⟩

/-- It answers a bool; where it answers true, p holds; the world stands. -/
def AnsB (e : Ending) (w w' : World) (p : Prop) : Prop := ∃ t : Bool, e = .returned (.bool t) ∧ (t = true → p) ∧ w = w'
theorem ansB {w : World} {p : Prop} (t : Bool) (h : t = true → p) : AnsB (.returned (.bool t)) w w p := ⟨t, rfl, h, rfl⟩
theorem ansF {w : World} {p : Prop} : AnsB (.returned (.bool false)) w w p := ⟨false, rfl, fun h => (by cases h), rfl⟩

set_option maxRecDepth 100000 in
set_option maxHeartbeats 400000 in
theorem zzBytes13 (id : Int) (a : Option Addr) (cap : Nat) (ms : List (Int × ByteArray)) (w : World) (hs : Seg w a ms) (hf : Fit ms) (hn : ms.length ≤ maxLen) :
    Calls Try.prog 13 #[.slice a ms.length cap, .int .u32 id] w fun e w' => AnsB e w w' (ms.length ≤ 1048576) := by
  unfold maxLen at hn
  have HS : Hid (Seg w a ms) := hs
  have HF : Hid (Fit ms) := hf
  clear hs hf
  by_cases h1 : ms.length ≤ 1048576
  · go_enter Try.func13, Try.ntmps13
    go_wp2
    go_loop [5, 6] (fun z i => ∃ (k : Nat) (t : Int), k ≤ ms.length ∧ 0 ≤ t ∧ t ≤ 1048576 ∧ z = .int .i64 t ∧ i = .int .i64 k) (fun _ i => ms.length - (intOf i).toNat)
    case atStart => exact ⟨0, ms.length, Nat.zero_le _, by omega, by omega, rfl, rfl⟩
    case round =>
      obtain ⟨k, t, hk, ht0, ht1, rfl, rfl⟩ := hrel
      by_cases hlt : k < ms.length
      · obtain ⟨b, off, x, s, rfl, hx, hc1, hc2⟩ := HS.out.at hlt
        have hsz := (HF.out.at hx).2.2
        unfold maxLen at hsz
        clear hx
        by_cases h2 : s.size ≤ 1048576
        · by_cases h3 : t + (s.size : Int) ≤ 1048576
          · go_wp2
            go_round
            case rel => exact ⟨k + 1, _, by omega, by omega, h3, rfl, by go_num⟩
            case measure => simp [intOf]; omega
          · go_wp2
            go_ret
            exact ansB _ fun _ => (by first | trivial | exact h1)
        · go_wp2
          go_ret
          exact ansB _ fun _ => (by first | trivial | exact h1)
      · go_wp2
        go_ret
        exact ansB _ fun _ => (by first | trivial | exact h1)
  · go_enter Try.func13, Try.ntmps13
    go_wp2
    go_ret
    exact ansF

set_option maxRecDepth 100000 in
set_option maxHeartbeats 400000 in
theorem zzBytes16 (id k' : Int) (a : Option Addr) (cap : Nat) (ms : List (Int × ByteArray)) (w : World) (hs : Seg w a ms) (hf : Fit ms) (hn : ms.length ≤ maxLen) :
    Calls Try.prog 16 #[.slice a ms.length cap, .int .u32 id, .int .i64 k'] w fun e w' => AnsB e w w' (ms.length ≤ 1048576) := by
  unfold maxLen at hn
  have HS : Hid (Seg w a ms) := hs
  have HF : Hid (Fit ms) := hf
  clear hs hf
  by_cases h1 : ms.length ≤ 1048576
  · go_enter Try.func16, Try.ntmps16
    go_wp2
    go_loop [7, 8] (fun z i => ∃ (k : Nat) (t : Int), k ≤ ms.length ∧ 0 ≤ t ∧ t ≤ 1048576 ∧ z = .int .i64 t ∧ i = .int .i64 k) (fun _ i => ms.length - (intOf i).toNat)
    case atStart => exact ⟨0, ms.length, Nat.zero_le _, by omega, by omega, rfl, rfl⟩
    case round =>
      obtain ⟨k, t, hk, ht0, ht1, rfl, rfl⟩ := hrel
      by_cases hlt : k < ms.length
      · obtain ⟨b, off, x, s, rfl, hx, hc1, hc2⟩ := HS.out.at hlt
        have hsz := (HF.out.at hx).2.2
        unfold maxLen at hsz
        clear hx
        by_cases h2 : s.size ≤ 1048576
        · by_cases h3 : t + (s.size : Int) ≤ 1048576
          · go_wp2
            go_round
            case rel => exact ⟨k + 1, _, by omega, by omega, h3, rfl, by go_num⟩
            case measure => simp [intOf]; omega
          · go_wp2
            go_ret
            exact ansB _ fun _ => (by first | trivial | exact h1)
        · go_wp2
          go_ret
          exact ansB _ fun _ => (by first | trivial | exact h1)
      · go_wp2
        go_ret
        exact ansB _ fun _ => (by first | trivial | exact h1)
  · go_enter Try.func16, Try.ntmps16
    go_wp2
    go_ret
    exact ansF

set_option maxRecDepth 100000 in
set_option maxHeartbeats 400000 in
theorem zzBytes17 (x' y' : Int) (a : Option Addr) (cap : Nat) (ms : List (Int × ByteArray)) (w : World) (hs : Seg w a ms) (hf : Fit ms) (hn : ms.length ≤ maxLen) :
    Calls Try.prog 17 #[.slice a ms.length cap, .int .u32 x', .int .u32 y'] w fun e w' => AnsB e w w' (ms.length ≤ 1048576) := by
  unfold maxLen at hn
  have HS : Hid (Seg w a ms) := hs
  have HF : Hid (Fit ms) := hf
  clear hs hf
  by_cases h1 : ms.length ≤ 1048576
  · go_enter Try.func17, Try.ntmps17
    go_wp2
    go_loop [7, 8] (fun z i => ∃ (k : Nat) (t : Int), k ≤ ms.length ∧ 0 ≤ t ∧ t ≤ 1048576 ∧ z = .int .i64 t ∧ i = .int .i64 k) (fun _ i => ms.length - (intOf i).toNat)
    case atStart => exact ⟨0, ms.length, Nat.zero_le _, by omega, by omega, rfl, rfl⟩
    case round =>
      obtain ⟨k, t, hk, ht0, ht1, rfl, rfl⟩ := hrel
      by_cases hlt : k < ms.length
      · obtain ⟨b, off, x, s, rfl, hx, hc1, hc2⟩ := HS.out.at hlt
        have hsz := (HF.out.at hx).2.2
        unfold maxLen at hsz
        clear hx
        by_cases h2 : s.size ≤ 1048576
        · by_cases h3 : t + (s.size : Int) ≤ 1048576
          · go_wp2
            go_round
            case rel => exact ⟨k + 1, _, by omega, by omega, h3, rfl, by go_num⟩
            case measure => simp [intOf]; omega
          · go_wp2
            go_ret
            exact ansB _ fun _ => (by first | trivial | exact h1)
        · go_wp2
          go_ret
          exact ansB _ fun _ => (by first | trivial | exact h1)
      · go_wp2
        go_ret
        exact ansB _ fun _ => (by first | trivial | exact h1)
  · go_enter Try.func17, Try.ntmps17
    go_wp2
    go_ret
    exact ansF

set_option maxRecDepth 100000 in
set_option maxHeartbeats 400000 in
theorem zzBytes9 (k' : Int) (a a' : Option Addr) (cap cap' : Nat) (ms ms' : List (Int × ByteArray)) (w : World) (hs : Seg w a ms) (hf : Fit ms) (hn : ms.length ≤ maxLen) (hs' : Seg w a' ms') (hf' : Fit ms') (hn' : ms'.length ≤ maxLen) :
    Calls Try.prog 9 #[.slice a ms.length cap, .slice a' ms'.length cap', .int .i64 k'] w fun e w' => AnsB e w w' (ms.length ≤ 1048576 ∧ ms'.length ≤ 1048576) := by
  unfold maxLen at hn hn'
  have HS : Hid (Seg w a ms) := hs
  have HF : Hid (Fit ms) := hf
  have HS' : Hid (Seg w a' ms') := hs'
  have HF' : Hid (Fit ms') := hf'
  clear hs hf hs' hf'
  by_cases h1 : ms.length ≤ 1048576
  · go_enter Try.func9, Try.ntmps9
    go_wp2
    go_loop [7, 8] (fun z i => ∃ (k : Nat) (t : Int), k ≤ ms.length ∧ 0 ≤ t ∧ t ≤ 1048576 ∧ z = .int .i64 t ∧ i = .int .i64 k) (fun _ i => ms.length - (intOf i).toNat)
    case atStart => exact ⟨0, ms.length, Nat.zero_le _, by omega, by omega, rfl, rfl⟩
    case round =>
      obtain ⟨k, t, hk, ht0, ht1, rfl, rfl⟩ := hrel
      by_cases hlt : k < ms.length
      · obtain ⟨b, off, x, s, rfl, hx, hc1, hc2⟩ := HS.out.at hlt
        have hsz := (HF.out.at hx).2.2
        unfold maxLen at hsz
        clear hx
        by_cases h2 : s.size ≤ 1048576
        · by_cases h3 : t + (s.size : Int) ≤ 1048576
          · go_wp2
            go_round
            case rel => exact ⟨k + 1, _, by omega, by omega, h3, rfl, by go_num⟩
            case measure => simp [intOf]; omega
          · go_wp2
            go_ret
            exact ansF
        · go_wp2
          go_ret
          exact ansF
      · by_cases h4 : ms'.length ≤ 1048576
        · by_cases h5 : t + (ms'.length : Int) ≤ 1048576
          · go_wp2
            go_loop [7, 9] (fun z i => ∃ (k : Nat) (t : Int), k ≤ ms'.length ∧ 0 ≤ t ∧ t ≤ 1048576 ∧ z = .int .i64 t ∧ i = .int .i64 k) (fun _ i => ms'.length - (intOf i).toNat)
            case atStart => exact ⟨0, _, Nat.zero_le _, by omega, h5, rfl, rfl⟩
            case round =>
              obtain ⟨k2, t2, hk2, ht2, ht3, rfl, rfl⟩ := hrel
              by_cases hlt2 : k2 < ms'.length
              · obtain ⟨b, off, x, s, rfl, hx, hc1, hc2⟩ := HS'.out.at hlt2
                have hsz := (HF'.out.at hx).2.2
                unfold maxLen at hsz
                clear hx
                by_cases h2 : s.size ≤ 1048576
                · by_cases h3 : t2 + (s.size : Int) ≤ 1048576
                  · go_wp2
                    go_round
                    case rel => exact ⟨k2 + 1, _, by omega, by omega, h3, rfl, by go_num⟩
                    case measure => simp [intOf]; omega
                  · go_wp2
                    go_ret
                    exact ansF
                · go_wp2
                  go_ret
                  exact ansF
              · go_wp2
                go_ret
                exact ansB _ fun _ => (by first | trivial | exact ⟨h1, h4⟩)
          · go_wp2
            go_ret
            exact ansF
        · go_wp2
          go_ret
          exact ansF
  · go_enter Try.func9, Try.ntmps9
    go_wp2
    go_ret
    exact ansF

theorem ret_bool' {a b : Bool} (h : a = b) : Ending.returned (.bool a) = .returned (.bool b) := by rw [h]

/-- Is there a member with this id? -/
def hasB (ms : List (Int × ByteArray)) (id : Int) : Bool := ms.any fun m => m.1 == id

set_option maxRecDepth 100000 in
set_option maxHeartbeats 400000 in
theorem hasID (id : Int) (a : Option Addr) (cap : Nat) (ms : List (Int × ByteArray)) (w : World) (hs : Seg w a ms) (hn : ms.length ≤ 1048576) :
    Calls Try.prog 14 #[.slice a ms.length cap, .int .u32 id] w fun e w' => e = .returned (.bool (hasB ms id)) ∧ w = w' := by
  have HS : Hid (Seg w a ms) := hs
  clear hs
  go_enter Try.func14, Try.ntmps14
  go_wp2
  go_loop [5] (fun i => ∃ (k : Nat), k ≤ ms.length ∧ Hid (hasB (ms.take k) id = false) ∧ i = .int .i64 k) (fun i => ms.length - (intOf i).toNat)
  case atStart => exact ⟨0, Nat.zero_le _, by show _ = _; simp [hasB], rfl⟩
  case round =>
    obtain ⟨k, hk, HH, rfl⟩ := hrel
    by_cases hlt : k < ms.length
    · obtain ⟨b, off, x, s, rfl, hx, hc1, hc2⟩ := HS.out.at hlt
      have HX : Hid (ms[k]? = some (x, s)) := hx
      clear hx
      by_cases he : x = id
      · have he' : (x == id) = true := by simpa using he
        have HE : Hid (hasB ms id = true) := by
          show _ = _
          simp only [hasB, List.any_eq_true]
          exact ⟨(x, s), List.mem_of_getElem? HX.out, he'⟩
        clear he
        go_wp2
        go_ret
        exact ⟨ret_bool' HE.out.symm, rfl⟩
      · have he' : (x == id) = false := by simpa using he
        have HE : Hid (hasB (ms.take (k + 1)) id = false) := by
          show _ = _
          have h1 := HH.out
          rw [List.take_add_one, HX.out]
          simp only [hasB, Option.toList_some, List.any_append, List.any_cons, List.any_nil, Bool.or_false] at h1 ⊢
          rw [h1, he']; rfl
        clear he
        go_wp2
        go_round
        case rel => exact ⟨k + 1, by omega, HE, by go_num⟩
        case measure => simp [intOf]; omega
    · have HE : Hid (hasB ms id = false) := by
        have h1 := HH.out
        rwa [List.take_of_length_le (by omega)] at h1
      go_wp2
      go_ret
      exact ⟨ret_bool' HE.out.symm, rfl⟩

end Go.Proofs.Qxb6621681a
