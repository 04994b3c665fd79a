import Derived.Test.Qxb6623326aDoorShelf
import Derived.Lib.ItoaLen
import Derived.Lib.ItoaMem
import Derived.WalkKit
import Derived.WalkSpells
import Derived.WalkLawsBesides
import Derived.Laws.IdiomStrings
namespace Go.Proofs.Qxb6623326aDoor
open Go.RowKit
set_option linter.unusedVariables false
set_option linter.unusedSimpArgs false

/-- The table reads as its initialiser lays it. -/
def Tab (w : World) : Prop := Lib.TabIs Tryd.prog w tabName .u64 Lib.pow10Tab

theorem Tab.later {w w' : World} (h : Tab w) (hb : Below w.heap.size w w') : Tab w' := by
  unfold Tab Lib.TabIs World.var? at *
  cases hg : Tryd.prog.globalNamed tabName with
  | none => simp [hg] at h
  | some g =>
    simp only [hg, Option.bind_some] at h ⊢
    have hlt : g < w.heap.size := by
      rcases Nat.lt_or_ge g w.heap.size with h' | h'
      · exact h'
      · rw [Array.getElem?_eq_none h'] at h; simp at h
    rw [hb.block g hlt]
    exact h

theorem below_grow {w w' : World} (h : ∃ k os, w' = Sort.grow (w.drewN k) os) : Below w.heap.size w w' := by
  obtain ⟨k, os, rfl⟩ := h
  refine ⟨rfl, rfl, rfl, by simp [Sort.grow], fun i hi => ?_⟩
  show (w.heap ++ os)[i]? = _
  rw [Array.getElem?_append, if_pos hi]
theorem below_on {w a b : World} (h : Below w.heap.size w a) (k : Below a.heap.size a b) : Below w.heap.size w b := h.trans (k.mono h.size)

/-- The bytes of a numeral. -/
def num (n : Int) : ByteArray := ⟨(Lib.itoa n).toArray⟩
theorem num_size (n : Int) (h0 : -9223372036854775808 ≤ n) (h1 : n ≤ 9223372036854775807) : (num n).size ≤ 21 := by
  have := Lib.itoa_length_le n h0 h1
  simpa [num, ByteArray.size] using this

theorem itoaNum (n : Int) (h0 : -9223372036854775808 ≤ n) (h1 : n ≤ 9223372036854775807) (w : World) (ht : Tab w) :
    Calls Tryd.prog 9 #[.int .i64 n] w fun e w' => e = .returned (.string (num n)) ∧ Below w.heap.size w w' :=
  (itoa9 n h0 h1 w ht).mono fun e w' ⟨he, hg⟩ => ⟨he, below_grow hg⟩

/-- opPlace. -/
theorem opPlace8 (s : ByteArray) (n : Int) (w : World) (hs : s.size ≤ 2097152) (h0 : -9223372036854775808 ≤ n) (h1 : n < 9223372036854775807) (ht : Tab w) :
    Calls Tryd.prog 8 #[.string s, .int .i64 n] w fun e w' => e = .returned (.string (s ++ num (n + 1))) ∧ Below w.heap.size w w' := by
  have HT : Hid (Tab w) := ht
  have hz := num_size (n + 1) (by omega) (by omega)
  clear ht
  go_enter Tryd.func8, Tryd.ntmps8
  go_wp2_with fail
  refine (itoaNum (n + 1) (by omega) (by omega) w HT.out).mono ?_
  rintro e w' ⟨rfl, hb⟩
  have hz' : (num (n + 1)).size ≤ 21 := hz
  go_wp2
  go_ret
  exact ⟨rfl, hb⟩

theorem zzOpPlace (s : ByteArray) (n : Int) (w : World) (hs : s.size ≤ 2097152) (h0 : -9223372036854775808 ≤ n) (h1 : n < 9223372036854775807) (ht : Tab w) :
    Calls Tryd.prog 6 #[.string s, .int .i64 n] w fun e w' => e = .returned (.string (s ++ num (n + 1))) ∧ Below w.heap.size w w' := by
  have HT : Hid (Tab w) := ht
  clear ht
  go_enter Tryd.func6, Tryd.ntmps6
  go_wp2_with fail
  refine (opPlace8 s n w hs h0 h1 HT.out).mono ?_
  rintro e w' ⟨rfl, hb⟩
  go_wp2
  go_ret
  exact ⟨rfl, hb⟩

theorem zzBytes5 (s : ByteArray) (n d : Int) (w : World) (hs : s.size ≤ maxLen) :
    Calls Tryd.prog 5 #[.string s, .int .i64 n, .int .u8 d] w fun e w' => e = .returned (.bool (decide (s.size ≤ 1048576))) ∧ w = w' := by
  unfold maxLen at hs
  by_cases h : s.size ≤ 1048576
  · go_enter Tryd.func5, Tryd.ntmps5
    go_wp2
    go_ret
    exact ⟨by simp [h], rfl⟩
  · go_enter Tryd.func5, Tryd.ntmps5
    go_wp2
    go_ret
    exact ⟨by simp [h], rfl⟩
theorem zzBytes7 (s : ByteArray) (n : Int) (w : World) (hs : s.size ≤ maxLen) :
    Calls Tryd.prog 7 #[.string s, .int .i64 n] w fun e w' => e = .returned (.bool (decide (s.size ≤ 1048576))) ∧ w = w' := by
  unfold maxLen at hs
  by_cases h : s.size ≤ 1048576
  · go_enter Tryd.func7, Tryd.ntmps7
    go_wp2
    go_ret
    exact ⟨by simp [h], rfl⟩
  · go_enter Tryd.func7, Tryd.ntmps7
    go_wp2
    go_ret
    exact ⟨by simp [h], rfl⟩

/-! ### The plain laws -/

theorem dec_snoc (m d : Nat) (hm : 1 ≤ m) (hd : d ≤ 9) : Lib.decDigits (10 * m + d) = Lib.decDigits m ++ [UInt8.ofNat (48 + d)] := by
  rw [Lib.decDigits, dif_neg (by omega), show (10 * m + d) / 10 = m by omega, show (10 * m + d) % 10 = d by omega]
theorem num_snoc (i d : Int) (hi : 0 ≤ i) (hd : 0 ≤ d) (hd' : d ≤ 9) : num (10 * (i + 1) + d - 1 + 1) = num (i + 1) ++ ⟨#[UInt8.ofNat (48 + d.toNat)]⟩ := by
  obtain ⟨m, rfl⟩ := Int.eq_ofNat_of_zero_le hi
  obtain ⟨e, rfl⟩ := Int.eq_ofNat_of_zero_le hd
  have h1 : (10 * ((m : Int) + 1) + e - 1 + 1) = ((10 * (m + 1) + e : Nat) : Int) := by omega
  have h2 : ((m : Int) + 1) = ((m + 1 : Nat) : Int) := by omega
  unfold num
  rw [h1, h2, Lib.itoa_nonneg, Lib.itoa_nonneg, dec_snoc (m + 1) e (by omega) (by omega), ByteArray.mk_append_mk]
  rfl
theorem num_neg (n : Int) (h : n ≤ -1) : num n = ⟨#[45]⟩ ++ num (-n) := by
  obtain ⟨m, hm⟩ := Int.eq_ofNat_of_zero_le (show 0 ≤ -n by omega)
  have h1 : n = -(m : Int) := by omega
  unfold num
  rw [hm, h1, Lib.itoa_neg m (by omega), Lib.itoa_nonneg, ByteArray.mk_append_mk]
  rfl

end Go.Proofs.Qxb6623326aDoor
