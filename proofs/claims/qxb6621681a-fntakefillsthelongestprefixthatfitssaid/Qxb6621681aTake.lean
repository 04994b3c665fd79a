import Derived.Test.Qxb6621681aRows
import Derived.WalkKit
import Derived.WalkSpells
import Derived.WalkLawsBesides
import Derived.Deep.QuietTactic
import Derived.BigQuiet
namespace Go.Proofs.Qxb6621681a
open Go.RowKit

/-- What 'take' answers at a request of c commands of n bytes, offered a command of l bytes. -/
def tookB (c n l : Int) : Bool := decide (c ≤ 0) || (decide (c ≠ 1024) && decide (n + l ≤ 4194304))

set_option maxHeartbeats 400000 in
theorem zzTake_yes (c n : Int) (a : Option Addr) (len cap : Nat) (w : World) (hc : 0 ≤ c) (hc' : c ≤ 1024) (hn : 0 ≤ n) (hn' : n ≤ 4294967296) (hl : len ≤ 1048576)
    (ht : tookB c n len = true) :
    Calls Try.prog 20 #[.int .i64 c, .int .i64 n, .slice a len cap] w fun e w' => e = .returned (.tuple #[.int .i64 (c + 1), .int .i64 (n + len), .bool true]) ∧ Below w.heap.size w w' := by
  have h : c = 0 ∨ (0 < c ∧ c < 1024 ∧ n + len ≤ 4194304) := by
    simp [tookB] at ht; omega
  clear ht
  rcases h with h | ⟨h1, h2, h3⟩
  · subst h
    go_enter Try.func20, Try.ntmps20
    go_wp2
    go_quiet (fail)
    go_wp2
    go_ret3
    exact ⟨rfl, below_drewN ((Below.refl _ _).alloc (Nat.le_refl _) _) _⟩
  · have h4 : (c == 1024) = false := by simp; omega
    have h5 : decide (4194304 < n + (len : Int)) = false := by simp; omega
    go_enter Try.func20, Try.ntmps20
    go_wp2
    go_quiet (fail)
    go_wp2
    go_ret3
    exact ⟨rfl, below_drewN ((Below.refl _ _).alloc (Nat.le_refl _) _) _⟩

set_option maxHeartbeats 400000 in
theorem zzTake_no (c n : Int) (a : Option Addr) (len cap : Nat) (w : World) (hc : 0 ≤ c) (hc' : c ≤ 1024) (hn : 0 ≤ n) (hn' : n ≤ 4294967296) (hl : len ≤ 1048576)
    (ht : tookB c n len = false) :
    Calls Try.prog 20 #[.int .i64 c, .int .i64 n, .slice a len cap] w fun e w' => e = .returned (.tuple #[.int .i64 c, .int .i64 n, .bool false]) ∧ Below w.heap.size w w' := by
  have h : 0 < c ∧ (c = 1024 ∨ (c < 1024 ∧ 4194304 < n + len)) := by
    simp [tookB] at ht; omega
  clear ht
  obtain ⟨h1, h | ⟨h2, h3⟩⟩ := h
  · subst h
    go_enter Try.func20, Try.ntmps20
    go_wp2
    go_quiet (fail)
    go_wp2
    go_ret3
    exact ⟨rfl, below_drewN ((Below.refl _ _).alloc (Nat.le_refl _) _) _⟩
  · have h4 : (c == 1024) = false := by simp; omega
    have h5 : decide (4194304 < n + (len : Int)) = true := by simp; omega
    go_enter Try.func20, Try.ntmps20
    go_wp2
    go_quiet (fail)
    go_wp2
    go_ret3
    exact ⟨rfl, below_drewN ((Below.refl _ _).alloc (Nat.le_refl _) _) _⟩


/-- What a take leaves: commands, bytes. -/
def tookC (c n l : Int) : Int := if tookB c n l = true then c + 1 else c
def tookN (c n l : Int) : Int := if tookB c n l = true then n + l else n

theorem zzTake_any (c n : Int) (a : Option Addr) (len cap : Nat) (w : World) (hc : 0 ≤ c) (hc' : c ≤ 1024) (hn : 0 ≤ n) (hn' : n ≤ 4294967296) (hl : len ≤ 1048576) :
    Calls Try.prog 20 #[.int .i64 c, .int .i64 n, .slice a len cap] w fun e w' => e = .returned (.tuple #[.int .i64 (tookC c n len), .int .i64 (tookN c n len), .bool (tookB c n len)]) ∧ Below w.heap.size w w' := by
  unfold tookC tookN
  cases h : tookB c n len
  · simpa using zzTake_no c n a len cap w hc hc' hn hn' hl h
  · simpa using zzTake_yes c n a len cap w hc hc' hn hn' hl h

theorem tookC_bd (c n l : Int) (hc : 0 ≤ c) (hc' : c ≤ 1024) : 0 ≤ tookC c n l ∧ tookC c n l ≤ 1024 := by
  unfold tookC; split
  · rename_i h; simp [tookB] at h; omega
  · omega
theorem tookN_bd (c n l : Int) (hl : 0 ≤ l) : n ≤ tookN c n l ∧ tookN c n l ≤ n + l := by
  unfold tookN; split <;> omega

set_option maxHeartbeats 400000 in
theorem zzBytes22 (c n : Int) (a b : Option Addr) (la ca lb cb : Nat) (w : World) (ha : la ≤ maxLen) (hb : lb ≤ maxLen) :
    Calls Try.prog 22 #[.int .i64 c, .int .i64 n, .slice a la ca, .slice b lb cb] w fun e w' => e = .returned (.bool (decide (la + lb ≤ 1048576))) ∧ w' = w := by
  unfold maxLen at ha hb
  by_cases h1 : la ≤ 1048576
  · by_cases h2 : lb ≤ 1048576
    · by_cases h3 : la + lb ≤ 1048576
      · go_enter Try.func22, Try.ntmps22
        go_wp2
        go_ret
        exact ⟨by simp [h3], rfl⟩
      · go_enter Try.func22, Try.ntmps22
        go_wp2
        go_ret
        exact ⟨by simp [h3], rfl⟩
    · have h3 : ¬ la + lb ≤ 1048576 := by omega
      go_enter Try.func22, Try.ntmps22
      go_wp2
      go_ret
      exact ⟨by simp [h3], rfl⟩
  · have h3 : ¬ la + lb ≤ 1048576 := by omega
    go_enter Try.func22, Try.ntmps22
    go_wp2
    go_ret
    exact ⟨by simp [h3], rfl⟩

end Go.Proofs.Qxb6621681a
