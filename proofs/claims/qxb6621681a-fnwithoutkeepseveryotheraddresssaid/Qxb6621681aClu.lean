import Derived.Test.Qxb6621681aEqu
import Derived.Deep.RegionHeld3
import Derived.Deep.AppendLies
import Derived.Laws.Pointers
namespace Go.Proofs.Qxb6621681a
open Go.RowKit
set_option linter.unusedVariables false
set_option linter.unusedSimpArgs false

theorem Try.info37 : (Try.prog.info? 37).map (fun i => (i.zero, i.size, i.bytes)) = some (some (.agg #[.int .u32 0, .string ⟨#[]⟩]), 2, 24) := by kernel_rfl

/-- The cells of members. -/
def cellsL (ms : List (Int × ByteArray)) : List Value := ms.flatMap fun m => [.int .u32 m.1, .string m.2]

theorem cellsL_snoc (ms : List (Int × ByteArray)) (x : Int) (s : ByteArray) : cellsL (ms ++ [(x, s)]) = cellsL ms ++ [.int .u32 x, .string s] := by simp [cellsL]
theorem cellsL_len (ms : List (Int × ByteArray)) : (cellsL ms).length = ms.length * 2 := by
  induction ms with
  | nil => rfl
  | cons m ms ih =>
    have : cellsL (m :: ms) = [.int .u32 m.1, .string m.2] ++ cellsL ms := by simp [cellsL]
    rw [this, List.length_append, ih]; simp; omega
theorem cellsL_at (ms : List (Int × ByteArray)) : ∀ (i : Nat) (x : Int) (s : ByteArray), ms[i]? = some (x, s) → (cellsL ms)[i * 2]? = some (.int .u32 x) ∧ (cellsL ms)[i * 2 + 1]? = some (.string s) := by
  induction ms with
  | nil => intro i x s h; simp at h
  | cons m ms ih =>
    intro i x s h
    have e : cellsL (m :: ms) = .int .u32 m.1 :: .string m.2 :: cellsL ms := by simp [cellsL]
    rw [e]
    cases i with
    | zero => simp at h; subst h; simp
    | succ i =>
      have := ih i x s (by simpa using h)
      rw [show (i + 1) * 2 = i * 2 + 1 + 1 by omega]
      simpa using this

/-- A slice value that leads to these members. -/
def Held (w : World) (v : Value) (ms : List (Int × ByteArray)) : Prop := ∃ a cap, v = .slice a ms.length cap ∧ ms.length ≤ cap ∧ cap ≤ maxLen ∧ Seg w a ms

theorem held_of_own {w : World} {base : Nat} {v : Value} {ms : List (Int × ByteArray)} (h : w.ownsRow base 37 2 v ms.length (cellsL ms)) : Held w v ms := by
  have hh := h
  obtain ⟨_, ⟨rfl, h0⟩ | ⟨g, cap, cur, rfl, _, hg, h1, h2, h3, h4⟩⟩ := h
  · have : ms = [] := List.eq_nil_of_length_eq_zero h0
    subst this
    exact ⟨none, 0, rfl, Nat.le_refl _, Nat.zero_le _, .inl rfl⟩
  · refine ⟨some ⟨g, 0, none⟩, cap, rfl, h1, h2, ?_⟩
    by_cases h0 : ms = []
    · exact .inl h0
    · refine .inr ⟨g, 0, rfl, fun i x s hi => ?_⟩
      have hc := World.ownsRow.cells (h := hh) (g := g) rfl
      obtain ⟨c1, c2⟩ := cellsL_at ms i x s hi
      have e : ∀ j, (⟨g, 0, none⟩ : Addr).add j = ⟨g, 0 + j, none⟩ := fun j => by unfold Addr.add; split <;> simp_all
      have d1 := hc _ _ c1
      have d2 := hc _ _ c2
      rw [e] at d1 d2
      exact ⟨d1, d2⟩

theorem Held.later {w w' : World} {v : Value} {ms : List (Int × ByteArray)} (h : Held w v ms) (hb : Below w.heap.size w w') : Held w' v ms := by
  obtain ⟨a, cap, h1, h2, h3, h4⟩ := h
  exact ⟨a, cap, h1, h2, h3, h4.later hb⟩

theorem own_ne {w : World} {base : Nat} {v : Value} {n : Nat} {xs : List Value} (h : w.ownsRow base 37 2 v n xs) {b : Nat} (hb : b < base) : v.ownBlock ≠ some b := by
  intro e
  have := (h.lt b e).1
  omega

set_option maxRecDepth 100000 in
set_option maxHeartbeats 1000000 in
theorem zzCluster (a : Option Addr) (cap : Nat) (ms : List (Int × ByteArray)) (w : World) (hs : Seg w a ms) (hn : ms.length ≤ 1048576) :
    Calls Try.prog 11 #[.slice a ms.length cap] w fun e w' => ∃ v, e = .returned v ∧ Held w' v ms ∧ Below w.heap.size w w' := by
  have HS : Hid (Seg w a ms) := hs
  clear hs
  obtain ⟨i0, hi0, hz0, hz1, hz2⟩ := info_parts Try.info37
  go_enter Try.func11, Try.ntmps11
  go_wp2
  go_loopw [3, 4] (fun c i wr => ∃ k : Nat, k ≤ ms.length ∧ i = .int .i64 k ∧ Hid (wr.ownsRow w.heap.size 37 2 c k (cellsL (ms.take k))) ∧ Hid (Below w.heap.size w wr)) (fun _ i _ => ms.length - (intOf i).toNat)
  case atStart => exact ⟨0, Nat.zero_le _, rfl, World.ownsRow_nil _ _ _ _, Below.refl _ _⟩
  case round =>
    obtain ⟨k, hk, rfl, HO, HB⟩ := hrel
    by_cases hlt : k < ms.length
    · obtain ⟨b, off, x, s, rfl, hx, hc1, hc2⟩ := HS.out.at hlt
      have hbw : b < w.heap.size := World.block_lt_of_cell? w _ hc1
      replace hc1 := cell_later HB.out hc1
      replace hc2 := cell_later HB.out hc2
      have HX : Hid (ms[k]? = some (x, s)) := hx
      clear hx
      have i1 : (0 : Int) ≤ k := by omega
      have i2 : (k : Int) < ms.length := by omega
      have hsz := HB.out.size
      have hne := own_ne HO.out hbw
      have HTK : Hid (cellsL (ms.take (k + 1)) = cellsL (ms.take k) ++ [.int .u32 x, .string s]) := by
        show _ = _
        rw [List.take_add_one, HX.out]; exact cellsL_snoc _ _ _
      have hn1 : k + 1 ≤ maxLen := by unfold maxLen; omega
      go_wp2_with fail
      go_region_held3 (fun w' => w'.cell? ⟨b, off + k * 2, none⟩ = some (.int .u32 x) ∧ w'.cell? ⟨b, off + k * 2 + 1, none⟩ = some (.string s))
        (first
          | go_keep
          | (go_split_ands
             refine ⟨?_, ?_⟩
             · (rw [hgrow.cell_far _ (by simp; omega) (Ne.symm hne)]; assumption)
             · (rw [hgrow.cell_far _ (by simp; omega) (Ne.symm hne)]; assumption)))
        ((refine step_append_lies _ (by rfl) _ _ _ (by rfl) w.heap.size 37 i0 _ 2 24 Try.underlying26 hi0 hz0 hz1 hz2 rfl (by omega) u3 k (cellsL (ms.take k)) (by rfl) ((HO.out.alloc _).drew)
            ⟨wr.heap.size, 0, none⟩ 1 1 [.int .u32 x, .string s] (by rfl) (by rfl) (World.news_of_block (cs := #[.int .u32 x, .string s]) (t := 37) (fr := (0, 0)) (heap_alloc_new wr _)) (by simp [Value.oneCell'])
            (by omega) hn1 (by omega) (by simp; omega) (wr.heap.size + 1) (by simp) ?_; intro gg cap w1 hown1 hgrow hat hlt1))
      go_wp2
      go_roundw
      case rel =>
        refine ⟨k + 1, by omega, by go_num, ?_, ?_⟩
        · show w1.ownsRow _ _ _ _ _ _
          rw [HTK.out]; exact hown1
        · exact ((HB.out.alloc hsz _).drew).grown hgrow (by simp; omega) (fun j hj => (HO.out.lt j hj).1)
      case measure => simp [intOf]; omega
    · have HE : Hid (Held wr u3 ms) := by
        have h1 := HO.out
        have : k = ms.length := by omega
        rw [List.take_of_length_le (by omega), this] at h1
        exact held_of_own h1
      go_wp2
      go_ret
      exact ⟨_, rfl, HE.out, HB.out⟩

/-- 'without': the members whose id is another. -/
def fil (id : Int) (ms : List (Int × ByteArray)) : List (Int × ByteArray) := ms.filter fun m => m.1 != id

theorem fil_snoc (id : Int) (ms : List (Int × ByteArray)) (x : Int) (s : ByteArray) : fil id (ms ++ [(x, s)]) = fil id ms ++ (if x = id then [] else [(x, s)]) := by
  simp only [fil, List.filter_append]
  congr 1
  by_cases h : x = id <;> simp [h, List.filter_cons]
theorem fil_len (id : Int) (ms : List (Int × ByteArray)) : (fil id ms).length ≤ ms.length := List.length_filter_le _ _

set_option maxRecDepth 100000 in
set_option maxHeartbeats 1000000 in
theorem without24 (id : Int) (a : Option Addr) (cap : Nat) (ms : List (Int × ByteArray)) (w : World) (hs : Seg w a ms) (hn : ms.length ≤ 1048576) :
    Calls Try.prog 24 #[.slice a ms.length cap, .int .u32 id] w fun e w' => ∃ v, e = .returned v ∧ Held w' v (fil id ms) ∧ Below w.heap.size w w' := by
  have HS : Hid (Seg w a ms) := hs
  clear hs
  obtain ⟨i0, hi0, hz0, hz1, hz2⟩ := info_parts Try.info37
  go_enter Try.func24, Try.ntmps24
  go_wp2
  go_loopw [5, 10] (fun c i wr => ∃ k : Nat, k ≤ ms.length ∧ i = .int .i64 k ∧ Hid (wr.ownsRow w.heap.size 37 2 c (fil id (ms.take k)).length (cellsL (fil id (ms.take k)))) ∧ Hid (Below w.heap.size w wr)) (fun _ i _ => ms.length - (intOf i).toNat)
  case atStart => exact ⟨0, Nat.zero_le _, rfl, World.ownsRow_nil _ _ _ _, Below.refl _ _⟩
  case round =>
    obtain ⟨k, hk, rfl, HO, HB⟩ := hrel
    by_cases hlt : k < ms.length
    · obtain ⟨b, off, x, s, rfl, hx, hc1, hc2⟩ := HS.out.at hlt
      have hbw : b < w.heap.size := World.block_lt_of_cell? w _ hc1
      replace hc1 := cell_later HB.out hc1
      replace hc2 := cell_later HB.out hc2
      have HX : Hid (ms[k]? = some (x, s)) := hx
      clear hx
      have i1 : (0 : Int) ≤ k := by omega
      have i2 : (k : Int) < ms.length := by omega
      have hsz := HB.out.size
      have hfl : (fil id (ms.take k)).length ≤ k := Nat.le_trans (fil_len _ _) (List.length_take_le _ _)
      by_cases he : x = id
      · have hb : (x != id) = false := by simpa using he
        have HTK : Hid (fil id (ms.take (k + 1)) = fil id (ms.take k)) := by
          show _ = _
          rw [List.take_add_one, HX.out]
          exact (fil_snoc _ _ _ _).trans (by simp [he])
        clear he
        go_wp2
        go_roundw
        case rel =>
          refine ⟨k + 1, by omega, by go_num, ?_, HB.out.alloc hsz _⟩
          show World.ownsRow _ _ _ _ _ _ _
          rw [HTK.out]; exact HO.out.alloc _
        case measure => simp [intOf]; omega
      · have hb : (x != id) = true := by simpa using he
        have HTK : Hid (fil id (ms.take (k + 1)) = fil id (ms.take k) ++ [(x, s)]) := by
          show _ = _
          rw [List.take_add_one, HX.out]
          exact (fil_snoc _ _ _ _).trans (by simp [he])
        clear he
        generalize fil id (ms.take k) = f at *
        have hnews : ∀ j u, [Value.int .u32 x, Value.string s][j]? = some u → ((wr.alloc (.cells #[.int .u32 x, .string s] 37)).alloc (.cells #[.int .u32 x, .string s] 37)).cell? ((⟨wr.heap.size + 1, 0, none⟩ : Addr).add j) = some u := by
          have := cell_two_new (wr.alloc (.cells #[.int .u32 x, .string s] 37)) (.int .u32 x) (.string s) 37
          simpa using this
        have HNW : Hid (∀ j u, [Value.int .u32 x, Value.string s][j]? = some u → ((wr.alloc (.cells #[.int .u32 x, .string s] 37)).alloc (.cells #[.int .u32 x, .string s] 37)).cell? ((⟨wr.heap.size + 1, 0, none⟩ : Addr).add j) = some u) := hnews
        clear hnews
        have hn1 : f.length + 1 ≤ maxLen := by unfold maxLen; omega
        go_wp2_with (at_builtin; refine wpList_append_lies _ rfl _ _ _ rfl w.heap.size 37 i0 _ 2 24 Try.underlying26 hi0 hz0 hz1 hz2 rfl (by omega) u5 f.length (cellsL f) (by rfl) ((HO.out.alloc _).alloc _) ⟨wr.heap.size + 1, 0, none⟩ 1 1 [.int .u32 x, .string s] (by rfl) (by rfl) HNW.out (by simp [Value.oneCell']) (by omega) hn1 (by omega) (by simp; omega) (wr.heap.size + 2) (by simp) ?_)
        intro gg cap w1 hown1 hgrow hat hlt1
        go_wp2
        go_roundw
        case rel =>
          refine ⟨k + 1, by omega, by go_num, ?_, ?_⟩
          · show World.ownsRow _ _ _ _ _ _ _
            rw [HTK.out, cellsL_snoc, List.length_append]; exact hown1
          · exact ((HB.out.alloc hsz _).alloc (by simp; omega) _).grown hgrow (by simp; omega) (fun j hj => (HO.out.lt j hj).1)
        case measure => simp [intOf]; omega
    · have HE : Hid (Held wr u5 (fil id ms)) := by
        have h1 := HO.out
        rw [List.take_of_length_le (by omega)] at h1
        exact held_of_own h1
      go_wp2
      go_ret
      exact ⟨_, rfl, HE.out, HB.out⟩

end Go.Proofs.Qxb6621681a
