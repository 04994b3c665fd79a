import Derived.Test.Qxb6621681aTake
import Derived.Deep.DeepCutAuto
import Derived.Laws.CopyOwn
namespace Go.Proofs.Qxb6621681a
open Go.RowKit

/-- A slice of integers that came in: nil; or a row of cells, the numbers 'zs' (the first 'len' are its elements). -/
def IsRow (k : IntKind) (w : World) (a : Option Addr) (len cap : Nat) (zs : List Int) : Prop :=
  (a = none ∧ len = 0 ∧ cap = 0 ∧ zs = []) ∨
  ∃ x, a = some x ∧ len ≤ cap ∧ cap ≤ maxLen ∧ zs.length = cap ∧ (∀ i, i < zs.length → w.cell? (x.add i) = some (.int k (zs.getD i 0))) ∧ ∀ n ∈ zs, (Lit.int k n).wf = true

theorem IsRow.len_le {k : IntKind} {w : World} {a : Option Addr} {len cap : Nat} {zs : List Int} (h : IsRow k w a len cap zs) : len ≤ maxLen := by
  rcases h with ⟨_, h, _⟩ | ⟨x, _, h1, h2, _⟩
  · omega
  · omega

theorem IsRow.later {k : IntKind} {w w' : World} {a : Option Addr} {len cap : Nat} {zs : List Int} (h : IsRow k w a len cap zs) (hb : Below w.heap.size w w') : IsRow k w' a len cap zs := by
  rcases h with h | ⟨x, h1, h2, h3, h4, h5, h6⟩
  · exact .inl h
  · exact .inr ⟨x, h1, h2, h3, h4, fun i hi => cell_later hb (h5 i hi), h6⟩

/-- The cells of the elements. -/
def rowCells (k : IntKind) (zs : List Int) (len : Nat) : List Value := (zs.take len).map (Value.int k)

theorem Try.info5 : (Try.prog.info? 5).map (fun i => (i.zero, i.size, i.bytes)) = some (some (.int .u8 0), 1, 1) := by kernel_rfl

theorem zzBytes22_yes (c n : Int) (a b : Option Addr) (la ca lb cb : Nat) (w : World) (ha : la ≤ maxLen) (hb : lb ≤ maxLen) (h : la + lb ≤ 1048576) :
    Calls Try.prog 22 #[.int .i64 c, .int .i64 n, .slice a la ca, .slice b lb cb] w fun e w' => e = .returned (.bool true) ∧ w = w' := by
  refine (zzBytes22 c n a b la ca lb cb w ha hb).mono ?_
  rintro e w' ⟨rfl, rfl⟩
  simp [h]
theorem zzBytes22_no (c n : Int) (a b : Option Addr) (la ca lb cb : Nat) (w : World) (ha : la ≤ maxLen) (hb : lb ≤ maxLen) (h : ¬ la + lb ≤ 1048576) :
    Calls Try.prog 22 #[.int .i64 c, .int .i64 n, .slice a la ca, .slice b lb cb] w fun e w' => e = .returned (.bool false) ∧ w = w' := by
  refine (zzBytes22 c n a b la ca lb cb w ha hb).mono ?_
  rintro e w' ⟨rfl, rfl⟩
  simp [h]

set_option maxRecDepth 100000 in
set_option maxHeartbeats 400000 in
theorem walk8_out (c n : Int) (a b : Option Addr) (la ca lb cb : Nat) (w : World) (ha : la ≤ maxLen) (hb : lb ≤ maxLen)
    (h : ¬ la + lb ≤ 1048576 ∨ c < 0 ∨ 1024 < c ∨ n < 0 ∨ 1073741824 < n) :
    Calls Try.prog 8 #[.int .i64 c, .int .i64 n, .slice a la ca, .slice b lb cb] w fun e w' => e = .returned (.bool true) ∧ Below w.heap.size w w' := by
  by_cases h0 : la + lb ≤ 1048576
  · have h1 : decide ((1048576 : Int) < la) = false := by simp; omega
    have h2 : decide ((1048576 : Int) - la < lb) = false := by simp; omega
    have h3 : (la : Int) ≤ 1048576 := by omega
    by_cases c0 : c < 0
    · go_enter Try.func8, Try.ntmps8
      go_wp2_with (go_at_call 22; refine (zzBytes22_yes _ _ _ _ _ _ _ _ _ ha hb h0).mono ?_; rintro e w' ⟨rfl, rfl⟩)
      go_ret
      exact ⟨rfl, Below.refl _ _⟩
    · by_cases c1 : 1024 < c
      · go_enter Try.func8, Try.ntmps8
        go_wp2_with (go_at_call 22; refine (zzBytes22_yes _ _ _ _ _ _ _ _ _ ha hb h0).mono ?_; rintro e w' ⟨rfl, rfl⟩)
        go_ret
        exact ⟨rfl, Below.refl _ _⟩
      · by_cases n0 : n < 0
        · go_enter Try.func8, Try.ntmps8
          go_wp2_with (go_at_call 22; refine (zzBytes22_yes _ _ _ _ _ _ _ _ _ ha hb h0).mono ?_; rintro e w' ⟨rfl, rfl⟩)
          go_ret
          exact ⟨rfl, Below.refl _ _⟩
        · have n1 : 1073741824 < n := by omega
          go_enter Try.func8, Try.ntmps8
          go_wp2_with (go_at_call 22; refine (zzBytes22_yes _ _ _ _ _ _ _ _ _ ha hb h0).mono ?_; rintro e w' ⟨rfl, rfl⟩)
          go_ret
          exact ⟨rfl, Below.refl _ _⟩
  · go_enter Try.func8, Try.ntmps8
    go_wp2_with (go_at_call 22; refine (zzBytes22_no _ _ _ _ _ _ _ _ _ ha hb h0).mono ?_; rintro e w' ⟨rfl, rfl⟩)
    go_ret
    exact ⟨rfl, Below.refl _ _⟩

theorem rowCells_len (k : IntKind) (zs : List Int) (len : Nat) (h : len ≤ zs.length) : (rowCells k zs len).length = len := by simp [rowCells]; omega
theorem rowCells_one (k : IntKind) (zs : List Int) (len : Nat) : ∀ v ∈ rowCells k zs len, v.oneCell' = true := by
  intro v hv
  unfold rowCells at hv
  obtain ⟨x, _, rfl⟩ := List.mem_map.1 hv
  rfl
theorem rowCells_at (k : IntKind) (zs : List Int) (len j : Nat) (v : Value) (h : (rowCells k zs len)[j]? = some v) : j < zs.length ∧ v = .int k (zs.getD j 0) := by
  simp only [rowCells, List.getElem?_map, Option.map_eq_some_iff, List.getElem?_take] at h
  obtain ⟨x, h2, rfl⟩ := h
  split at h2
  case isFalse => cases h2
  have := (List.getElem?_eq_some_iff.1 h2).1
  exact ⟨this, by simp [List.getD, h2]⟩

/-- A copy into a new row of the call's own. -/
theorem IsRow.src {k : IntKind} {w w1 : World} {x : Option Addr} {len cap : Nat} {zs : List Int} (h : IsRow k w x len cap zs) (hb : Below w.heap.size w w1) (g : Nat) (hp : 0 < (rowCells k zs len).length) :
    (some (⟨g, 0, none⟩ : Addr) = some ⟨g, 0, none⟩) ∧ ∃ ad, x = some ad ∧ ∀ j v, (rowCells k zs len)[j]? = some v → w1.cell? (ad.add j) = some v := by
  rcases h with ⟨_, h1, _, h2⟩ | ⟨y, h1, h2, h3, h4, h5, h6⟩
  · subst h2; simp [rowCells] at hp
  · refine ⟨rfl, y, h1, fun j v hv => ?_⟩
    obtain ⟨hj, rfl⟩ := rowCells_at _ _ _ _ _ hv
    exact cell_later hb (h5 j hj)
theorem IsRow.rowLen {k : IntKind} {w : World} {x : Option Addr} {len cap : Nat} {zs : List Int} (h : IsRow k w x len cap zs) : (rowCells k zs len).length = len := by
  apply rowCells_len
  rcases h with ⟨_, h1, _, h2⟩ | ⟨y, h1, h2, h3, h4, h5, h6⟩ <;> omega

theorem own_heap {w : World} {base : Nat} {e : TypeId} {g n cap : Nat} {xs : List Value} (h : w.ownsRow base e 1 (.slice (some ⟨g, 0, none⟩) n cap) n xs) :
    ∃ cur : List Value, w.heap[g]? = some (.cells cur.toArray e (0, 0)) ∧ cur.length = cap := by
  obtain ⟨_, h | ⟨g', cap', cur, hv, _, hh, _, _, hs, _⟩⟩ := h
  · simp at h
  · simp at hv
    obtain ⟨rfl, rfl⟩ := hv
    exact ⟨cur.toList, by simpa using hh, by simpa using hs⟩
theorem below_made {w w1 : World} (h : w.grownBy w1 none) : Below w.heap.size w w1 := (Below.refl _ _).grown h (Nat.le_refl _) (by simp)

/-- 'copy' of a row that came in into a new row of the call's own: what becomes of old memory. -/
theorem copy_run {w w1 : World} {x : Option Addr} {len cap g : Nat} {zs : List Int} (h : IsRow .u8 w x len cap zs) (hb : Below w.heap.size w w1) (hg : w.heap.size ≤ g) (cur : List Value)
    (hcur : w1.heap[g]? = some (.cells cur.toArray 5 (0, 0))) (hcl : cur.length = len) :
    ∃ w2, (Builtin.copy_ #[43, 43] 3 #[.slice (some ⟨g, 0, none⟩) len len, .slice x len cap]).run Try.prog w1 = .ok (goInt len) w2 ∧ Below w.heap.size w w2 := by
  obtain ⟨i0, hi, hz0, hz1, hz2⟩ := info_parts Try.info5
  have hsz : (Try.prog.info? 5).map (·.size) = some 1 := by rw [hi]; simp [hz1]
  have hr := h.rowLen
  by_cases h0 : len = 0
  · subst h0
    exact ⟨w1, run_copy_none w1 43 43 3 5 _ _ _ _ _ _ Try.underlying43 hsz (by simp), hb⟩
  · obtain ⟨_, ad, rfl, hsrc⟩ := h.src hb g (by omega)
    have := run_copy_row (P := Try.prog) w1 43 43 3 5 g 0 len len ad len cap cur.toArray 5 (rowCells .u8 zs len) Try.underlying43 hsz hcur (by rw [hr]; simp) hsrc (by simp; omega) (rowCells_one _ _ _)
    rw [hr] at this
    exact ⟨_, this, below_setRow hb hg _⟩

theorem below_next {w a b : World} (h : Below w.heap.size w a) (k : Below a.heap.size a b) : Below w.heap.size w b := h.trans (k.mono h.size)

/-- What the law asks of the four takes. -/
theorem took_both (c n a b : Int) (c0 : 0 ≤ c) (c1 : c ≤ 1024) (_a0 : 0 ≤ a) (b0 : 0 ≤ b) (h : c + 2 ≤ 1024) (h' : n + a + b ≤ 4194304) :
    tookB c n a = true ∧ tookC c n a = c + 1 ∧ tookN c n a = n + a ∧ tookB (c + 1) (n + a) b = true ∧ tookC (c + 1) (n + a) b = c + 2 ∧ tookN (c + 1) (n + a) b = n + a + b := by
  have e1 : tookB c n a = true := by simp [tookB]; omega
  have e2 : tookB (c + 1) (n + a) b = true := by simp [tookB]; omega
  simp [tookC, tookN, e1, e2]; omega
theorem took_notBoth (c n a b : Int) (_c0 : 0 ≤ c) (_c1 : c ≤ 1024) (_a0 : 0 ≤ a) (_b0 : 0 ≤ b) (h : ¬ (c + 2 ≤ 1024 ∧ n + a + b ≤ 4194304)) :
    (tookB c n a && tookB (tookC c n a) (tookN c n a) b) = false := by
  cases e1 : tookB c n a
  · rfl
  · have e2 : tookC c n a = c + 1 := by simp [tookC, e1]
    have e3 : tookN c n a = n + a := by simp [tookN, e1]
    rw [e2, e3]
    simp [tookB] at e1 ⊢
    omega

set_option maxRecDepth 100000 in
set_option maxHeartbeats 1000000 in
theorem walk8_in (c n : Int) (a b : Option Addr) (la ca lb cb : Nat) (za zb : List Int) (w : World) (wa : IsRow .u8 w a la ca za) (wb : IsRow .u8 w b lb cb zb)
    (h0 : la + lb ≤ 1048576) (c0 : 0 ≤ c) (c1 : c ≤ 1024) (n0 : 0 ≤ n) (n1 : n ≤ 1073741824) :
    Calls Try.prog 8 #[.int .i64 c, .int .i64 n, .slice a la ca, .slice b lb cb] w fun e w' => e = .returned (.bool true) ∧ Below w.heap.size w w' := by
  have h1 : decide ((1048576 : Int) < la) = false := by simp; omega
  have h2 : decide ((1048576 : Int) - la < lb) = false := by simp; omega
  have h3 : (la : Int) ≤ 1048576 := by omega
  have ha := wa.len_le
  have hb := wb.len_le
  have HA : Hid (IsRow .u8 w a la ca za) := wa
  have HB : Hid (IsRow .u8 w b lb cb zb) := wb
  clear wa wb
  obtain ⟨i0, hi, hz0, hz1, hz2⟩ := info_parts Try.info5
  go_enter Try.func8, Try.ntmps8
  go_upto_if 55 with (go_at_call 22; refine (zzBytes22_yes _ _ _ _ _ _ _ _ _ ha hb h0).mono ?_; rintro e w' ⟨rfl, rfl⟩)
  go_cut [2, 9] (fun x z w1 => (∃ ao co, x = .slice ao la co) ∧ Below w.heap.size w w1)
  case first =>
    cases a with
    | none => 
      go_wp2
      go_meet
      case rel => exact ⟨⟨none, ca, rfl⟩, Below.refl _ _⟩
    | some ad =>
      go_wp2_with (at_make; refine wpList_make_full _ rfl _ _ 43 rfl w.heap.size 5 i0 (.int .u8 0) 1 Try.underlying43 hi hz0 hz1 .i64 .i64 _ _ la rfl rfl rfl rfl (by rw [hz2]; omega) ha (Nat.le_refl _) ?_)
      intro w1 hown hgrow
      have hB1 := below_made hgrow
      obtain ⟨cur, hcur, hcl⟩ := own_heap hown
      clear hown hgrow
      obtain ⟨w2, hcp, hB2⟩ := copy_run HA.out hB1 (Nat.le_refl _) cur hcur hcl
      clear hcur hcl
      go_wp2
      go_meet
      case rel => exact ⟨⟨_, _, rfl⟩, hB2⟩
  case rest =>
    obtain ⟨⟨ao, co, rfl⟩, hB⟩ := hcut
    have HB2 : Hid (IsRow .u8 wc b lb cb zb) := HB.out.later hB
    have HBe : Hid (Below w.heap.size w wc) := hB
    have HZ : Hid (w.heap.size ≤ wc.heap.size) := hB.size
    clear HA HB hB
    go_upto_if 64 with fail
    go_cut [3, 10] (fun x z w1 => (∃ ao co, x = .slice ao lb co) ∧ Below wc.heap.size wc w1)
    case first =>
      cases b with
      | none => 
        go_wp2
        go_meet
        case rel => exact ⟨⟨none, cb, rfl⟩, Below.refl _ _⟩
      | some ad =>
        go_wp2_with (at_make; refine wpList_make_full _ rfl _ _ 43 rfl wc.heap.size 5 i0 (.int .u8 0) 1 Try.underlying43 hi hz0 hz1 .i64 .i64 _ _ lb rfl rfl rfl rfl (by rw [hz2]; omega) hb (Nat.le_refl _) ?_)
        intro w1 hown hgrow
        have hB1 := below_made hgrow
        obtain ⟨cur, hcur, hcl⟩ := own_heap hown
        clear hown hgrow
        obtain ⟨w2, hcp, hB2⟩ := copy_run HB2.out hB1 (Nat.le_refl _) cur hcur hcl
        clear hcur hcl
        go_wp2
        go_meet
        case rel => exact ⟨⟨_, _, rfl⟩, hB2⟩
    case rest =>
      obtain ⟨⟨bo, co', rfl⟩, hB⟩ := hcut
      have HBf := HBe.out.trans (hB.mono HZ.out)
      have HBg : Hid (Below w.heap.size w wc) := HBf
      clear HBf hB HBe HZ HB2 hi hz0 hz1 hz2 i0
      have hlb : lb ≤ 1048576 := by omega
      have hla : la ≤ 1048576 := by omega
      by_cases hboth : c + 2 ≤ 1024 ∧ n + la + lb ≤ 4194304
      · obtain ⟨hc2, hn2⟩ := hboth
        have t1 := took_both c n la lb c0 c1 (by omega) (by omega) hc2 hn2
        have t2 := took_both c n lb la c0 c1 (by omega) (by omega) hc2 (by omega)
        have T1 : Hid (tookB c n la = true) := t1.1
        have T2 : Hid (tookB (c + 1) (n + la) lb = true) := t1.2.2.2.1
        have T3 : Hid (tookB c n lb = true) := t2.1
        have T4 : Hid (tookB (c + 1) (n + lb) la = true) := t2.2.2.2.1
        clear t1 t2
        have e1 : (n + (lb : Int) + (la : Int) == n + (la : Int) + (lb : Int)) = true := by simp; omega
        go_wp2_with fail
        refine (zzTake_yes c n _ la _ _ c0 c1 n0 (by omega) hla T1.out).mono ?_
        rintro e w1 ⟨rfl, hb1⟩
        have B1 : Hid (Below wc.heap.size wc w1) := hb1
        clear hb1
        go_wp2_with fail
        refine (zzTake_yes (c + 1) (n + la) _ lb _ _ (by omega) (by omega) (by omega) (by omega) hlb T2.out).mono ?_
        rintro e w2 ⟨rfl, hb2⟩
        have B2 : Hid (Below w1.heap.size w1 w2) := hb2
        clear hb2
        go_wp2_with fail
        refine (zzTake_yes c n _ lb _ _ c0 c1 n0 (by omega) hlb T3.out).mono ?_
        rintro e w3 ⟨rfl, hb3⟩
        have B3 : Hid (Below w2.heap.size w2 w3) := hb3
        clear hb3
        go_wp2_with fail
        refine (zzTake_yes (c + 1) (n + lb) _ la _ _ (by omega) (by omega) (by omega) (by omega) hla T4.out).mono ?_
        rintro e w4 ⟨rfl, hb4⟩
        have B4 : Hid (Below w3.heap.size w3 w4) := hb4
        clear hb4
        go_wp2
        go_ret
        exact ⟨rfl, below_next (below_next (below_next (below_next HBg.out B1.out) B2.out) B3.out) B4.out⟩
      · have A1 : Hid ((tookB c n la && tookB (tookC c n la) (tookN c n la) lb) = false) := took_notBoth c n la lb c0 c1 (by omega) (by omega) hboth
        have A2 : Hid ((tookB c n lb && tookB (tookC c n lb) (tookN c n lb) la) = false) := took_notBoth c n lb la c0 c1 (by omega) (by omega) (by omega)
        have k1 := tookC_bd c n la c0 c1
        have k2 := tookN_bd c n la (by omega)
        have k3 := tookC_bd c n lb c0 c1
        have k4 := tookN_bd c n lb (by omega)
        go_wp2_with fail
        refine (zzTake_any c n _ la _ _ c0 c1 n0 (by omega) hla).mono ?_
        rintro e w1 ⟨rfl, hb1⟩
        have B1 : Hid (Below wc.heap.size wc w1) := hb1
        clear hb1
        revert k1 k2 A1
        generalize tookC c n la = x1
        generalize tookN c n la = y1
        generalize tookB c n la = z1
        intro A1 k1 k2
        obtain ⟨k1, k1'⟩ := k1
        obtain ⟨k2, k2'⟩ := k2
        go_wp2_with fail
        refine (zzTake_any x1 y1 _ lb _ _ k1 k1' (by omega) (by omega) hlb).mono ?_
        rintro e w2 ⟨rfl, hb2⟩
        have B2 : Hid (Below w1.heap.size w1 w2) := hb2
        clear hb2
        revert A1
        generalize tookC x1 y1 lb = x2
        generalize tookN x1 y1 lb = y2
        generalize tookB x1 y1 lb = z2
        intro A1
        go_wp2_with fail
        refine (zzTake_any c n _ lb _ _ c0 c1 n0 (by omega) hlb).mono ?_
        rintro e w3 ⟨rfl, hb3⟩
        have B3 : Hid (Below w2.heap.size w2 w3) := hb3
        clear hb3
        revert k3 k4 A2
        generalize tookC c n lb = x3
        generalize tookN c n lb = y3
        generalize tookB c n lb = z3
        intro A2 k3 k4
        obtain ⟨k3, k3'⟩ := k3
        obtain ⟨k4, k4'⟩ := k4
        go_wp2_with fail
        refine (zzTake_any x3 y3 _ la _ _ k3 k3' (by omega) (by omega) hla).mono ?_
        rintro e w4 ⟨rfl, hb4⟩
        have B4 : Hid (Below w3.heap.size w3 w4) := hb4
        clear hb4
        revert A2
        generalize tookC x3 y3 la = x4
        generalize tookN x3 y3 la = y4
        generalize tookB x3 y3 la = z4
        intro A2
        have HBz : Hid (Below w.heap.size w w4) := below_next (below_next (below_next (below_next HBg.out B1.out) B2.out) B3.out) B4.out
        clear HBg B1 B2 B3 B4
        have hz : decide (c + 2 ≤ 1024) = false ∨ (c + 2 ≤ 1024 ∧ decide (n + (la : Int) + (lb : Int) ≤ 4194304) = false) := by
          simp; omega
        clear hboth
        have fin : (z1 = false ∨ z2 = false) ∧ (z3 = false ∨ z4 = false) := by
          have a1 := A1.out
          have a2 := A2.out
          revert a1 a2
          cases z1 <;> cases z2 <;> cases z3 <;> cases z4 <;> simp
        clear A1 A2
        obtain ⟨f1, f2⟩ := fin
        rcases hz with hz | ⟨hz1, hz2⟩ <;> rcases f1 with rfl | rfl <;> rcases f2 with rfl | rfl
        all_goals
          go_wp2
        all_goals
          go_ret
          exact ⟨rfl, HBz.out⟩

end Go.Proofs.Qxb6621681a
