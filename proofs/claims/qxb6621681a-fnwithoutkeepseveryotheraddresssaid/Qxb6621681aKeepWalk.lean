import Derived.Test.Qxb6621681aAdr
namespace Go.Proofs.Qxb6621681a
open Go.RowKit
set_option linter.unusedVariables false
set_option linter.unusedSimpArgs false

theorem fil_fil (x : Int) (ms : List (Int × ByteArray)) : fil x (fil x ms) = fil x ms := by
  unfold fil; rw [List.filter_filter]; simp
theorem has_fil_same (x : Int) (ms : List (Int × ByteArray)) : hasB (fil x ms) x = false := by
  unfold hasB fil
  rw [List.any_eq_false]
  intro m hm
  have := (List.mem_filter.1 hm).2
  simpa using this
theorem both_tests {x y : Int} (h : x ≠ y) : (fun m : Int × ByteArray => (m.1 != x) && (m.1 == y)) = fun m => m.1 == y := by
  funext m
  by_cases e : m.1 = y
  · simp [e]; exact fun e' => h e'.symm
  · simp [e]
theorem has_fil_ne {x y : Int} (h : x ≠ y) (ms : List (Int × ByteArray)) : hasB (fil x ms) y = hasB ms y := by
  unfold hasB fil
  rw [List.any_filter, both_tests h]
theorem adr_fil_ne {x y : Int} (h : x ≠ y) (ms : List (Int × ByteArray)) : adrOf (fil x ms) y = adrOf ms y := by
  unfold adrOf fil
  have e : (fun a : Int × ByteArray => decide ((a.1 != x) = true ∧ (a.1 == y) = true)) = fun m => m.1 == y := by
    rw [← both_tests h]
    funext m
    cases h1 : (m.1 != x) <;> cases h2 : (m.1 == y) <;> simp
  rw [List.find?_filter, e]

theorem step_has {ms : List (Int × ByteArray)} {y : Int} {k : Nat} {x : Int} {s : ByteArray} (h0 : hasB (ms.take k) y = true) (hk : ms[k]? = some (x, s)) :
    hasB (ms.take (k + 1)) y = true ∧ adrOf (ms.take (k + 1)) y = adrOf (ms.take k) y := by
  rw [List.take_add_one, hk]
  constructor
  · simp only [hasB, List.any_append] at h0 ⊢
    rw [h0]; rfl
  · unfold adrOf
    rw [List.find?_append]
    have : ((ms.take k).find? fun m => m.1 == y).isSome = true := by
      rw [List.find?_isSome]
      simpa [hasB] using h0
    obtain ⟨m, hm⟩ := Option.isSome_iff_exists.1 this
    rw [hm]; rfl
theorem step_new {ms : List (Int × ByteArray)} {y : Int} {k : Nat} {x : Int} {s : ByteArray} (h0 : hasB (ms.take k) y = false) (hk : ms[k]? = some (x, s)) (hx : x = y) :
    hasB (ms.take (k + 1)) y = true ∧ adrOf (ms.take (k + 1)) y = s := by
  have hlt := (List.getElem?_eq_some_iff.1 hk).1
  have h1 : hasB ((ms.take (k + 1)).take k) y = false := by rw [List.take_take, Nat.min_eq_left (by omega)]; exact h0
  have h2 : (ms.take (k + 1))[k]? = some (x, s) := by rw [List.getElem?_take, if_pos (by omega)]; exact hk
  have := adr_found h1 h2 hx
  exact ⟨this.2, this.1⟩

set_option maxRecDepth 100000 in
set_option maxHeartbeats 1000000 in
theorem walk6 (x y : Int) (a : Option Addr) (cap : Nat) (ms : List (Int × ByteArray)) (w : World) (hs : Seg w a ms) (hf : Fit ms) (hn : ms.length ≤ maxLen) :
    Calls Try.prog 6 #[.slice a ms.length cap, .int .u32 x, .int .u32 y] w fun e w' => e = .returned (.bool true) ∧ Below w.heap.size w w' := by
  have HS : Hid (Seg w a ms) := hs
  have HF : Hid (Fit ms) := hf
  have HN : Hid (ms.length ≤ maxLen) := hn
  clear hs hf hn
  go_enter Try.func6, Try.ntmps6
  go_wp2_with fail
  refine (zzBytes17 x y a cap ms w HS.out HF.out HN.out).mono ?_
  rintro e w' ⟨t, rfl, ht, rfl⟩
  cases t
  · go_wp2
    go_ret
    exact ⟨rfl, Below.refl _ _⟩
  have hl := ht rfl
  clear ht
  go_wp2_with fail
  refine (membersBytes 0 a cap ms w HS.out HF.out (by omega) (by omega) hl).mono ?_
  rintro e w' ⟨t1, rfl, ht1, rfl⟩
  by_cases hb1 : 1048576 < t1
  · go_wp2
    go_ret
    exact ⟨rfl, Below.refl _ _⟩
  go_wp2_with fail
  refine (zzCluster a cap ms w HS.out hl).mono ?_
  rintro e w1 ⟨v, rfl, ⟨c, cc, rfl, hc1, hc2, hsc⟩, hbel1⟩
  have B1 : Hid (Below w.heap.size w w1) := hbel1
  have HC : Hid (Seg w1 c ms) := hsc
  clear hbel1 hsc
  go_wp2_with fail
  go_loop [8, 9, 10] (fun s f i => ∃ (k : Nat) (s0 : ByteArray) (b : Bool), k ≤ ms.length ∧ i = .int .i64 k ∧ s = .string s0 ∧ f = .bool b ∧ Hid (adrOf (ms.take k) y = s0) ∧ Hid (hasB (ms.take k) y = b)) (fun _ _ i => ms.length - (intOf i).toNat)
  case atStart => exact ⟨0, ⟨#[]⟩, false, Nat.zero_le _, rfl, rfl, rfl, by show _ = _; simp [adrOf], by show _ = _; simp [hasB]⟩
  case round =>
    obtain ⟨k, s0, b, hk, rfl, rfl, rfl, HA, HH⟩ := hrel
    by_cases hlt : k < ms.length
    · obtain ⟨bb, off, z, s, rfl, hx, hd1, hd2⟩ := (HS.out.later B1.out).at hlt
      have HX : Hid (ms[k]? = some (z, s)) := hx
      clear hx
      cases b
      · by_cases he : z = y
        · have hb : (z == y) = true := by simpa using he
          have hst := step_new HH.out HX.out he
          have H1 : Hid (adrOf (ms.take (k + 1)) y = s) := hst.2
          have H2 : Hid (hasB (ms.take (k + 1)) y = true) := hst.1
          clear he hst
          go_wp2
          go_round
          case rel => exact ⟨k + 1, s, true, by omega, by go_num, rfl, rfl, H1, H2⟩
          case measure => simp [intOf]; omega
        · have hb : (z == y) = false := by simpa using he
          have H2 : Hid (hasB (ms.take (k + 1)) y = false) := has_step HH.out HX.out hb
          have H1 : Hid (adrOf (ms.take (k + 1)) y = s0) := by
            have h1 := adr_none H2.out
            have h2 := adr_none HH.out
            exact h1.trans (h2.symm.trans HA.out)
          clear he
          go_wp2
          go_round
          case rel => exact ⟨k + 1, s0, false, by omega, by go_num, rfl, rfl, H1, H2⟩
          case measure => simp [intOf]; omega
      · have hst := step_has HH.out HX.out
        have H1 : Hid (adrOf (ms.take (k + 1)) y = s0) := hst.2.trans HA.out
        have H2 : Hid (hasB (ms.take (k + 1)) y = true) := hst.1
        clear hst
        go_wp2
        go_round
        case rel => exact ⟨k + 1, s0, true, by omega, by go_num, rfl, rfl, H1, H2⟩
        case measure => simp [intOf]; omega
    · have H1 : Hid (adrOf ms y = s0) := by
        have h1 := HA.out
        rwa [List.take_of_length_le (by omega)] at h1
      have H2 : Hid (hasB ms y = b) := by
        have h1 := HH.out
        rwa [List.take_of_length_le (by omega)] at h1
      clear HA HH
      go_wp2_with fail
      refine (address18 y c _ cc ms w1 rfl HC.out hl).mono ?_
      rintro e w2 ⟨rfl, hb2⟩
      rw [H1.out, H2.out]
      have B2 : Hid (Below w.heap.size w w2) := below_here B1.out hb2
      have HC2 : Hid (Seg w2 c ms) := HC.out.later hb2
      clear hb2 B1 HC
      go_wp2_with fail
      refine (zzWithout x c _ cc ms w2 rfl HC2.out hl).mono ?_
      rintro e w3 ⟨v, rfl, ⟨d, dc, rfl, hd1, hd2, hsd⟩, hb3⟩
      have B3 : Hid (Below w.heap.size w w3) := below_here B2.out hb3
      have HD3 : Hid (Seg w3 d (fil x ms)) := hsd
      have hfl := fil_len x ms
      clear hb3 hsd B2 HC2
      go_wp2_with fail
      refine (address18 y d _ dc (fil x ms) w3 rfl HD3.out (by omega)).mono ?_
      rintro e w4 ⟨rfl, hb4⟩
      have B4 : Hid (Below w.heap.size w w4) := below_here B3.out hb4
      have HD4 : Hid (Seg w4 d (fil x ms)) := HD3.out.later hb4
      clear hb4 B3 HD3
      by_cases hxy : x = y
      · subst hxy
        rw [has_fil_same, adr_none (has_fil_same x ms)]
        have g1 : (x == x) = true := by simp
        clear H1 H2
        go_wp2_with fail
        refine (zzWithout x d _ dc (fil x ms) w4 rfl HD4.out (by omega)).mono ?_
        rintro e w5 ⟨v, rfl, ⟨d', dc', rfl, hd1', hd2', hsd'⟩, hb5⟩
        have B5 : Hid (Below w.heap.size w w5) := below_here B4.out hb5
        have HD5 : Hid (Seg w5 d (fil x ms)) := HD4.out.later hb5
        have HE5 : Hid (Seg w5 d' (fil x (fil x ms))) := hsd'
        have hfl' := fil_len x (fil x ms)
        clear hb5 hsd' B4 HD4
        go_wp2_with fail
        refine (zzEqual_is true d' d _ _ dc' dc (fil x (fil x ms)) (fil x ms) w5 rfl rfl HE5.out HD5.out (by omega) (by omega) (by simp [sameB, fil_fil])).mono ?_
        rintro e w6 ⟨rfl, q6, rfl⟩
        go_wp2
        go_ret
        exact ⟨rfl, below_drewN B5.out _⟩
      · rw [has_fil_ne hxy, adr_fil_ne hxy, H1.out, H2.out]
        have g1 : (x == y) = false := by simpa using hxy
        clear H1 H2 hxy
        go_wp2_with fail
        refine (zzWithout x d _ dc (fil x ms) w4 rfl HD4.out (by omega)).mono ?_
        rintro e w5 ⟨v, rfl, ⟨d', dc', rfl, hd1', hd2', hsd'⟩, hb5⟩
        have B5 : Hid (Below w.heap.size w w5) := below_here B4.out hb5
        have HD5 : Hid (Seg w5 d (fil x ms)) := HD4.out.later hb5
        have HE5 : Hid (Seg w5 d' (fil x (fil x ms))) := hsd'
        have hfl' := fil_len x (fil x ms)
        clear hb5 hsd' B4 HD4
        go_wp2_with fail
        refine (zzEqual_is true d' d _ _ dc' dc (fil x (fil x ms)) (fil x ms) w5 rfl rfl HE5.out HD5.out (by omega) (by omega) (by simp [sameB, fil_fil])).mono ?_
        rintro e w6 ⟨rfl, q6, rfl⟩
        go_wp2
        go_ret
        exact ⟨rfl, below_drewN B5.out _⟩

end Go.Proofs.Qxb6621681a
