import Derived.Test.Qxb6621681aAdr
import Derived.Deep.DeepCutAuto
namespace Go.Proofs.Qxb6621681a
open Go.RowKit
set_option linter.unusedVariables false
set_option linter.unusedSimpArgs false

theorem fil_cut (id : Int) (ms : List (Int × ByteArray)) (k : Nat) : fil id ms = fil id (ms.take k) ++ fil id (ms.drop k) := by
  unfold fil; rw [← List.filter_append, List.take_append_drop]
theorem fil_count {id : Int} {ms : List (Int × ByteArray)} {k : Nat} {x : Int} {s : ByteArray} (hk : ms[k]? = some (x, s)) :
    (fil id (ms.take (k + 1))).length = (fil id (ms.take k)).length + if x = id then 0 else 1 := by
  rw [List.take_add_one, hk]
  show (fil id (ms.take k ++ [(x, s)])).length = _
  rw [fil_snoc, List.length_append]
  split <;> simp
theorem one_member {α : Type} {ms : List α} {j : Nat} {m : α} (h : ms[j]? = some m) : (ms.drop j).take 1 = [m] := by
  have h1 := (List.getElem?_eq_some_iff.1 h).1
  have h2 := (List.getElem?_eq_some_iff.1 h).2
  rw [List.drop_eq_getElem_cons h1, h2]; simp

set_option maxRecDepth 100000 in
set_option maxHeartbeats 1000000 in
theorem walk5 (id k : Int) (a : Option Addr) (cap : Nat) (ms : List (Int × ByteArray)) (w : World) (hs : Seg w a ms) (hf : Fit ms) (hn : ms.length ≤ maxLen) :
    Calls Try.prog 5 #[.slice a ms.length cap, .int .u32 id, .int .i64 k] w fun e w' => e = .returned (.bool true) ∧ Below w.heap.size w w' := by
  have HS : Hid (Seg w a ms) := hs
  have HF : Hid (Fit ms) := hf
  have HN : Hid (ms.length ≤ maxLen) := hn
  clear hs hf hn
  obtain ⟨i0, hi0, hz0, hz1, hz2⟩ := info_parts Try.info37
  go_enter Try.func5, Try.ntmps5
  go_wp2_with fail
  refine (zzBytes16 id k a cap ms w HS.out HF.out HN.out).mono ?_
  rintro e w' ⟨t, rfl, ht, rfl⟩
  cases t
  · go_wp2
    go_ret
    exact ⟨rfl, Below.refl _ _⟩
  have hl := ht rfl
  clear ht
  go_wp2_with fail
  refine (membersBytes 0 a cap ms w HS.out HF.out (by omega) (by omega) hl).mono ?_
  rintro e w' ⟨t1, rfl, ht1, rfl⟩
  by_cases hb1 : 1048576 < t1
  · go_wp2
    go_ret
    exact ⟨rfl, Below.refl _ _⟩
  by_cases hk1 : k < 0
  · go_wp2
    go_ret
    exact ⟨rfl, Below.refl _ _⟩
  by_cases hk2 : (ms.length : Int) < k
  · go_wp2
    go_ret
    exact ⟨rfl, Below.refl _ _⟩
  obtain ⟨j, rfl⟩ := Int.eq_ofNat_of_zero_le (show 0 ≤ k by omega)
  go_wp2_with fail
  refine (zzCluster a cap ms w HS.out hl).mono ?_
  rintro e w1 ⟨v, rfl, ⟨c, cc, rfl, hc1, hc2, hsc⟩, hbel1⟩
  have B1 : Hid (Below w.heap.size w w1) := hbel1
  have HC : Hid (Seg w1 c ms) := hsc
  clear hbel1 hsc
  unfold maxLen at hc2
  go_wp2_with fail
  go_loop [9, 10] (fun z i => ∃ (q : Nat) (n : Nat), q ≤ ms.length ∧ n ≤ q ∧ z = .int .i64 n ∧ i = .int .i64 q ∧ Hid ((fil id (ms.take q)).length = n)) (fun _ i => ms.length - (intOf i).toNat)
  case atStart => exact ⟨0, 0, Nat.zero_le _, Nat.zero_le _, rfl, rfl, by show _ = _; simp [fil]⟩
  case round =>
    obtain ⟨q, n, hq, hnq, rfl, rfl, HL⟩ := hrel
    by_cases hlt : q < ms.length
    · obtain ⟨bb, off, z, s, rfl, hx, hd1, hd2⟩ := (HS.out.later B1.out).at hlt
      have HX : Hid (ms[q]? = some (z, s)) := hx
      clear hx
      by_cases he : z = id
      · have hb : (z != id) = false := by simpa using he
        have HL' : Hid ((fil id (ms.take (q + 1))).length = n) := by
          show _ = _
          rw [fil_count HX.out, if_pos he, HL.out, Nat.add_zero]
        clear he
        go_wp2
        go_round
        case rel => exact ⟨q + 1, n, by omega, by omega, rfl, by go_num, HL'⟩
        case measure => simp [intOf]; omega
      · have hb : (z != id) = true := by simpa using he
        have HL' : Hid ((fil id (ms.take (q + 1))).length = n + 1) := by
          show _ = _
          rw [fil_count HX.out, if_neg he, HL.out]
        clear he
        go_wp2
        go_round
        case rel => exact ⟨q + 1, n + 1, by omega, by omega, by go_num, by go_num, HL'⟩
        case measure => simp [intOf]; omega
    · have HL' : Hid ((fil id ms).length = n) := by
        have h1 := HL.out
        rwa [List.take_of_length_le (by omega)] at h1
      clear HL
      go_wp2_with fail
      refine (zzWithout id c _ cc ms w1 rfl HC.out hl).mono ?_
      rintro e w2 ⟨v, rfl, ⟨d, dc, rfl, hd1, hd2, hsd⟩, hb2⟩
      rw [HL'.out]
      have B2 : Hid (Below w.heap.size w w2) := below_here B1.out hb2
      have HC2 : Hid (Seg w2 c ms) := HC.out.later hb2
      have HD2 : Hid (Seg w2 d (fil id ms)) := hsd
      clear hb2 hsd B1 HC hd1 hd2
      have p0 : (0 : Int) ≤ j := by omega
      have p1 : (j : Int) ≤ cc := by omega
      have p2 : (j : Int) ≤ ms.length := by omega
      have E1 : Hid ((ms.take j).length = j) := by show _ = _; simp; omega
      have E3 : Hid ((ms.drop j).length = ms.length - j) := by show _ = _; simp
      have HCUT : Hid (fil id ms = fil id (ms.take j) ++ fil id (ms.drop j)) := fil_cut id ms j
      have hLl : (fil id (ms.take j)).length ≤ 1048576 := Nat.le_trans (fil_len _ _) (by rw [E1.out]; omega)
      have hRl : (fil id (ms.drop j)).length ≤ 1048576 := Nat.le_trans (fil_len _ _) (by rw [E3.out]; omega)
      have hLR : (fil id (ms.take j)).length + (fil id (ms.drop j)).length ≤ 1048576 := by
        have h1 := fil_len id ms
        rw [HCUT.out, List.length_append] at h1
        omega
      go_wp2_with fail
      refine (zzWithout id c j cc (ms.take j) w2 E1.out (HC2.out.take j) (by omega)).mono ?_
      rintro e w3 ⟨v, rfl, ⟨l, lc, rfl, hl1, hl2, hsl⟩, hb3⟩
      have B3 : Hid (Below w.heap.size w w3) := below_here B2.out hb3
      have HC3 : Hid (Seg w3 c ms) := HC2.out.later hb3
      have HD3 : Hid (Seg w3 d (fil id ms)) := HD2.out.later hb3
      have HL3 : Hid (Seg w3 l (fil id (ms.take j))) := hsl
      have S3 : Hid (Seg w3 (if cc = j then c else c.map (·.add (j * 2))) (ms.drop j)) := HC3.out.drop j cc hc1
      clear hb3 hsl B2 HC2 HD2 hl1 hl2
      go_upto_region 18 with fail
      go_cut [14] (fun x wx => (∃ r rc, x = .slice r (fil id (ms.drop j)).length rc ∧ Hid (Seg wx r (fil id (ms.drop j)))) ∧ Hid (Below w3.heap.size w3 wx))
      case first =>
        by_cases hcj : cc = j
        · rw [if_pos hcj] at S3
          subst hcj
          go_wp2_with fail
          refine (zzWithout id _ 0 _ (ms.drop cc) w3 (E3.out.trans (by omega)) S3.out (by omega)).mono ?_
          rintro e w4 ⟨v, rfl, ⟨r, rc, rfl, hr1, hr2, hsr⟩, hb4⟩
          go_wp2
          go_meet
          case rel => exact ⟨⟨r, rc, rfl, hsr⟩, hb4⟩
        · rw [if_neg hcj] at S3
          go_wp2_with fail
          refine (zzWithout id _ (ms.length - j) _ (ms.drop j) w3 E3.out S3.out (by omega)).mono ?_
          rintro e w4 ⟨v, rfl, ⟨r, rc, rfl, hr1, hr2, hsr⟩, hb4⟩
          go_wp2
          go_meet
          case rel => exact ⟨⟨r, rc, rfl, hsr⟩, hb4⟩
      case rest =>
        obtain ⟨⟨r, rc, rfl, HR4⟩, HB4⟩ := hcut
        have B4 : Hid (Below w.heap.size w wc) := below_here B3.out HB4.out
        have HC4 : Hid (Seg wc c ms) := HC3.out.later HB4.out
        have HD4 : Hid (Seg wc d (fil id ms)) := HD3.out.later HB4.out
        have HL4 : Hid (Seg wc l (fil id (ms.take j))) := HL3.out.later HB4.out
        clear HB4 B3 HC3 HD3 HL3 S3 E1 E3
        generalize fil id (ms.take j) = L at *
        generalize fil id (ms.drop j) = R at *
        go_wp2_with fail
        go_loopw [15, 16] (fun v i wr => ∃ q : Nat, q ≤ L.length ∧ i = .int .i64 q ∧ Hid (wr.ownsRow wc.heap.size 37 2 v q (cellsL (L.take q))) ∧ Hid (Below wc.heap.size wc wr)) (fun _ i _ => L.length - (intOf i).toNat)
        case atStart => exact ⟨0, Nat.zero_le _, rfl, World.ownsRow_nil _ _ _ _, Below.refl _ _⟩
        case round =>
          obtain ⟨q2, hq2, rfl, HO, HBr⟩ := hrel
          have hsz := HBr.out.size
          by_cases hlt2 : q2 < L.length
          · obtain ⟨b2, off2, x, s, rfl, hx, hx1, hx2⟩ := (HL4.out.later HBr.out).at hlt2
            have HTK : Hid (cellsL (L.take (q2 + 1)) = cellsL (L.take q2) ++ [.int .u32 x, .string s]) := by
              show _ = _
              rw [List.take_add_one, hx]; exact cellsL_snoc _ _ _
            clear hx
            have hn1 : q2 + 1 ≤ maxLen := by unfold maxLen; omega
            have HNW : Hid (∀ j u, [Value.int .u32 x, Value.string s][j]? = some u → (wr.alloc (.cells #[.int .u32 x, .string s] 37)).cell? ((⟨wr.heap.size, 0, none⟩ : Addr).add j) = some u) := cell_two_new wr (.int .u32 x) (.string s) 37
            go_wp2_with (at_builtin; refine wpList_append_lies _ rfl _ _ _ rfl wc.heap.size 37 i0 _ 2 24 Try.underlying26 hi0 hz0 hz1 hz2 rfl (by omega) u15 q2 (cellsL (L.take q2)) (by rfl) (HO.out.alloc _) ⟨wr.heap.size, 0, none⟩ 1 1 [.int .u32 x, .string s] (by rfl) (by rfl) HNW.out (by simp [Value.oneCell']) (by omega) hn1 (by omega) (by simp; omega) (wr.heap.size + 1) (by simp) ?_)
            intro gg cap1 w5 hown1 hgrow hat hlt1
            go_wp2
            go_roundw
            case rel =>
              refine ⟨q2 + 1, by omega, by go_num, ?_, ?_⟩
              · show World.ownsRow _ _ _ _ _ _ _
                rw [HTK.out]; exact hown1
              · exact (HBr.out.alloc hsz _).grown hgrow (by simp; omega) (fun i hi => (HO.out.lt i hi).1)
            case measure => simp [intOf]; omega
          · have HO2 : Hid (wr.ownsRow wc.heap.size 37 2 u15 L.length (cellsL L)) := by
              have h1 := HO.out
              have : q2 = L.length := by omega
              rw [List.take_of_length_le (by omega), this] at h1
              exact h1
            have HL0 : Hid (wr.ownsRow wc.heap.size 37 2 u15 (L.length + 0) (cellsL (L ++ R.take 0))) := by
              show World.ownsRow _ _ _ _ _ _ _
              rw [List.take_zero, List.append_nil]; exact HO2.out
            clear HO HO2
            go_wp2_with fail
            go_loopw [15, 17] (fun v i wr => ∃ q : Nat, q ≤ R.length ∧ i = .int .i64 q ∧ Hid (wr.ownsRow wc.heap.size 37 2 v (L.length + q) (cellsL (L ++ R.take q))) ∧ Hid (Below wc.heap.size wc wr)) (fun _ i _ => R.length - (intOf i).toNat)
            case atStart => exact ⟨0, Nat.zero_le _, rfl, HL0, HBr⟩
            case round =>
              clear HL0 HBr hsz
              obtain ⟨q3, hq3, rfl, HO, HBr⟩ := hrel
              have hsz := HBr.out.size
              by_cases hlt3 : q3 < R.length
              · obtain ⟨b2, off2, x, s, rfl, hx, hx1, hx2⟩ := (HR4.out.later HBr.out).at hlt3
                have HTK : Hid (cellsL (L ++ R.take (q3 + 1)) = cellsL (L ++ R.take q3) ++ [.int .u32 x, .string s]) := by
                  show _ = _
                  rw [List.take_add_one, hx, ← cellsL_snoc, List.append_assoc]; rfl
                clear hx
                have hn1 : L.length + q3 + 1 ≤ maxLen := by unfold maxLen; omega
                have HNW : Hid (∀ j u, [Value.int .u32 x, Value.string s][j]? = some u → (wr.alloc (.cells #[.int .u32 x, .string s] 37)).cell? ((⟨wr.heap.size, 0, none⟩ : Addr).add j) = some u) := cell_two_new wr (.int .u32 x) (.string s) 37
                go_wp2_with (at_builtin; refine wpList_append_lies _ rfl _ _ _ rfl wc.heap.size 37 i0 _ 2 24 Try.underlying26 hi0 hz0 hz1 hz2 rfl (by omega) u15 (L.length + q3) (cellsL (L ++ R.take q3)) (by rfl) (HO.out.alloc _) ⟨wr.heap.size, 0, none⟩ 1 1 [.int .u32 x, .string s] (by rfl) (by rfl) HNW.out (by simp [Value.oneCell']) (by omega) hn1 (by omega) (by simp; omega) (wr.heap.size + 1) (by simp) ?_)
                intro gg cap1 w5 hown1 hgrow hat hlt1
                go_wp2
                go_roundw
                case rel =>
                  refine ⟨q3 + 1, by omega, by go_num, ?_, ?_⟩
                  · show World.ownsRow _ _ _ _ _ _ _
                    rw [HTK.out]; exact hown1
                  · exact (HBr.out.alloc hsz _).grown hgrow (by simp; omega) (fun i hi => (HO.out.lt i hi).1)
                case measure => simp [intOf]; omega
              · have HE : Hid (Held wr u15 (fil id ms)) := by
                  have h1 := HO.out
                  have : q3 = R.length := by omega
                  rw [List.take_of_length_le (by omega), this, ← List.length_append, ← HCUT.out] at h1
                  exact held_of_own h1
                clear HO
                obtain ⟨g, gc, hu, hg1, hg2, hsg⟩ := HE.out
                have HG : Hid (Seg wr g (fil id ms)) := hsg
                have hu' : u15 = .slice g n gc := by rw [hu, HL'.out]
                clear hu HE hsg hg1 hg2
                subst hu'
                have B6 : Hid (Below w.heap.size w wr) := below_here B4.out HBr.out
                have HC6 : Hid (Seg wr c ms) := HC4.out.later HBr.out
                have HD6 : Hid (Seg wr d (fil id ms)) := HD4.out.later HBr.out
                clear B4 HC4 HD4 HL4 HR4 HBr HCUT
                have hn6 : n ≤ 1048576 := by omega
                go_wp2_with fail
                refine (zzEqual_is true d g n n dc gc (fil id ms) (fil id ms) wr HL'.out HL'.out HD6.out HG.out hn6 hn6 (by simp [sameB])).mono ?_
                rintro e w7 ⟨rfl, q7, rfl⟩
                have B7 : Hid (Below w.heap.size w (wr.drewN q7)) := below_drewN B6.out _
                have HC7 : Hid (Seg (wr.drewN q7) c ms) := HC6.out
                clear B6 HC6 HD6 HG
                generalize wr.drewN q7 = w8 at *
                by_cases hj : j < ms.length
                · obtain ⟨b9, off9, x, s, rfl, hx, hx1, hx2⟩ := (HS.out.later B7.out).at hj
                  have S5 : Hid (Seg w8 (c.map (·.add (j * 2))) [(x, s)]) := by
                    have := (HC7.out.drop j cc hc1).take 1
                    rwa [if_neg (by omega), one_member hx] at this
                  have HA1 : Hid (w8.cell? ⟨b9, off9 + j * 2, none⟩ = some (.int .u32 x)) := hx1
                  clear hx hx1 hx2 HC7
                  have i1 : (j : Int) < ms.length := by omega
                  have i3 : (j : Int) + 1 ≤ cc := by omega
                  have n1 : ¬ cc = j := by omega
                  by_cases he : x = id
                  · have hb : (x == id) = true := by simpa using he
                    have hone : fil id [(x, s)] = [] := by simp [fil, he]
                    go_wp2_with fail
                    refine (zzWithout id _ 1 _ [(x, s)] w8 rfl S5.out (by omega)).mono ?_
                    rintro e w9 ⟨v, rfl, ⟨o, oc, rfl, _, _, hso⟩, hb9⟩
                    rw [hone]
                    have hx1 := cell_later hb9 HA1.out
                    have B9 : Hid (Below w.heap.size w w9) := below_here B7.out hb9
                    clear hone he hso hb9 B7
                    go_wp2
                    go_ret
                    exact ⟨rfl, B9.out⟩
                  · have hb : (x == id) = false := by simpa using he
                    have hone : fil id [(x, s)] = [(x, s)] := by simp [fil, he]
                    go_wp2_with fail
                    refine (zzWithout id _ 1 _ [(x, s)] w8 rfl S5.out (by omega)).mono ?_
                    rintro e w9 ⟨v, rfl, ⟨o, oc, rfl, _, _, hso⟩, hb9⟩
                    rw [hone] at hso ⊢
                    have hx1 := cell_later hb9 HA1.out
                    have B9 : Hid (Below w.heap.size w w9) := below_here B7.out hb9
                    have S9 : Hid (Seg w9 (c.map (·.add (j * 2))) [(x, s)]) := S5.out.later hb9
                    have S8 : Hid (Seg w9 o [(x, s)]) := hso
                    clear hone he hso hb9 B7 S5
                    go_wp2_with fail
                    refine (zzEqual_is true o _ 1 1 oc _ [(x, s)] [(x, s)] w9 rfl rfl S8.out S9.out (by omega) (by omega) (by simp [sameB])).mono ?_
                    rintro e w10 ⟨rfl, q10, rfl⟩
                    go_wp2
                    go_ret
                    exact ⟨rfl, below_drewN B9.out _⟩
                · go_wp2
                  go_ret
                  exact ⟨rfl, B7.out⟩

end Go.Proofs.Qxb6621681a
