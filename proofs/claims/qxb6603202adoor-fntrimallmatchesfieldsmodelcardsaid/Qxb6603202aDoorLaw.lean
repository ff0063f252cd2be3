import Derived.Test.Qxb6603202aDoorRowk
namespace Go.Proofs.Qxb6603202aDoor
open Go.RowKit
open Go

theorem take_drop_step {L : List UInt8} {i hi : Nat} (h : i < hi) (h2 : hi ≤ L.length) : (L.take hi).drop i = L.getD i 0 :: (L.take hi).drop (i + 1) := by
  rw [drop_one (L := L.take hi) (by rw [List.length_take]; omega)]
  congr 1
  rw [List.getD, List.getD, List.getElem?_take_of_lt h]
theorem word_split {L : List UInt8} {i j hi : Nat} (h1 : i ≤ j) (h2 : j ≤ hi) : (L.take hi).drop i = (L.take j).drop i ++ (L.take hi).drop j := by
  have e : (L.take hi).drop i = ((L.take hi).drop i).take (j - i) ++ ((L.take hi).drop i).drop (j - i) := (List.take_append_drop _ _).symm
  rw [List.drop_drop, show i + (j - i) = j from by omega] at e
  rw [e]
  congr 1
  rw [List.take_drop, show i + (j - i) = j from by omega, List.take_take, Nat.min_eq_left h2]
theorem word_no {L : List UInt8} {i j : Nat} (h : ∀ q, i ≤ q → q < j → L.getD q 0 ≠ 32) : ∀ x ∈ (L.take j).drop i, x ≠ 32 := by
  intro x hx
  obtain ⟨k, hk, rfl⟩ := List.mem_iff_getElem.1 hx
  rw [List.length_drop, List.length_take] at hk
  rw [List.getElem_drop, List.getElem_take]
  have := h (i + k) (by omega) (by omega)
  rwa [List.getD, List.getElem?_eq_getElem (by omega)] at this

set_option maxHeartbeats 6400000 in
theorem law_in (s : ByteArray) (m : Int) (w : World) (hs : s.size ≤ 1048576) (henv : Env w m) :
    Calls Tryd.prog 3 #[.string s] w fun e w' => e = .returned (.bool true) ∧ Fr (fun k => w.heap.size ≤ k) w w' := by
  obtain ⟨i5, hi5, hj0, hj1, hj2⟩ := info_parts Tryd.info5
  have hb := bytes_ok s w hs
  obtain ⟨L, hL⟩ : ∃ L, L = s.data.toList := ⟨_, rfl⟩
  have hnL : s.size = L.length := by rw [hL]; simp
  have hix : ∀ (i : Nat) (wx : World), i < s.size → (Instr.index 9 (.string s) (.int .i64 i)).run Tryd.prog wx = .ok (.int .u8 ((L.getD i 0).toNat : Int)) wx := fun i wx hi => by
    have := idx_str s i (by omega) wx
    rwa [at_, ← hL] at this
  have hzz : ∀ wx, Env wx m → Calls Tryd.prog 8 #[.string s] wx fun e w' => e = .returned (.string (bs (sqz false (Lib.trimSpaceD L)))) ∧ Fr (fun _ => False) wx w' := fun wx h => by
    have := zz_any s m wx hs h
    rwa [← hL] at this
  have h6 : ∀ (i : Nat) (wx : World), i ≤ s.size → Calls Tryd.prog 6 #[.string s, .int .i64 i] wx fun e w' => e = .returned (.int .i64 (Lib.headSpace (L.drop i) : Nat)) ∧ wx = w' := fun i wx hi => by
    have := spaceAt_any s i wx hs (by omega) _ rfl
    rwa [← hL] at this
  have h7 : ∀ (lo hi : Nat) (wx : World), lo < hi → hi ≤ s.size → Calls Tryd.prog 7 #[.string s, .int .i64 lo, .int .i64 hi] wx fun e w' => e = .returned (.int .i64 (Lib.tailSpace ((L.take hi).drop lo) : Nat)) ∧ wx = w' := fun lo hi wx h1 h2 => by
    have := endAt_any s lo hi wx hs h1 h2 _ rfl
    rwa [← hL] at this
  have HX : Hid (s.size = L.length ∧ L = s.data.toList) := ⟨hnL, hL⟩
  have HI : Hid _ := hix
  have HZ : Hid _ := hzz
  have H6 : Hid _ := h6
  have H7 : Hid _ := h7
  have HEnv : Hid _ := henv
  clear hix hzz h6 h7 hnL hL henv
  have z0 : ¬ ((s.size : Int) > 1048576) := by omega
  go_enter Tryd.func3, Tryd.ntmps3
  go_upto_block 0 with (go_at_call 5; refine hb.mono ?_; rintro e w1 ⟨rfl, rfl⟩)
  clear hb
  go_cut [3, 4] from 16 to 27 (fun s3 _s4 wx => wx = w ∧ ∃ lo : Nat, lo ≤ s.size ∧ s3 = .int .i64 lo ∧ SL L = L.drop lo)
  case first => as_aux_lemma =>
    go_wp2
    go_loopg [3] s.size (fun g s3 wx => wx = w ∧ ∃ lo : Nat, lo ≤ s.size ∧ s.size ≤ lo + g ∧ s3 = .int .i64 lo ∧ SL L = SL (L.drop lo))
    case atStart => exact ⟨rfl, 0, Nat.zero_le _, by omega, rfl, by rw [List.drop_zero]⟩
    case round =>
      obtain ⟨rfl, lo, hlo, hfu, rfl, hsl⟩ := hrel
      have HS : Hid _ := hsl
      clear hsl
      by_cases hl : lo < s.size
      · have zl : (lo : Int) < (s.size : Int) := by omega
        have hc := H6.out lo wr hlo
        obtain ⟨r, hr⟩ : ∃ r, r = Lib.headSpace (L.drop lo) := ⟨_, rfl⟩
        rw [← hr] at hc
        have HR : Hid _ := hr
        clear hr
        by_cases h0 : r = 0
        · have zr : ((r : Int) == 0) = true := by rw [h0]; rfl
          have HSS : Hid (SL L = L.drop lo) := by
            show SL L = _
            rw [HS.out, SL_stop (by rw [← HR.out]; exact h0)]
          clear h0
          go_wp2_with fail
          refine hc.mono ?_
          rintro e w1 ⟨rfl, rfl⟩
          go_wp2
          go_meet
          case rel => exact ⟨rfl, lo, hlo, rfl, HSS.out⟩
        · have zr : ((r : Int) == 0) = false := by rw [beq_eq_false_iff_ne]; omega
          have hle : lo + r ≤ s.size := by
            have := (head_take (l := L.drop lo) (by rw [← HR.out]; exact h0)).2
            rw [← HR.out, List.length_drop, ← HX.out.1] at this
            omega
          cases gk with
          | zero => omega
          | succ g =>
            go_wp2_with fail
            refine hc.mono ?_
            rintro e w1 ⟨rfl, rfl⟩
            go_wp2
            go_roundg g
            case measure => omega
            case rel =>
              refine ⟨rfl, lo + r, hle, by omega, by first | rfl | simp, ?_⟩
              rw [HS.out, SL_step (by rw [← HR.out]; exact h0), List.drop_drop, ← HR.out]
      · have zl : ¬ (lo : Int) < (s.size : Int) := by omega
        have HSS : Hid (SL L = L.drop lo) := by
          show SL L = _
          rw [HS.out, List.drop_eq_nil_of_le (by rw [← HX.out.1]; omega)]
          rfl
        go_wp2
        go_meet
        case rel => exact ⟨rfl, lo, hlo, rfl, HSS.out⟩
  case rest =>
    obtain ⟨rfl, lo, hlo, rfl, hsl⟩ := hcut
    have HSL : Hid _ := hsl
    clear hsl
    go_upto_block 2 with fail
    go_cut [5, 6] from 30 to 41 (fun s5 _s6 wx => wx = wc ∧ ∃ hi : Nat, lo ≤ hi ∧ hi ≤ s.size ∧ s5 = .int .i64 hi ∧ Lib.trimSpaceD L = (L.take hi).drop lo)
    case first => as_aux_lemma =>
      go_wp2
      go_loopg [5] s.size (fun g s5 wx => wx = wc ∧ ∃ hi : Nat, lo ≤ hi ∧ hi ≤ s.size ∧ hi ≤ lo + g ∧ s5 = .int .i64 hi ∧ Lib.trimSpaceD L = SR ((L.take hi).drop lo))
      case atStart => exact ⟨rfl, s.size, hlo, Nat.le_refl _, by omega, rfl, by rw [trim_SR, HSL.out, HX.out.1, List.take_length]⟩
      case round =>
        obtain ⟨rfl, hi, hlh, hhs, hfu, rfl, hsr⟩ := hrel
        have HS : Hid _ := hsr
        clear hsr
        have hml : ((L.take hi).drop lo).length = hi - lo := by rw [List.length_drop, List.length_take, ← HX.out.1]; omega
        have HML : Hid _ := hml
        clear hml
        by_cases hl : lo < hi
        · have zl : (hi : Int) > (lo : Int) := by omega
          have hc := H7.out lo hi wr hl hhs
          obtain ⟨r, hr⟩ : ∃ r, r = Lib.tailSpace ((L.take hi).drop lo) := ⟨_, rfl⟩
          rw [← hr] at hc
          have HR : Hid _ := hr
          clear hr
          by_cases h0 : r = 0
          · have zr : ((r : Int) == 0) = true := by rw [h0]; rfl
            have HSS : Hid (Lib.trimSpaceD L = (L.take hi).drop lo) := by
              show Lib.trimSpaceD L = _
              rw [HS.out, SR_stop (by rw [← HR.out]; exact h0)]
            clear h0
            go_wp2_with fail
            refine hc.mono ?_
            rintro e w1 ⟨rfl, rfl⟩
            go_wp2
            go_meet
            case rel => exact ⟨rfl, hi, hlh, hhs, rfl, HSS.out⟩
          · have zr : ((r : Int) == 0) = false := by rw [beq_eq_false_iff_ne]; omega
            have hle : lo + r ≤ hi := by
              have := (tail_drop (l := (L.take hi).drop lo) (by rw [← HR.out]; exact h0)).2.2.2
              rw [← HR.out, HML.out] at this
              omega
            cases gk with
            | zero => omega
            | succ g =>
              go_wp2_with fail
              refine hc.mono ?_
              rintro e w1 ⟨rfl, rfl⟩
              go_wp2
              go_roundg g
              case measure => omega
              case rel =>
                refine ⟨rfl, hi - r, by omega, by omega, by omega, by rw [show ((hi - r : Nat) : Int) = (hi : Int) - (r : Int) from by omega], ?_⟩
                rw [HS.out, SR_step (by rw [← HR.out]; exact h0), HML.out, ← HR.out, List.take_drop, show lo + (hi - lo - r) = hi - r from by omega, List.take_take, Nat.min_eq_left (by omega)]
        · have zl : ¬ (hi : Int) > (lo : Int) := by omega
          have HSS : Hid (Lib.trimSpaceD L = (L.take hi).drop lo) := by
            show Lib.trimSpaceD L = _
            have e : (L.take hi).drop lo = [] := List.eq_nil_of_length_eq_zero (by rw [HML.out]; omega)
            rw [HS.out, e]
            rfl
          go_wp2
          go_meet
          case rel => exact ⟨rfl, hi, hlh, hhs, rfl, HSS.out⟩
    case rest =>
      obtain ⟨rfl, hi, hlh, hhs, rfl, htr⟩ := hcut
      have HTR : Hid _ := htr
      clear htr
      rename World => wa
      have hdz : (hi : Int) - (lo : Int) = ((hi - lo : Nat) : Int) := by omega
      go_wp2_with (at_make; refine wpList_make_own _ rfl (.const (.int .i64 0)) (.tmp 44) 25 rfl wa.heap.size 5 i5 (.int .u8 0) 1 Tryd.underlying25 hi5 hj0 hj1 .i64 .i64 _ (hi - lo) rfl rfl (by omega) (by rw [hj2]; omega) (by unfold maxLen; omega) (Nat.le_refl _) ?_)
      intro w1 hown1 hg1
      have hrow1 : Row wa w1 wa.heap.size (hi - lo) [] := ⟨hown1, Fr.grown hg1 (fun k e => by cases e)⟩
      have HR1 : Hid _ := hrow1
      clear hown1 hg1 hrow1
      go_wp2
      clear hdz z0
      go_loopg [7, 8] (hi - lo) (fun g s7 s8 wx => ∃ (i : Nat) (o : List UInt8) (ga cap : Nat), lo ≤ i ∧ i ≤ hi ∧ hi ≤ i + g ∧ s7 = .slice (some ⟨ga, 0, none⟩) o.length cap ∧ s8 = .int .i64 i ∧ o.length ≤ 2 * i ∧ Row wa wx ga cap o ∧ sm false false ((L.take hi).drop lo) = o ++ sm (decide (o ≠ [])) false ((L.take hi).drop i))
      case atStart => exact ⟨lo, [], wa.heap.size, hi - lo, Nat.le_refl _, hlh, by omega, rfl, rfl, by simp, HR1.out, by simp⟩
      case round =>
        obtain ⟨i, o, ga, cap, hli, hih, hfu, rfl, rfl, hol, hrow, hjo⟩ := hrel
        have HR : Hid _ := And.intro hrow hjo
        clear hrow hjo HR1
        by_cases hih2 : i < hi
        · have zi : (i : Int) < (hi : Int) := by omega
          have e1 := HI.out i wr (by omega)
          obtain ⟨X, hX⟩ : ∃ X, X = L.getD i 0 := ⟨_, rfl⟩
          rw [← hX] at e1
          have HXX : Hid _ := hX
          clear hX
          cases gk with
          | zero => omega
          | succ gk' =>
            by_cases hx : X = 32
            · have zx : ((X.toNat : Int) == 32) = true := by rw [hx]; rfl
              have HQ : Hid (X = 32) := hx
              clear hx
              go_wp2
              go_roundg gk'
              case measure => omega
              case rel =>
                refine ⟨i + 1, o, ga, cap, by omega, by omega, by omega, rfl, by first | rfl | simp, by omega, HR.out.1, ?_⟩
                rw [HR.out.2, take_drop_step hih2 (by rw [← HX.out.1]; exact hhs), ← HXX.out, HQ.out, sm_space]
            · have zx : ((X.toNat : Int) == 32) = false := ne_int 32 (by omega) hx
              have HQ : Hid (X ≠ 32) := hx
              clear hx
              go_upto_block 6 with fail
              go_cut [9] from 47 to 80 (fun s9 wx => wr = wx ∧ ∃ j : Nat, i < j ∧ j ≤ hi ∧ s9 = .int .i64 j ∧ (∀ q, i ≤ q → q < j → L.getD q 0 ≠ 32) ∧ (j = hi ∨ L.getD j 0 = 32))
              case first => as_aux_lemma =>
                go_wp2
                go_loopg [9] hi (fun g s9 wx => wr = wx ∧ ∃ j : Nat, i ≤ j ∧ j ≤ hi ∧ hi ≤ j + g ∧ s9 = .int .i64 j ∧ ∀ q, i ≤ q → q < j → L.getD q 0 ≠ 32)
                case atStart => exact ⟨rfl, i, Nat.le_refl _, hih, by omega, rfl, fun q h1 h2 => by omega⟩
                case round =>
                  obtain ⟨rfl, j, hij, hjh, hfj, rfl, hall⟩ := hrel
                  have HA : Hid _ := hall
                  clear hall
                  by_cases hj : j < hi
                  · have zj : (j : Int) < (hi : Int) := by omega
                    have e2 := HI.out j wr (by omega)
                    obtain ⟨Y, hY⟩ : ∃ Y, Y = L.getD j 0 := ⟨_, rfl⟩
                    rw [← hY] at e2
                    have HY : Hid _ := hY
                    clear hY
                    by_cases hy : Y = 32
                    · have zy : ((Y.toNat : Int) != 32) = false := by rw [hy]; rfl
                      have hlt : i < j := by
                        rcases Nat.lt_or_eq_of_le hij with h | h
                        · exact h
                        · subst h
                          exact absurd (by rw [HXX.out, ← HY.out]; exact hy) HQ.out
                      have HE : Hid (L.getD j 0 = 32) := by
                        show L.getD j 0 = 32
                        rw [← HY.out]; exact hy
                      clear hy
                      go_wp2
                      go_meet
                      case rel => exact ⟨rfl, j, hlt, hjh, rfl, HA.out, .inr HE.out⟩
                    · have zy : ((Y.toNat : Int) != 32) = true := by rw [bne, show ((Y.toNat : Int) == 32) = false from ne_int 32 (by omega) hy]; rfl
                      have HYN : Hid (Y ≠ 32) := hy
                      clear hy
                      cases gk with
                      | zero => omega
                      | succ gk =>
                        go_wp2
                        go_roundg gk
                        case measure => omega
                        case rel =>
                          refine ⟨rfl, j + 1, by omega, by omega, by omega, by first | rfl | simp, fun q h1 h2 => ?_⟩
                          by_cases hq : q = j
                          · subst hq; rw [← HY.out]; exact HYN.out
                          · exact HA.out q h1 (by omega)
                  · have zj : ¬ (j : Int) < (hi : Int) := by omega
                    go_wp2
                    go_meet
                    case rel => exact ⟨rfl, j, by omega, hjh, rfl, HA.out, .inl (by omega)⟩
              case rest =>
                obtain ⟨hwc, j, hij, hjh, rfl, hall, hend⟩ := hcut
                subst hwc
                have HA : Hid _ := And.intro hall hend
                clear hall hend e1 zi zx
                have hbs : wa.heap.size ≤ wr.heap.size := HR.out.1.fr.size
                obtain ⟨o1, ho1⟩ : ∃ o1 : List UInt8, o1 = if o = [] then [] else o ++ [32] := ⟨_, rfl⟩
                have ho1l : o1.length ≤ o.length + 1 := by rw [ho1]; split <;> simp
                have HO1 : Hid _ := ho1
                clear ho1
                go_upto_if 70 with fail
                go_cut [7] from 47 to 80 (fun s7 wx => ∃ g1 cap1, s7 = .slice (some ⟨g1, 0, none⟩) o1.length cap1 ∧ Row wa wx g1 cap1 o1)
                case first => as_aux_lemma =>
                  by_cases ho : o = []
                  · have zo : ¬ ((o.length : Int) > 0) := by rw [ho]; simp
                    obtain rfl : o1 = o := by rw [HO1.out, if_pos ho, ho]
                    clear ho
                    go_wp2
                    go_meet
                    case rel => exact ⟨ga, cap, rfl, HR.out.1⟩
                  · have hpos : 0 < o.length := List.length_pos_iff.2 ho
                    have zo : ((o.length : Int) > 0) := by omega
                    have hrow2 : Row wa (wr.alloc (.cells #[.int .u8 32] 5)) ga cap o := ⟨HR.out.1.own.alloc (.cells #[.int .u8 32] 5), HR.out.1.fr.trans (Fr.alloc (F := fun _ => False) _ _) (fun _ e => e.elim)⟩
                    have own1 := hrow2.own
                    have HR2 : Hid _ := hrow2
                    have HO2 : Hid (o1 = o ++ [32]) := by
                      show o1 = _
                      rw [HO1.out, if_neg ho]
                    clear hrow2 ho
                    go_wp2_with (at_builtin; refine wpList_append_own_at _ rfl (.tmp 71) (.tmp 72) 25 rfl wa.heap.size 5 i5 (.int .u8 0) 1 1 Tryd.underlying25 hi5 hj0 hj1 hj2 rfl (by decide) _ o.length (ub o) rfl own1 ⟨wr.heap.size, 0, none⟩ 1 1 (ub [32]) rfl rfl (cell_one_new _ _ _) (ub_one _) (by unfold maxLen; omega) (by omega) (by simp; omega) ?_)
                    intro v2 w2 hown2 hg2 hnil2 _
                    rw [ub_app, ← HO2.out] at hown2
                    obtain ⟨g2, cap2, rfl, hrow3⟩ := HR2.out.grown hg2 hown2 (by rw [HO2.out]; simp) (fun e => by first | exact hnil2 e | (have := (hnil2.1 e).1; cases this))
                    have HR3 : Hid _ := hrow3
                    clear hown2 hg2 hnil2 hrow3 own1
                    go_wp2
                    go_meet
                    case rel => exact ⟨g2, cap2, rfl, HR3.out⟩
                case rest =>
                  obtain ⟨g1, cap1, rfl, hrow1⟩ := hcut
                  obtain ⟨Pb, hPb⟩ : ∃ Pb : ByteArray, Pb = s.extract i j := ⟨_, rfl⟩
                  have hsl : ∀ wx : World, (Instr.slice 9 (.string s) (some (.int .i64 i)) (some (.int .i64 j)) none).run Tryd.prog wx = .ok (.string Pb) wx := fun wx => by
                    rw [run_slice_string_if (P := Tryd.prog) wx 9 s .i64 .i64 _ _ Tryd.underlying9, if_pos (by omega), if_pos (by omega), hPb, Int.toNat_natCast, Int.toNat_natCast]
                  have hPl : Pb.data.toList = (L.take j).drop i := by
                    rw [hPb, Lib.extract_data, HX.out.2, List.take_drop, show i + (j - i) = j from by omega]
                  have hPs : Pb.size = j - i := by
                    have : Pb.size = Pb.data.toList.length := by simp
                    rw [this, hPl, List.length_drop, List.length_take, ← HX.out.1]
                    omega
                  have own1 := hrow1.own
                  have hbs2 : wa.heap.size ≤ wc.heap.size := hrow1.fr.size
                  have HR1 : Hid _ := hrow1
                  have HP : Hid (Pb.data.toList = (L.take j).drop i) := hPl
                  clear hrow1 hPb hPl
                  go_wp2_with (at_builtin; refine Lib.wpList_append_own_string _ rfl (.tmp 74) (.tmp 78) 25 9 rfl wa.heap.size 5 i5 Tryd.underlying25 Tryd.underlying9 hi5 hj0 hj1 hj2 _ o1.length (ub o1) rfl own1 Pb rfl (by unfold maxLen; omega) (by omega) hbs2 ?_)
                  intro v3 w3 hown3 hg3 hnil3
                  obtain ⟨o2, ho2⟩ : ∃ o2, o2 = o1 ++ (L.take j).drop i := ⟨_, rfl⟩
                  have hPll : ((L.take j).drop i).length = j - i := by
                    rw [List.length_drop, List.length_take, ← HX.out.1]; omega
                  have ho2l : o2.length = o1.length + (j - i) := by rw [ho2, List.length_append, hPll]
                  have hown4 : w3.ownsRow wa.heap.size 5 1 v3 (o1.length + (j - i)) (ub o2) := by
                    rw [ho2, ← ub_app, ← HP.out]
                    exact hown3
                  obtain ⟨g3, cap3, rfl, hrow3⟩ := HR1.out.grown hg3 hown4 ho2l.symm (fun e => by first | exact hnil3 e | (have := (hnil3.1 e).1; cases this))
                  have HR3 : Hid _ := hrow3
                  have HO2 : Hid (o2 = o1 ++ (L.take j).drop i ∧ ((L.take j).drop i).length = j - i) := ⟨ho2, hPll⟩
                  have hb2 : o2.length ≤ 2 * j := by omega
                  clear hown3 hg3 hnil3 hown4 hrow3 own1 hbs2 ho2 hPll ho2l hPs
                  go_wp2
                  go_roundg gk'
                  case measure => omega
                  case rel =>
                    refine ⟨j, o2, g3, cap3, by omega, hjh, by omega, by first | rfl | simp, by first | rfl | simp, hb2, HR3.out, ?_⟩
                    have hne : (L.take j).drop i ≠ [] := fun e => by
                      have := HO2.out.2
                      rw [e, List.length_nil] at this
                      omega
                    have hR : (L.take hi).drop j = [] ∨ ((L.take hi).drop j).head? = some 32 := by
                      rcases HA.out.2 with e | e
                      · refine .inl (List.drop_eq_nil_of_le ?_)
                        rw [List.length_take]; omega
                      · rcases Nat.lt_or_ge j hi with h | h
                        · refine .inr ?_
                          rw [take_drop_step h (by rw [← HX.out.1]; exact hhs), e]
                          rfl
                        · refine .inl (List.drop_eq_nil_of_le ?_)
                          rw [List.length_take]; omega
                    have ho2ne : o2 ≠ [] := fun e => hne (by
                      have := HO2.out.1
                      rw [e] at this
                      exact (List.append_eq_nil_iff.1 this.symm).2)
                    rw [HR.out.2, word_split (L := L) (i := i) (j := j) (hi := hi) (by omega) hjh, sm_word (word_no HA.out.1) hne _ _ hR, show decide (o2 ≠ []) = true from by simpa using ho2ne, HO2.out.1, HO1.out]
                    by_cases ho : o = []
                    · simp [ho]
                    · simp [ho]
        · have zi : ¬ (i : Int) < (hi : Int) := by omega
          have hoe : sqz false (Lib.trimSpaceD L) = o := by
            obtain ⟨h1, h2⟩ := trim_ends L
            rw [← join_eq h1 h2, HTR.out, HR.out.2, List.drop_eq_nil_of_le (by rw [List.length_take]; omega)]
            simp [sm]
          have hbel : Below wa.heap.size wa wr := HR.out.1.fr.below (Nat.le_refl _) (fun k hk => hk)
          have hcall := HZ.out wr.drew (HEnv.out.below (hbel.trans ⟨rfl, rfl, rfl, Nat.le_refl _, fun _ _ => rfl⟩))
          rw [hoe] at hcall
          have hstr : ∀ wx, Fr (fun _ => False) wr.drew wx → (convert 25 9 (.slice (some ⟨ga, 0, none⟩) o.length cap)).run Tryd.prog wx = .ok (.string (bs o)) wx := fun wx hf =>
            HR.out.1.str wx (hf.block ga HR.out.1.lt (fun e => e))
          have hcv1 := hstr wr.drew (Fr.refl _ _)
          have HSt : Hid _ := hstr
          have HFr : Hid _ := HR.out.1.fr
          obtain ⟨O, hO⟩ : ∃ O, O = bs o := ⟨_, rfl⟩
          rw [← hO] at hcall hcv1 HSt
          clear hoe hbel hstr hO
          go_upto_region 27 with fail
          go_region_with (go_at_call 8; refine hcall.mono ?_; rintro e w2 ⟨rfl, hf2⟩; have hcv2 := HSt.out w2 hf2; have HF2 : Hid (Fr (fun _ => False) wr.drew w2) := hf2; clear hf2)
          all_goals (
            go_wp2
            go_ret
            exact ⟨by first | rfl | simp, (HFr.out.trans (Fr.drew (F := fun _ => False) wr) (fun _ e => e.elim)).trans HF2.out (fun _ e => e.elim)⟩)
end Go.Proofs.Qxb6603202aDoor
