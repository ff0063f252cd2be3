import Derived.Test.Qxb6602599aDoorNext
import Derived.Deep.Cut
import Derived.Deep.CutRange
import Derived.Deep.CutBlock
namespace Go.Proofs.Qxb6602599aDoor
open Go.RowKit
open Go

set_option maxHeartbeats 6400000 in
set_option maxRecDepth 1000000 in
theorem stream_any (pb po n c : Nat) (xs : List Int) (w : World) (hl : xs.length = n) (h1 : 0 < n) (hn : n ≤ 1048576) (hnc : n ≤ c) (hB : IsB xs) (hc : ∀ i, i < n → w.cell? ⟨pb, po + i, none⟩ = some (.int .u8 (xs.getD i 0))) :
    Calls Tryd.prog 8 #[.slice (some ⟨pb, po, none⟩) n c] w fun e w' => SPost w xs e w' := by
  obtain ⟨t3, ht3⟩ : ∃ t3 : Bool, t3 = true ↔ 3 ≤ n ∧ ∀ j, j < 3 → xs.getD j 0 = M.bomAt j := bool_of _
  obtain ⟨tn, htn⟩ : ∃ tn : Bool, tn = true ↔ n ≤ 3 ∧ ∀ j, j < n → xs.getD j 0 = M.bomAt j := bool_of _
  have hm3 : Calls Tryd.prog 15 #[.slice (some ⟨pb, po, none⟩) n c, .int .i64 0, .int .i64 3] w fun e w' => e = .returned (.bool t3) ∧ Fr (fun _ => False) w w' := by
    by_cases h3 : 3 ≤ n
    · exact cont_any pb po n c 3 xs w h3 (by omega) hc t3 (by rw [ht3]; exact ⟨fun e => e.2, fun e => ⟨h3, e⟩⟩)
    · obtain rfl : t3 = false := by
        cases t3
        · rfl
        · exact absurd (ht3.1 rfl).1 h3
      refine (cont_no (some ⟨pb, po, none⟩) n c 3 w (by omega) (by omega)).mono ?_
      rintro e w' ⟨rfl, rfl⟩
      exact ⟨rfl, Fr.refl _ _⟩
  have hmn : ∀ w1 : World, Fr (fun _ => False) w w1 → Calls Tryd.prog 15 #[.slice (some ⟨pb, po, none⟩) n c, .int .i64 0, .int .i64 n] w1 fun e w' => e = .returned (.bool tn) ∧ Fr (fun _ => False) w1 w' := by
    intro w1 hf
    by_cases h3 : n ≤ 3
    · refine cont_any pb po n c n xs w1 (Nat.le_refl _) h3 (fun i hi => ?_) tn (by rw [htn]; exact ⟨fun e => e.2, fun e => ⟨h3, e⟩⟩)
      rw [hf.cell (p := ⟨pb, po + i, none⟩) (World.block_lt_of_cell? w _ (hc i hi)) (fun e => e)]
      exact hc i hi
    · obtain rfl : tn = false := by
        cases tn
        · rfl
        · exact absurd (htn.1 rfl).1 h3
      refine (cont_no (some ⟨pb, po, none⟩) n c n w1 (by omega) hn).mono ?_
      rintro e w' ⟨rfl, rfl⟩
      exact ⟨rfl, Fr.refl _ _⟩
  have hpb : pb < w.heap.size := World.block_lt_of_cell? w _ (hc 0 h1)
  have HX : Hid _ := And.intro hl (And.intro hc (And.intro ht3 (And.intro htn hB)))
  clear hl hc ht3 htn hB
  obtain ⟨i0, hi3, hi0, hi1, hi2⟩ := info_parts Tryd.info3
  obtain ⟨i5, hi5, hj0, hj1, hj2⟩ := info_parts Tryd.info5
  go_enter Tryd.func8, Tryd.ntmps8
  go_upto_if 24 with (go_at_call 15; refine hm3.mono ?_; rintro e w1 ⟨rfl, hf1⟩)
  have hcn := hmn w1 hf1
  have HF1 : Hid (Fr (fun _ => False) w w1) := hf1
  clear hf1 hm3 hmn
  go_cut [12] from 23 to 28 (fun s12 wx => ∃ pos : Nat, s12 = .int .i64 pos ∧ pos ≤ n ∧ M.LRel xs pos M.begun0 [] ∧ Fr (fun _ => False) w wx)
  case first => as_aux_lemma =>
    cases t3
    · have H3 : Hid (¬ (3 ≤ n ∧ ∀ j, j < 3 → xs.getD j 0 = M.bomAt j)) := fun e => Bool.noConfusion (HX.out.2.2.1.2 e)
      cases tn
      · have HN : Hid (¬ (n ≤ 3 ∧ ∀ j, j < n → xs.getD j 0 = M.bomAt j)) := fun e => Bool.noConfusion (HX.out.2.2.2.1.2 e)
        go_wp2_with (go_at_call 15; refine hcn.mono ?_; rintro e w2 ⟨rfl, hf2⟩)
        go_meet
        case rel => exact ⟨0, rfl, by omega, M.LRel.none (by rw [HX.out.1]; exact H3.out) (by rw [HX.out.1]; exact HN.out), HF1.out.trans hf2 (fun _ e => .inl e)⟩
      · have HN : Hid (n ≤ 3 ∧ ∀ j, j < n → xs.getD j 0 = M.bomAt j) := HX.out.2.2.2.1.1 rfl
        go_wp2_with (go_at_call 15; refine hcn.mono ?_; rintro e w2 ⟨rfl, hf2⟩)
        have hlt : n < 3 := by
          have := HN.out.1
          rcases Nat.lt_or_ge n 3 with h | h
          · exact h
          · obtain rfl : n = 3 := by omega
            exact absurd ⟨h, HN.out.2⟩ H3.out
        have hp := M.bom_part (xs := xs) (by rw [HX.out.1]; exact hlt) (by rw [HX.out.1]; exact HN.out.2)
        exact bodyPost_ret (v := .tuple #[.slice none 0 0, .bool false, .bool false, .slice none 0 0, .slice none 0 0]) (by simp [results, Tryd.results8, go_sem]) rfl (SPost.mk ((MS.start w).quiet (HF1.out.trans hf2 (fun _ e => .inl e))) hp.1 (Fin.of (S := M.begun0) M.Ag.start hp.2))
    · have H3 : Hid (3 ≤ n ∧ ∀ j, j < 3 → xs.getD j 0 = M.bomAt j) := HX.out.2.2.1.1 rfl
      go_wp2
      go_meet
      case rel => exact ⟨3, rfl, H3.out.1, M.LRel.full (by rw [HX.out.1]; exact H3.out.1) H3.out.2, HF1.out⟩
  case rest =>
    obtain ⟨pos0, rfl, hp0, hrel0, hf0⟩ := hcut
    have H0 : Hid _ := And.intro hrel0 hf0
    have HX2 : Hid (xs.length = n ∧ (∀ i, i < n → w.cell? ⟨pb, po + i, none⟩ = some (.int .u8 (xs.getD i 0))) ∧ IsB xs) := ⟨HX.out.1, HX.out.2.1, HX.out.2.2.2.2⟩
    clear hrel0 hf0 hcn HX HF1
    go_wp2
    go_loopg [7, 8, 9, 10, 11, 12, 13, 14, 15, 16, 17] n (fun g s7 s8 s9 s10 s11 s12 s13 s14 s15 s16 s17 wx => ∃ (pos : Nat) (S : M.St) (ec : List Int) (hd : Bool) (z : Int) (nm dt en ed : List Int), n - pos ≤ g ∧ s8 = .bool S.disp ∧ s9 = .bool S.tooLong ∧ s12 = .int .i64 pos ∧ s13 = .bool S.pending ∧ s14 = .bool hd ∧ s15 = .int .i64 z ∧ pos ≤ n ∧ ec.length ≤ pos ∧ M.LRel xs pos S ec ∧ M.Ag S hd z nm dt en ed ∧ MS w.heap.size w wx s7 s10 s11 s16 s17 ec nm dt en ed)
    case atStart => exact ⟨pos0, M.begun0, [], false, 0, [], [], [], [], by omega, rfl, rfl, rfl, rfl, rfl, rfl, hp0, by simp, H0.out.1, M.Ag.start, (MS.start w).quiet H0.out.2⟩
    case round =>
      obtain ⟨pos, S, ec, hd, z, nm, dt, en, ed, hg, rfl, rfl, rfl, rfl, rfl, rfl, hpos, hec, hrel1, hag, hms⟩ := hrel
      obtain ⟨ao7, cap7, rfl, _⟩ := own_form hms.o7
      obtain ⟨ao17, cap17, rfl, _⟩ := own_form hms.o17
      obtain ⟨p10, n10, c10, rfl, hn10, _⟩ := hms.r10
      obtain ⟨p11, n11, c11, rfl, hn11, _⟩ := hms.r11
      obtain ⟨p16, n16, c16, rfl, hn16, hin16, _⟩ := hms.r16
      subst hn10
      subst hn11
      subst hn16
      have hz0 := hag.z0
      have hz1 := hag.z1
      have HR : Hid _ := And.intro hrel1 (And.intro hag hms)
      obtain ⟨D, hD⟩ : ∃ D, D = S.disp := ⟨_, rfl⟩
      obtain ⟨T, hT⟩ : ∃ T, T = S.tooLong := ⟨_, rfl⟩
      obtain ⟨PE, hPE⟩ : ∃ PE, PE = S.pending := ⟨_, rfl⟩
      rw [← hD, ← hT, ← hPE]
      have HD : Hid (D = S.disp ∧ T = S.tooLong ∧ PE = S.pending) := ⟨hD, hT, hPE⟩
      clear hD hT hPE
      clear hrel1 hag hms H0 hin16
      by_cases hpn : pos < n
      · have hpz : (pos : Int) < (n : Int) := by omega
        go_upto_block 2 with fail
        obtain ⟨J, hJ⟩ : ∃ J, J = pos + M.brk (xs.drop pos) := ⟨_, rfl⟩
        have HJ : Hid (J = pos + M.brk (xs.drop pos)) := hJ
        have hJ1 : pos ≤ J := by omega
        have hJ2 : J ≤ n := by have := M.brk_le (xs.drop pos); rw [List.length_drop, HX2.out.1] at this; omega
        clear hJ
        have HC : Hid (∀ i, i < n → wr.cell? ⟨pb, po + i, none⟩ = some (.int .u8 (xs.getD i 0))) := fun i hi => by
          rw [HR.out.2.2.fr.cell (p := ⟨pb, po + i, none⟩) (World.block_lt_of_cell? w _ (HX2.out.2.1 i hi)) (by show ¬ w.heap.size ≤ pb; omega)]
          exact HX2.out.2.1 i hi
        go_cut [18] from 29 to 159 (fun s18 wx => s18 = .int .i64 J ∧ wr = wx)
        case first => as_aux_lemma =>
          have hbe : ∀ j, pos ≤ j → j < J → M.eol (xs.getD j 0) = false := fun j h1 h2 => by
            have := M.brk_before (ys := xs.drop pos) (i := j - pos) (by have := HJ.out; omega)
            rwa [getD_drop, show pos + (j - pos) = j from by omega] at this
          have hat : J < n → M.eol (xs.getD J 0) = true := fun h => by
            have := M.brk_at (ys := xs.drop pos) (by rw [List.length_drop, HX2.out.1]; have := HJ.out; omega)
            rwa [getD_drop, ← HJ.out] at this
          have HBE : Hid _ := And.intro hbe hat
          clear hbe hat
          go_wp2_with fail
          go_loopg [18] (J - pos) (fun g s18 wx => ∃ j : Nat, j + g = J ∧ pos ≤ j ∧ s18 = .int .i64 j ∧ wr = wx)
          case atStart => exact ⟨pos, by omega, Nat.le_refl _, rfl, rfl⟩
          case round =>
            obtain ⟨j, hjg, hj1, rfl, rfl⟩ := hrel
            cases gk with
            | succ g =>
              have hjz : (j : Int) < (n : Int) := by omega
              have e1 := HC.out j (by omega)
              have hne := HBE.out.1 j hj1 (by omega)
              obtain ⟨X, hX⟩ : ∃ X, X = xs.getD j 0 := ⟨_, rfl⟩
              rw [← hX] at e1 hne
              have h13 : (X != 13) = true := by unfold M.eol at hne; simp at hne ⊢; exact hne.1
              have h10 : (X != 10) = true := by unfold M.eol at hne; simp at hne ⊢; exact hne.2
              clear hX hne
              go_wp2
              go_roundg g
              case measure => omega
              case rel => exact ⟨j + 1, by omega, by omega, by first | rfl | simp, rfl⟩
            | zero =>
              obtain rfl : j = J := by omega
              by_cases hjn : j < n
              · have hjz : (j : Int) < (n : Int) := by omega
                have e1 := HC.out j (by omega)
                have hne := HBE.out.2 hjn
                obtain ⟨X, hX⟩ : ∃ X, X = xs.getD j 0 := ⟨_, rfl⟩
                rw [← hX] at e1 hne
                clear hX
                by_cases h13 : X = 13
                · subst h13
                  clear hne
                  go_wp2
                  go_meet
                  case rel => exact ⟨rfl, rfl⟩
                · obtain rfl : X = 10 := by unfold M.eol at hne; simp [h13] at hne; exact hne
                  clear hne
                  go_wp2
                  go_meet
                  case rel => exact ⟨rfl, rfl⟩
              · have hjz : ¬ (j : Int) < (n : Int) := by omega
                go_wp2
                go_meet
                case rel => exact ⟨rfl, rfl⟩
        case rest =>
          obtain ⟨rfl, hwc⟩ := hcut
          subst hwc
          go_upto_region 15 with fail
          obtain ⟨isF, hisF⟩ := bool_of (pos < J ∧ xs.getD pos 0 ≠ 58)
          have HF : Hid _ := hisF
          clear hisF
          go_cut [19] from 29 to 159 (fun s19 wx => s19 = .bool isF ∧ wr = wx)
          case first => as_aux_lemma =>
            by_cases hJp : pos < J
            · have hJz : (pos : Int) < (J : Int) := by omega
              have e1 := HC.out pos hpn
              obtain ⟨X, hX⟩ : ∃ X, X = xs.getD pos 0 := ⟨_, rfl⟩
              rw [← hX] at e1
              by_cases h58 : X = 58
              · subst h58
                obtain rfl : isF = false := by
                  cases isF
                  · rfl
                  · exact absurd hX.symm (HF.out.1 rfl).2
                clear hX HF
                go_wp2
                go_meet
                case rel => exact ⟨rfl, rfl⟩
              · obtain rfl : isF = true := HF.out.2 ⟨hJp, by rw [← hX]; exact h58⟩
                have hb : (X != 58) = true := by simpa using h58
                clear hX HF h58
                go_wp2
                go_meet
                case rel => exact ⟨rfl, rfl⟩
            · have hJz : ¬ (pos : Int) < (J : Int) := by omega
              obtain rfl : isF = false := by
                cases isF
                · rfl
                · exact absurd (HF.out.1 rfl).1 hJp
              clear HF
              go_wp2
              go_meet
              case rel => exact ⟨rfl, rfl⟩
          case rest =>
            obtain ⟨rfl, hwc⟩ := hcut
            subst hwc
            go_upto_region 16 with fail
            obtain ⟨rd, hrd⟩ : ∃ rd : Bool, rd = (isF && (!D && !T)) := ⟨_, rfl⟩
            have HRD : Hid (rd = (isF && (!D && !T))) := hrd
            clear hrd
            go_cut [72] from 29 to 159 (fun s72 wx => s72 = .bool rd ∧ wr = wx)
            case first => as_aux_lemma =>
              cases isF
              · obtain rfl : rd = false := HRD.out
                go_wp2
                go_meet
                case rel => exact ⟨rfl, rfl⟩
              · cases D
                · cases T
                  · obtain rfl : rd = true := HRD.out
                    go_wp2
                    go_meet
                    case rel => exact ⟨rfl, rfl⟩
                  · obtain rfl : rd = false := HRD.out
                    go_wp2
                    go_meet
                    case rel => exact ⟨rfl, rfl⟩
                · obtain rfl : rd = false := HRD.out
                  go_wp2
                  go_meet
                  case rel => exact ⟨rfl, rfl⟩
            case rest =>
              obtain ⟨rfl, hwc⟩ := hcut
              subst hwc
              go_upto_if 72 with fail
              obtain ⟨Z, hZ⟩ : ∃ Z : Int, Z = if rd = true then z + ((J : Int) - (pos : Int)) else z := ⟨_, rfl⟩
              obtain ⟨T2, hT2⟩ : ∃ T2 : Bool, T2 = (T || (rd && decide (Z > 65536))) := ⟨_, rfl⟩
              have HZ : Hid (Z = (if rd = true then z + ((J : Int) - (pos : Int)) else z) ∧ T2 = (T || (rd && decide (Z > 65536)))) := ⟨hZ, hT2⟩
              clear hZ hT2
              go_cut [9, 15] from 29 to 159 (fun s9 s15 wx => s9 = .bool T2 ∧ s15 = .int .i64 Z ∧ wr = wx)
              case first => as_aux_lemma =>
                cases rd
                · obtain rfl : Z = z := HZ.out.1
                  obtain rfl : T2 = T := by rw [HZ.out.2]; simp
                  clear HZ
                  go_wp2
                  go_meet
                  case rel => exact ⟨rfl, rfl, rfl⟩
                · obtain rfl : Z = z + ((J : Int) - (pos : Int)) := HZ.out.1
                  by_cases hov : z + ((J : Int) - (pos : Int)) > 65536
                  · obtain rfl : T2 = true := by rw [HZ.out.2]; simp [hov]
                    clear HZ
                    go_wp2
                    go_meet
                    case rel => exact ⟨rfl, rfl, rfl⟩
                  · obtain rfl : T2 = T := by rw [HZ.out.2]; simp [hov]
                    clear HZ
                    go_wp2
                    go_meet
                    case rel => exact ⟨rfl, rfl, rfl⟩
              case rest =>
                obtain ⟨rfl, rfl, hwc⟩ := hcut
                subst hwc
                by_cases hJn : J = n
                · as_aux_lemma =>
                  have HFin : Hid ((M.evs M.init xs 0).1 = ec ∧ Fin (M.evs M.init xs 0).2 D T2 nm dt) := by
                    have hlx := HX2.out.1
                    have hjx : xs.length = pos + M.brk (xs.drop pos) := by rw [hlx, ← hJn]; exact HJ.out
                    have q := last_line HR.out.1 HR.out.2.1 (by rw [hlx]; exact hpn) hjx isF (by rw [HF.out]; exact ⟨fun e => e.2, fun e => ⟨by omega, e⟩⟩)
                    have ll : (lineAt xs pos xs.length).length = J - pos := by unfold lineAt; rw [List.length_take, List.length_drop]; omega
                    have e : (if isF = true then M.tooNext S z (lineAt xs pos xs.length) else S.tooLong) = T2 := too_eq HD.out.1 HD.out.2.1 HRD.out HZ.out.1 HZ.out.2 ll hJ1
                    rw [e, ← HD.out.1] at q
                    exact q
                  have hJz : ((J : Int) == (n : Int)) = true := by simp; omega
                  go_wp2
                  exact bodyPost_ret (v := .tuple #[.slice ao7 ec.length cap7, .bool D, .bool T2, .slice p10 nm.length c10, .slice p11 dt.length c11]) (by simp [results, Tryd.results8, go_sem]) rfl (SPost.mk HR.out.2.2 HFin.out.1 HFin.out.2)
                · have hJn2 : J < n := by omega
                  have hJz : ((J : Int) == (n : Int)) = false := by simp; omega
                  go_upto_region 22 with fail
                  obtain ⟨crlf, hcrlf⟩ := bool_of (xs.getD J 0 = 13 ∧ J + 1 < n ∧ xs.getD (J + 1) 0 = 10)
                  have HCR : Hid _ := hcrlf
                  clear hcrlf
                  go_cut [103] from 29 to 159 (fun s103 wx => s103 = .bool crlf ∧ wr = wx)
                  case first => as_aux_lemma =>
                    have e1 := HC.out J hJn2
                    have hJlz : (J : Int) < (n : Int) := by omega
                    obtain ⟨X, hX⟩ : ∃ X, X = xs.getD J 0 := ⟨_, rfl⟩
                    rw [← hX] at e1
                    by_cases h13 : X = 13
                    · by_cases hJ1 : J + 1 < n
                      · have e2 := HC.out (J + 1) hJ1
                        have hJ1z : (J : Int) + 1 < (n : Int) := by omega
                        obtain ⟨Y, hY⟩ : ∃ Y, Y = xs.getD (J + 1) 0 := ⟨_, rfl⟩
                        rw [← hY] at e2
                        by_cases h10 : Y = 10
                        · obtain rfl : crlf = true := HCR.out.2 ⟨hX.symm.trans h13, hJ1, hY.symm.trans h10⟩
                          clear HCR hX hY
                          subst h13
                          subst h10
                          go_wp2
                          go_meet
                          case rel => exact ⟨rfl, rfl⟩
                        · obtain rfl : crlf = false := by
                            cases crlf
                            · rfl
                            · exact absurd (hY.trans (HCR.out.1 rfl).2.2) h10
                          have hb : (Y == 10) = false := by simpa using h10
                          clear HCR hX hY h10
                          subst h13
                          go_wp2
                          go_meet
                          case rel => exact ⟨rfl, rfl⟩
                      · obtain rfl : crlf = false := by
                          cases crlf
                          · rfl
                          · exact absurd (HCR.out.1 rfl).2.1 hJ1
                        have hJ1z : ¬ (J : Int) + 1 < (n : Int) := by omega
                        clear HCR hX
                        subst h13
                        go_wp2
                        go_meet
                        case rel => exact ⟨rfl, rfl⟩
                    · obtain rfl : crlf = false := by
                        cases crlf
                        · rfl
                        · exact absurd (hX.trans (HCR.out.1 rfl).1) h13
                      have hb : (X == 13) = false := by simpa using h13
                      clear HCR hX h13
                      go_wp2
                      go_meet
                      case rel => exact ⟨rfl, rfl⟩
                  case rest =>
                    obtain ⟨rfl, hwc⟩ := hcut
                    subst hwc
                    go_upto_if 103 with fail
                    obtain ⟨NX, hNX⟩ : ∃ NX : Nat, NX = if crlf = true then J + 2 else J + 1 := ⟨_, rfl⟩
                    have HNX : Hid (NX = if crlf = true then J + 2 else J + 1) := hNX
                    clear hNX
                    go_cut [20] from 29 to 159 (fun s20 wx => s20 = .int .i64 NX ∧ wr = wx)
                    case first => as_aux_lemma =>
                      cases crlf
                      · obtain rfl : NX = J + 1 := HNX.out
                        clear HNX
                        go_wp2
                        go_meet
                        case rel => exact ⟨by first | rfl | simp, rfl⟩
                      · obtain rfl : NX = J + 2 := HNX.out
                        clear HNX
                        go_wp2
                        go_meet
                        case rel => exact ⟨by first | rfl | simp | (congr 1; omega), rfl⟩
                    case rest =>
                      obtain ⟨rfl, hwc⟩ := hcut
                      subst hwc
                      have HS : Hid (Spot xs n pos J NX crlf) := ⟨HX2.out.1, HX2.out.2.2, HJ.out, hJn2, HCR.out, HNX.out⟩
                      have hNX1 := HS.out.bd
                      clear HCR HNX
                      cases gk with
                      | zero => omega
                      | succ g =>
                      by_cases hJp : J = pos
                      · obtain rfl : isF = false := by
                          cases isF
                          · rfl
                          · have := (HF.out.1 rfl).1
                            omega
                        obtain rfl : rd = false := HRD.out
                        obtain rfl : Z = z := HZ.out.1
                        obtain rfl : T2 = T := by rw [HZ.out.2]; simp
                        have hJpz : ((J : Int) == (pos : Int)) = true := by simp; omega
                        have HJp : Hid (J = pos) := hJp
                        have hJle : J ≤ pos := by omega
                        clear HRD HZ HF HC hJp
                        as_aux_lemma =>
                        go_upto_if 109 with fail
                        go_cut [7] from 29 to 159 (fun s7 wx => ∃ (ao : Option Addr) (cap : Nat) (ec2 : List Int), s7 = .slice ao ec2.length cap ∧ ec2 = ec ++ (if PE = true then [((J : Int) + 1)] else []) ∧ MS w.heap.size w wx (.slice ao ec2.length cap) (.slice p10 nm.length c10) (.slice p11 dt.length c11) (.slice p16 en.length c16) (.slice ao17 ed.length cap17) ec2 nm dt en ed)
                        case first => as_aux_lemma =>
                          cases PE
                          · go_wp2
                            go_meet
                            case rel => exact ⟨ao7, cap7, ec, rfl, by simp, HR.out.2.2⟩
                          · have own1 := HR.out.2.2.o7.alloc (.cells #[.int .i64 ((J : Int) + 1)] 3)
                            go_wp2_with (at_builtin; refine wpList_append_own_at _ rfl (.tmp 110) (.tmp 113) 31 rfl 0 3 i0 (.int .i64 0) 1 8 Tryd.underlying31 hi3 hi0 hi1 hi2 rfl (by decide) _ ec.length (i64s ec) rfl own1 ⟨wr.heap.size, 0, none⟩ 1 1 [.int .i64 ((J : Int) + 1)] rfl rfl (cell_one_new _ _ _) (by intro u hu; simp at hu; subst hu; rfl) (by unfold maxLen; omega) (by omega) (Nat.zero_le _) ?_)
                            intro v' w2 hown' hgrow _ hat
                            have HM2 : Hid _ := HR.out.2.2.ends (Nat.le_refl _) hgrow hown' rfl (by first | exact hat | (simp at hat; exact hat))
                            obtain ⟨ao, cap, hv', _⟩ := own_form hown'
                            clear hown' hgrow hat own1
                            subst hv'
                            go_wp2
                            go_meet
                            case rel => exact ⟨ao, cap, ec ++ [(J : Int) + 1], by simp, by simp, by simpa using HM2.out⟩
                        case rest =>
                          obtain ⟨ao, cap, ec2, rfl, hec2, hms2⟩ := hcut
                          have HM : Hid _ := And.intro hec2 hms2
                          have hed := HR.out.2.1.lf
                          have hen := HR.out.2.1.le
                          have hecl : ec2.length ≤ J + 1 := by
                            rw [hec2, List.length_append]
                            split <;> simp <;> omega
                          clear hec2 hms2
                          go_upto_region 27 with fail
                          obtain ⟨dd, hdd⟩ : ∃ dd : Bool, dd = ((!D && !T2) && hd) := ⟨_, rfl⟩
                          have HDD : Hid (dd = ((!D && !T2) && hd)) := hdd
                          clear hdd
                          go_cut [123] from 29 to 159 (fun s123 wx => s123 = .bool dd ∧ wc = wx)
                          case first => as_aux_lemma =>
                            cases D
                            · cases T2
                              · cases hd
                                · obtain rfl : dd = false := HDD.out
                                  go_wp2
                                  go_meet
                                  case rel => exact ⟨rfl, rfl⟩
                                · obtain rfl : dd = true := HDD.out
                                  go_wp2
                                  go_meet
                                  case rel => exact ⟨rfl, rfl⟩
                              · obtain rfl : dd = false := HDD.out
                                go_wp2
                                go_meet
                                case rel => exact ⟨rfl, rfl⟩
                            · obtain rfl : dd = false := HDD.out
                              go_wp2
                              go_meet
                              case rel => exact ⟨rfl, rfl⟩
                          case rest =>
                            obtain ⟨rfl, hwc⟩ := hcut
                            subst hwc
                            have HRH : Hid ((M.reading S && hd) = dd) := by
                              show (M.reading S && hd) = dd
                              rw [HDD.out, HD.out.1, HD.out.2.1]; rfl
                            have HL : Hid (M.LRel xs NX (M.emptyLine S) ec2) := by
                              have := HS.out.empty HJp.out HR.out.1
                              rw [← HD.out.2.2, ← HM.out.1] at this
                              exact this
                            clear HDD
                            cases dd
                            · go_wp2
                              go_roundg g
                              case measure => omega
                              case rel => exact ⟨NX, M.emptyLine S, ec2, false, 0, nm, dt, [], [], by omega, by rw [M.emptyLine_same HRH.out HR.out.2.1, HD.out.1], by rw [M.emptyLine_too, HD.out.2.1], rfl, by rw [M.empty_pending], rfl, rfl, hNX1.2, by omega, HL.out, HR.out.2.1.empty HRH.out, HM.out.2.reset⟩
                            · have hc1 := clone_new p16 en.length c16 en wc rfl (by omega) HM.out.2.r16.bin
                              have hdis := HR.out.2.1.dispatch HR.out.1.inv HRH.out
                              have hed0 : 0 < ed.length := List.length_pos_iff.2 hdis.2
                              have HDI : Hid _ := hdis.1
                              clear hdis
                              go_wp2_with fail
                              refine hc1.mono ?_
                              rintro e w3 ⟨p3, c3, rfl, hin3, hat3, hf3⟩
                              have HM3 : Hid _ := (HM.out.2.quiet hf3).set10 ((HM.out.2.bs (c' := c3) rfl hin3 hat3))
                              clear hin3 hat3 hf3 hc1
                              have hc2 := clone_new ao17 (ed.length - 1) cap17 ed.dropLast w3 (by rw [List.length_dropLast]) (by omega) HM3.out.data_bin
                              go_wp2_with fail
                              refine hc2.mono ?_
                              rintro e w4 ⟨p4, c4, rfl, hin4, hat4, hf4⟩
                              have HM4 : Hid _ := ((HM3.out.quiet hf4).set11 (HM3.out.bs (c' := c4) (List.length_dropLast (xs := ed)).symm hin4 hat4)).reset
                              clear hin4 hat4 hf4 hc2
                              go_wp2
                              go_roundg g
                              case measure => omega
                              case rel => exact ⟨NX, M.emptyLine S, ec2, false, 0, en, ed.dropLast, [], [], by omega, by rw [M.emptyLine_disp HRH.out HR.out.2.1], by rw [M.emptyLine_too, HD.out.2.1], rfl, by rw [M.empty_pending], rfl, rfl, hNX1.2, by omega, HL.out, HDI.out, HM4.out⟩
                      · have hJpz : ((J : Int) == (pos : Int)) = false := by simp; omega
                        cases isF
                        · have H58 : Hid (xs.getD pos 0 = 58) := by
                            show xs.getD pos 0 = 58
                            by_cases h : xs.getD pos 0 = 58
                            · exact h
                            · exact absurd (HF.out.2 ⟨by omega, h⟩) (by decide)
                          obtain rfl : rd = false := HRD.out
                          obtain rfl : Z = z := HZ.out.1
                          obtain rfl : T2 = T := by rw [HZ.out.2]; simp
                          clear HRD HZ HF HC
                          as_aux_lemma =>
                          go_wp2
                          go_roundg g
                          case measure => omega
                          case rel => exact ⟨NX, S, ec, hd, Z, nm, dt, en, ed, by omega, by rw [HD.out.1], by rw [HD.out.2.1], rfl, by rw [HD.out.2.2], rfl, rfl, hNX1.2, by omega, HS.out.colon HR.out.1 (by omega) H58.out, HR.out.2.1, HR.out.2.2⟩
                        · have H58 : Hid (xs.getD pos 0 ≠ 58) := (HF.out.1 rfl).2
                          have hJp2 : pos < J := by omega
                          have HLn : Hid ((lineAt xs pos J).length = J - pos) := HS.out.line.2.1
                          have HT2 : Hid ((M.fieldT S (lineAt xs pos J)).tooLong = T2) := by
                            show (M.fieldT S (lineAt xs pos J)).tooLong = T2
                            rw [M.fieldT_too HR.out.2.1]
                            exact too_eq (isF := true) HD.out.1 HD.out.2.1 HRD.out HZ.out.1 HZ.out.2 HLn.out hJ1
                          have HZ2 : Hid (Z = M.zNext S z (lineAt xs pos J)) := z_eq HD.out.1 HD.out.2.1 HRD.out HZ.out.1 HLn.out hJ1
                          obtain ⟨r2, hr2⟩ : ∃ r2 : Bool, r2 = (!D && !T2) := ⟨_, rfl⟩
                          have HR2 : Hid (r2 = (!D && !T2) ∧ M.reading (M.fieldT S (lineAt xs pos J)) = r2) := ⟨hr2, by rw [hr2, M.reading, M.fieldT_disp, HT2.out, HD.out.1]⟩
                          have HLR : Hid _ := HS.out.field HR.out.1 hJp2 H58.out
                          have hed := HR.out.2.1.lf
                          have hen := HR.out.2.1.le
                          clear HRD HZ HF hr2 H58
                          as_aux_lemma =>
                          go_upto_region 35 with fail
                          go_cut [138] from 29 to 159 (fun s138 wx => s138 = .bool r2 ∧ wr = wx)
                          case first =>
                            cases D
                            · cases T2
                              · obtain rfl : r2 = true := HR2.out.1
                                go_wp2
                                go_meet
                                case rel => exact ⟨rfl, rfl⟩
                              · obtain rfl : r2 = false := HR2.out.1
                                go_wp2
                                go_meet
                                case rel => exact ⟨rfl, rfl⟩
                            · obtain rfl : r2 = false := HR2.out.1
                              go_wp2
                              go_meet
                              case rel => exact ⟨rfl, rfl⟩
                          case rest =>
                            obtain ⟨rfl, hwc⟩ := hcut
                            subst hwc
                            have HE8 : Hid (D = (M.lineEnd (M.fieldT S (lineAt xs pos J))).disp) := by
                              show D = _
                              rw [M.lineEnd_disp, M.fieldT_disp, HD.out.1]
                            have HE9 : Hid (T2 = (M.lineEnd (M.fieldT S (lineAt xs pos J))).tooLong) := by
                              show T2 = _
                              rw [M.lineEnd_too, HT2.out]
                            have HE13 : Hid (true = (M.lineEnd (M.fieldT S (lineAt xs pos J))).pending) := by
                              show true = _
                              rw [M.lineEnd_pending, M.fieldT_pending]
                            cases r2
                            · as_aux_lemma =>
                              go_wp2
                              go_roundg g
                              case measure => omega
                              case rel => exact ⟨NX, _, ec, hd, Z, nm, dt, en, ed, by omega, by rw [HE8.out], by rw [HE9.out], rfl, by rw [HE13.out], rfl, rfl, hNX1.2, by omega, HLR.out, by rw [HZ2.out]; exact HR.out.2.1.dead HR.out.1.inv _ (by rw [HLn.out]; omega) HR2.out.2, HR.out.2.2⟩
                            · have hcp : ¬ c = pos := by omega
                              have hlc : ∀ i, i < J - pos → wr.cell? ⟨pb, po + pos + i, none⟩ = some (.int .u8 ((lineAt xs pos J).getD i 0)) := fun i hi => by
                                rw [Nat.add_assoc, HC.out (pos + i) (by omega)]
                                simp [lineAt, List.getD, hi]
                              have hfa := field_any pb (po + pos) (J - pos) (c - pos) (lineAt xs pos J) wr HLn.out (by omega) (by omega) (by omega) hlc
                              have HLC : Hid _ := hlc
                              have hvl := M.name_len (lineAt xs pos J)
                              rw [HLn.out] at hvl
                              obtain ⟨kn, hkn⟩ : ∃ kn, kn = (M.fieldName (lineAt xs pos J)).length := ⟨_, rfl⟩
                              rw [← hkn] at hfa hvl
                              have HKN : Hid (kn = (M.fieldName (lineAt xs pos J)).length) := hkn
                              clear hlc hkn
                              go_wp2_with fail
                              refine hfa.mono ?_
                              rintro e w2 ⟨k1, o, nv, cv, rfl, hnv, hcv, hf2⟩
                              rw [← hnv] at hvl
                              have HM2 : Hid _ := HR.out.2.2.quiet hf2
                              have HV : Hid _ := And.intro hnv hcv
                              have HF2 : Hid _ := hf2
                              clear hnv hcv hf2 hfa
                              have HB2 : Hid (BIn w2 (some ⟨pb, po + pos, none⟩) kn (M.fieldName (lineAt xs pos J))) := fun h0 => ⟨pb, po + pos, rfl, fun i hi => by
                                have h1 := HLC.out i (by omega)
                                rw [HF2.out.cell (p := ⟨pb, po + pos + i, none⟩) (World.block_lt_of_cell? wr _ h1) (fun e => e), h1, M.fn_take, ← HKN.out]
                                simp [List.getD, hi]⟩
                              have HV2 : Hid (∀ w3 : World, Fr (fun _ => False) w2 w3 → ∀ i, i < nv → w3.cell? ⟨pb, o + i, none⟩ = some (.int .u8 ((M.fieldValue (lineAt xs pos J)).getD i 0))) := fun w3 hf i hi => by
                                have h1 := HV.out.2 i hi
                                have hff := HF2.out.trans hf (fun _ e => .inl e)
                                rw [hff.cell (p := ⟨pb, o + i, none⟩) (World.block_lt_of_cell? wr _ h1) (fun e => e), h1]
                              by_cases he : M.fieldName (lineAt xs pos J) = M.sEvent
                              · have hi1 := is_any (some ⟨pb, po + pos, none⟩) kn k1 (M.fieldName (lineAt xs pos J)) ⟨#[101, 118, 101, 110, 116]⟩ w2 (by omega) HKN.out.symm HB2.out true ⟨fun _ => by rw [he]; kernel_rfl, fun _ => rfl⟩
                                have HEv : Hid _ := he
                                clear he
                                as_aux_lemma =>
                                go_wp2_with fail
                                refine hi1.mono ?_
                                rintro e w3 ⟨rfl, hf3⟩
                                have HM3 : Hid _ := HM2.out.quiet hf3
                                have hc4 := clone_new (some ⟨pb, o, none⟩) nv cv (M.fieldValue (lineAt xs pos J)) w3 HV.out.1.symm (by omega) (fun _ => ⟨pb, o, rfl, HV2.out w3 hf3⟩)
                                clear hi1 hf3
                                go_wp2_with fail
                                refine hc4.mono ?_
                                rintro e w4 ⟨p4, c4, rfl, hin4, hat4, hf4⟩
                                have HM4 : Hid _ := (HM3.out.quiet hf4).set16 (HM3.out.bs (c' := c4) HV.out.1 hin4 hat4)
                                clear hin4 hat4 hf4 hc4
                                go_wp2
                                go_roundg g
                                case measure => omega
                                case rel => exact ⟨NX, _, ec, hd, Z, nm, dt, _, ed, by omega, by rw [HE8.out], by rw [HE9.out], rfl, by rw [HE13.out], rfl, rfl, hNX1.2, by omega, HLR.out, by rw [HZ2.out]; exact HR.out.2.1.event HR.out.1.inv HR.out.1.at0 _ HR2.out.2 HEv.out, HM4.out⟩
                              · have hi1 := is_any (some ⟨pb, po + pos, none⟩) kn k1 (M.fieldName (lineAt xs pos J)) ⟨#[101, 118, 101, 110, 116]⟩ w2 (by omega) HKN.out.symm HB2.out false ⟨(fun e => by cases e), fun e => absurd (e.trans (by kernel_rfl)) he⟩
                                have HEv : Hid _ := he
                                clear he
                                go_wp2_with fail
                                refine hi1.mono ?_
                                rintro e w3 ⟨rfl, hf3⟩
                                have HM3 : Hid _ := HM2.out.quiet hf3
                                have HF3 : Hid _ := hf3
                                have HB3 : Hid (BIn w3 (some ⟨pb, po + pos, none⟩) kn (M.fieldName (lineAt xs pos J))) := BIn.kept HB2.out hf3 (fun _ _ _ e => e)
                                clear hi1 hf3
                                by_cases hda : M.fieldName (lineAt xs pos J) = M.sData
                                · have hi2 := is_any (some ⟨pb, po + pos, none⟩) kn k1 (M.fieldName (lineAt xs pos J)) ⟨#[100, 97, 116, 97]⟩ w3 (by omega) HKN.out.symm HB3.out true ⟨fun _ => by rw [hda]; kernel_rfl, fun _ => rfl⟩
                                  have HDa : Hid _ := hda
                                  clear hda
                                  as_aux_lemma =>
                                  go_wp2_with fail
                                  refine hi2.mono ?_
                                  rintro e w4 ⟨rfl, hf4⟩
                                  have HM4 : Hid _ := HM3.out.quiet hf4
                                  have own0 := HM4.out.o17
                                  have hnews : ∀ j u, (ubs (M.fieldValue (lineAt xs pos J)))[j]? = some u → w4.cell? ((⟨pb, o, none⟩ : Addr).add j) = some u := BIn.news HV.out.1.symm (fun _ => ⟨pb, o, rfl, HV2.out w4 (HF3.out.trans hf4 (fun _ e => .inl e))⟩)
                                  have hnvl : (ubs (M.fieldValue (lineAt xs pos J))).length = nv * 1 := by rw [ubs_len, HV.out.1]
                                  clear hi2 hf4
                                  go_wp2_with (at_builtin; refine wpList_append_own_at _ rfl (.tmp 153) (.tmp 154) 22 rfl 0 5 i5 (.int .u8 0) 1 1 Tryd.underlying22 hi5 hj0 hj1 hj2 rfl (by decide) _ ed.length (ubs ed) rfl own0 ⟨pb, o, none⟩ nv cv (ubs (M.fieldValue (lineAt xs pos J))) rfl hnvl hnews (ubs_one _) (by unfold maxLen; omega) (by omega) (Nat.zero_le _) ?_)
                                  intro v5 w5 hown5 hgrow5 _ hat5
                                  rw [ubs_app] at hown5
                                  have HM5 : Hid (MS w.heap.size w w5 (.slice ao7 ec.length cap7) (.slice p10 nm.length c10) (.slice p11 dt.length c11) (.slice p16 en.length c16) v5 ec nm dt en (ed ++ M.fieldValue (lineAt xs pos J))) := HM4.out.grow (Nat.le_refl _) (Fr.grown hgrow5 (fun k hk => hk)) hown5 (by rw [List.length_append, ← HV.out.1]) (fun k hk => by
                                    rcases hat5 with e | e
                                    · exact .inl (e ▸ hk)
                                    · rw [hk] at e; cases e; exact .inr (Nat.le_refl _))
                                  obtain ⟨ao5, cap5, hv5, _⟩ := own_form hown5
                                  subst hv5
                                  have own6 := hown5.alloc (.cells #[.int .u8 10] 5)
                                  clear hown5 hgrow5 hat5 own0 hnews hnvl
                                  go_wp2_with (at_builtin; refine wpList_append_own_at _ rfl (.tmp 156) (.tmp 157) 22 rfl 0 5 i5 (.int .u8 0) 1 1 Tryd.underlying22 hi5 hj0 hj1 hj2 rfl (by decide) _ (ed.length + nv) (ubs (ed ++ M.fieldValue (lineAt xs pos J))) rfl own6 ⟨w5.heap.size, 0, none⟩ 1 1 (ubs [10]) rfl rfl (cell_one_new _ _ _) (ubs_one _) (by unfold maxLen; omega) (by omega) (Nat.zero_le _) ?_)
                                  intro v6 w6 hown6 hgrow6 _ hat6
                                  rw [ubs_app] at hown6
                                  have HM6 : Hid _ := HM5.out.grow (Nat.le_refl _) ((Fr.alloc _ _).trans (Fr.grown hgrow6 (fun k hk => hk)) (fun k hk => .inl hk)) hown6 (by simp only [List.length_append, List.length_cons, List.length_nil, ← HV.out.1]) (fun k hk => by
                                    rcases hat6 with e | e
                                    · exact .inl (e ▸ hk)
                                    · rw [hk] at e; simp at e; exact .inr (by omega))
                                  obtain ⟨ao6, cap6, hv6, _⟩ := own_form hown6
                                  subst hv6
                                  clear hown6 hgrow6 hat6 own6
                                  go_wp2
                                  go_roundg g
                                  case measure => omega
                                  case rel => exact ⟨NX, _, ec, true, Z, nm, dt, en, _, by omega, by rw [HE8.out], by rw [HE9.out], rfl, by rw [HE13.out], rfl, rfl, hNX1.2, by omega, HLR.out, by rw [HZ2.out]; exact HR.out.2.1.data HR.out.1.inv HR.out.1.at0 _ HR2.out.2 HEv.out HDa.out, HM6.out⟩
                                · have hi2 := is_any (some ⟨pb, po + pos, none⟩) kn k1 (M.fieldName (lineAt xs pos J)) ⟨#[100, 97, 116, 97]⟩ w3 (by omega) HKN.out.symm HB3.out false ⟨(fun e => by cases e), fun e => absurd (e.trans (by kernel_rfl)) hda⟩
                                  have HDa : Hid _ := hda
                                  clear hda
                                  as_aux_lemma =>
                                  go_wp2_with fail
                                  refine hi2.mono ?_
                                  rintro e w4 ⟨rfl, hf4⟩
                                  have HM4 : Hid _ := HM3.out.quiet hf4
                                  clear hi2 hf4
                                  go_wp2
                                  go_roundg g
                                  case measure => omega
                                  case rel => exact ⟨NX, _, ec, hd, Z, nm, dt, en, ed, by omega, by rw [HE8.out], by rw [HE9.out], rfl, by rw [HE13.out], rfl, rfl, hNX1.2, by omega, HLR.out, by rw [HZ2.out]; exact HR.out.2.1.other HR.out.1.inv HR.out.1.at0 _ HR2.out.2 HEv.out HDa.out, HM4.out⟩
      · have hpz : ¬ (pos : Int) < (n : Int) := by omega
        as_aux_lemma =>
        have HFin : Hid ((M.evs M.init xs 0).1 = ec ∧ Fin (M.evs M.init xs 0).2 D T nm dt) := by
          have hlx := HX2.out.1
          have q := HR.out.1
          rw [show pos = xs.length from by omega] at q
          have := at_end q HR.out.2.1
          rw [← HD.out.1, ← HD.out.2.1] at this
          exact this
        go_wp2
        exact bodyPost_ret (v := .tuple #[.slice ao7 ec.length cap7, .bool D, .bool T, .slice p10 nm.length c10, .slice p11 dt.length c11]) (by simp [results, Tryd.results8, go_sem]) rfl (SPost.mk HR.out.2.2 HFin.out.1 HFin.out.2)
end Go.Proofs.Qxb6602599aDoor
