import Derived.Test.Qxb6603202aDoorSq
import Derived.Test.Qxb6603202aDoorShelf
namespace Go.Proofs.Qxb6603202aDoor
open Go.RowKit
open Go

structure Env (w : World) (m : Int) : Prop where
  tab : Lib.TabIs Tryd.prog w "strings.asciiSpace" .u8 Lib.asciiSpaceTab
  u8 : Lib.Utf8Tabs 3 4 w
  ws : Lib.WhiteTab 1 w
  max : w.cell? ⟨2, 0, none⟩ = some (.int .i64 m)

theorem trimD_len (l : List UInt8) : (Lib.trimSpaceD l).length ≤ l.length := by
  rw [trim_SR]
  have h1 := (SR_tail _ (SL l) (Nat.le_refl _)).2.length_le
  have h2 : (SL l).length ≤ l.length := stripL_len l.length l
  omega

set_option maxHeartbeats 3200000 in
theorem trimAll_any (s : ByteArray) (m : Int) (w : World) (hs : s.size ≤ 1048576) (henv : Env w m) :
    Calls Tryd.prog 11 #[.string s] w fun e w' => e = .returned (.string (bs (sqz false (Lib.trimSpaceD s.data.toList)))) ∧ Fr (fun _ => False) w w' := by
  have h1 := Tryd.strings_TrimSpace_any s w (by omega) henv.tab henv.u8 henv.ws
  obtain ⟨T, hT⟩ : ∃ T, T = Lib.trimSpaceD s.data.toList := ⟨_, rfl⟩
  have hlen : T.length ≤ 1048576 := by
    have := trimD_len s.data.toList
    rw [← hT] at this
    have e : s.data.toList.length = s.size := by simp
    omega
  change Calls Tryd.prog 12 _ w (fun e w' => e = .returned (.string (bs (Lib.trimSpaceD s.data.toList))) ∧ _) at h1
  rw [← hT] at h1 ⊢
  obtain ⟨v, hv⟩ : ∃ v, v = bs T := ⟨_, rfl⟩
  rw [← hv] at h1
  have hvl : v.data.toList = T := by rw [hv]; rfl
  have hvs : v.size = T.length := by rw [hv, bs_size]
  have hsz : v.size ≤ 1048576 := by omega
  have HM : Hid (w.cell? ⟨2, 0, none⟩ = some (.int .i64 m)) := henv.max
  have HX : Hid (v = bs T ∧ v.data.toList = T ∧ v.size = T.length) := ⟨hv, hvl, hvs⟩
  clear hv hvl hvs hT henv hlen
  obtain ⟨O, hO⟩ : ∃ O, O = bs (sqz false T) := ⟨_, rfl⟩
  rw [← hO]
  have HO : Hid _ := hO
  clear hO
  go_enter Tryd.func11, Tryd.ntmps11
  go_wp2_with fail
  refine h1.mono ?_
  rintro e w1 ⟨rfl, hb1⟩
  have hm1 : w1.cell? ⟨2, 0, none⟩ = some (.int .i64 m) := by
    rw [(Fr.of_below (F := fun _ => False) hb1).cell (p := ⟨2, 0, none⟩) (World.block_lt_of_cell? w _ HM.out) (fun e => e)]; exact HM.out
  have hc := Tryd.strings_Contains v ⟨#[32, 32]⟩ m w1 (by omega) hm1
  obtain ⟨C, hC⟩ : ∃ C, C = Lib.contains v.data.toList [32, 32] := ⟨_, rfl⟩
  change Calls Tryd.prog 13 _ w1 (fun e w' => e = .returned (.bool (Lib.contains v.data.toList [32, 32])) ∧ w' = w1) at hc
  rw [← hC] at hc
  have HC : Hid _ := hC
  have HB1 : Hid (Below w.heap.size w w1) := hb1
  clear hC hb1 hm1 h1
  cases C
  · have hOv : O = v := by
      rw [HO.out, sqz_same T _ false (fun e => by cases e), HX.out.1]
      have := HC.out
      rw [HX.out.2.1] at this
      unfold Lib.contains at this
      simpa using this.symm
    subst hOv
    go_wp2_with fail
    refine hc.mono ?_
    rintro e w2 ⟨rfl, rfl⟩
    go_wp2
    go_ret
    exact ⟨rfl, Fr.of_below HB1.out⟩
  · go_wp2_with fail
    refine hc.mono ?_
    rintro e w2 ⟨rfl, rfl⟩
    clear hc
    have hBs : w.heap.size ≤ w2.heap.size := HB1.out.size
    have hg := Tryd.Builder_Grow_fresh w.heap.size w2.heap.size v.size (w2.alloc (.cells #[.pointer none, .slice none 0 0] 31)) hBs (by simp [World.alloc, -World.alloc_eq]) (by simp; omega) (by omega)
    obtain ⟨b, hb⟩ : ∃ b, b = w2.heap.size := ⟨_, rfl⟩
    have HBb : Hid (w.heap.size ≤ b) := by rw [hb]; exact hBs
    go_wp2_with fail
    rw [← hb] at hg ⊢
    clear hBs
    refine hg.mono ?_
    rintro e w3 ⟨rfl, hat, hbel⟩
    have HF3 : Hid (Below w.heap.size w w3) := HB1.out.trans (((Below.refl _ _).alloc (by rw [← hb]; exact HBb.out) _).trans hbel)
    have HAT : Hid _ := hat
    clear hg hat hbel hb
    go_wp2
    go_loopg [16] v.size (fun g s16 wx => ∃ (i : Nat) (o : List UInt8), i + g = v.size ∧ s16 = .int .i64 i ∧ Lib.BuilderAt 31 5 w.heap.size b (.pointer (some ⟨b, 0, none⟩)) (Lib.byteCells o) wx ∧ o.length ≤ i ∧ Below w.heap.size w wx ∧ sqz false T = o ++ sqz (decide (0 < i) && T.getD (i - 1) 0 == 32) (T.drop i))
    case atStart => exact ⟨0, [], by omega, rfl, HAT.out, Nat.le_refl _, HF3.out, by simp⟩
    case round =>
      obtain ⟨i, o, hig, rfl, hat, hol, hbel, hsq⟩ := hrel
      have HR : Hid _ := And.intro hat (And.intro hbel hsq)
      clear hat hbel hsq
      cases gk with
      | zero =>
        obtain rfl : i = v.size := by omega
        have hst := Tryd.Builder_String_any w.heap.size b o wr (.inr HR.out.1) HR.out.2.1.size
        have hOo : O = bs o := by
          rw [HO.out, HR.out.2.2, List.drop_eq_nil_of_le (by rw [HX.out.2.2]; exact Nat.le_refl _), sqz, List.append_nil]
        change Calls Tryd.prog 16 _ wr (fun e w' => e = .returned (.string (bs o)) ∧ _) at hst
        rw [← hOo] at hst
        clear hOo
        go_wp2_with fail
        refine hst.mono ?_
        rintro e w4 ⟨rfl, hb4⟩
        have HB4 : Hid _ := hb4
        clear hb4 hst
        go_wp2
        go_ret
        exact ⟨rfl, Fr.of_below (HR.out.2.1.trans HB4.out)⟩
      | succ g =>
        have zi : (i : Int) < (v.size : Int) := by omega
        have e1 := idx_str v i (by omega) wr
        rw [at_, HX.out.2.1] at e1
        have hstep := sqz_step (T := T) (i := i) (by rw [← HX.out.2.2]; omega) (decide (0 < i) && T.getD (i - 1) 0 == 32)
        obtain ⟨X, hX⟩ : ∃ X, X = T.getD i 0 := ⟨_, rfl⟩
        rw [← hX] at e1 hstep
        have HS : Hid _ := hstep
        have HXX : Hid _ := hX
        clear hX hstep
        obtain ⟨K, hK⟩ : ∃ K, K = (decide (0 < i) && X == 32 && T.getD (i - 1) 0 == 32) := ⟨_, rfl⟩
        have HK : Hid _ := hK
        clear hK
        go_upto_region 9 with fail
        go_cut [33] from 17 to 38 (fun s33 wx => s33 = .bool K ∧ wr = wx)
        case first => as_aux_lemma =>
          by_cases hi0 : 0 < i
          · have zi0 : (i : Int) > 0 := by omega
            by_cases hx : X = 32
            · have zx : ((X.toNat : Int) == 32) = true := by rw [hx]; rfl
              have e2 := idx_str v (i - 1) (by omega) wr
              rw [at_, HX.out.2.1, show ((i - 1 : Nat) : Int) = (i : Int) - 1 from by omega] at e2
              obtain ⟨Y, hY⟩ : ∃ Y, Y = T.getD (i - 1) 0 := ⟨_, rfl⟩
              rw [← hY] at e2 HK
              clear hY
              have hKY : K = (Y == 32) := by rw [HK.out, hx]; simp [hi0]
              have zy : ((Y.toNat : Int) == 32) = K := by rw [hKY]; exact u8_beq Y 32 (by omega)
              clear hKY hx HK
              cases K
              · go_wp2
                go_meet
                case rel => exact ⟨by first | rfl | rw [zy], rfl⟩
              · go_wp2
                go_meet
                case rel => exact ⟨by first | rfl | rw [zy], rfl⟩
            · have zx : ((X.toNat : Int) == 32) = false := ne_int 32 (by omega) hx
              obtain rfl : K = false := by rw [HK.out]; simp [hx]
              clear hx
              go_wp2
              go_meet
              case rel => exact ⟨rfl, rfl⟩
          · have zi0 : ¬ (i : Int) > 0 := by omega
            obtain rfl : K = false := by rw [HK.out]; simp [hi0]
            go_wp2
            go_meet
            case rel => exact ⟨rfl, rfl⟩
        case rest =>
          obtain ⟨rfl, hwc⟩ := hcut
          subst hwc
          cases K
          · have hwb := Tryd.Builder_WriteByte w.heap.size b (Lib.byteCells o) (X.toNat : Int) wr (.inr HR.out.1) (by rw [Lib.byteCells_length]; omega) HR.out.2.1.size
            go_wp2_with fail
            refine hwb.mono ?_
            rintro e w4 ⟨rfl, hat4, hb4⟩
            have HR4 : Hid _ := And.intro hat4 hb4
            clear hat4 hb4 hwb
            go_wp2
            go_roundg g
            case measure => omega
            case rel =>
              refine ⟨i + 1, o ++ [X], by omega, by first | rfl | simp, ?_, by rw [List.length_append, List.length_singleton]; omega, HR.out.2.1.trans HR4.out.2, ?_⟩
              · have := HR4.out.1
                rwa [show Lib.byteCells o ++ [Value.int .u8 (X.toNat : Int)] = Lib.byteCells (o ++ [X]) from by rw [Lib.byteCells_append]; rfl] at this
              · have hn : ¬ (X = 32 ∧ (decide (0 < i) && T.getD (i - 1) 0 == 32) = true) := fun h => by
                  have hk := HK.out
                  rw [h.1] at hk
                  simp only [Bool.and_eq_true] at h
                  rw [h.2.1, h.2.2] at hk
                  exact Bool.noConfusion hk
                rw [HR.out.2.2, HS.out, if_neg hn, Nat.add_sub_cancel, ← HXX.out]
                simp
          · go_wp2
            go_roundg g
            case measure => omega
            case rel =>
              have hk := HK.out.symm
              rw [Bool.and_eq_true, Bool.and_eq_true, beq_iff_eq] at hk
              refine ⟨i + 1, o, by omega, by first | rfl | simp, HR.out.1, by omega, HR.out.2.1, ?_⟩
              rw [HR.out.2.2, HS.out, if_pos ⟨hk.1.2, by rw [hk.1.1, hk.2]; rfl⟩, Nat.add_sub_cancel, ← HXX.out, hk.1.2]
              simp
end Go.Proofs.Qxb6603202aDoor
