import Derived.Test.Qxb6602721aDoorRowk
namespace Go.Proofs.Qxb6602721aDoor
open Go.RowKit
open Go

def dz (l : List UInt8) : List UInt8 := Lib.trimLeftB l 48
theorem dz_app (q : List UInt8) (c : UInt8) : dz (q ++ [c]) = if dz q = [] ∧ c = 48 then [] else dz q ++ [c] := by
  unfold dz Lib.trimLeftB
  induction q with
  | nil =>
    rw [List.nil_append, List.dropWhile_cons]
    by_cases hc : c = 48
    · simp [hc]
    · simp [hc]
  | cons x r ih =>
    rw [List.cons_append, List.dropWhile_cons, List.dropWhile_cons]
    by_cases hx : (x == 48) = true
    · rw [if_pos hx, if_pos hx, ih]
    · rw [if_neg hx, if_neg hx, if_neg (by simp)]
      rfl
theorem dz_len (q : List UInt8) : (dz q).length ≤ q.length := (List.dropWhile_sublist _).length_le

def padM (D : List UInt8) (P : Nat) : List UInt8 := if D.length ≤ P then List.replicate (P + 1 - D.length) 48 ++ D else D
def valM (ng : Bool) (G : List UInt8) (P : Nat) : List UInt8 := if 0 < P then signOf ng ++ G.take (G.length - P) ++ [46] ++ G.drop (G.length - P) else signOf ng ++ G.take (G.length - P)
def fmtM (LD FL : Nat) (PT : Bool) : List UInt8 := if PT = true then List.replicate LD 48 ++ [46] ++ List.replicate FL 48 else List.replicate LD 48

def ModP (w : World) (V F : List UInt8) (e : Ending) (w' : World) : Prop := e = .returned (.tuple #[.string (bs V), .string (bs F), .bool true]) ∧ Fr (fun _ => False) w w'

theorem shape_st (f : List UInt8) : (shape f).2.2.1 = st f := by
  unfold shape
  split
  · rfl
  · split
    · rfl
    · split
      · rfl
      · split <;> rfl

set_option maxHeartbeats 1600000 in
set_option maxRecDepth 100000 in
theorem model_no (s : ByteArray) (k : Int) (w : World) (hs : s.size ≤ 1048576) (hst : st s.data.toList ≤ s.size) (h : (shape s.data.toList).1 = false ∨ 15 < (Lib.trimB (noDot (s.data.toList.drop (st s.data.toList))) 48).length) :
    Calls Tryd.prog 8 #[.string s, .int .i64 k] w fun e w' => e = .returned (.tuple #[.string ⟨#[]⟩, .string ⟨#[]⟩, .bool false]) ∧ w = w' := by
  have hsh := shape_any s w hs
  have hsg := sig_any s (st s.data.toList) w hs hst
  have hss := shape_st s.data.toList
  unfold ShapeP at hsh
  unfold SigP at hsg
  obtain ⟨ok, NG, ST, IL, PT, FL, hq⟩ : ∃ ok NG ST IL PT FL, shape s.data.toList = (ok, NG, ST, IL, PT, FL) := ⟨_, _, _, _, _, _, rfl⟩
  rw [hq] at hsh hss h
  simp only at hss h
  unfold shapeT at hsh
  simp only at hsh
  rw [← hss] at hsg h
  obtain ⟨T, hT⟩ : ∃ T, T = (Lib.trimB (noDot (s.data.toList.drop ST)) 48).length := ⟨_, rfl⟩
  rw [← hT] at hsg h
  clear hss hq hT hst
  cases ok
  · clear h hsg
    go_enter Tryd.func8, Tryd.ntmps8
    go_wp2_with fail
    refine hsh.mono ?_
    rintro e w1 ⟨rfl, rfl⟩
    clear hsh
    go_wp2
    exact bodyPost_ret (v := .tuple #[.string ⟨#[]⟩, .string ⟨#[]⟩, .bool false]) (by simp [results, Tryd.results8, go_sem]) rfl ⟨rfl, rfl⟩
  · have hTz : (T : Int) > 15 := by
      rcases h with h | h
      · cases h
      · omega
    clear h
    go_enter Tryd.func8, Tryd.ntmps8
    go_wp2_with fail
    refine hsh.mono ?_
    rintro e w1 ⟨rfl, rfl⟩
    clear hsh
    go_wp2_with fail
    refine hsg.mono ?_
    rintro e w1 ⟨rfl, rfl⟩
    clear hsg
    go_wp2
    exact bodyPost_ret (v := .tuple #[.string ⟨#[]⟩, .string ⟨#[]⟩, .bool false]) (by simp [results, Tryd.results8, go_sem]) rfl ⟨rfl, rfl⟩

set_option maxHeartbeats 6400000 in
set_option maxRecDepth 1000000 in
theorem model_yes (s : ByteArray) (k : Int) (w : World) (hs : s.size ≤ 1048576) (NG : Bool) (ST IL : Nat) (PT : Bool) (FL P LD : Nat) (D : List UInt8) (hq : shape s.data.toList = (true, NG, ST, IL, PT, FL)) (hST : ST < s.size) (hST2 : st s.data.toList = ST) (hIL : 1 ≤ IL) (hIL2 : IL ≤ s.size) (hFL : FL ≤ s.size)
    (hT : (Lib.trimB (noDot (s.data.toList.drop ST)) 48).length ≤ 15) (hP : (FL : Int) + k = P) (hP2 : P ≤ 2000000) (hLD : LD = if 1 < IL ∧ s.data.toList.getD ST 0 = 48 then IL else 1) (hD : D = dz (noDot (s.data.toList.drop ST))) :
    Calls Tryd.prog 8 #[.string s, .int .i64 k] w fun e w' => ModP w (valM NG (padM D P) P) (fmtM LD FL PT) e w' := by
  obtain ⟨i5, hi5, hj0, hj1, hj2⟩ := info_parts Tryd.info5
  have hsh := shape_any s w hs
  have hsg := sig_any s ST w hs (by omega)
  unfold ShapeP at hsh
  unfold SigP at hsg
  rw [hq] at hsh
  unfold shapeT at hsh
  simp only at hsh
  obtain ⟨T, hTn⟩ : ∃ T, T = (Lib.trimB (noDot (s.data.toList.drop ST)) 48).length := ⟨_, rfl⟩
  rw [← hTn] at hsg hT
  obtain ⟨f, hf⟩ : ∃ f, f = s.data.toList := ⟨_, rfl⟩
  have hfl : f.length = s.size := by rw [hf]; exact (size_list s).symm
  have hidx : ∀ i wx, i < s.size → (Instr.index 9 (.string s) (.int .i64 i)).run Tryd.prog wx = .ok (.int .u8 ((f.getD i 0).toNat : Int)) wx := fun i wx h => by rw [hf]; exact idx_str s i h wx
  rw [← hf] at hLD hD
  have HX : Hid _ := And.intro hfl (And.intro hidx (And.intro hLD hD))
  obtain ⟨n, hn⟩ : ∃ n, n = s.size := ⟨_, rfl⟩
  rw [← hn] at hs hST hIL2 hFL
  have hnz : (s.size : Int) = (n : Int) := by omega
  have HN : Hid (n = s.size) := hn
  have hTz : ¬ (T : Int) > 15 := by omega
  have hLDn : LD ≤ n ∧ 1 ≤ LD := by
    rw [hLD]
    split <;> omega
  clear hq hTn hT hf hfl hidx hLD hD hn hST2
  go_enter Tryd.func8, Tryd.ntmps8
  go_wp2_with fail
  refine hsh.mono ?_
  rintro e w1 ⟨rfl, rfl⟩
  clear hsh
  go_upto_region 5 with (go_at_call 11; refine hsg.mono ?_; rintro e w1 ⟨rfl, rfl⟩)
  clear hsg
  obtain ⟨z0, hz0⟩ : ∃ z0 : Bool, z0 = decide (1 < IL ∧ f.getD ST 0 = 48) := ⟨_, rfl⟩
  have HZ0 : Hid (z0 = decide (1 < IL ∧ f.getD ST 0 = 48)) := hz0
  clear hz0
  go_cut [47] from 40 to 47 (fun s47 wx => s47 = .bool z0 ∧ w = wx)
  case first =>
    by_cases h1 : 1 < IL
    · have h1z : (IL : Int) > 1 := by omega
      have hSz : (ST : Int) < (n : Int) := by omega
      have e1 := HX.out.2.1 ST w (by rw [← HN.out]; exact hST)
      obtain ⟨b, hb⟩ : ∃ b, b = f.getD ST 0 := ⟨_, rfl⟩
      rw [← hb] at e1
      by_cases h48 : b = 48
      · obtain rfl : z0 = true := by
          rw [HZ0.out]
          exact decide_eq_true ⟨h1, by rw [← hb]; exact h48⟩
        subst h48
        rw [show ((48 : UInt8).toNat : Int) = 48 from rfl] at e1
        clear hb HZ0
        go_wp2
        go_meet
        case rel => exact ⟨rfl, rfl⟩
      · obtain rfl : z0 = false := by
          rw [HZ0.out]
          exact decide_eq_false fun e => h48 (by rw [hb]; exact e.2)
        have hne : b.toNat ≠ 48 := fun e => h48 (UInt8.toNat_inj.1 e)
        have hz : ((b.toNat : Int) == 48) = false := by simp; omega
        clear hb HZ0 h48 hne
        go_wp2
        go_meet
        case rel => exact ⟨rfl, rfl⟩
    · have h1z : ¬ (IL : Int) > 1 := by omega
      obtain rfl : z0 = false := by
        rw [HZ0.out]
        exact decide_eq_false fun e => h1 e.1
      clear HZ0
      go_wp2
      go_meet
      case rel => exact ⟨rfl, rfl⟩
  case rest =>
    obtain ⟨rfl, hwc⟩ := hcut
    subst hwc
    go_upto_if 47 with fail
    go_cut [13] from 40 to 48 (fun s13 wx => s13 = .int .i64 LD ∧ w = wx)
    case first =>
      cases z0
      · obtain rfl : LD = 1 := by rw [HX.out.2.2.1, if_neg (of_decide_eq_false HZ0.out.symm)]
        go_wp2
        go_meet
        case rel => exact ⟨rfl, rfl⟩
      · obtain rfl : LD = IL := by rw [HX.out.2.2.1, if_pos (of_decide_eq_true HZ0.out.symm)]
        go_wp2
        go_meet
        case rel => exact ⟨rfl, rfl⟩
    case rest =>
      obtain ⟨rfl, hwc⟩ := hcut
      subst hwc
      clear HZ0
      go_wp2_with (at_make; refine wpList_make_own _ rfl (.const (.int .i64 0)) (.tmp 52) 31 rfl 0 5 i5 (.int .u8 0) 1 Tryd.underlying31 hi5 hj0 hj1 .i64 .i64 _ (LD + 1 + FL) rfl rfl (by omega) (by rw [hj2]; omega) (by unfold maxLen; omega) (Nat.zero_le _) ?_)
      intro w2 hown2 hg2
      have hrow2 := Row.made hown2 rfl hg2
      have hzz := zeros_any _ [] LD w2 hrow2.own (by simp) (by omega)
      have HR2 : Hid _ := hrow2
      clear hown2 hg2 hrow2
      go_wp2_with fail
      refine hzz.mono ?_
      intro e w3 hz3
      obtain ⟨v3, rfl, hrow3⟩ := zeros_row HR2.out (Nat.le_refl _) hz3
      rw [List.nil_append] at hrow3
      clear hz3 hzz HR2
      obtain ⟨X3, hX3⟩ : ∃ X3, X3 = List.replicate LD (48 : UInt8) := ⟨_, rfl⟩
      rw [← hX3] at hrow3
      have hX3l : X3.length ≤ n := by rw [hX3, List.length_replicate]; omega
      have HX3 : Hid (X3 = List.replicate LD (48 : UInt8)) := hX3
      clear hX3
      obtain ⟨ao3, cap3, hv3, _⟩ := hrow3.form
      subst hv3
      have HR3 : Hid _ := hrow3
      clear hrow3
      obtain ⟨X4, hX4⟩ : ∃ X4, X4 = fmtM LD FL PT := ⟨_, rfl⟩
      have hX4l : X4.length ≤ 2 * n + 1 ∧ 1 ≤ X4.length := by
        rw [hX4, fmtM]
        split
        · simp only [List.length_append, List.length_replicate, List.length_cons, List.length_nil]; omega
        · rw [List.length_replicate]; omega
      have HX4 : Hid (X4 = fmtM LD FL PT) := hX4
      clear hX4
      go_upto_if 56 with fail
      go_cut [14] from 49 to 62 (fun s14 wx => ∃ ao cap, s14 = .slice ao X4.length cap ∧ Row w.heap.size w wx (.slice ao X4.length cap) X4)
      case first =>
        cases PT
        · obtain rfl : X4 = X3 := by rw [HX4.out, HX3.out]; rfl
          go_wp2
          go_meet
          case rel => exact ⟨ao3, cap3, rfl, HR3.out⟩
        · have own1 := HR3.out.own.alloc (.cells #[.int .u8 46] 5)
          go_wp2_with (at_builtin; refine wpList_append_own_at _ rfl (.tmp 57) (.tmp 58) 31 rfl 0 5 i5 (.int .u8 0) 1 1 Tryd.underlying31 hi5 hj0 hj1 hj2 rfl (by decide) _ X3.length (ub X3) rfl own1 ⟨w3.heap.size, 0, none⟩ 1 1 (ub [46]) rfl rfl (cell_one_new _ _ _) (ub_one _) (by unfold maxLen; omega) (by omega) (Nat.zero_le _) ?_)
          intro v4 w4 hown4 hg4 _ hat4
          have hrow4 := HR3.out.app (Nat.le_refl _) hg4 hown4 rfl (by first | exact hat4 | (simp at hat4; exact hat4))
          clear hown4 hg4 hat4 own1
          obtain ⟨Y4, hY4⟩ : ∃ Y4, Y4 = X3 ++ [(46 : UInt8)] := ⟨_, rfl⟩
          rw [← hY4] at hrow4
          have hY4l : Y4.length = X3.length + 1 := by rw [hY4]; simp
          obtain ⟨ao4, cap4, hv4, _⟩ := hrow4.form
          subst hv4
          have hzz := zeros_any _ Y4 FL w4 hrow4.own (by omega) (by omega)
          have HR4 : Hid _ := hrow4
          have HY4 : Hid _ := hY4
          rw [hY4l] at hzz
          clear hrow4 hY4
          go_wp2_with fail
          refine hzz.mono ?_
          intro e w5 hz5
          rw [← hY4l] at hz5
          obtain ⟨v5, rfl, hrow5⟩ := zeros_row HR4.out (Nat.le_refl _) hz5
          have he : Y4 ++ List.replicate FL 48 = X4 := by rw [HX4.out, HY4.out, HX3.out]; rfl
          rw [he] at hrow5
          obtain ⟨ao5, cap5, hv5, _⟩ := hrow5.form
          subst hv5
          have HR5 : Hid _ := hrow5
          clear hrow5 he hz5 hzz
          go_wp2
          go_meet
          case rel => exact ⟨ao5, cap5, rfl, HR5.out⟩
      case rest =>
        obtain ⟨ao6, cap6, rfl, hrow6⟩ := hcut
        have HR6 : Hid _ := hrow6
        clear hrow6 HR3
        go_wp2_with (at_make; refine wpList_make_own _ rfl (.const (.int .i64 0)) (.tmp 67) 31 rfl 0 5 i5 (.int .u8 0) 1 Tryd.underlying31 hi5 hj0 hj1 .i64 .i64 _ n rfl rfl (by omega) (by rw [hj2]; omega) (by unfold maxLen; omega) (Nat.zero_le _) ?_)
        intro w7 hown7 hg7
        have HR7 : Hid _ := Row.made hown7 rfl hg7
        clear hown7 hg7
        go_wp2
        go_loopg [16, 17, 18] (n - ST) (fun g s16 s17 s18 wx => ∃ (i : Nat) (q : List UInt8) (ga cap : Nat), i + g = n ∧ ST ≤ i ∧ s18 = .int .i64 i ∧ q = dz (noDot ((f.drop ST).take (i - ST))) ∧ s17 = .bool (decide (q ≠ [])) ∧ s16 = .slice (some ⟨ga, 0, none⟩) q.length cap ∧ q.length ≤ i ∧ Row wc.heap.size wc wx (.slice (some ⟨ga, 0, none⟩) q.length cap) q)
        case atStart => exact ⟨ST, [], wc.heap.size, n, by omega, Nat.le_refl _, rfl, by simp [noDot, dz, Lib.trimLeftB], by first | rfl | simp, by first | rfl | simp, by simp, by first | exact HR7.out | simpa using HR7.out⟩
        case round =>
          obtain ⟨i, q, ga, cap, hig, hSi, rfl, hq, rfl, rfl, hql, hrow⟩ := hrel
          have HR : Hid _ := And.intro hq hrow
          clear hq hrow HR7
          obtain ⟨SB, hSB⟩ : ∃ SB : Bool, SB = decide (q ≠ []) := ⟨_, rfl⟩
          rw [← hSB]
          have HSB : Hid (SB = decide (q ≠ [])) := hSB
          clear hSB
          cases gk with
          | succ g =>
            have hiz : (i : Int) < (n : Int) := by omega
            have e1 := HX.out.2.1 i wr (by rw [← HN.out]; omega)
            have hstep := noDot_step (f := f) hSi (by rw [HX.out.1, ← HN.out]; omega)
            obtain ⟨b, hb⟩ : ∃ b, b = f.getD i 0 := ⟨_, rfl⟩
            rw [← hb] at e1 hstep
            have HB : Hid _ := hstep
            clear hb hstep
            by_cases h46 : b = 46
            · subst h46
              rw [show ((46 : UInt8).toNat : Int) = 46 from rfl] at e1
              have HQ : Hid (q = dz (noDot ((f.drop ST).take (i + 1 - ST)))) := by
                show q = _
                rw [HB.out, if_pos rfl, List.append_nil]
                exact HR.out.1
              clear HB
              go_wp2
              go_roundg g
              case measure => omega
              case rel => exact ⟨i + 1, q, ga, cap, by omega, by omega, by first | rfl | simp, HQ.out, by rw [HSB.out], rfl, by omega, HR.out.2⟩
            · have hne : b.toNat ≠ 46 := fun e => h46 (UInt8.toNat_inj.1 e)
              have hz46 : ((b.toNat : Int) == 46) = false := by simp; omega
              have HQ : Hid ((if q = [] ∧ b = 48 then [] else q ++ [b]) = dz (noDot ((f.drop ST).take (i + 1 - ST)))) := by
                show _ = _
                rw [HB.out, if_neg h46, dz_app, ← HR.out.1]
              clear HB h46 hne
              by_cases h0 : q = [] ∧ b = 48
              · obtain ⟨rfl, rfl⟩ := h0
                obtain rfl : SB = false := by rw [HSB.out]; rfl
                rw [show ((48 : UInt8).toNat : Int) = 48 from rfl] at e1
                have HQ2 : Hid ([] = dz (noDot ((f.drop ST).take (i + 1 - ST)))) := by
                  have := HQ.out
                  rwa [if_pos ⟨rfl, rfl⟩] at this
                clear HQ hz46
                go_wp2
                go_roundg g
                case measure => omega
                case rel => exact ⟨i + 1, [], ga, cap, by omega, by omega, by first | rfl | simp, HQ2.out, by first | rfl | simp, by first | rfl | simp, by simp, HR.out.2⟩
              · have HQ2 : Hid (q ++ [b] = dz (noDot ((f.drop ST).take (i + 1 - ST)))) := by
                  have := HQ.out
                  rwa [if_neg h0] at this
                have own1 := HR.out.2.own.alloc (.cells #[.int .u8 (b.toNat : Int)] 5)
                have hqs : q.length ≤ 1048576 := by omega
                clear HQ
                by_cases h48 : b = 48
                · subst h48
                  obtain rfl : SB = true := by
                    rw [HSB.out]
                    exact decide_eq_true fun e => h0 ⟨e, rfl⟩
                  rw [show ((48 : UInt8).toNat : Int) = 48 from rfl] at e1 own1
                  clear h0 hz46
                  go_wp2_with (at_builtin; refine wpList_append_own_at _ rfl (.tmp 84) (.tmp 86) 31 rfl 0 5 i5 (.int .u8 0) 1 1 Tryd.underlying31 hi5 hj0 hj1 hj2 rfl (by decide) _ q.length (ub q) rfl own1 ⟨wr.heap.size, 0, none⟩ 1 1 (ub [48]) rfl rfl (cell_one_new _ _ _) (ub_one _) (by unfold maxLen; omega) (by omega) (Nat.zero_le _) ?_)
                  intro v' w8 hown8 hg8 _ hat8
                  have hrow8 := HR.out.2.app (by exact Nat.le_refl _) hg8 hown8 rfl (by first | exact hat8 | (simp at hat8; exact hat8))
                  clear hown8 hg8 hat8 own1
                  obtain ⟨g8, cap8, hv8, _⟩ := hrow8.full (by simp)
                  subst hv8
                  have HR8 : Hid _ := hrow8
                  clear hrow8
                  go_wp2
                  go_roundg g
                  case measure => omega
                  case rel => exact ⟨i + 1, q ++ [48], g8, cap8, by omega, by omega, by first | rfl | simp, HQ2.out, by simp, by simp, by simp; omega, HR8.out⟩
                · have hne : b.toNat ≠ 48 := fun e => h48 (UInt8.toNat_inj.1 e)
                  have hz48 : ((b.toNat : Int) != 48) = true := by simp; omega
                  clear h0 h48 hne
                  go_wp2_with (at_builtin; refine wpList_append_own_at _ rfl (.tmp 84) (.tmp 86) 31 rfl 0 5 i5 (.int .u8 0) 1 1 Tryd.underlying31 hi5 hj0 hj1 hj2 rfl (by decide) _ q.length (ub q) rfl own1 ⟨wr.heap.size, 0, none⟩ 1 1 (ub [b]) rfl rfl (cell_one_new _ _ _) (ub_one _) (by unfold maxLen; omega) (by omega) (Nat.zero_le _) ?_)
                  intro v' w8 hown8 hg8 _ hat8
                  have hrow8 := HR.out.2.app (by exact Nat.le_refl _) hg8 hown8 rfl (by first | exact hat8 | (simp at hat8; exact hat8))
                  clear hown8 hg8 hat8 own1
                  obtain ⟨g8, cap8, hv8, _⟩ := hrow8.full (by simp)
                  subst hv8
                  have HR8 : Hid _ := hrow8
                  clear hrow8
                  go_wp2
                  go_roundg g
                  case measure => omega
                  case rel => exact ⟨i + 1, q ++ [b], g8, cap8, by omega, by omega, by first | rfl | simp, HQ2.out, by simp, by simp, by simp; omega, HR8.out⟩
          | zero =>
            obtain rfl : i = n := by omega
            have HqD : Hid (q = D) := by
              show q = D
              rw [HR.out.1, HX.out.2.2.2, List.take_of_length_le (by rw [List.length_drop, HX.out.1, ← HN.out]; exact Nat.le_refl _)]
            have HRq : Hid _ := HR.out.2
            have hrf := HRq.out.own
            obtain ⟨G, hG⟩ : ∃ G, G = padM q P := ⟨_, rfl⟩
            have hGl : P + 1 ≤ G.length ∧ G.length ≤ 4000000 := by
              rw [hG, padM]
              split
              · rw [List.length_append, List.length_replicate]; omega
              · omega
            have HG : Hid (G = padM q P) := hG
            clear hG hrf HR HSB
            go_upto_if 91 with fail
            go_cut [16, 20] from 88 to 106 (fun s16 _s20 wx => ∃ g2 cap2, s16 = .slice (some ⟨g2, 0, none⟩) G.length cap2 ∧ G.length ≤ cap2 ∧ Row wc.heap.size wc wx (.slice (some ⟨g2, 0, none⟩) G.length cap2) G)
            case first =>
              by_cases hle : q.length ≤ P
              · have hlez : (q.length : Int) ≤ (P : Int) := by omega
                obtain ⟨m, hm⟩ : ∃ m, m = P + 1 - q.length := ⟨_, rfl⟩
                have hmz : (P : Int) + 1 - (q.length : Int) = (m : Int) := by omega
                have hm1 : 1 ≤ m := by omega
                have hm2 : m ≤ 4194304 := by omega
                have HMM : Hid (m = P + 1 - q.length) := hm
                clear hm
                go_wp2_with (at_make; refine wpList_make_own _ rfl (.const (.int .i64 0)) (.tmp 96) 31 rfl 0 5 i5 (.int .u8 0) 1 Tryd.underlying31 hi5 hj0 hj1 .i64 .i64 _ (P + 1 + q.length) rfl rfl (by omega) (by rw [hj2]; omega) (by unfold maxLen; omega) (Nat.zero_le _) ?_)
                intro wm hownm hgm
                have hrowm := Row.made hownm rfl hgm
                have hzz := zeros_any _ [] m wm hrowm.own (by simp) hm2
                have HRm : Hid _ := hrowm
                clear hownm hgm hrowm
                go_wp2_with fail
                refine hzz.mono ?_
                intro e wz hz9
                obtain ⟨v9, rfl, hrow9⟩ := zeros_row HRm.out (Nat.le_refl _) hz9
                rw [List.nil_append] at hrow9
                clear hz9 hzz HRm
                obtain ⟨Z, hZ⟩ : ∃ Z, Z = List.replicate m (48 : UInt8) := ⟨_, rfl⟩
                rw [← hZ] at hrow9
                have hZl : Z.length = m := by rw [hZ, List.length_replicate]
                obtain ⟨g9, cap9, hv9, _⟩ := hrow9.full (by intro e; rw [e] at hZl; simp at hZl; omega)
                subst hv9
                have hZb : Z.length ≤ 4194304 := by omega
                clear hZl
                have hq9 := HRq.out.kept (Nat.le_refl _) hrow9.fr (Nat.le_refl _)
                have hnews := hq9.news 0 q.length (Nat.zero_le _) (Nat.le_refl _)
                rw [List.drop_zero, List.take_length] at hnews
                have own9 := hrow9.own
                have HR9 : Hid _ := And.intro hrow9 hq9
                have HZ : Hid _ := hZ
                clear hrow9 hq9 hZ
                go_wp2_with (at_builtin; refine wpList_append_own_at _ rfl (.tmp 104) (.tmp 105) 31 rfl 0 5 i5 (.int .u8 0) 1 1 Tryd.underlying31 hi5 hj0 hj1 hj2 rfl (by decide) _ Z.length (ub Z) rfl own9 ⟨ga, 0, none⟩ q.length cap (ub q) rfl (ub_len q) hnews (ub_one _) (by unfold maxLen; omega) (by omega) (Nat.zero_le _) ?_)
                intro v' wj hownj hgj _ hatj
                have hrowj := HR9.out.1.join (Nat.le_refl _) hgj hownj rfl hatj
                have hGe : Z ++ q = G := by rw [HG.out, padM, if_pos hle, HZ.out, HMM.out]
                rw [hGe] at hrowj
                have hrowk : Row wc.heap.size wc wj v' G := ⟨hrowj.own, (fun k e => Nat.le_trans HRq.out.fr.size (hrowj.blk k e)), HRq.out.fr.trans hrowj.fr (fun k e => .inl (Nat.le_trans HRq.out.fr.size e))⟩
                obtain ⟨gj, capj, hvj, hcj⟩ := hrowk.full (by intro e; rw [e] at hGl; simp at hGl)
                subst hvj
                have HRk : Hid _ := hrowk
                clear hownj hgj hatj hrowj hrowk hGe own9 hnews
                go_wp2
                go_meet
                case rel => exact ⟨gj, capj, rfl, hcj, HRk.out⟩
              · have hlez : ¬ (q.length : Int) ≤ (P : Int) := by omega
                have hGe : G = q := by rw [HG.out, padM, if_neg hle]
                have hcap : q.length ≤ cap := by
                  obtain ⟨_, _, e, hc⟩ := HRq.out.full (by intro e; rw [e] at hle; simp at hle)
                  cases e
                  exact hc
                have HRk : Hid (Row wc.heap.size wc wr (.slice (some ⟨ga, 0, none⟩) G.length cap) G) := by rw [hGe]; exact HRq.out
                have hGll : G.length = q.length := by rw [hGe]
                clear hGe
                go_wp2
                go_meet
                case rel => exact ⟨ga, cap, by rw [hGll], by omega, HRk.out⟩
            case rest =>
              obtain ⟨g2, cap2, rfl, hcap2, hrow2⟩ := hcut
              have HRG : Hid _ := hrow2
              clear hrow2 HRq
              have HR6b : Hid _ := HR6.out.kept (Nat.le_refl _) HRG.out.fr (Nat.le_refl _)
              clear HR6
              go_wp2_with (at_make; refine wpList_make_own _ rfl (.const (.int .i64 0)) (.tmp 109) 31 rfl 0 5 i5 (.int .u8 0) 1 Tryd.underlying31 hi5 hj0 hj1 .i64 .i64 _ (G.length + 2) rfl rfl (by omega) (by rw [hj2]; omega) (by unfold maxLen; omega) (Nat.zero_le _) ?_)
              intro wv hownv hgv
              have HRv : Hid _ := Row.made hownv rfl hgv
              clear hownv hgv
              obtain ⟨VS, hVS⟩ : ∃ VS, VS = signOf NG := ⟨_, rfl⟩
              have hVSl : VS.length ≤ 1 := by rw [hVS, signOf]; split <;> simp
              have HVS : Hid (VS = signOf NG) := hVS
              clear hVS
              go_upto_if 111 with fail
              go_cut [21] from 107 to 114 (fun s21 wx => ∃ g3 cap3, s21 = .slice (some ⟨g3, 0, none⟩) VS.length cap3 ∧ Row wc.heap.size wc wx (.slice (some ⟨g3, 0, none⟩) VS.length cap3) VS)
              case first =>
                cases NG
                · obtain rfl : VS = [] := HVS.out
                  go_wp2
                  go_meet
                  case rel => exact ⟨_, _, by first | rfl | simp, HRv.out⟩
                · have own1 := HRv.out.own.alloc (.cells #[.int .u8 45] 5)
                  go_wp2_with (at_builtin; refine wpList_append_own_at _ rfl (.tmp 112) (.tmp 113) 31 rfl 0 5 i5 (.int .u8 0) 1 1 Tryd.underlying31 hi5 hj0 hj1 hj2 rfl (by decide) _ 0 (ub []) rfl own1 ⟨wv.heap.size, 0, none⟩ 1 1 (ub [45]) rfl rfl (cell_one_new _ _ _) (ub_one _) (by unfold maxLen; omega) (by omega) (Nat.zero_le _) ?_)
                  intro v4 w4 hown4 hg4 _ hat4
                  have hrow4 := HRv.out.app (Nat.le_refl _) hg4 hown4 rfl (by first | exact hat4 | (simp at hat4; exact hat4))
                  have he : ([] : List UInt8) ++ [45] = VS := by rw [HVS.out]; rfl
                  rw [he] at hrow4
                  obtain ⟨g4, cap4, hv4, _⟩ := hrow4.full (by rw [← he]; simp)
                  subst hv4
                  have HR4 : Hid _ := hrow4
                  clear hown4 hg4 hat4 own1 hrow4 he
                  go_wp2
                  go_meet
                  case rel => exact ⟨g4, cap4, rfl, HR4.out⟩
              case rest =>
                obtain ⟨g3, cap3, rfl, hrow3⟩ := hcut
                obtain ⟨CT, hCT⟩ : ∃ CT, CT = G.length - P := ⟨_, rfl⟩
                have hCTz : (G.length : Int) - (P : Int) = (CT : Int) := by omega
                have hCT1 : 1 ≤ CT ∧ CT ≤ G.length ∧ CT ≤ cap2 := by omega
                have hGw := HRG.out.kept (Nat.le_refl _) hrow3.fr (Nat.le_refl _)
                have hnews := hGw.news 0 CT (Nat.zero_le _) hCT1.2.1
                rw [List.drop_zero] at hnews
                have hnl : (ub (G.take CT)).length = CT * 1 := by rw [ub_len, List.length_take]; omega
                have own3 := hrow3.own
                have HR3 : Hid _ := hrow3
                have HCT : Hid (CT = G.length - P) := hCT
                clear hrow3 hGw HRv hCT
                go_wp2_with (at_builtin; refine wpList_append_own_at _ rfl (.tmp 119) (.tmp 122) 31 rfl 0 5 i5 (.int .u8 0) 1 1 Tryd.underlying31 hi5 hj0 hj1 hj2 rfl (by decide) _ VS.length (ub VS) rfl own3 ⟨g2, 0, none⟩ CT cap2 (ub (G.take CT)) rfl hnl hnews (ub_one _) (by unfold maxLen; omega) (by omega) (Nat.zero_le _) ?_)
                intro v5 w5 hown5 hg5 _ hat5
                have hrow5 := HR3.out.join (Nat.le_refl _) hg5 hown5 (by rw [List.length_take]; omega) hat5
                clear hown5 hg5 hat5 hnews hnl own3 HR3
                obtain ⟨V2, hV2⟩ : ∃ V2, V2 = VS ++ G.take CT := ⟨_, rfl⟩
                rw [← hV2] at hrow5
                have hV2l : V2.length ≤ 4000001 ∧ 1 ≤ V2.length := by rw [hV2, List.length_append, List.length_take]; omega
                obtain ⟨g5, cap5, hv5, _⟩ := hrow5.full (by intro e; rw [e] at hV2l; simp at hV2l)
                subst hv5
                have HR5 : Hid _ := hrow5
                have HV2 : Hid _ := hV2
                clear hrow5 hV2
                by_cases hP0 : 0 < P
                · have hP0z : (P : Int) > 0 := by omega
                  have hco : ¬ cap2 = CT := by omega
                  have own5 := HR5.out.own.alloc (.cells #[.int .u8 46] 5)
                  go_wp2_with (at_builtin; refine wpList_append_own_at _ rfl (.tmp 126) (.tmp 127) 31 rfl 0 5 i5 (.int .u8 0) 1 1 Tryd.underlying31 hi5 hj0 hj1 hj2 rfl (by decide) _ V2.length (ub V2) rfl own5 ⟨w5.heap.size, 0, none⟩ 1 1 (ub [46]) rfl rfl (cell_one_new _ _ _) (ub_one _) (by unfold maxLen; omega) (by omega) (Nat.zero_le _) ?_)
                  intro v6 w6 hown6 hg6 _ hat6
                  have hrow6 := HR5.out.app (Nat.le_refl _) hg6 hown6 rfl (by first | exact hat6 | (simp at hat6; exact hat6))
                  clear hown6 hg6 hat6 own5
                  obtain ⟨V3, hV3⟩ : ∃ V3, V3 = V2 ++ [(46 : UInt8)] := ⟨_, rfl⟩
                  rw [← hV3] at hrow6
                  have hV3l : V3.length ≤ 4000002 ∧ 1 ≤ V3.length := by rw [hV3, List.length_append]; simp; omega
                  obtain ⟨g6, cap6', hv6, _⟩ := hrow6.full (by intro e; rw [e] at hV3l; simp at hV3l)
                  subst hv6
                  have hGw := HRG.out.kept (Nat.le_refl _) hrow6.fr (Nat.le_refl _)
                  have hnews := hGw.news CT G.length hCT1.2.1 (Nat.le_refl _)
                  rw [List.take_length] at hnews
                  have hnl : (ub (G.drop CT)).length = (G.length - CT) * 1 := by rw [ub_len, List.length_drop]
                  have own6 := hrow6.own
                  have HR6 : Hid _ := hrow6
                  have HV3 : Hid _ := hV3
                  clear hrow6 hGw hV3 HR5
                  go_wp2_with (at_builtin; refine wpList_append_own_at _ rfl (.tmp 129) (.tmp 132) 31 rfl 0 5 i5 (.int .u8 0) 1 1 Tryd.underlying31 hi5 hj0 hj1 hj2 rfl (by decide) _ V3.length (ub V3) rfl own6 ⟨g2, CT, none⟩ (G.length - CT) (cap2 - CT) (ub (G.drop CT)) rfl hnl hnews (ub_one _) (by unfold maxLen; omega) (by omega) (Nat.zero_le _) ?_)
                  intro v7 w7' hown7 hg7 _ hat7
                  have hrow7 := HR6.out.join (Nat.le_refl _) hg7 hown7 (by rw [List.length_drop]) hat7
                  clear hown7 hg7 hat7 hnews hnl own6 HR6
                  obtain ⟨V4, hV4⟩ : ∃ V4, V4 = V3 ++ G.drop CT := ⟨_, rfl⟩
                  rw [← hV4] at hrow7
                  have hV4l : 0 < V4.length := by rw [hV4, List.length_append]; omega
                  obtain ⟨g7, cap7, hv7, _⟩ := hrow7.full (by intro e; rw [e] at hV4l; simp at hV4l)
                  subst hv7
                  have hFw := HR6b.out.kept (Nat.le_refl _) hrow7.fr (Nat.le_refl _)
                  have hcv := fun mm : Nat => hrow7.str hV4l (w7'.drewN mm) rfl
                  have hcf := fun mm : Nat => hFw.str (by omega) (w7'.drewN mm) rfl
                  have HEND : Hid (V4 = valM NG (padM D P) P ∧ X4 = fmtM LD FL PT ∧ Fr (fun _ => False) w w7') := by
                    refine ⟨?_, HX4.out, ?_⟩
                    · rw [hV4, HV3.out, HV2.out, HVS.out, HCT.out, valM, if_pos hP0, ← HqD.out, ← HG.out]
                    · exact ⟨hFw.fr.os, hFw.fr.tape, hFw.fr.output, hFw.fr.size, fun kk hk _ => hFw.fr.block kk hk (by omega)⟩
                  clear hrow7 hFw hV4
                  go_wp2
                  go_quiet (fail)
                  go_wp2
                  exact bodyPost_ret (v := .tuple #[.string (bs V4), .string (bs X4), .bool true]) (by simp [results, Tryd.results8, go_sem]) rfl ⟨by rw [← HEND.out.1, ← HEND.out.2.1], HEND.out.2.2.trans (Fr.drewN _ _) (fun _ e => .inl e)⟩
                · have hP0z : ¬ (P : Int) > 0 := by omega
                  have hFw := HR6b.out.kept (Nat.le_refl _) HR5.out.fr (Nat.le_refl _)
                  have hcv := fun mm : Nat => HR5.out.str (by omega) (w5.drewN mm) rfl
                  have hcf := fun mm : Nat => hFw.str (by omega) (w5.drewN mm) rfl
                  have HEND : Hid (V2 = valM NG (padM D P) P ∧ X4 = fmtM LD FL PT ∧ Fr (fun _ => False) w w5) := by
                    refine ⟨?_, HX4.out, ?_⟩
                    · rw [HV2.out, HVS.out, HCT.out, valM, if_neg hP0, ← HqD.out, ← HG.out]
                    · exact ⟨hFw.fr.os, hFw.fr.tape, hFw.fr.output, hFw.fr.size, fun kk hk _ => hFw.fr.block kk hk (by omega)⟩
                  clear hFw
                  go_wp2
                  go_quiet (fail)
                  go_wp2
                  exact bodyPost_ret (v := .tuple #[.string (bs V2), .string (bs X4), .bool true]) (by simp [results, Tryd.results8, go_sem]) rfl ⟨by rw [← HEND.out.1, ← HEND.out.2.1], HEND.out.2.2.trans (Fr.drewN _ _) (fun _ e => .inl e)⟩
end Go.Proofs.Qxb6602721aDoor
