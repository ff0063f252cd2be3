import Derived.Test.Qxb6603125aDoorMplain
namespace Go.Proofs.Qxb6603125aDoor
open Go.RowKit
open Go

theorem ext_drop (s : ByteArray) (p : Nat) : (s.extract p s.size).data.toList = s.data.toList.drop p := Lib.extract_to_end s p

set_option maxHeartbeats 3200000 in
theorem mailModel_any (s : ByteArray) (w : World) (hs : s.size ≤ 1048576) :
    Calls Tryd.prog 18 #[.string s] w fun e w' => e = .returned (.bool (mail s.data.toList)) ∧ w = w' := by
  obtain ⟨L, hL⟩ : ∃ L, L = s.data.toList := ⟨_, rfl⟩
  have hnL : s.size = L.length := by rw [hL]; simp
  rw [← hL]
  have hix : ∀ (i : Nat) (wx : World), i < s.size → (Instr.index 9 (.string s) (.int .i64 i)).run Tryd.prog wx = .ok (.int .u8 ((L.getD i 0).toNat : Int)) wx := fun i wx hi => by
    have := idx_str s i (by omega) wx
    rwa [at_, ← hL] at this
  obtain ⟨D, hD⟩ : ∃ D, D = mail L := ⟨_, rfl⟩
  rw [← hD]
  have HX : Hid (s.size = L.length ∧ L = s.data.toList ∧ D = mail L) := ⟨hnL, hL, hD⟩
  have HI : Hid _ := hix
  clear hix hnL hL hD
  go_enter Tryd.func18, Tryd.ntmps18
  go_wp2
  go_loopg [3, 4] s.size (fun g s3 s4 wx => wx = w ∧ ∃ i : Nat, i + g = s.size ∧ s3 = .int .i64 (-1) ∧ s4 = .int .i64 i ∧ ∀ j, j < i → L.getD j 0 ≠ 64)
  case atStart => exact ⟨rfl, 0, by omega, rfl, rfl, fun j h => absurd h (Nat.not_lt_zero j)⟩
  case round =>
    obtain ⟨rfl, i, hig, rfl, rfl, hall⟩ := hrel
    have HA : Hid _ := hall
    clear hall
    cases gk with
    | zero =>
      obtain rfl : i = s.size := by omega
      have hDf : D = false := by
        rw [HX.out.2.2, mail, cut_none (fun j hj => HA.out j (by rw [HX.out.1]; exact hj))]
        rfl
      subst hDf
      go_wp2
      go_ret
      exact ⟨rfl, rfl⟩
    | succ g =>
      have zi : (i : Int) < (s.size : Int) := by omega
      have e1 := HI.out i wr (by omega)
      obtain ⟨X, hX⟩ : ∃ X, X = L.getD i 0 := ⟨_, rfl⟩
      rw [← hX] at e1
      have HXX : Hid _ := hX
      clear hX
      by_cases hx : X = 64
      · have zx : ((X.toNat : Int) == 64) = true := by rw [hx]; rfl
        have hcut := cut_at (L := L) (p := i) (by rw [← HX.out.1]; omega) (by rw [← HXX.out]; exact hx) HA.out
        have hDv : D = (hostn (L.drop (i + 1)) && sc true (L.take i)) := by
          rw [HX.out.2.2, mail, hcut, sc_atoms]
          simp
        have HD : Hid _ := hDv
        clear hcut hDv hx
        obtain ⟨dm, hdm⟩ : ∃ dm, dm = s.extract (i + 1) s.size := ⟨_, rfl⟩
        have hsl : (Instr.slice 9 (.string s) (some (.int .i64 ((i : Int) + 1))) none none).run Tryd.prog wr = .ok (.string dm) wr := by
          rw [run_slice_string_from_if (P := Tryd.prog) wr 9 s .i64 _ Tryd.underlying9, if_pos (by omega), hdm]
          rfl
        have hdl : dm.data.toList = L.drop (i + 1) := by rw [hdm, ext_drop, HX.out.2.1]
        have hds : dm.size ≤ 1048576 := by
          have : dm.size = dm.data.toList.length := by simp
          rw [this, hdl, List.length_drop, ← HX.out.1]
          omega
        have hm := dnsModel_any dm wr hds
        rw [hdl] at hm
        have HDM : Hid (dm.data.toList = L.drop (i + 1)) := hdl
        clear hdl hds hdm
        obtain ⟨T, hT⟩ : ∃ T, T = dns (L.drop (i + 1)) := ⟨_, rfl⟩
        rw [← hT] at hm
        have HT : Hid _ := hT
        clear hT
        cases T
        · obtain rfl : D = false := by rw [HD.out, hostn, ← HT.out]; rfl
          go_wp2_with fail
          refine hm.mono ?_
          rintro e w1 ⟨rfl, rfl⟩
          go_wp2
          go_ret
          exact ⟨rfl, rfl⟩
        · have hdne := dns_ne HT.out.symm
          have hdl1 : 0 < dm.size := by
            have : dm.size = dm.data.toList.length := by simp
            rw [this, HDM.out]
            exact List.length_pos_iff.2 hdne
          have e2 : (Instr.index 9 (.string dm) (.int .i64 0)).run Tryd.prog wr = .ok (.int .u8 ((dm.data.toList.getD 0 0).toNat : Int)) wr := idx_str dm 0 hdl1 wr
          rw [HDM.out] at e2
          obtain ⟨Y, hY⟩ : ∃ Y, Y = (L.drop (i + 1)).getD 0 0 := ⟨_, rfl⟩
          rw [← hY] at e2
          have hhd : (L.drop (i + 1)).head? = some Y := by
            rw [hY]
            cases hq : L.drop (i + 1) with
            | nil => exact absurd hq hdne
            | cons c l => rfl
          have HD2 : Hid (D = ((Y != 42) && sc true (L.take i))) := by
            show D = _
            rw [HD.out, hostn, ← HT.out, hhd, Bool.true_and]
            rfl
          clear hdne hdl1 hY hhd
          by_cases hy : Y = 42
          · have zy : ((Y.toNat : Int) == 42) = true := by rw [hy]; rfl
            obtain rfl : D = false := by rw [HD2.out, hy]; rfl
            clear hy
            go_wp2_with fail
            refine hm.mono ?_
            rintro e w1 ⟨rfl, rfl⟩
            go_wp2
            go_ret
            exact ⟨rfl, rfl⟩
          · have zy : ((Y.toNat : Int) == 42) = false := by rw [show ((Y.toNat : Int) == 42) = (Y == 42) from u8_beq Y 42 (by omega)]; simpa using hy
            have HD3 : Hid (D = sc true (L.take i)) := by
              show D = _
              rw [HD2.out, show (Y != 42) = true from by simpa using hy, Bool.true_and]
            clear hy
            have hlt : (L.take i).length = i := by rw [List.length_take, ← HX.out.1]; omega
            by_cases hi0 : i = 0
            · have z0 : ((i : Int) == 0) = true := by rw [beq_iff_eq]; omega
              obtain rfl : D = false := by rw [HD3.out, hi0]; rfl
              clear hi0 hlt
              go_wp2_with fail
              refine hm.mono ?_
              rintro e w1 ⟨rfl, rfl⟩
              go_wp2
              go_ret
              exact ⟨rfl, rfl⟩
            · have z0 : ((i : Int) == 0) = false := by rw [beq_eq_false_iff_ne]; omega
              have e3 : (Instr.index 9 (.string s) (.int .i64 0)).run Tryd.prog wr = .ok (.int .u8 ((L.getD 0 0).toNat : Int)) wr := HI.out 0 wr (by omega)
              have e4 := HI.out (i - 1) wr (by omega)
              rw [show ((i - 1 : Nat) : Int) = (i : Int) - 1 from by omega] at e4
              obtain ⟨Z, hZ⟩ : ∃ Z, Z = L.getD 0 0 := ⟨_, rfl⟩
              obtain ⟨V, hV⟩ : ∃ V, V = L.getD (i - 1) 0 := ⟨_, rfl⟩
              rw [← hZ] at e3
              rw [← hV] at e4
              have HZV : Hid _ := And.intro hZ hV
              clear hZ hV
              by_cases hz : Z = 46
              · have zz : ((Z.toNat : Int) == 46) = true := by rw [hz]; rfl
                obtain rfl : D = false := by
                  rw [HD3.out]
                  have := sc_step (A := L.take i) (i := 0) (by omega) true
                  rw [List.drop_zero, take_getD (by omega), ← HZV.out.1, if_pos hz] at this
                  rw [this]; rfl
                clear hz hlt
                go_wp2_with fail
                refine hm.mono ?_
                rintro e w1 ⟨rfl, rfl⟩
                go_wp2
                go_ret
                exact ⟨rfl, rfl⟩
              · have zz : ((Z.toNat : Int) == 46) = false := by rw [show ((Z.toNat : Int) == 46) = (Z == 46) from u8_beq Z 46 (by omega)]; simpa using hz
                by_cases hv : V = 46
                · have zv : ((V.toNat : Int) == 46) = true := by rw [hv]; rfl
                  obtain rfl : D = false := by
                    rw [HD3.out]
                    have h1 : L.take i = L.take (i - 1) ++ [46] := by
                      have := List.take_add_one (l := L) (i := i - 1)
                      rw [show i - 1 + 1 = i from by omega, getD_of_lt (by rw [← HX.out.1]; omega), ← HZV.out.2, hv] at this
                      exact this
                    rw [h1, sc_last]
                  clear hz hv hlt
                  go_wp2_with fail
                  refine hm.mono ?_
                  rintro e w1 ⟨rfl, rfl⟩
                  go_wp2
                  go_ret
                  exact ⟨rfl, rfl⟩
                · have zv : ((V.toNat : Int) == 46) = false := by rw [show ((V.toNat : Int) == 46) = (V == 46) from u8_beq V 46 (by omega)]; simpa using hv
                  have HQ : Hid (Z ≠ 46 ∧ V ≠ 46 ∧ (L.take i).length = i) := ⟨hz, hv, hlt⟩
                  clear hz hv hlt
                  go_wp2_with fail
                  refine hm.mono ?_
                  rintro e w1 ⟨rfl, rfl⟩
                  go_wp2
                  go_loopg [6] i (fun gg s6 wx => wx = wr ∧ ∃ k : Nat, k + gg = i ∧ s6 = .int .i64 k ∧ sc true (L.take i) = sc (decide (k = 0) || L.getD (k - 1) 0 == 46) ((L.take i).drop k))
                  case atStart => exact ⟨rfl, 0, by omega, rfl, by simp⟩
                  case round =>
                    obtain ⟨rfl, k, hkg, rfl, hsc⟩ := hrel
                    have HS : Hid _ := hsc
                    clear hsc zi e1 zx hsl hm e2 zy e3 e4 zz zv
                    cases gk with
                    | zero =>
                      obtain rfl : k = i := by omega
                      obtain rfl : D = true := by
                        rw [HD3.out, HS.out, List.drop_eq_nil_of_le (by have := HQ.out.2.2; omega), ← HZV.out.2, sc]
                        have : (V == 46) = false := by simpa using HQ.out.2.1
                        rw [this]
                        simp [hi0]
                      go_wp2
                      go_ret
                      exact ⟨rfl, rfl⟩
                    | succ gg =>
                      have zk : (k : Int) < (i : Int) := by omega
                      have e5 := HI.out k wr (by omega)
                      have hst := sc_step (A := L.take i) (i := k) (by have := HQ.out.2.2; omega) (decide (k = 0) || L.getD (k - 1) 0 == 46)
                      rw [take_getD (by omega)] at hst
                      obtain ⟨U, hU⟩ : ∃ U, U = L.getD k 0 := ⟨_, rfl⟩
                      rw [← hU] at e5 hst
                      have HST : Hid _ := hst
                      have HU : Hid _ := hU
                      clear hst hU
                      by_cases hu : U = 46
                      · have zu : ((U.toNat : Int) == 46) = true := by rw [hu]; rfl
                        have hk0 : k ≠ 0 := by
                          rintro rfl
                          exact HQ.out.1 (by rw [HZV.out.1, ← HU.out]; exact hu)
                        have e6 := HI.out (k - 1) wr (by omega)
                        rw [show ((k - 1 : Nat) : Int) = (k : Int) - 1 from by omega] at e6
                        obtain ⟨T, hT⟩ : ∃ T, T = L.getD (k - 1) 0 := ⟨_, rfl⟩
                        rw [← hT] at e6
                        have HST2 : Hid (sc true (L.take i) = (!(T == 46) && sc true ((L.take i).drop (k + 1)))) := by
                          show sc true (L.take i) = _
                          rw [HS.out, HST.out, if_pos hu, ← hT]
                          simp [hk0]
                        clear hT
                        by_cases ht : T = 46
                        · have zt : ((T.toNat : Int) == 46) = true := by rw [ht]; rfl
                          obtain rfl : D = false := by rw [HD3.out, HST2.out, ht]; rfl
                          clear ht hu
                          go_wp2
                          go_ret
                          exact ⟨rfl, rfl⟩
                        · have zt : ((T.toNat : Int) == 46) = false := by rw [show ((T.toNat : Int) == 46) = (T == 46) from u8_beq T 46 (by omega)]; simpa using ht
                          have HTU : Hid (T ≠ 46 ∧ U = 46) := ⟨ht, hu⟩
                          clear ht hu
                          go_wp2
                          go_roundg gg
                          case measure => omega
                          case rel =>
                            refine ⟨rfl, k + 1, by omega, by first | rfl | simp, ?_⟩
                            rw [HST2.out, show (T == 46) = false from by simpa using HTU.out.1, Nat.add_sub_cancel, ← HU.out, HTU.out.2]
                            simp
                      · have zu : ((U.toNat : Int) == 46) = false := by rw [show ((U.toNat : Int) == 46) = (U == 46) from u8_beq U 46 (by omega)]; simpa using hu
                        have ha := atext_any U wr
                        have HST2 : Hid (sc true (L.take i) = (atx U && sc false ((L.take i).drop (k + 1)))) := by
                          show sc true (L.take i) = _
                          rw [HS.out, HST.out, if_neg hu]
                        obtain ⟨A, hA⟩ : ∃ A, A = atx U := ⟨_, rfl⟩
                        rw [← hA] at ha HST2
                        have HUU : Hid (U ≠ 46) := hu
                        clear hA hu
                        cases A
                        · obtain rfl : D = false := by rw [HD3.out, HST2.out]; rfl
                          go_wp2_with fail
                          refine ha.mono ?_
                          rintro e w1 ⟨rfl, rfl⟩
                          go_wp2
                          go_ret
                          exact ⟨rfl, rfl⟩
                        · go_wp2_with fail
                          refine ha.mono ?_
                          rintro e w1 ⟨rfl, rfl⟩
                          go_wp2
                          go_roundg gg
                          case measure => omega
                          case rel =>
                            refine ⟨rfl, k + 1, by omega, by first | rfl | simp, ?_⟩
                            rw [HST2.out, Nat.add_sub_cancel, ← HU.out, show (U == 46) = false from by simpa using HUU.out]
                            simp
      · have zx : ((X.toNat : Int) == 64) = false := by rw [show ((X.toNat : Int) == 64) = (X == 64) from u8_beq X 64 (by omega)]; simpa using hx
        have HXN : Hid (X ≠ 64) := hx
        clear hx
        go_wp2
        go_roundg g
        case measure => omega
        case rel =>
          refine ⟨rfl, i + 1, by omega, rfl, by first | rfl | simp, fun j hj => ?_⟩
          by_cases hji : j = i
          · subst hji; rw [← HXX.out]; exact HXN.out
          · exact HA.out j (by omega)
end Go.Proofs.Qxb6603125aDoor
