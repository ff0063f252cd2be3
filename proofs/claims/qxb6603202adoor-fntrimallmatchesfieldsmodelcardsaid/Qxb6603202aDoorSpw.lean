import Derived.Test.Qxb6603202aDoorSpace
namespace Go.Proofs.Qxb6603202aDoor
open Go.RowKit
open Go

theorem drop_one {L : List UInt8} {i : Nat} (h : i < L.length) : L.drop i = L.getD i 0 :: L.drop (i + 1) := by
  rw [List.drop_eq_getElem_cons h]
  congr 1
  rw [List.getD, List.getElem?_eq_getElem h]; rfl

set_option maxRecDepth 100000 in
set_option maxHeartbeats 3200000 in
theorem spaceAt_any (s : ByteArray) (i : Nat) (w : World) (hs : s.size ≤ 1048576) (hi : i ≤ 1048576) (r : Nat) (hr : r = Lib.headSpace (s.data.toList.drop i)) :
    Calls Tryd.prog 6 #[.string s, .int .i64 i] w fun e w' => e = .returned (.int .i64 r) ∧ w = w' := by
  rw [head_sp] at hr
  obtain ⟨L, hL⟩ : ∃ L, L = s.data.toList := ⟨_, rfl⟩
  have hnL : s.size = L.length := by rw [hL]; simp
  rw [← hL] at hr
  have hix : ∀ (j : Nat) (wx : World), j < s.size → (Instr.index 9 (.string s) (.int .i64 j)).run Tryd.prog wx = .ok (.int .u8 ((L.getD j 0).toNat : Int)) wx := fun j wx hj => by
    have := idx_str s j (by omega) wx
    rwa [at_, ← hL] at this
  have z0 : ¬ (i : Int) < 0 := by omega
  clear hL
  by_cases h0 : i < s.size
  · have z1 : ¬ (i : Int) ≥ (s.size : Int) := by omega
    have e1 := hix i w h0
    have hd1 := drop_one (L := L) (i := i) (by omega)
    rw [hd1] at hr
    clear hd1
    obtain ⟨X, hX⟩ : ∃ X, X = L.getD i 0 := ⟨_, rfl⟩
    rw [← hX] at hr e1
    clear hX
    have ha := asp_any X w
    by_cases hax : asp X = true
    · rw [hax] at ha
      obtain rfl : r = 1 := by
        rw [hr]
        rcases L.drop (i + 1) with _ | ⟨c1, _ | ⟨c2, t⟩⟩
        · rw [sp1, if_pos hax]
        · rw [sp2, if_pos hax]
        · rw [sp3, if_pos hax]
      clear hr hix hax hnL
      go_enter Tryd.func6, Tryd.ntmps6
      go_wp2_with fail
      refine ha.mono ?_
      rintro e w1 ⟨rfl, rfl⟩
      go_wp2
      go_ret
      exact ⟨rfl, rfl⟩
    · have hax' : asp X = false := by simpa using hax
      rw [hax'] at ha
      by_cases h194 : X = 194
      · have zx : ((X.toNat : Int) == 194) = true := by rw [h194]; rfl
        by_cases h1 : i + 1 < s.size
        · have z2 : (i : Int) + 1 < (s.size : Int) := by omega
          have e2 := hix (i + 1) w h1
          rw [show ((i + 1 : Nat) : Int) = (i : Int) + 1 from by omega] at e2
          have hd2 := drop_one (L := L) (i := i + 1) (by omega)
          rw [hd2] at hr
          clear hd2
          obtain ⟨Y, hY⟩ : ∃ Y, Y = L.getD (i + 1) 0 := ⟨_, rfl⟩
          rw [← hY] at hr e2
          clear hY
          have hr2 : r = if Y = 133 ∨ Y = 160 then 2 else 0 := by
            rw [hr]
            rcases L.drop (i + 1 + 1) with _ | ⟨c2, t⟩
            · rw [sp2, if_neg hax]; simp [h194]
            · rw [sp3, if_neg hax, if_pos h194]
          clear hr hix hax hax' hnL
          by_cases hy : Y = 133
          · have zy : ((Y.toNat : Int) == 133) = true := by rw [hy]; rfl
            obtain rfl : r = 2 := by rw [hr2, if_pos (.inl hy)]
            clear hr2 hy h194
            go_enter Tryd.func6, Tryd.ntmps6
            go_wp2_with fail
            refine ha.mono ?_
            rintro e w1 ⟨rfl, rfl⟩
            go_wp2
            go_ret
            exact ⟨rfl, rfl⟩
          · have zy : ((Y.toNat : Int) == 133) = false := ne_int 133 (by omega) hy
            by_cases hy2 : Y = 160
            · have zy2 : ((Y.toNat : Int) == 160) = true := by rw [hy2]; rfl
              obtain rfl : r = 2 := by rw [hr2, if_pos (.inr hy2)]
              clear hr2 hy hy2 h194
              go_enter Tryd.func6, Tryd.ntmps6
              go_wp2_with fail
              refine ha.mono ?_
              rintro e w1 ⟨rfl, rfl⟩
              go_wp2
              go_ret
              exact ⟨rfl, rfl⟩
            · have zy2 : ((Y.toNat : Int) == 160) = false := ne_int 160 (by omega) hy2
              obtain rfl : r = 0 := by rw [hr2, if_neg (fun h => h.elim hy hy2)]
              clear hr2 hy hy2 h194
              go_enter Tryd.func6, Tryd.ntmps6
              go_wp2_with fail
              refine ha.mono ?_
              rintro e w1 ⟨rfl, rfl⟩
              go_wp2
              go_ret
              exact ⟨rfl, rfl⟩
        · have z2 : ¬ (i : Int) + 1 < (s.size : Int) := by omega
          obtain rfl : r = 0 := by
            rw [hr, List.drop_eq_nil_of_le (by omega), sp1, if_neg hax]
          clear hr hix hax hax' hnL h194
          go_enter Tryd.func6, Tryd.ntmps6
          go_wp2_with fail
          refine ha.mono ?_
          rintro e w1 ⟨rfl, rfl⟩
          go_wp2
          go_ret
          exact ⟨rfl, rfl⟩
      · have zx : ((X.toNat : Int) == 194) = false := ne_int 194 (by omega) h194
        by_cases h2 : i + 2 < s.size
        · have z2 : ¬ (i : Int) + 2 ≥ (s.size : Int) := by omega
          have e2 := hix (i + 1) w (by omega)
          rw [show ((i + 1 : Nat) : Int) = (i : Int) + 1 from by omega] at e2
          have e3 := hix (i + 2) w (by omega)
          rw [show ((i + 2 : Nat) : Int) = (i : Int) + 2 from by omega] at e3
          have hd2 := drop_one (L := L) (i := i + 1) (by omega)
          have hd3 := drop_one (L := L) (i := i + 1 + 1) (by omega)
          rw [hd2, hd3] at hr
          clear hd2 hd3
          obtain ⟨Y, hY⟩ : ∃ Y, Y = L.getD (i + 1) 0 := ⟨_, rfl⟩
          obtain ⟨Z, hZ⟩ : ∃ Z, Z = L.getD (i + 2) 0 := ⟨_, rfl⟩
          rw [← hY] at hr e2
          rw [show i + 1 + 1 = i + 2 from rfl, ← hZ] at hr
          rw [← hZ] at e3
          clear hY hZ
          rw [sp3, if_neg hax, if_neg h194] at hr
          clear hix hax hax' hnL h194
          have HR : Hid _ := hr
          clear hr
          by_cases hx : X = 225
          · have zhx : ((X.toNat : Int) == 225) = true := by rw [hx]; rfl
            have w226 : ((X.toNat : Int) == 226) = false := by rw [hx]; rfl
            have w227 : ((X.toNat : Int) == 227) = false := by rw [hx]; rfl
            by_cases hy : Y = 154
            · have zhy : ((Y.toNat : Int) == 154) = true := by rw [hy]; rfl
              by_cases hz : Z = 128
              · have zhz : ((Z.toNat : Int) == 128) = true := by rw [hz]; rfl
                obtain rfl : r = 3 := by
                  rw [HR.out, if_pos (by rw [hx, hy, hz]; rfl)]
                clear HR hx hy hz
                go_enter Tryd.func6, Tryd.ntmps6
                go_wp2_with fail
                refine ha.mono ?_
                rintro e w1 ⟨rfl, rfl⟩
                go_wp2
                go_ret
                exact ⟨rfl, rfl⟩
              · have zhz : ((Z.toNat : Int) == 128) = false := ne_int 128 (by omega) hz
                obtain rfl : r = 0 := by
                  rw [HR.out, if_neg (by simp [three, hx, hy, hz])]
                clear HR hx hy hz
                go_enter Tryd.func6, Tryd.ntmps6
                go_wp2_with fail
                refine ha.mono ?_
                rintro e w1 ⟨rfl, rfl⟩
                go_wp2
                go_ret
                exact ⟨rfl, rfl⟩
            · have zhy : ((Y.toNat : Int) == 154) = false := ne_int 154 (by omega) hy
              obtain rfl : r = 0 := by
                rw [HR.out, if_neg (by simp [three, hx, hy])]
              clear HR hx hy
              go_enter Tryd.func6, Tryd.ntmps6
              go_wp2_with fail
              refine ha.mono ?_
              rintro e w1 ⟨rfl, rfl⟩
              go_wp2
              go_ret
              exact ⟨rfl, rfl⟩
          · have zhx : ((X.toNat : Int) == 225) = false := ne_int 225 (by omega) hx
            by_cases hx2 : X = 226
            · have zhx2 : ((X.toNat : Int) == 226) = true := by rw [hx2]; rfl
              have w227 : ((X.toNat : Int) == 227) = false := by rw [hx2]; rfl
              by_cases hy : Y = 128
              · have zhy : ((Y.toNat : Int) == 128) = true := by rw [hy]; rfl
                have v129 : ((Y.toNat : Int) == 129) = false := by rw [hy]; rfl
                by_cases hge : 128 ≤ Z.toNat
                · have zge : (Z.toNat : Int) ≥ 128 := by omega
                  by_cases hle : Z.toNat ≤ 138
                  · have zle : (Z.toNat : Int) ≤ 138 := by omega
                    obtain rfl : r = 3 := by
                      rw [HR.out, if_pos (by simp [three, hx2, hy, hge, hle])]
                    clear HR hx hx2 hy hge hle
                    go_enter Tryd.func6, Tryd.ntmps6
                    go_wp2_with fail
                    refine ha.mono ?_
                    rintro e w1 ⟨rfl, rfl⟩
                    go_wp2
                    go_ret
                    exact ⟨rfl, rfl⟩
                  · have zle : ¬ (Z.toNat : Int) ≤ 138 := by omega
                    by_cases hz1 : Z = 168
                    · have zhz1 : ((Z.toNat : Int) == 168) = true := by rw [hz1]; rfl
                      obtain rfl : r = 3 := by
                        rw [HR.out, if_pos (by rw [hx2, hy, hz1]; rfl)]
                      clear HR hx hx2 hy hz1
                      go_enter Tryd.func6, Tryd.ntmps6
                      go_wp2_with fail
                      refine ha.mono ?_
                      rintro e w1 ⟨rfl, rfl⟩
                      go_wp2
                      go_ret
                      exact ⟨rfl, rfl⟩
                    · have zhz1 : ((Z.toNat : Int) == 168) = false := ne_int 168 (by omega) hz1
                      by_cases hz2 : Z = 169
                      · have zhz2 : ((Z.toNat : Int) == 169) = true := by rw [hz2]; rfl
                        obtain rfl : r = 3 := by
                          rw [HR.out, if_pos (by rw [hx2, hy, hz2]; rfl)]
                        clear HR hx hx2 hy hz1 hz2
                        go_enter Tryd.func6, Tryd.ntmps6
                        go_wp2_with fail
                        refine ha.mono ?_
                        rintro e w1 ⟨rfl, rfl⟩
                        go_wp2
                        go_ret
                        exact ⟨rfl, rfl⟩
                      · have zhz2 : ((Z.toNat : Int) == 169) = false := ne_int 169 (by omega) hz2
                        by_cases hz3 : Z = 175
                        · have zhz3 : ((Z.toNat : Int) == 175) = true := by rw [hz3]; rfl
                          obtain rfl : r = 3 := by
                            rw [HR.out, if_pos (by rw [hx2, hy, hz3]; rfl)]
                          clear HR hx hx2 hy hz1 hz2 hz3
                          go_enter Tryd.func6, Tryd.ntmps6
                          go_wp2_with fail
                          refine ha.mono ?_
                          rintro e w1 ⟨rfl, rfl⟩
                          go_wp2
                          go_ret
                          exact ⟨rfl, rfl⟩
                        · have zhz3 : ((Z.toNat : Int) == 175) = false := ne_int 175 (by omega) hz3
                          obtain rfl : r = 0 := by
                            rw [HR.out, if_neg (by simp [three, hx2, hy, hz1, hz2, hz3]; omega)]
                          clear HR hx hx2 hy hz1 hz2 hz3
                          go_enter Tryd.func6, Tryd.ntmps6
                          go_wp2_with fail
                          refine ha.mono ?_
                          rintro e w1 ⟨rfl, rfl⟩
                          go_wp2
                          go_ret
                          exact ⟨rfl, rfl⟩
                · have zge : ¬ (Z.toNat : Int) ≥ 128 := by omega
                  have hz1 : Z ≠ 168 := fun e => hge (by rw [e]; decide)
                  have hz2 : Z ≠ 169 := fun e => hge (by rw [e]; decide)
                  have hz3 : Z ≠ 175 := fun e => hge (by rw [e]; decide)
                  have zhz1 : ((Z.toNat : Int) == 168) = false := ne_int 168 (by omega) hz1
                  have zhz2 : ((Z.toNat : Int) == 169) = false := ne_int 169 (by omega) hz2
                  have zhz3 : ((Z.toNat : Int) == 175) = false := ne_int 175 (by omega) hz3
                  obtain rfl : r = 0 := by
                    have ht : three X Y Z = false := by
                      have e1 : decide (128 ≤ Z.toNat ∧ Z.toNat ≤ 138) = false := decide_eq_false (fun h => hge h.1)
                      have e2 : (Z == 168) = false := by simpa using hz1
                      have e3 : (Z == 169) = false := by simpa using hz2
                      have e4 : (Z == 175) = false := by simpa using hz3
                      unfold three
                      rw [hx2, hy, e1, e2, e3, e4]
                      rfl
                    rw [HR.out, ht, if_neg (by decide)]
                  clear HR hx hx2 hy hz1 hz2 hz3 hge
                  go_enter Tryd.func6, Tryd.ntmps6
                  go_wp2_with fail
                  refine ha.mono ?_
                  rintro e w1 ⟨rfl, rfl⟩
                  go_wp2
                  go_ret
                  exact ⟨rfl, rfl⟩
              · have zhy : ((Y.toNat : Int) == 128) = false := ne_int 128 (by omega) hy
                by_cases hy2 : Y = 129
                · have zhy2 : ((Y.toNat : Int) == 129) = true := by rw [hy2]; rfl
                  by_cases hz : Z = 159
                  · have zhz : ((Z.toNat : Int) == 159) = true := by rw [hz]; rfl
                    obtain rfl : r = 3 := by
                      rw [HR.out, if_pos (by rw [hx2, hy2, hz]; rfl)]
                    clear HR hx hx2 hy hy2 hz
                    go_enter Tryd.func6, Tryd.ntmps6
                    go_wp2_with fail
                    refine ha.mono ?_
                    rintro e w1 ⟨rfl, rfl⟩
                    go_wp2
                    go_ret
                    exact ⟨rfl, rfl⟩
                  · have zhz : ((Z.toNat : Int) == 159) = false := ne_int 159 (by omega) hz
                    obtain rfl : r = 0 := by
                      rw [HR.out, if_neg (by simp [three, hx2, hy2, hz])]
                    clear HR hx hx2 hy hy2 hz
                    go_enter Tryd.func6, Tryd.ntmps6
                    go_wp2_with fail
                    refine ha.mono ?_
                    rintro e w1 ⟨rfl, rfl⟩
                    go_wp2
                    go_ret
                    exact ⟨rfl, rfl⟩
                · have zhy2 : ((Y.toNat : Int) == 129) = false := ne_int 129 (by omega) hy2
                  obtain rfl : r = 0 := by
                    rw [HR.out, if_neg (by simp [three, hx2, hy, hy2])]
                  clear HR hx hx2 hy hy2
                  go_enter Tryd.func6, Tryd.ntmps6
                  go_wp2_with fail
                  refine ha.mono ?_
                  rintro e w1 ⟨rfl, rfl⟩
                  go_wp2
                  go_ret
                  exact ⟨rfl, rfl⟩
            · have zhx2 : ((X.toNat : Int) == 226) = false := ne_int 226 (by omega) hx2
              by_cases hx3 : X = 227
              · have zhx3 : ((X.toNat : Int) == 227) = true := by rw [hx3]; rfl
                by_cases hy : Y = 128
                · have zhy : ((Y.toNat : Int) == 128) = true := by rw [hy]; rfl
                  by_cases hz : Z = 128
                  · have zhz : ((Z.toNat : Int) == 128) = true := by rw [hz]; rfl
                    obtain rfl : r = 3 := by
                      rw [HR.out, if_pos (by rw [hx3, hy, hz]; rfl)]
                    clear HR hx hx2 hx3 hy hz
                    go_enter Tryd.func6, Tryd.ntmps6
                    go_wp2_with fail
                    refine ha.mono ?_
                    rintro e w1 ⟨rfl, rfl⟩
                    go_wp2
                    go_ret
                    exact ⟨rfl, rfl⟩
                  · have zhz : ((Z.toNat : Int) == 128) = false := ne_int 128 (by omega) hz
                    obtain rfl : r = 0 := by
                      rw [HR.out, if_neg (by simp [three, hx3, hy, hz])]
                    clear HR hx hx2 hx3 hy hz
                    go_enter Tryd.func6, Tryd.ntmps6
                    go_wp2_with fail
                    refine ha.mono ?_
                    rintro e w1 ⟨rfl, rfl⟩
                    go_wp2
                    go_ret
                    exact ⟨rfl, rfl⟩
                · have zhy : ((Y.toNat : Int) == 128) = false := ne_int 128 (by omega) hy
                  obtain rfl : r = 0 := by
                    rw [HR.out, if_neg (by simp [three, hx3, hy])]
                  clear HR hx hx2 hx3 hy
                  go_enter Tryd.func6, Tryd.ntmps6
                  go_wp2_with fail
                  refine ha.mono ?_
                  rintro e w1 ⟨rfl, rfl⟩
                  go_wp2
                  go_ret
                  exact ⟨rfl, rfl⟩
              · have zhx3 : ((X.toNat : Int) == 227) = false := ne_int 227 (by omega) hx3
                obtain rfl : r = 0 := by
                  rw [HR.out, if_neg (by simp [three, hx, hx2, hx3])]
                clear HR hx hx2 hx3
                go_enter Tryd.func6, Tryd.ntmps6
                go_wp2_with fail
                refine ha.mono ?_
                rintro e w1 ⟨rfl, rfl⟩
                go_wp2
                go_ret
                exact ⟨rfl, rfl⟩
        · have z2 : (i : Int) + 2 ≥ (s.size : Int) := by omega
          obtain rfl : r = 0 := by
            rw [hr]
            by_cases h1 : i + 1 < s.size
            · rw [drop_one (by omega), List.drop_eq_nil_of_le (by omega), sp2, if_neg hax, if_neg (fun h => h194 h.1)]
            · rw [List.drop_eq_nil_of_le (by omega), sp1, if_neg hax]
          clear hr hix hax hax' hnL h194
          go_enter Tryd.func6, Tryd.ntmps6
          go_wp2_with fail
          refine ha.mono ?_
          rintro e w1 ⟨rfl, rfl⟩
          go_wp2
          go_ret
          exact ⟨rfl, rfl⟩
  · have z1 : (i : Int) ≥ (s.size : Int) := by omega
    obtain rfl : r = 0 := by rw [hr, List.drop_eq_nil_of_le (by omega)]; rfl
    clear hr hix hnL
    go_enter Tryd.func6, Tryd.ntmps6
    go_wp2
    go_ret
    exact ⟨rfl, rfl⟩
end Go.Proofs.Qxb6603202aDoor
