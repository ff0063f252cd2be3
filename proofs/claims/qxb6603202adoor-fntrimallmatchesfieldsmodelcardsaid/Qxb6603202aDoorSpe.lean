import Derived.Test.Qxb6603202aDoorSpw
namespace Go.Proofs.Qxb6603202aDoor
open Go.RowKit
open Go

theorem tail_at {L : List UInt8} {lo hi : Nat} (h1 : lo ≤ hi) (h2 : hi ≤ L.length) :
    Lib.tailSpace ((L.take hi).drop lo) = if lo + 1 ≤ hi ∧ asp (L.getD (hi - 1) 0) = true then 1 else if lo + 2 ≤ hi ∧ Lib.headSpace (L.drop (hi - 2)) = 2 then 2 else if lo + 3 ≤ hi ∧ Lib.headSpace (L.drop (hi - 3)) = 3 then 3 else 0 := by
  have hm : ((L.take hi).drop lo).length = hi - lo := by rw [List.length_drop, List.length_take]; omega
  have hk : ∀ k, lo + k ≤ hi → ((L.take hi).drop lo).drop (hi - lo - k) ++ L.drop hi = L.drop (hi - k) := fun k hk => by
    rw [List.drop_drop, show lo + (hi - lo - k) = hi - k from by omega]
    have e : L.drop (hi - k) = (L.take hi).drop (hi - k) ++ L.drop hi := by
      conv => lhs; rw [← List.take_append_drop hi L]
      rw [List.drop_append_of_le_length (by rw [List.length_take]; omega)]
    exact e.symm
  have hg : lo + 1 ≤ hi → ((L.take hi).drop lo).getD (hi - lo - 1) 0 = L.getD (hi - 1) 0 := fun h => by
    rw [List.getD, List.getD, List.getElem?_drop, List.getElem?_take_of_lt (by omega), show lo + (hi - lo - 1) = hi - 1 from by omega]
  rw [tail_go (R := L.drop hi) (hi - lo) hm]
  by_cases g1 : lo + 1 ≤ hi
  · rw [hg g1]
    by_cases g2 : lo + 2 ≤ hi
    · rw [hk 2 g2]
      by_cases g3 : lo + 3 ≤ hi
      · rw [hk 3 g3]
        simp only [g1, g2, g3, true_and, show 1 ≤ hi - lo from by omega, show 2 ≤ hi - lo from by omega, show 3 ≤ hi - lo from by omega]
      · simp only [g1, g2, g3, true_and, false_and, show 1 ≤ hi - lo from by omega, show 2 ≤ hi - lo from by omega, show ¬ 3 ≤ hi - lo from by omega]
    · simp only [g1, g2, true_and, false_and, show 1 ≤ hi - lo from by omega, show ¬ 2 ≤ hi - lo from by omega, show ¬ 3 ≤ hi - lo from by omega, show ¬ lo + 3 ≤ hi from by omega]
  · simp only [g1, false_and, show ¬ 1 ≤ hi - lo from by omega, show ¬ 2 ≤ hi - lo from by omega, show ¬ 3 ≤ hi - lo from by omega, show ¬ lo + 3 ≤ hi from by omega, show ¬ lo + 2 ≤ hi from by omega]

set_option maxRecDepth 100000 in
set_option maxHeartbeats 3200000 in
theorem endAt_any (s : ByteArray) (lo hi : Nat) (w : World) (hs : s.size ≤ 1048576) (h1 : lo < hi) (h2 : hi ≤ s.size) (r : Nat) (hr : r = Lib.tailSpace ((s.data.toList.take hi).drop lo)) :
    Calls Tryd.prog 7 #[.string s, .int .i64 lo, .int .i64 hi] w fun e w' => e = .returned (.int .i64 r) ∧ w = w' := by
  obtain ⟨L, hL⟩ : ∃ L, L = s.data.toList := ⟨_, rfl⟩
  have hnL : s.size = L.length := by rw [hL]; simp
  rw [← hL, tail_at (by omega) (by omega)] at hr
  have e1 := idx_str s (hi - 1) (by omega) w
  rw [at_, ← hL, show ((hi - 1 : Nat) : Int) = (hi : Int) - 1 from by omega] at e1
  obtain ⟨X, hX⟩ : ∃ X, X = L.getD (hi - 1) 0 := ⟨_, rfl⟩
  rw [← hX] at e1 hr
  have z1 : (hi : Int) - 1 ≥ (lo : Int) := by omega
  have ha := asp_any X w
  have h6 : ∀ k : Nat, lo + k ≤ hi → Calls Tryd.prog 6 #[.string s, .int .i64 ((hi : Int) - (k : Int))] w fun e w' => e = .returned (.int .i64 (Lib.headSpace (L.drop (hi - k)) : Nat)) ∧ w = w' := fun k hk => by
    have := spaceAt_any s (hi - k) w hs (by omega) _ rfl
    rwa [← hL, show ((hi - k : Nat) : Int) = (hi : Int) - (k : Int) from by omega] at this
  clear hX hL
  by_cases hax : asp X = true
  · rw [hax] at ha
    obtain rfl : r = 1 := by rw [hr, if_pos ⟨by omega, hax⟩]
    clear hr h6 hax hnL
    go_enter Tryd.func7, Tryd.ntmps7
    go_wp2_with fail
    refine ha.mono ?_
    rintro e w1 ⟨rfl, rfl⟩
    go_wp2
    go_ret
    exact ⟨rfl, rfl⟩
  · rw [show asp X = false from by simpa using hax] at ha
    rw [if_neg (fun h => hax h.2)] at hr
    clear hax hnL
    by_cases g2 : lo + 2 ≤ hi
    · have z2 : (hi : Int) - 2 ≥ (lo : Int) := by omega
      have c2 := h6 2 g2
      obtain ⟨r2, hr2⟩ : ∃ r2, r2 = Lib.headSpace (L.drop (hi - 2)) := ⟨_, rfl⟩
      rw [← hr2] at c2 hr
      change Calls Tryd.prog 6 #[.string s, .int .i64 ((hi : Int) - 2)] w _ at c2
      clear hr2
      by_cases hq2 : r2 = 2
      · have zr : ((r2 : Int) == 2) = true := by rw [hq2]; rfl
        obtain rfl : r = 2 := by rw [hr, if_pos ⟨g2, hq2⟩]
        clear hr h6 hq2
        go_enter Tryd.func7, Tryd.ntmps7
        go_wp2_with fail
        refine ha.mono ?_
        rintro e w1 ⟨rfl, rfl⟩
        go_wp2_with fail
        refine c2.mono ?_
        rintro e w1 ⟨rfl, rfl⟩
        go_wp2
        go_ret
        exact ⟨rfl, rfl⟩
      · have zr : ((r2 : Int) == 2) = false := by rw [beq_eq_false_iff_ne]; omega
        rw [if_neg (fun h => hq2 h.2)] at hr
        clear hq2
        by_cases g3 : lo + 3 ≤ hi
        · have z3 : (hi : Int) - 3 ≥ (lo : Int) := by omega
          have c3 := h6 3 g3
          obtain ⟨r3, hr3⟩ : ∃ r3, r3 = Lib.headSpace (L.drop (hi - 3)) := ⟨_, rfl⟩
          rw [← hr3] at c3 hr
          change Calls Tryd.prog 6 #[.string s, .int .i64 ((hi : Int) - 3)] w _ at c3
          clear hr3
          by_cases hq3 : r3 = 3
          · have zr3 : ((r3 : Int) == 3) = true := by rw [hq3]; rfl
            obtain rfl : r = 3 := by rw [hr, if_pos ⟨g3, hq3⟩]
            clear hr h6 hq3
            go_enter Tryd.func7, Tryd.ntmps7
            go_wp2_with fail
            refine ha.mono ?_
            rintro e w1 ⟨rfl, rfl⟩
            go_wp2_with fail
            refine c2.mono ?_
            rintro e w1 ⟨rfl, rfl⟩
            go_wp2_with fail
            refine c3.mono ?_
            rintro e w1 ⟨rfl, rfl⟩
            go_wp2
            go_ret
            exact ⟨rfl, rfl⟩
          · have zr3 : ((r3 : Int) == 3) = false := by rw [beq_eq_false_iff_ne]; omega
            obtain rfl : r = 0 := by rw [hr, if_neg (fun h => hq3 h.2)]
            clear hr h6 hq3
            go_enter Tryd.func7, Tryd.ntmps7
            go_wp2_with fail
            refine ha.mono ?_
            rintro e w1 ⟨rfl, rfl⟩
            go_wp2_with fail
            refine c2.mono ?_
            rintro e w1 ⟨rfl, rfl⟩
            go_wp2_with fail
            refine c3.mono ?_
            rintro e w1 ⟨rfl, rfl⟩
            go_wp2
            go_ret
            exact ⟨rfl, rfl⟩
        · have z3 : ¬ (hi : Int) - 3 ≥ (lo : Int) := by omega
          obtain rfl : r = 0 := by rw [hr, if_neg (fun h => g3 h.1)]
          clear hr h6
          go_enter Tryd.func7, Tryd.ntmps7
          go_wp2_with fail
          refine ha.mono ?_
          rintro e w1 ⟨rfl, rfl⟩
          go_wp2_with fail
          refine c2.mono ?_
          rintro e w1 ⟨rfl, rfl⟩
          go_wp2
          go_ret
          exact ⟨rfl, rfl⟩
    · have z2 : ¬ (hi : Int) - 2 ≥ (lo : Int) := by omega
      have z3 : ¬ (hi : Int) - 3 ≥ (lo : Int) := by omega
      obtain rfl : r = 0 := by rw [hr, if_neg (fun h => g2 h.1), if_neg (fun h => g2 (by omega))]
      clear hr h6
      go_enter Tryd.func7, Tryd.ntmps7
      go_wp2_with fail
      refine ha.mono ?_
      rintro e w1 ⟨rfl, rfl⟩
      go_wp2
      go_ret
      exact ⟨rfl, rfl⟩
end Go.Proofs.Qxb6603202aDoor
