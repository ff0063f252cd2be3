import Derived.Test.Qxb6603125aDoorMem
namespace Go.Proofs.Qxb6603125aDoor
open Go.RowKit
open Go

set_option maxHeartbeats 1600000 in
theorem digits_any (s : ByteArray) (a b : Nat) (w : World) (hb : b ≤ s.size) (hs : s.size ≤ 1048576) (t : Bool) (ht : t = true ↔ ∀ i, a ≤ i → i < b → isD (s.data.toList.getD i 0) = true) (hab : a ≤ b) :
    Calls Tryd.prog 24 #[.string s, .int .i64 a, .int .i64 b] w fun e w' => e = .returned (.bool t) ∧ w = w' := by
  have HT : Hid _ := ht
  clear ht
  go_enter Tryd.func24, Tryd.ntmps24
  go_wp2
  go_loopg [7] (b - a) (fun g s7 wx => wx = w ∧ ∃ i : Nat, i + g = b ∧ a ≤ i ∧ s7 = .int .i64 i ∧ ∀ j, a ≤ j → j < i → isD (s.data.toList.getD j 0) = true)
  case atStart => exact ⟨rfl, a, by omega, Nat.le_refl _, rfl, fun j h1 h2 => by omega⟩
  case round =>
    obtain ⟨rfl, i, hig, hai, rfl, hall⟩ := hrel
    have HA : Hid _ := hall
    clear hall
    cases gk with
    | zero =>
      have hkz : ¬ (i : Int) < (b : Int) := by omega
      obtain rfl : t = true := HT.out.2 (fun j h1 h2 => HA.out j h1 (by omega))
      go_wp2
      go_ret
      exact ⟨rfl, rfl⟩
    | succ g =>
      have hkz : (i : Int) < (b : Int) := by omega
      have e1 := idx_str s i (by omega) wr
      obtain ⟨X, hX⟩ : ∃ X, X = s.data.toList.getD i 0 := ⟨_, rfl⟩
      rw [at_, ← hX] at e1
      have hm := dec_any X wr
      have HX : Hid _ := hX
      clear hX
      by_cases hd : isD X = true
      · rw [hd] at hm
        have HD : Hid _ := hd
        clear hd
        go_wp2_with fail
        refine hm.mono ?_
        rintro e w1 ⟨rfl, rfl⟩
        go_wp2
        go_roundg g
        case measure => omega
        case rel =>
          refine ⟨rfl, i + 1, by omega, by omega, by first | rfl | simp, fun j h1 h2 => ?_⟩
          by_cases hji : j = i
          · subst hji; rw [← HX.out]; exact HD.out
          · exact HA.out j h1 (by omega)
      · have hd' : isD X = false := by simpa using hd
        rw [hd'] at hm
        obtain rfl : t = false := by
          cases t
          · rfl
          · have := HT.out.1 rfl i hai (by omega)
            rw [← HX.out] at this
            exact absurd this hd
        clear hd hd'
        go_wp2_with fail
        refine hm.mono ?_
        rintro e w1 ⟨rfl, rfl⟩
        go_wp2
        go_ret
        exact ⟨rfl, rfl⟩

def lab (p : List UInt8) : Bool := p != [] && decide (p.length ≤ 63) && p.head? != some 45 && p.getLast? != some 45 && p.all host

set_option maxHeartbeats 1600000 in
theorem label_any (s : ByteArray) (a b : Nat) (w : World) (hb : b ≤ s.size) (hs : s.size ≤ 1048576) (t : Bool)
    (ht : t = true ↔ a < b ∧ b - a ≤ 63 ∧ s.data.toList.getD a 0 ≠ 45 ∧ s.data.toList.getD (b - 1) 0 ≠ 45 ∧ ∀ i, a ≤ i → i < b → host (s.data.toList.getD i 0) = true) (hab : a ≤ b) :
    Calls Tryd.prog 23 #[.string s, .int .i64 a, .int .i64 b] w fun e w' => e = .returned (.bool t) ∧ w = w' := by
  have HT : Hid _ := ht
  clear ht
  by_cases h1 : a < b
  · by_cases h2 : b - a ≤ 63
    · have z1 : ¬ (b : Int) ≤ (a : Int) := by omega
      have z2 : ¬ ((b : Int) - (a : Int) > 63) := by omega
      have zi : ((b : Int) - 1) = ((b - 1 : Nat) : Int) := by omega
      have e1 := fun wx => idx_str s a (by omega) wx
      have e2 := fun wx => idx_str s (b - 1) (by omega) wx
      obtain ⟨X, hX⟩ : ∃ X, X = s.data.toList.getD a 0 := ⟨_, rfl⟩
      obtain ⟨Y, hY⟩ : ∃ Y, Y = s.data.toList.getD (b - 1) 0 := ⟨_, rfl⟩
      rw [← hX, ← hY] at HT
      simp only [at_] at e1 e2
      rw [← hX] at e1
      rw [← hY] at e2
      rw [← zi] at e2
      have HX : Hid _ := And.intro hX hY
      clear hX hY zi
      by_cases hx : X = 45
      · have zx : ((X.toNat : Int) == 45) = true := by rw [hx]; rfl
        obtain rfl : t = false := by
          cases t
          · rfl
          · exact absurd hx (HT.out.1 rfl).2.2.1
        clear hx
        go_enter Tryd.func23, Tryd.ntmps23
        go_wp2
        go_ret
        exact ⟨rfl, rfl⟩
      · have zx : ((X.toNat : Int) == 45) = false := by rw [show ((X.toNat : Int) == 45) = (X == 45) from u8_beq X 45 (by omega)]; simpa using hx
        by_cases hy : Y = 45
        · have zy : ((Y.toNat : Int) == 45) = true := by rw [hy]; rfl
          obtain rfl : t = false := by
            cases t
            · rfl
            · exact absurd hy (HT.out.1 rfl).2.2.2.1
          clear hx hy
          go_enter Tryd.func23, Tryd.ntmps23
          go_wp2
          go_ret
          exact ⟨rfl, rfl⟩
        · have zy : ((Y.toNat : Int) == 45) = false := by rw [show ((Y.toNat : Int) == 45) = (Y == 45) from u8_beq Y 45 (by omega)]; simpa using hy
          have HXY : Hid _ := And.intro hx hy
          clear hx hy
          go_enter Tryd.func23, Tryd.ntmps23
          go_wp2
          go_loopg [7] (b - a) (fun g s7 wx => wx = w ∧ ∃ i : Nat, i + g = b ∧ a ≤ i ∧ s7 = .int .i64 i ∧ ∀ j, a ≤ j → j < i → host (s.data.toList.getD j 0) = true)
          case atStart => exact ⟨rfl, a, by omega, Nat.le_refl _, rfl, fun j h1 h2 => by omega⟩
          case round =>
            clear e1 e2 zx zy z1 z2
            obtain ⟨rfl, i, hig, hai, rfl, hall⟩ := hrel
            have HA : Hid _ := hall
            clear hall
            cases gk with
            | zero =>
              have hkz : ¬ (i : Int) < (b : Int) := by omega
              obtain rfl : t = true := HT.out.2 ⟨h1, h2, HXY.out.1, HXY.out.2, fun j h1 h2 => HA.out j h1 (by omega)⟩
              go_wp2
              go_ret
              exact ⟨rfl, rfl⟩
            | succ g =>
              have hkz : (i : Int) < (b : Int) := by omega
              have e1 := idx_str s i (by omega) wr
              obtain ⟨Z, hZ⟩ : ∃ Z, Z = s.data.toList.getD i 0 := ⟨_, rfl⟩
              rw [at_, ← hZ] at e1
              have hm := host_any Z wr
              have HZ : Hid _ := hZ
              clear hZ
              by_cases hd : host Z = true
              · rw [hd] at hm
                have HD : Hid _ := hd
                clear hd
                go_wp2_with fail
                refine hm.mono ?_
                rintro e w1 ⟨rfl, rfl⟩
                go_wp2
                go_roundg g
                case measure => omega
                case rel =>
                  refine ⟨rfl, i + 1, by omega, by omega, by first | rfl | simp, fun j h1 h2 => ?_⟩
                  by_cases hji : j = i
                  · subst hji; rw [← HZ.out]; exact HD.out
                  · exact HA.out j h1 (by omega)
              · have hd' : host Z = false := by simpa using hd
                rw [hd'] at hm
                obtain rfl : t = false := by
                  cases t
                  · rfl
                  · have := (HT.out.1 rfl).2.2.2.2 i hai (by omega)
                    rw [← HZ.out] at this
                    exact absurd this hd
                clear hd hd'
                go_wp2_with fail
                refine hm.mono ?_
                rintro e w1 ⟨rfl, rfl⟩
                go_wp2
                go_ret
                exact ⟨rfl, rfl⟩
    · have z1 : ¬ (b : Int) ≤ (a : Int) := by omega
      have z2 : ((b : Int) - (a : Int) > 63) := by omega
      obtain rfl : t = false := by
        cases t
        · rfl
        · exact absurd (HT.out.1 rfl).2.1 h2
      go_enter Tryd.func23, Tryd.ntmps23
      go_wp2
      go_ret
      exact ⟨rfl, rfl⟩
  · have z1 : (b : Int) ≤ (a : Int) := by omega
    obtain rfl : t = false := by
      cases t
      · rfl
      · exact absurd (HT.out.1 rfl).1 h1
    go_enter Tryd.func23, Tryd.ntmps23
    go_wp2
    go_ret
    exact ⟨rfl, rfl⟩
end Go.Proofs.Qxb6603125aDoor
