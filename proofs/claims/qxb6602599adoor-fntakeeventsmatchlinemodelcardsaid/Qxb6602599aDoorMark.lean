import Derived.Test.Qxb6602599aDoorTwo
namespace Go.Proofs.Qxb6602599aDoor
open Go.RowKit
open Go

set_option maxHeartbeats 800000 in
theorem bytes1_ok (p1 : Option Addr) (n1 c1 : Nat) (w : World) (h1 : n1 ≤ 1048576) : Calls Tryd.prog 5 #[.slice p1 n1 c1] w fun e w' => e = .returned (.bool true) ∧ w = w' := by
  have z1 : ¬ ((n1 : Int) > 1048576) := by omega
  go_enter Tryd.func5, Tryd.ntmps5
  go_wp2
  go_ret
  exact ⟨rfl, rfl⟩

set_option maxHeartbeats 800000 in
theorem bytes1_no (p1 : Option Addr) (n1 c1 : Nat) (w : World) (h : 1048576 < n1) : Calls Tryd.prog 5 #[.slice p1 n1 c1] w fun e w' => e = .returned (.bool false) ∧ w = w' := by
  have z1 : ((n1 : Int) > 1048576) := by omega
  go_enter Tryd.func5, Tryd.ntmps5
  go_wp2
  go_ret
  exact ⟨rfl, rfl⟩

set_option maxHeartbeats 800000 in
theorem mark_any (i : Nat) (w : World) : Calls Tryd.prog 23 #[.int .i64 i] w fun e w' => e = .returned (.int .u8 (M.bomAt i)) ∧ w' = w := by
  by_cases h0 : i = 0
  · subst h0
    go_enter Tryd.func23, Tryd.ntmps23
    go_wp2
    go_ret
    exact ⟨rfl, rfl⟩
  · by_cases h1 : i = 1
    · subst h1
      go_enter Tryd.func23, Tryd.ntmps23
      go_wp2
      go_ret
      exact ⟨rfl, rfl⟩
    · have e : M.bomAt i = 191 := by unfold M.bomAt; rw [if_neg h0, if_neg h1]
      rw [e]
      have z0 : ((i : Int) == 0) = false := by simp; omega
      have z1 : ((i : Int) == 1) = false := by simp; omega
      clear e h0 h1
      go_enter Tryd.func23, Tryd.ntmps23
      go_wp2
      go_ret
      exact ⟨rfl, rfl⟩

set_option maxHeartbeats 800000 in
theorem cont_no (p : Option Addr) (n c : Nat) (k : Nat) (w : World) (h : n < k ∨ 3 < k) (hk : k ≤ 1048576) : Calls Tryd.prog 15 #[.slice p n c, .int .i64 0, .int .i64 k] w fun e w' => e = .returned (.bool false) ∧ w = w' := by
  have z0 : ¬ ((k : Int) < 0) := by omega
  by_cases h1 : n < k
  · have z1 : ((k : Int) > (n : Int)) := by omega
    clear h
    go_enter Tryd.func15, Tryd.ntmps15
    go_wp2
    go_ret
    exact ⟨rfl, rfl⟩
  · have z1 : ¬ ((k : Int) > (n : Int)) := by omega
    have z2 : ((k : Int) > 3) := by omega
    clear h
    go_enter Tryd.func15, Tryd.ntmps15
    go_wp2
    go_ret
    exact ⟨rfl, rfl⟩

set_option maxHeartbeats 800000 in
theorem cont_zero (p : Option Addr) (c : Nat) (w : World) : Calls Tryd.prog 15 #[.slice p 0 c, .int .i64 0, .int .i64 0] w fun e w' => e = .returned (.bool true) ∧ w = w' := by
  go_enter Tryd.func15, Tryd.ntmps15
  go_wp2
  refine wp_loop_rounds 1 ?_
  rw [rounds_succ]
  go_wp2
  go_ret
  exact ⟨rfl, rfl⟩

set_option maxHeartbeats 800000 in
theorem cont_any (pb po n c : Nat) (k : Nat) (xs : List Int) (w : World) (hk : k ≤ n) (h3 : k ≤ 3) (hc : ∀ i, i < n → w.cell? ⟨pb, po + i, none⟩ = some (.int .u8 (xs.getD i 0))) (t : Bool) (ht : t = true ↔ ∀ j, j < k → xs.getD j 0 = M.bomAt j) :
    Calls Tryd.prog 15 #[.slice (some ⟨pb, po, none⟩) n c, .int .i64 0, .int .i64 k] w fun e w' => e = .returned (.bool t) ∧ Fr (fun _ => False) w w' := by
  have z0 : ¬ ((k : Int) < 0) := by omega
  have z1 : ¬ ((k : Int) > (n : Int)) := by omega
  have z2 : ¬ ((k : Int) > 3) := by omega
  have HC : Hid _ := hc
  have HT : Hid _ := ht
  clear hc ht
  go_enter Tryd.func15, Tryd.ntmps15
  go_wp2
  go_loopg [7] k (fun g s7 wx => ∃ i : Nat, i + g = k ∧ s7 = .int .i64 i ∧ (∀ j, j < i → xs.getD j 0 = M.bomAt j) ∧ Fr (fun _ => False) w wx)
  case atStart => exact ⟨0, by omega, rfl, (fun j hj => absurd hj (Nat.not_lt_zero j)), Fr.refl _ _⟩
  case round =>
    obtain ⟨i, hig, rfl, hall, hfr⟩ := hrel
    have HF : Hid (Fr (fun _ => False) w wr) := hfr
    clear hfr
    have HA : Hid _ := hall
    clear hall
    cases gk with
    | zero =>
      have hkz : ¬ (i : Int) < (k : Int) := by omega
      obtain rfl : t = true := HT.out.2 (fun j hj => HA.out j (by omega))
      go_wp2
      go_ret
      exact ⟨rfl, HF.out⟩
    | succ g =>
      have hkz : (i : Int) < (k : Int) := by omega
      have hin : (i : Int) < (n : Int) := by omega
      have e1 : wr.cell? ⟨pb, po + i, none⟩ = some (.int .u8 (xs.getD i 0)) := by rw [HF.out.cell (p := ⟨pb, po + i, none⟩) (World.block_lt_of_cell? w _ (HC.out i (by omega))) (fun e => e)]; exact HC.out i (by omega)
      obtain ⟨X, hX⟩ : ∃ X, X = xs.getD i 0 := ⟨_, rfl⟩
      rw [← hX] at e1
      have hwr : IntKind.i64.wrap (i : Int) = (i : Int) := by rw [IntKind.wrap_i64]; omega
      have hm : ∀ wx, Calls Tryd.prog 23 #[.int .i64 (IntKind.i64.wrap (i : Int))] wx fun e w' => e = .returned (.int .u8 (M.bomAt i)) ∧ w' = wx := fun wx => by rw [hwr]; exact mark_any i wx
      clear hwr
      obtain ⟨Y, hY⟩ : ∃ Y, Y = M.bomAt i := ⟨_, rfl⟩
      rw [← hY] at hm
      have HX : Hid (X = xs.getD i 0 ∧ Y = M.bomAt i) := ⟨hX, hY⟩
      clear hX hY
      go_wp2
      go_quiet (first | (go_at_call 23; exact Calls.quiet_of_same (hm _)) | fail)
      by_cases hXY : X = Y
      · have HXY : Hid (X = Y) := hXY
        subst hXY
        clear hm
        go_wp2
        go_roundg g
        case measure => omega
        case rel =>
          refine ⟨i + 1, by omega, by first | rfl | simp, fun j hj => ?_, HF.out.trans (Fr.drewN _ _) (fun _ e => .inl e)⟩
          by_cases hji : j = i
          · subst hji; rw [← HX.out.1, ← HX.out.2]
          · exact HA.out j (by omega)
      · have hne : (X == Y) = false := by simpa using hXY
        clear hm
        obtain rfl : t = false := by
          cases t
          · rfl
          · exact absurd (HX.out.1.trans ((HT.out.1 rfl i (by omega)).trans HX.out.2.symm)) hXY
        go_wp2
        go_ret
        exact ⟨rfl, HF.out.trans (Fr.drewN _ _) (fun _ e => .inl e)⟩
end Go.Proofs.Qxb6602599aDoor
