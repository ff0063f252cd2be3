import Derived.Test.Qxb6602599aDoorMark
namespace Go.Proofs.Qxb6602599aDoor
open Go.RowKit
open Go

def nums (s : ByteArray) : List Int := s.data.toList.map fun b => (b.toNat : Int)

theorem nums_len (s : ByteArray) : (nums s).length = s.size := by simp [nums]

theorem idx_str (s : ByteArray) (i : Nat) (h : i < s.size) (w : World) : (Instr.index 9 (.string s) (.int .i64 i)).run Tryd.prog w = .ok (.int .u8 ((nums s).getD i 0)) w := by
  have hh : (0 : Int) ≤ (i : Int) ∧ (i : Int) < (s.size : Int) := by omega
  rw [run_index_string w 9 s .i64 i Tryd.underlying9, dif_pos hh]
  congr 2
  have h2 : i < s.data.size := h
  have e3 : s.data[i]? = some s.data[i] := Array.getElem?_eq_getElem h2
  simp only [nums, List.getD, List.getElem?_map, Array.getElem?_toList, e3]
  rfl

set_option maxHeartbeats 800000 in
theorem is_no (p : Option Addr) (n c : Nat) (s : ByteArray) (w : World) (h : n ≠ s.size) : Calls Tryd.prog 11 #[.slice p n c, .string s] w fun e w' => e = .returned (.bool false) ∧ Fr (fun _ => False) w w' := by
  have hne : ((n : Int) == (s.size : Int)) = false := by simp; omega
  go_enter Tryd.func11, Tryd.ntmps11
  go_wp2
  go_ret
  exact ⟨rfl, Fr.refl _ _⟩

set_option maxHeartbeats 800000 in
theorem is_zero (p : Option Addr) (c : Nat) (s : ByteArray) (w : World) (h : s.size = 0) : Calls Tryd.prog 11 #[.slice p 0 c, .string s] w fun e w' => e = .returned (.bool true) ∧ Fr (fun _ => False) w w' := by
  go_enter Tryd.func11, Tryd.ntmps11
  go_wp2
  refine wp_loop_rounds 1 ?_
  rw [rounds_succ]
  go_wp2
  go_ret
  exact ⟨rfl, Fr.refl _ _⟩

set_option maxHeartbeats 800000 in
theorem is_pos (pb po n c : Nat) (ys : List Int) (s : ByteArray) (w : World) (hs : s.size = n) (hn : n ≤ 4194304) (hl : ys.length = n) (hc : ∀ i, i < n → w.cell? ⟨pb, po + i, none⟩ = some (.int .u8 (ys.getD i 0))) (t : Bool) (ht : t = true ↔ ys = nums s) :
    Calls Tryd.prog 11 #[.slice (some ⟨pb, po, none⟩) n c, .string s] w fun e w' => e = .returned (.bool t) ∧ Fr (fun _ => False) w w' := by
  have HX : Hid _ := And.intro hs (And.intro hc hl)
  have HT : Hid _ := ht
  have hsz : (s.size : Int) = (n : Int) := by omega
  clear hs hc hl ht
  go_enter Tryd.func11, Tryd.ntmps11
  go_wp2
  go_loopg [5] n (fun g s5 wx => ∃ i : Nat, i + g = n ∧ s5 = .int .i64 i ∧ (∀ j, j < i → ys.getD j 0 = (nums s).getD j 0) ∧ ∃ q, wx = w.drewN q)
  case atStart => exact ⟨0, by omega, rfl, (fun j hj => absurd hj (Nat.not_lt_zero j)), 0, rfl⟩
  case round =>
    obtain ⟨i, hig, rfl, hall, q, rfl⟩ := hrel
    have HA : Hid _ := hall
    clear hall
    cases gk with
    | zero =>
      have hkz : ¬ (i : Int) < (n : Int) := by omega
      have hall : ys = nums s := by
        apply List.ext_getElem?
        intro j
        have l1 := HX.out.2.2
        have l2 : (nums s).length = n := by rw [nums_len, HX.out.1]
        by_cases hj : j < n
        · have := HA.out j (by omega)
          rw [List.getElem?_eq_getElem (by omega), List.getElem?_eq_getElem (by omega)]
          simpa [List.getD, l1, l2, hj] using this
        · rw [List.getElem?_eq_none (by omega), List.getElem?_eq_none (by omega)]
      obtain rfl : t = true := HT.out.2 hall
      clear hall
      go_wp2
      go_ret
      exact ⟨rfl, Fr.drewN w q⟩
    | succ g =>
      have hkz : (i : Int) < (n : Int) := by omega
      have e1 := HX.out.2.1 i (by omega)
      have e2 := idx_str s i (by rw [HX.out.1]; omega)
      obtain ⟨X, hX⟩ : ∃ X, X = ys.getD i 0 := ⟨_, rfl⟩
      obtain ⟨Y, hY⟩ : ∃ Y, Y = (nums s).getD i 0 := ⟨_, rfl⟩
      rw [← hX] at e1
      rw [← hY] at e2
      have HXY : Hid (X = ys.getD i 0 ∧ Y = (nums s).getD i 0) := ⟨hX, hY⟩
      clear hX hY
      go_wp2
      go_quiet (fail)
      by_cases hXY : X = Y
      · have HE : Hid (X = Y) := hXY
        subst hXY
        clear e1 e2
        go_wp2
        go_roundg g
        case measure => omega
        case rel =>
          refine ⟨i + 1, by omega, by first | rfl | simp, fun j hj => ?_, _, rfl⟩
          by_cases hji : j = i
          · subst hji; rw [← HXY.out.1, ← HXY.out.2]
          · exact HA.out j (by omega)
      · have hne : (X == Y) = false := by simpa using hXY
        clear e1 e2
        obtain rfl : t = false := by
          cases t
          · rfl
          · exact absurd (HXY.out.1.trans ((congrArg (fun l => List.getD l i 0) (HT.out.1 rfl)).trans HXY.out.2.symm)) hXY
        go_wp2
        go_ret
        exact ⟨rfl, (Fr.drewN w q).trans (Fr.drewN _ _) (fun _ e => .inl e)⟩

theorem is_any (p : Option Addr) (n c : Nat) (ys : List Int) (s : ByteArray) (w : World) (hn : n ≤ 4194304) (hl : ys.length = n) (hin : BIn w p n ys) (t : Bool) (ht : t = true ↔ ys = nums s) :
    Calls Tryd.prog 11 #[.slice p n c, .string s] w fun e w' => e = .returned (.bool t) ∧ Fr (fun _ => False) w w' := by
  by_cases hs : n = s.size
  · rcases Nat.eq_zero_or_pos n with rfl | h0
    · have h1 : ys = [] := List.eq_nil_of_length_eq_zero hl
      have h2 : nums s = [] := List.eq_nil_of_length_eq_zero (by rw [nums_len, ← hs])
      obtain rfl : t = true := ht.2 (by rw [h1, h2])
      exact is_zero p c s w hs.symm
    · obtain ⟨pb, po, rfl, hc⟩ := hin h0
      exact is_pos pb po n c ys s w hs.symm hn hl hc t ht
  · obtain rfl : t = false := by
      cases t
      · rfl
      · exact absurd (by rw [← hl, ht.1 rfl, nums_len]) hs
    exact is_no p n c s w hs
end Go.Proofs.Qxb6602599aDoor
