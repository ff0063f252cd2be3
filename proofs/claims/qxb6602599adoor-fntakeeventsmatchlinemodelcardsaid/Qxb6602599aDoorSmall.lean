import Derived.Test.Qxb6602599aDoorRun
import Derived.Deep.OwnRows
namespace Go.Proofs.Qxb6602599aDoor
open Go.RowKit
open Go

set_option maxHeartbeats 800000 in
theorem clone_nil (c : Nat) (w : World) (n : Nat) : Calls Tryd.prog 6 #[.slice none n c] w fun e w' => e = .returned (.slice none 0 0) ∧ w = w' := by
  have hq := fun wx a n c => Lib.run_eql_slice_nil (P := Tryd.prog) wx 22 5 a n c 0 0 Tryd.underlying22
  go_enter Tryd.func6, Tryd.ntmps6
  go_wp2
  go_ret
  exact ⟨rfl, rfl⟩

set_option maxHeartbeats 800000 in
theorem clone_some (a : Addr) (n c : Nat) (xs : List Int) (w : World) (hx : xs.length = n) (hn : n ≤ 1048576) (hin : BIn w (some a) n xs) :
    Calls Tryd.prog 6 #[.slice (some a) n c] w fun e w' => e = .returned (.slice (some ⟨w.heap.size, 0, none⟩) n n) ∧ w' = w.alloc (.cells (ubs xs).toArray 5) := by
  have hq := fun wx a n c => Lib.run_eql_slice_nil (P := Tryd.prog) wx 22 5 a n c 0 0 Tryd.underlying22
  have hmk := run_make_row' (P := Tryd.prog) 22 5 (.int .u8 0) 1 Tryd.underlying22 Tryd.info5 rfl .i64 .i64 n (by omega) (by omega) w
  have HX : Hid (xs.length = n) := hx
  have HI : Hid (BIn w (some a) n xs) := hin
  clear hx hin
  go_enter Tryd.func6, Tryd.ntmps6
  go_wp2
  go_loopg [4] n (fun g s4 wx => ∃ (k : Nat) (C : Array Value), k + g = n ∧ s4 = .int .i64 k ∧ C.size = n ∧ (∀ j, j < k → C[j]? = some (.int .u8 (xs.getD j 0))) ∧ wx = w.alloc (.cells C 5))
  case atStart => exact ⟨0, madeCells #[.int .u8 0] n, by omega, rfl, by rw [size_madeCells], (fun j hj => absurd hj (Nat.not_lt_zero j)), rfl⟩
  case round =>
    obtain ⟨k, C, hkg, rfl, hC, hCk, rfl⟩ := hrel
    clear hmk
    cases gk with
    | zero =>
      have hkz : ¬ (k : Int) < (n : Int) := by omega
      have e : C = (ubs xs).toArray := by
        apply Array.ext_getElem?
        intro i
        by_cases hi : i < n
        · rw [hCk i (by omega)]
          have : i < xs.length := by rw [HX.out]; exact hi
          simp [ubs, List.getD, this]
        · rw [Array.getElem?_eq_none (by omega), Array.getElem?_eq_none (by simp [ubs, HX.out]; omega)]
      have HE : Hid _ := e
      clear hCk e
      go_wp2
      go_ret
      exact ⟨rfl, by rw [HE.out]⟩
    | succ g =>
      have hkn : k < n := by omega
      have hkz : (k : Int) < (n : Int) := by omega
      obtain ⟨pb, po, ea, hc⟩ := HI.out (by omega)
      cases ea
      have hck := hc k hkn
      have hlt : pb < w.heap.size := World.block_lt_of_cell? w _ hck
      have hck' : (w.alloc (.cells C 5)).cell? ⟨pb, po + k, none⟩ = some (.int .u8 (xs.getD k 0)) := by rw [World.cell?_alloc_past _ _ _ hlt]; exact hck
      obtain ⟨u, hu⟩ : ∃ u, C[k]? = some u := ⟨_, Array.getElem?_eq_getElem (by omega)⟩
      have hnew : (w.alloc (.cells C 5)).cell? ⟨w.heap.size, k, none⟩ = some u := by
        rw [cell_of_row _ _ _ _ _ _ (heap_alloc_new w (.cells C 5))]; exact hu
      obtain ⟨X, hX⟩ : ∃ X, X = xs.getD k 0 := ⟨_, rfl⟩
      rw [← hX] at hck'
      have HXX : Hid (X = xs.getD k 0) := hX
      have HCK : Hid _ := hCk
      clear hX hCk hck hc
      go_wp2
      go_roundg g
      case measure => omega
      case rel =>
        refine ⟨k + 1, C.setIfInBounds k (.int .u8 X), by omega, by first | rfl | simp, by simp [hC], fun j hj => ?_, by first | rfl | simp [World.setCell_alloc_at]⟩
        by_cases hjk : j = k
        · subst hjk
          rw [Array.getElem?_setIfInBounds_self_of_lt (by omega), HXX.out]
        · rw [Array.getElem?_setIfInBounds_ne (by omega)]
          exact HCK.out j (by omega)

set_option maxHeartbeats 800000 in
theorem same_zero (p1 p2 : Option Addr) (c1 c2 : Nat) (w : World) : Calls Tryd.prog 17 #[.slice p1 0 c1, .slice p2 0 c2] w fun e w' => e = .returned (.bool true) ∧ Fr (fun _ => False) w w' := by
  go_enter Tryd.func17, Tryd.ntmps17
  go_wp2
  refine wp_loop_rounds 1 ?_
  rw [rounds_succ]
  go_wp2
  go_ret
  exact ⟨rfl, Fr.refl _ _⟩

set_option maxHeartbeats 800000 in
theorem same_pos (b1 o1 b2 o2 n c1 c2 : Nat) (xs : List Int) (w : World) (hn : n ≤ 4194304) (h1 : ∀ i, i < n → w.cell? ⟨b1, o1 + i, none⟩ = some (.int .u8 (xs.getD i 0))) (h2 : ∀ i, i < n → w.cell? ⟨b2, o2 + i, none⟩ = some (.int .u8 (xs.getD i 0))) :
    Calls Tryd.prog 17 #[.slice (some ⟨b1, o1, none⟩) n c1, .slice (some ⟨b2, o2, none⟩) n c2] w fun e w' => e = .returned (.bool true) ∧ Fr (fun _ => False) w w' := by
  have H1 : Hid _ := h1
  have H2 : Hid _ := h2
  clear h1 h2
  go_enter Tryd.func17, Tryd.ntmps17
  go_wp2
  go_loopg [5] n (fun g s5 wx => ∃ k : Nat, k + g = n ∧ s5 = .int .i64 k ∧ ∃ q, wx = w.drewN q)
  case atStart => exact ⟨0, by omega, rfl, 0, rfl⟩
  case round =>
    obtain ⟨k, hkg, rfl, q, rfl⟩ := hrel
    cases gk with
    | zero =>
      have hkz : ¬ (k : Int) < (n : Int) := by omega
      go_wp2
      go_ret
      exact ⟨rfl, Fr.drewN w q⟩
    | succ g =>
      have hkn : k < n := by omega
      have hkz : (k : Int) < (n : Int) := by omega
      have e1 := H1.out k hkn
      have e2 := H2.out k hkn
      generalize xs.getD k 0 = X at e1 e2
      go_wp2
      go_quiet (fail)
      go_wp2
      go_roundg g
      case measure => omega
      case rel => exact ⟨k + 1, by omega, by first | rfl | simp, _, rfl⟩

set_option maxHeartbeats 800000 in
theorem sameInts_zero (p1 p2 : Option Addr) (c1 c2 : Nat) (w : World) : Calls Tryd.prog 9 #[.slice p1 0 c1, .slice p2 0 c2] w fun e w' => e = .returned (.bool true) ∧ Fr (fun _ => False) w w' := by
  go_enter Tryd.func9, Tryd.ntmps9
  go_wp2
  refine wp_loop_rounds 1 ?_
  rw [rounds_succ]
  go_wp2
  go_ret
  exact ⟨rfl, Fr.refl _ _⟩

set_option maxHeartbeats 800000 in
theorem sameInts_pos (b1 o1 b2 o2 n c1 c2 : Nat) (xs : List Int) (w : World) (hn : n ≤ 4194304) (h1 : ∀ i, i < n → w.cell? ⟨b1, o1 + i, none⟩ = some (.int .i64 (xs.getD i 0))) (h2 : ∀ i, i < n → w.cell? ⟨b2, o2 + i, none⟩ = some (.int .i64 (xs.getD i 0))) :
    Calls Tryd.prog 9 #[.slice (some ⟨b1, o1, none⟩) n c1, .slice (some ⟨b2, o2, none⟩) n c2] w fun e w' => e = .returned (.bool true) ∧ Fr (fun _ => False) w w' := by
  have H1 : Hid _ := h1
  have H2 : Hid _ := h2
  clear h1 h2
  go_enter Tryd.func9, Tryd.ntmps9
  go_wp2
  go_loopg [5] n (fun g s5 wx => ∃ k : Nat, k + g = n ∧ s5 = .int .i64 k ∧ ∃ q, wx = w.drewN q)
  case atStart => exact ⟨0, by omega, rfl, 0, rfl⟩
  case round =>
    obtain ⟨k, hkg, rfl, q, rfl⟩ := hrel
    cases gk with
    | zero =>
      have hkz : ¬ (k : Int) < (n : Int) := by omega
      go_wp2
      go_ret
      exact ⟨rfl, Fr.drewN w q⟩
    | succ g =>
      have hkn : k < n := by omega
      have hkz : (k : Int) < (n : Int) := by omega
      have e1 := H1.out k hkn
      have e2 := H2.out k hkn
      generalize xs.getD k 0 = X at e1 e2
      go_wp2
      go_quiet (fail)
      go_wp2
      go_roundg g
      case measure => omega
      case rel => exact ⟨k + 1, by omega, by first | rfl | simp, _, rfl⟩

def stateV (S : M.St) (z : Int) (vl vn vd : Value) : Value :=
  .tuple #[.int .u8 S.at_, .bool S.pending, .int .i64 S.bom, .bool S.begun, .string ⟨S.fname.toArray⟩, .string ⟨S.fdata.toArray⟩, .bool S.disp, .bool S.tooLong, vl, vn, vd, .bool S.hasData, .int .i64 z]

set_option maxHeartbeats 800000 in
set_option maxRecDepth 100000 in
theorem state_any {w : World} {b : Nat} {S : M.St} {z : Int} {vl vn vd : Value} (h : Str w b S z vl vn vd) :
    Calls Tryd.prog 10 #[.pointer (some ⟨b, 0, none⟩)] w fun e w' => e = .returned (stateV S z vl vn vd) ∧ Fr (fun _ => False) w w' := by
  obtain ⟨c0, c1, c2, c3, c4, c5, c6, c7, c8, c9, c10, c11, c12⟩ := h.cells
  obtain ⟨lo, lc, rfl, _⟩ := own_form h.line
  obtain ⟨no, nc, rfl, _⟩ := own_form h.name
  obtain ⟨do_, dc, rfl, _⟩ := own_form h.data
  clear h
  go_enter Tryd.func10, Tryd.ntmps10
  go_wp2
  go_quiet (fail)
  go_wp2
  exact bodyPost_ret (v := stateV S z (.slice lo S.line.length lc) (.slice no S.name.length nc) (.slice do_ S.data.length dc)) (by simp [results, Tryd.results10, go_sem, stateV]) rfl ⟨rfl, Fr.drewN _ _⟩

theorem own_cells {w : World} {e : TypeId} {v : Value} {n : Nat} {k : IntKind} {xs : List Int} (h : w.ownsRow 0 e 1 v n (xs.map (Value.int k))) :
    (v = .slice none 0 0 ∧ n = 0) ∨ ∃ g cap, v = .slice (some ⟨g, 0, none⟩) n cap ∧ ∀ i, i < n → w.cell? ⟨g, 0 + i, none⟩ = some (.int k (xs.getD i 0)) := by
  have hl : xs.length = n := by have := h.1; simpa using this
  rcases h.2 with h0 | ⟨g, cap, cur, rfl, _, hh, _, _, _, htake⟩
  · exact .inl h0
  · refine .inr ⟨g, cap, rfl, fun i hi => ?_⟩
    have h1 : (xs.map (Value.int k))[i]? = some (.int k (xs.getD i 0)) := by
      have : i < xs.length := by omega
      simp [List.getD, this]
    rw [← htake, List.getElem?_take] at h1
    split at h1
    · rw [cell_blk hh, Nat.zero_add]; simpa using h1
    · cases h1

theorem same_own {w : World} {v1 v2 : Value} {n : Nat} {xs : List Int} (h1 : w.ownsRow 0 5 1 v1 n (ubs xs)) (h2 : w.ownsRow 0 5 1 v2 n (ubs xs)) (hn : n ≤ 4194304) :
    Calls Tryd.prog 17 #[v1, v2] w fun e w' => e = .returned (.bool true) ∧ Fr (fun _ => False) w w' := by
  rcases own_cells h1 with ⟨rfl, rfl⟩ | ⟨g1, k1, rfl, c1⟩
  · obtain ⟨ao, cap, rfl, _⟩ := own_form h2
    exact same_zero none ao 0 cap w
  · rcases own_cells h2 with ⟨rfl, rfl⟩ | ⟨g2, k2, rfl, c2⟩
    · exact same_zero _ _ _ _ w
    · exact same_pos g1 0 g2 0 n k1 k2 xs w hn c1 c2

theorem sameInts_own {w : World} {v1 v2 : Value} {n : Nat} {xs : List Int} (h1 : w.ownsRow 0 3 1 v1 n (i64s xs)) (h2 : w.ownsRow 0 3 1 v2 n (i64s xs)) (hn : n ≤ 4194304) :
    Calls Tryd.prog 9 #[v1, v2] w fun e w' => e = .returned (.bool true) ∧ Fr (fun _ => False) w w' := by
  rcases own_cells h1 with ⟨rfl, rfl⟩ | ⟨g1, k1, rfl, c1⟩
  · obtain ⟨ao, cap, rfl, _⟩ := own_form h2
    exact sameInts_zero none ao 0 cap w
  · rcases own_cells h2 with ⟨rfl, rfl⟩ | ⟨g2, k2, rfl, c2⟩
    · exact sameInts_zero _ _ _ _ w
    · exact sameInts_pos g1 0 g2 0 n k1 k2 xs w hn c1 c2

set_option maxHeartbeats 1600000 in
set_option maxRecDepth 1000000 in
theorem sameState_any {w : World} {b1 b2 : Nat} {S : M.St} {z1 z2 : Int} {l1 n1 d1 l2 n2 d2 : Value} (h1 : Str w b1 S z1 l1 n1 d1) (h2 : Str w b2 S z2 l2 n2 d2) (hl : S.line.length ≤ 4194304) (hn : S.name.length ≤ 4194304) (hd : S.data.length ≤ 4194304) :
    Calls Tryd.prog 13 #[.pointer (some ⟨b1, 0, none⟩), .pointer (some ⟨b2, 0, none⟩)] w fun e w' => e = .returned (.bool true) ∧ Fr (fun _ => False) w w' := by
  cases ht : S.tooLong
  · obtain rfl : z1 = z2 := (h1.size ht).trans (h2.size ht).symm
    have HH : Hid _ := And.intro h1 h2
    have hs1 := state_any h1
    unfold stateV at hs1
    rw [ht] at hs1
    clear h1 h2
    go_enter Tryd.func13, Tryd.ntmps13
    go_wp2_with fail
    refine hs1.mono ?_
    rintro e w1 ⟨rfl, hf1⟩
    have hs2 := state_any (HH.out.2.kept hf1 (fun _ _ e => e))
    unfold stateV at hs2
    rw [ht] at hs2
    have HF1 : Hid (Fr (fun _ => False) w w1) := hf1
    clear hs1 hf1
    go_wp2_with fail
    refine hs2.mono ?_
    rintro e w2 ⟨rfl, hf2⟩
    have HF2 : Hid (Fr (fun _ => False) w w2) := HF1.out.trans hf2 (fun _ e => .inl e)
    have hc1 := same_own (HF2.out.owns HH.out.1.line (fun _ _ e => e)) (HF2.out.owns HH.out.2.line (fun _ _ e => e)) hl
    clear hs2 hf2 HF1
    go_wp2_with fail
    refine hc1.mono ?_
    rintro e w3 ⟨rfl, hf3⟩
    have HF3 : Hid (Fr (fun _ => False) w w3) := HF2.out.trans hf3 (fun _ e => .inl e)
    have hc2 := same_own (HF3.out.owns HH.out.1.name (fun _ _ e => e)) (HF3.out.owns HH.out.2.name (fun _ _ e => e)) hn
    clear hc1 hf3 HF2
    go_wp2_with fail
    refine hc2.mono ?_
    rintro e w4 ⟨rfl, hf4⟩
    have HF4 : Hid (Fr (fun _ => False) w w4) := HF3.out.trans hf4 (fun _ e => .inl e)
    have hc3 := same_own (HF4.out.owns HH.out.1.data (fun _ _ e => e)) (HF4.out.owns HH.out.2.data (fun _ _ e => e)) hd
    clear hc2 hf4 HF3
    go_wp2_with fail
    refine hc3.mono ?_
    rintro e w5 ⟨rfl, hf5⟩
    have HF5 : Hid (Fr (fun _ => False) w w5) := HF4.out.trans hf5 (fun _ e => .inl e)
    clear hc3 hf5 HF4
    go_wp2
    go_ret
    exact ⟨rfl, HF5.out⟩
  · have HH : Hid _ := And.intro h1 h2
    have hs1 := state_any h1
    unfold stateV at hs1
    rw [ht] at hs1
    clear h1 h2
    go_enter Tryd.func13, Tryd.ntmps13
    go_wp2_with fail
    refine hs1.mono ?_
    rintro e w1 ⟨rfl, hf1⟩
    have hs2 := state_any (HH.out.2.kept hf1 (fun _ _ e => e))
    unfold stateV at hs2
    rw [ht] at hs2
    have HF1 : Hid (Fr (fun _ => False) w w1) := hf1
    clear hs1 hf1
    go_wp2_with fail
    refine hs2.mono ?_
    rintro e w2 ⟨rfl, hf2⟩
    have HF2 : Hid (Fr (fun _ => False) w w2) := HF1.out.trans hf2 (fun _ e => .inl e)
    have hc1 := same_own (HF2.out.owns HH.out.1.line (fun _ _ e => e)) (HF2.out.owns HH.out.2.line (fun _ _ e => e)) hl
    clear hs2 hf2 HF1
    go_wp2_with fail
    refine hc1.mono ?_
    rintro e w3 ⟨rfl, hf3⟩
    have HF3 : Hid (Fr (fun _ => False) w w3) := HF2.out.trans hf3 (fun _ e => .inl e)
    have hc2 := same_own (HF3.out.owns HH.out.1.name (fun _ _ e => e)) (HF3.out.owns HH.out.2.name (fun _ _ e => e)) hn
    clear hc1 hf3 HF2
    go_wp2_with fail
    refine hc2.mono ?_
    rintro e w4 ⟨rfl, hf4⟩
    have HF4 : Hid (Fr (fun _ => False) w w4) := HF3.out.trans hf4 (fun _ e => .inl e)
    have hc3 := same_own (HF4.out.owns HH.out.1.data (fun _ _ e => e)) (HF4.out.owns HH.out.2.data (fun _ _ e => e)) hd
    clear hc2 hf4 HF3
    go_wp2_with fail
    refine hc3.mono ?_
    rintro e w5 ⟨rfl, hf5⟩
    have HF5 : Hid (Fr (fun _ => False) w w5) := HF4.out.trans hf5 (fun _ e => .inl e)
    clear hc3 hf5 HF4
    go_wp2
    go_ret
    exact ⟨rfl, HF5.out⟩
end Go.Proofs.Qxb6602599aDoor
