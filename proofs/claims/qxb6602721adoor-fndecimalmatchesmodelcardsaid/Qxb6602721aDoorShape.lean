import Derived.Test.Qxb6602721aDoorMem
namespace Go.Proofs.Qxb6602721aDoor
open Go.RowKit
open Go

def neg (f : List UInt8) : Bool := decide (f.head? = some 45)
def st (f : List UInt8) : Nat := if neg f = true then 1 else 0
def run (l : List UInt8) : Nat := (l.takeWhile isD).length
def il (f : List UInt8) : Nat := run (f.drop (st f))

theorem run_le (l : List UInt8) : run l ≤ l.length := (List.takeWhile_sublist _).length_le
theorem run_before : ∀ (l : List UInt8) (j : Nat), j < run l → isD (l.getD j 0) = true
  | [], j, h => by simp [run] at h
  | c :: r, j, h => by
    unfold run at h
    rw [List.takeWhile_cons] at h
    split at h
    · rename_i hc
      cases j with
      | zero => simpa using hc
      | succ i => simpa using run_before r i (by simpa [run] using h)
    · simp at h
theorem run_at : ∀ l : List UInt8, run l < l.length → isD (l.getD (run l) 0) = false
  | [], h => by simp at h
  | c :: r, h => by
    unfold run at h ⊢
    rw [List.takeWhile_cons] at h ⊢
    split
    · rename_i hc
      rw [if_pos hc] at h
      have := run_at r (by simpa [run] using h)
      unfold run at this
      simpa using this
    · rename_i hc
      simpa using hc
theorem run_all : ∀ l : List UInt8, run l = l.length ↔ l.all isD = true
  | [] => by simp [run]
  | c :: r => by
    have := run_all r
    unfold run at this ⊢
    rw [List.takeWhile_cons]
    split
    · rename_i hc
      simp only [List.length_cons, List.all_cons, hc, Bool.true_and]
      rw [← this]
      omega
    · rename_i hc
      simp [hc]
theorem getD_drop8 (xs : List UInt8) (i j : Nat) : (xs.drop i).getD j 0 = xs.getD (i + j) 0 := by simp [List.getD]

def shape (f : List UInt8) : Bool × Bool × Nat × Nat × Bool × Nat :=
  if il f = 0 then (false, neg f, st f, 0, false, 0)
  else if st f + il f = f.length then (true, neg f, st f, il f, false, 0)
  else if f.getD (st f + il f) 0 ≠ 46 then (false, neg f, st f, il f, false, 0)
  else if (f.drop (st f + il f + 1)).all isD = true then (true, neg f, st f, il f, true, f.length - (st f + il f + 1))
  else (false, neg f, st f, il f, true, 0)

def shapeT (q : Bool × Bool × Nat × Nat × Bool × Nat) : Value := .tuple #[.bool q.1, .bool q.2.1, .int .i64 q.2.2.1, .int .i64 q.2.2.2.1, .bool q.2.2.2.2.1, .int .i64 q.2.2.2.2.2]

def ShapeP (w : World) (f : List UInt8) (e : Ending) (w' : World) : Prop := e = .returned (shapeT (shape f)) ∧ w = w'

set_option maxHeartbeats 3200000 in
set_option maxRecDepth 1000000 in
theorem shape_any (s : ByteArray) (w : World) (hs : s.size ≤ 1048576) : Calls Tryd.prog 10 #[.string s] w fun e w' => ShapeP w s.data.toList e w' := by
  obtain ⟨f, hf⟩ : ∃ f, f = s.data.toList := ⟨_, rfl⟩
  have hfl : f.length = s.size := by rw [hf]; exact (size_list s).symm
  rw [← hf]
  have hidx : ∀ i wx, i < s.size → (Instr.index 9 (.string s) (.int .i64 i)).run Tryd.prog wx = .ok (.int .u8 ((f.getD i 0).toNat : Int)) wx := fun i wx h => by rw [hf]; exact idx_str s i h wx
  obtain ⟨NG, hNG⟩ : ∃ NG, NG = neg f := ⟨_, rfl⟩
  obtain ⟨ST, hST⟩ : ∃ ST, ST = st f := ⟨_, rfl⟩
  obtain ⟨IL, hIL⟩ : ∃ IL, IL = il f := ⟨_, rfl⟩
  have hST1 : ST ≤ 1 := by rw [hST]; unfold st; split <;> omega
  have hSTn : ST ≤ s.size := by
    rw [hST]; unfold st
    split
    · rename_i h
      rw [← hfl]
      cases f with
      | nil => simp [neg] at h
      | cons c r => simp
    · omega
  have hILn : ST + IL ≤ s.size := by
    have := run_le (f.drop ST)
    rw [List.length_drop, hfl] at this
    rw [hIL, il, ← hST]; omega
  have HX : Hid _ := And.intro hfl (And.intro hidx (And.intro hNG (And.intro hST hIL)))
  obtain ⟨n, hn⟩ : ∃ n, n = s.size := ⟨_, rfl⟩
  rw [← hn] at hs hSTn hILn
  have hnz : (s.size : Int) = (n : Int) := by omega
  have HN : Hid (n = s.size) := hn
  clear hf hfl hidx hNG hST hIL hn
  go_enter Tryd.func10, Tryd.ntmps10
  go_upto_region 2 with fail
  go_cut [17] from 10 to 17 (fun s17 wx => s17 = .bool NG ∧ w = wx)
  case first =>
    by_cases h0 : 0 < n
    · have h0z : (n : Int) > 0 := by omega
      have e1 := HX.out.2.1 0 w (by rw [← HN.out]; exact h0)
      rw [show ((0 : Nat) : Int) = 0 from rfl] at e1
      obtain ⟨b, hb⟩ : ∃ b, b = f.getD 0 0 := ⟨_, rfl⟩
      rw [← hb] at e1
      have hNG2 : NG = decide (b.toNat = 45) := by
        rw [HX.out.2.2.1, neg, hb]
        have hl := HX.out.1
        cases hc : f with
        | nil => rw [hc] at hl; simp at hl; have := HN.out; omega
        | cons c r =>
          simp only [List.head?_cons, List.getD_cons_zero, Option.some.injEq]
          congr 1
          exact propext ⟨fun e => by rw [e]; rfl, fun e => UInt8.toNat_inj.1 e⟩
      by_cases h45 : b.toNat = 45
      · have hz : ((b.toNat : Int) == 45) = true := by simp; omega
        obtain rfl : NG = true := by rw [hNG2]; simp [h45]
        clear hNG2 hb h45
        go_wp2
        go_meet
        case rel => exact ⟨rfl, rfl⟩
      · have hz : ((b.toNat : Int) == 45) = false := by simp; omega
        obtain rfl : NG = false := by rw [hNG2]; simp [h45]
        clear hNG2 hb h45
        go_wp2
        go_meet
        case rel => exact ⟨rfl, rfl⟩
    · have h0z : ¬ (n : Int) > 0 := by omega
      obtain rfl : NG = false := by
        rw [HX.out.2.2.1, neg]
        have hl := HX.out.1
        cases hc : f with
        | nil => simp
        | cons c r => rw [hc] at hl; simp at hl; have := HN.out; omega
      go_wp2
      go_meet
      case rel => exact ⟨rfl, rfl⟩
  case rest =>
    obtain ⟨rfl, hwc⟩ := hcut
    subst hwc
    go_upto_if 17 with fail
    go_cut [3, 8] from 10 to 17 (fun s3 s8 wx => s3 = .bool NG ∧ s8 = .int .i64 ST ∧ w = wx)
    case first =>
      cases NG
      · obtain rfl : ST = 0 := by rw [HX.out.2.2.2.1, st, ← HX.out.2.2.1]; rfl
        go_wp2
        go_meet
        case rel => exact ⟨rfl, rfl, rfl⟩
      · obtain rfl : ST = 1 := by rw [HX.out.2.2.2.1, st, ← HX.out.2.2.1]; rfl
        go_wp2
        go_meet
        case rel => exact ⟨rfl, rfl, rfl⟩
    case rest =>
      obtain ⟨rfl, rfl, hwc⟩ := hcut
      subst hwc
      go_upto_block 0 with fail
      go_cut [8] from 19 to 30 (fun s8 wx => s8 = .int .i64 ((ST + IL : Nat) : Int) ∧ w = wx)
      case first =>
        go_wp2_with fail
        go_loopg [8] IL (fun g s8 wx => ∃ i : Nat, i + g = IL ∧ s8 = .int .i64 ((ST + i : Nat) : Int) ∧ w = wx)
        case atStart => exact ⟨0, by omega, by first | rfl | simp, rfl⟩
        case round =>
          obtain ⟨i, hig, rfl, rfl⟩ := hrel
          obtain ⟨j, hj⟩ : ∃ j, j = ST + i := ⟨_, rfl⟩
          rw [← hj]
          by_cases hjn : j < n
          · have hjz : (j : Int) < (n : Int) := by omega
            have e1 := HX.out.2.1 j w (by rw [← HN.out]; exact hjn)
            obtain ⟨b, hb⟩ : ∃ b, b = f.getD j 0 := ⟨_, rfl⟩
            rw [← hb] at e1
            have hd := digit_any b w
            have HB : Hid (isD b = decide (i < IL)) := by
              show isD b = decide (i < IL)
              have h1 : b = (f.drop ST).getD i 0 := by rw [getD_drop8, ← hj]; exact hb
              have h2 : IL = run (f.drop ST) := by rw [HX.out.2.2.2.2, il, ← HX.out.2.2.2.1]
              by_cases hi : i < IL
              · rw [h1, run_before _ i (by omega)]; simp [hi]
              · obtain rfl : i = IL := by omega
                rw [h1, h2, run_at _ (by rw [List.length_drop, HX.out.1, ← HN.out]; omega)]; simp
            cases gk with
            | succ g =>
              rw [HB.out, show decide (i < IL) = true from by simp; omega] at hd
              have HJ : Hid (j = ST + i) := hj
              clear hb hj
              go_wp2_with (go_at_call 14; refine hd.mono ?_; rintro e w1 ⟨rfl, rfl⟩)
              go_roundg g
              case measure => omega
              case rel => exact ⟨i + 1, by omega, by rw [HJ.out]; first | rfl | (congr 1; omega), rfl⟩
            | zero =>
              rw [HB.out, show decide (i < IL) = false from by simp; omega] at hd
              have HJ : Hid (j = ST + IL) := by
                show j = ST + IL
                omega
              clear hb hj
              go_wp2_with (go_at_call 14; refine hd.mono ?_; rintro e w1 ⟨rfl, rfl⟩)
              go_meet
              case rel => exact ⟨by rw [HJ.out], rfl⟩
          · have hjz : ¬ (j : Int) < (n : Int) := by omega
            have HJ : Hid (j = ST + IL) := by
              show j = ST + IL
              omega
            clear hj
            go_wp2
            go_meet
            case rel => exact ⟨by rw [HJ.out], rfl⟩
      case rest =>
        obtain ⟨rfl, hwc⟩ := hcut
        subst hwc
        obtain ⟨j, hj⟩ : ∃ j, j = ST + IL := ⟨_, rfl⟩
        rw [← hj]
        have hjz : (j : Int) - (ST : Int) = (IL : Int) := by omega
        have HJ : Hid (j = ST + IL) := hj
        rw [← hj] at hILn
        clear hj
        have HSH : Hid (shape f = (if IL = 0 then (false, NG, ST, 0, false, 0) else if j = n then (true, NG, ST, IL, false, 0) else if f.getD j 0 ≠ 46 then (false, NG, ST, IL, false, 0) else if (f.drop (j + 1)).all isD = true then (true, NG, ST, IL, true, n - (j + 1)) else (false, NG, ST, IL, true, 0))) := by
          show shape f = _
          unfold shape
          rw [← HX.out.2.2.1, ← HX.out.2.2.2.1, ← HX.out.2.2.2.2, ← HJ.out, HX.out.1, ← HN.out]
        by_cases hIL0 : IL = 0
        · have hz : ((IL : Int) == 0) = true := by simp; omega
          have HS2 : Hid (shape f = (false, NG, ST, IL, false, 0)) := by
            show shape f = _
            rw [HSH.out, if_pos hIL0, hIL0]
          clear hIL0 HSH
          go_wp2
          exact bodyPost_ret (v := .tuple #[.bool false, .bool NG, .int .i64 ST, .int .i64 IL, .bool false, .int .i64 0]) (by simp [results, Tryd.results10, go_sem]) rfl ⟨by rw [HS2.out]; rfl, rfl⟩
        · have hz : ((IL : Int) == 0) = false := by simp; omega
          by_cases hjn : j = n
          · have hz2 : ((j : Int) == (n : Int)) = true := by simp; omega
            have HS2 : Hid (shape f = (true, NG, ST, IL, false, 0)) := by
              show shape f = _
              rw [HSH.out, if_neg hIL0, if_pos hjn]
            clear hIL0 HSH hjn
            go_wp2
            exact bodyPost_ret (v := .tuple #[.bool true, .bool NG, .int .i64 ST, .int .i64 IL, .bool false, .int .i64 0]) (by simp [results, Tryd.results10, go_sem]) rfl ⟨by rw [HS2.out]; rfl, rfl⟩
          · have hz2 : ((j : Int) == (n : Int)) = false := by simp; omega
            have hjlt : j < n := by omega
            have hjz2 : (j : Int) < (n : Int) := by omega
            have e1 := HX.out.2.1 j w (by rw [← HN.out]; exact hjlt)
            obtain ⟨b, hb⟩ : ∃ b, b = f.getD j 0 := ⟨_, rfl⟩
            rw [← hb] at e1
            by_cases h46 : b = 46
            · subst h46
              rw [show ((46 : UInt8).toNat : Int) = 46 from rfl] at e1
              obtain ⟨R, hR⟩ : ∃ R, R = run (f.drop (j + 1)) := ⟨_, rfl⟩
              have hRn : j + 1 + R ≤ n := by
                have := run_le (f.drop (j + 1))
                rw [List.length_drop, HX.out.1, ← HN.out] at this
                omega
              have HS2 : Hid (shape f = (if R = n - (j + 1) then (true, NG, ST, IL, true, n - (j + 1)) else (false, NG, ST, IL, true, 0))) := by
                show shape f = _
                rw [HSH.out, if_neg hIL0, if_neg hjn, if_neg (by rw [← hb]; simp)]
                have := run_all (f.drop (j + 1))
                rw [List.length_drop, HX.out.1, ← HN.out, ← hR] at this
                by_cases hc : R = n - (j + 1)
                · rw [if_pos hc, if_pos (this.1 hc)]
                · rw [if_neg hc, if_neg (fun e => hc (this.2 e))]
              have HRR : Hid _ := hR
              clear hIL0 HSH hjn hb hR
              go_upto_block 2 with fail
              go_cut [8] from 56 to 67 (fun s8 wx => s8 = .int .i64 ((j + 1 + R : Nat) : Int) ∧ w = wx)
              case first =>
                go_wp2_with fail
                go_loopg [8] R (fun g s8 wx => ∃ i : Nat, i + g = R ∧ s8 = .int .i64 ((j + 1 + i : Nat) : Int) ∧ w = wx)
                case atStart => exact ⟨0, by omega, by first | rfl | simp, rfl⟩
                case round =>
                  obtain ⟨i, hig, rfl, rfl⟩ := hrel
                  obtain ⟨q, hq⟩ : ∃ q, q = j + 1 + i := ⟨_, rfl⟩
                  rw [← hq]
                  by_cases hqn : q < n
                  · have hqz : (q : Int) < (n : Int) := by omega
                    have e2 := HX.out.2.1 q w (by rw [← HN.out]; exact hqn)
                    obtain ⟨b, hb⟩ : ∃ b, b = f.getD q 0 := ⟨_, rfl⟩
                    rw [← hb] at e2
                    have hd := digit_any b w
                    have HB : Hid (isD b = decide (i < R)) := by
                      show isD b = decide (i < R)
                      have h1 : b = (f.drop (j + 1)).getD i 0 := by rw [getD_drop8, ← hq]; exact hb
                      by_cases hi : i < R
                      · rw [h1, run_before _ i (by rw [← HRR.out]; exact hi)]; simp [hi]
                      · obtain rfl : i = R := by omega
                        rw [h1, HRR.out, run_at _ (by rw [List.length_drop, HX.out.1, ← HN.out, ← HRR.out]; omega)]; simp
                    cases gk with
                    | succ g =>
                      rw [HB.out, show decide (i < R) = true from by simp; omega] at hd
                      have HQ : Hid (q = j + 1 + i) := hq
                      clear hb hq
                      go_wp2_with (go_at_call 14; refine hd.mono ?_; rintro e w1 ⟨rfl, rfl⟩)
                      go_roundg g
                      case measure => omega
                      case rel => exact ⟨i + 1, by omega, by rw [HQ.out]; first | rfl | (congr 1; omega), rfl⟩
                    | zero =>
                      rw [HB.out, show decide (i < R) = false from by simp; omega] at hd
                      have HQ : Hid (q = j + 1 + R) := by
                        show q = j + 1 + R
                        omega
                      clear hb hq
                      go_wp2_with (go_at_call 14; refine hd.mono ?_; rintro e w1 ⟨rfl, rfl⟩)
                      go_meet
                      case rel => exact ⟨by rw [HQ.out], rfl⟩
                  · have hqz : ¬ (q : Int) < (n : Int) := by omega
                    have HQ : Hid (q = j + 1 + R) := by
                      show q = j + 1 + R
                      omega
                    clear hq
                    go_wp2
                    go_meet
                    case rel => exact ⟨by rw [HQ.out], rfl⟩
              case rest =>
                obtain ⟨rfl, hwc⟩ := hcut
                subst hwc
                obtain ⟨q, hq⟩ : ∃ q, q = j + 1 + R := ⟨_, rfl⟩
                rw [← hq]
                by_cases hqn : q = n
                · have hqz : ((q : Int) != (n : Int)) = false := by simp; omega
                  have hfr : (q : Int) - ((j : Int) + 1) = ((n - (j + 1) : Nat) : Int) := by omega
                  have HS3 : Hid (shape f = (true, NG, ST, IL, true, n - (j + 1))) := by
                    show shape f = _
                    rw [HS2.out, if_pos (by omega)]
                  clear hq hqn HS2
                  go_wp2
                  exact bodyPost_ret (v := .tuple #[.bool true, .bool NG, .int .i64 ST, .int .i64 IL, .bool true, .int .i64 ((n - (j + 1) : Nat) : Int)]) (by simp [results, Tryd.results10, go_sem]) rfl ⟨by rw [HS3.out]; rfl, rfl⟩
                · have hqz : ((q : Int) != (n : Int)) = true := by simp; omega
                  have HS3 : Hid (shape f = (false, NG, ST, IL, true, 0)) := by
                    show shape f = _
                    rw [HS2.out, if_neg (by omega)]
                  clear hq hqn HS2
                  go_wp2
                  exact bodyPost_ret (v := .tuple #[.bool false, .bool NG, .int .i64 ST, .int .i64 IL, .bool true, .int .i64 0]) (by simp [results, Tryd.results10, go_sem]) rfl ⟨by rw [HS3.out]; rfl, rfl⟩
            · have hne : b.toNat ≠ 46 := fun e => h46 (UInt8.toNat_inj.1 e)
              have hz3 : ((b.toNat : Int) != 46) = true := by simp; omega
              have HS2 : Hid (shape f = (false, NG, ST, IL, false, 0)) := by
                show shape f = _
                rw [HSH.out, if_neg hIL0, if_neg hjn, if_pos (by rw [← hb]; exact h46)]
              clear hIL0 HSH hjn hb h46 hne
              go_wp2
              exact bodyPost_ret (v := .tuple #[.bool false, .bool NG, .int .i64 ST, .int .i64 IL, .bool false, .int .i64 0]) (by simp [results, Tryd.results10, go_sem]) rfl ⟨by rw [HS2.out]; rfl, rfl⟩
end Go.Proofs.Qxb6602721aDoor
