import Derived.Test.Qxb6602721aDoorLink
namespace Go.Proofs.Qxb6602721aDoor
open Go.RowKit
open Go

set_option maxHeartbeats 1600000 in
set_option maxRecDepth 100000 in
theorem acc_any (s : ByteArray) (w : World) (hs : s.size ≤ 1048576) (hst : st s.data.toList ≤ s.size) (ok NG : Bool) (ST IL : Nat) (PT : Bool) (FL : Nat) (hq : shape s.data.toList = (ok, NG, ST, IL, PT, FL)) (a : Bool)
    (ha : a = (ok && decide ((Lib.trimB (noDot (s.data.toList.drop (st s.data.toList))) 48).length ≤ 15))) :
    Calls Tryd.prog 6 #[.string s] w fun e w' => e = .returned (.tuple #[.bool a, .int .i64 (if a = true then (FL : Int) else 0)]) ∧ w = w' := by
  have hsh := shape_any s w hs
  have hsg := sig_any s (st s.data.toList) w hs hst
  have hss := shape_st s.data.toList
  unfold ShapeP at hsh
  unfold SigP at hsg
  rw [hq] at hsh hss
  simp only at hss
  unfold shapeT at hsh
  simp only at hsh
  rw [← hss] at hsg ha
  obtain ⟨T, hT⟩ : ∃ T, T = (Lib.trimB (noDot (s.data.toList.drop ST)) 48).length := ⟨_, rfl⟩
  rw [← hT] at hsg ha
  clear hss hq hT hst
  cases ok
  · obtain rfl : a = false := ha
    clear hsg
    go_enter Tryd.func6, Tryd.ntmps6
    go_wp2_with fail
    refine hsh.mono ?_
    rintro e w1 ⟨rfl, rfl⟩
    clear hsh
    go_wp2
    go_ret2
    exact ⟨rfl, rfl⟩
  · by_cases h15 : T ≤ 15
    · have hTz : ¬ (T : Int) > 15 := by omega
      obtain rfl : a = true := by rw [ha]; simp [h15]
      clear ha h15
      go_enter Tryd.func6, Tryd.ntmps6
      go_wp2_with fail
      refine hsh.mono ?_
      rintro e w1 ⟨rfl, rfl⟩
      clear hsh
      go_wp2_with fail
      refine hsg.mono ?_
      rintro e w1 ⟨rfl, rfl⟩
      clear hsg
      go_wp2
      go_ret2
      exact ⟨rfl, rfl⟩
    · have hTz : (T : Int) > 15 := by omega
      obtain rfl : a = false := by rw [ha]; simp [h15]
      clear ha h15
      go_enter Tryd.func6, Tryd.ntmps6
      go_wp2_with fail
      refine hsh.mono ?_
      rintro e w1 ⟨rfl, rfl⟩
      clear hsh
      go_wp2_with fail
      refine hsg.mono ?_
      rintro e w1 ⟨rfl, rfl⟩
      clear hsg
      go_wp2
      go_ret2
      exact ⟨rfl, rfl⟩

set_option maxHeartbeats 1600000 in
theorem zz_any (s : ByteArray) (k : Int) (w : World) (a b : ByteArray) (c : Bool) (h : Calls Tryd.prog 12 #[.string s, .int .i64 k] w fun e w' => e = .returned (.tuple #[.string a, .string b, .bool c]) ∧ Fr (fun _ => False) w w') :
    Calls Tryd.prog 7 #[.string s, .int .i64 k] w fun e w' => e = .returned (.tuple #[.string a, .string b, .bool c]) ∧ Fr (fun _ => False) w w' := by
  go_enter Tryd.func7, Tryd.ntmps7
  go_wp2_with fail
  refine h.mono ?_
  rintro e w1 ⟨rfl, hf⟩
  have HF : Hid _ := hf
  clear h hf
  go_wp2
  exact bodyPost_ret (v := .tuple #[.string a, .string b, .bool c]) (by simp [results, Tryd.results7, go_sem]) rfl ⟨rfl, HF.out⟩

set_option maxHeartbeats 1600000 in
theorem law_no (s : ByteArray) (k : Int) (w : World) (h : 1048576 < s.size) : Calls Tryd.prog 3 #[.string s, .int .i64 k] w fun e w' => e = .returned (.bool true) ∧ Fr (fun _ => False) w w' := by
  have hc := bytes_no s k w h
  clear h
  go_enter Tryd.func3, Tryd.ntmps3
  go_wp2_with fail
  refine hc.mono ?_
  rintro e w1 ⟨rfl, rfl⟩
  go_wp2
  go_ret
  exact ⟨rfl, Fr.refl _ _⟩

set_option maxHeartbeats 1600000 in
theorem law_far (s : ByteArray) (k : Int) (w : World) (hs : s.size ≤ 1048576) (h : k < -65536 ∨ 65536 < k) : Calls Tryd.prog 3 #[.string s, .int .i64 k] w fun e w' => e = .returned (.bool true) ∧ Fr (fun _ => False) w w' := by
  have hc := bytes_ok s k w hs
  have z1 : ¬ ((s.size : Int) > 1048576) := by omega
  by_cases h1 : k < -65536
  · clear h
    go_enter Tryd.func3, Tryd.ntmps3
    go_wp2_with fail
    refine hc.mono ?_
    rintro e w1 ⟨rfl, rfl⟩
    go_wp2
    go_ret
    exact ⟨rfl, Fr.refl _ _⟩
  · have h2 : k > 65536 := by omega
    clear h
    go_enter Tryd.func3, Tryd.ntmps3
    go_wp2_with fail
    refine hc.mono ?_
    rintro e w1 ⟨rfl, rfl⟩
    go_wp2
    go_ret
    exact ⟨rfl, Fr.refl _ _⟩

set_option maxHeartbeats 1600000 in
theorem law_same (s : ByteArray) (k : Int) (w : World) (hs : s.size ≤ 1048576) (hk1 : -65536 ≤ k) (hk2 : k ≤ 65536) (a : Bool) (FL : Int) (hFL0 : 0 ≤ FL) (hFL1 : FL ≤ 1048576) (x y : ByteArray) (c : Bool)
    (ha : Calls Tryd.prog 6 #[.string s] w fun e w' => e = .returned (.tuple #[.bool a, .int .i64 FL]) ∧ w = w') (hno : a = true → -FL ≤ k)
    (hz : Calls Tryd.prog 7 #[.string s, .int .i64 k] w fun e w' => e = .returned (.tuple #[.string x, .string y, .bool c]) ∧ Fr (fun _ => False) w w')
    (hm : ∀ w1, Fr (fun _ => False) w w1 → Calls Tryd.prog 8 #[.string s, .int .i64 k] w1 fun e w' => e = .returned (.tuple #[.string x, .string y, .bool c]) ∧ Fr (fun _ => False) w1 w') :
    Calls Tryd.prog 3 #[.string s, .int .i64 k] w fun e w' => e = .returned (.bool true) ∧ Fr (fun _ => False) w w' := by
  have hc := bytes_ok s k w hs
  have z1 : ¬ ((s.size : Int) > 1048576) := by omega
  have z2 : ¬ (k < -65536) := by omega
  have z3 : ¬ (k > 65536) := by omega
  have HN : Hid _ := hno
  clear hno
  cases a
  · cases c
    all_goals
      go_enter Tryd.func3, Tryd.ntmps3
      go_wp2_with (go_at_call 5; refine hc.mono ?_; rintro e w1 ⟨rfl, rfl⟩)
      go_at_call 6
      refine ha.mono ?_
      rintro e w1 ⟨rfl, rfl⟩
      clear ha hc
      go_wp2_with fail
      refine hz.mono ?_
      rintro e w2 ⟨rfl, hf2⟩
      have hm2 := hm w2 hf2
      have HF2 : Hid _ := hf2
      clear hz hm hf2
      go_wp2_with fail
      refine hm2.mono ?_
      rintro e w3 ⟨rfl, hf3⟩
      have HF3 : Hid _ := HF2.out.trans hf3 (fun _ e => .inl e)
      clear hm2 hf3
      go_wp2
      go_ret
      exact ⟨rfl, HF3.out⟩
  · have z4 : ¬ (k < -FL) := by have := HN.out rfl; omega
    cases c
    all_goals
      go_enter Tryd.func3, Tryd.ntmps3
      go_wp2_with (go_at_call 5; refine hc.mono ?_; rintro e w1 ⟨rfl, rfl⟩)
      go_at_call 6
      refine ha.mono ?_
      rintro e w1 ⟨rfl, rfl⟩
      clear ha hc
      go_wp2_with fail
      refine hz.mono ?_
      rintro e w2 ⟨rfl, hf2⟩
      have hm2 := hm w2 hf2
      have HF2 : Hid _ := hf2
      clear hz hm hf2
      go_wp2_with fail
      refine hm2.mono ?_
      rintro e w3 ⟨rfl, hf3⟩
      have HF3 : Hid _ := HF2.out.trans hf3 (fun _ e => .inl e)
      clear hm2 hf3
      go_wp2
      go_ret
      exact ⟨rfl, HF3.out⟩

set_option maxHeartbeats 1600000 in
theorem law_past (s : ByteArray) (k : Int) (w : World) (hs : s.size ≤ 1048576) (hk1 : -65536 ≤ k) (hk2 : k ≤ 65536) (FL : Int) (hFL0 : 0 ≤ FL) (hFL1 : FL ≤ 1048576)
    (ha : Calls Tryd.prog 6 #[.string s] w fun e w' => e = .returned (.tuple #[.bool true, .int .i64 FL]) ∧ w = w') (hno : k < -FL) :
    Calls Tryd.prog 3 #[.string s, .int .i64 k] w fun e w' => e = .returned (.bool true) ∧ Fr (fun _ => False) w w' := by
  have hc := bytes_ok s k w hs
  have z1 : ¬ ((s.size : Int) > 1048576) := by omega
  have z2 : ¬ (k < -65536) := by omega
  have z3 : ¬ (k > 65536) := by omega
  go_enter Tryd.func3, Tryd.ntmps3
  go_wp2_with (go_at_call 5; refine hc.mono ?_; rintro e w1 ⟨rfl, rfl⟩)
  go_at_call 6
  refine ha.mono ?_
  rintro e w1 ⟨rfl, rfl⟩
  clear ha hc
  go_wp2
  go_ret
  exact ⟨rfl, Fr.refl _ _⟩

theorem law_any (s : ByteArray) (k m : Int) (w : World) (hm : w.cell? ⟨0, 0, none⟩ = some (.int .i64 m)) : Calls Tryd.prog 3 #[.string s, .int .i64 k] w fun e w' => e = .returned (.bool true) ∧ Fr (fun _ => False) w w' := by
  by_cases hs : 1048576 < s.size
  · exact law_no s k w hs
  have hs' : s.size ≤ 1048576 := by omega
  by_cases hk : k < -65536 ∨ 65536 < k
  · exact law_far s k w hs' hk
  have hk1 : -65536 ≤ k := by omega
  have hk2 : k ≤ 65536 := by omega
  have hfl : s.data.toList.length = s.size := (size_list s).symm
  have hst : st s.data.toList ≤ s.data.toList.length := by
    unfold st
    split
    · rename_i h
      cases hc : s.data.toList with
      | nil => rw [hc] at h; simp [neg] at h
      | cons x r => simp
    · omega
  obtain ⟨WH, PL, PT, hcut, hlen, hgood⟩ := link s.data.toList hst
  rw [hfl] at hst hlen
  rcases hgood with g | ⟨hno, hbad⟩
  · have hgl := g.len
    rw [hfl] at hgl
    have hW1 : 1 ≤ WH.length := List.length_pos_iff.2 g.ne
    have hbad := g.bad
    by_cases h15 : (Lib.trimB (WH ++ PL) 48).length ≤ 15
    · have hb : badB WH PL = false := by rw [hbad]; simp; omega
      have hacc := acc_any s w hs' hst _ _ _ _ _ _ g.sh true (by rw [g.nd]; simp [h15])
      rw [if_pos rfl] at hacc
      by_cases hpast : k < -(PL.length : Int)
      · exact law_past s k w hs' hk1 hk2 (PL.length : Int) (by omega) (by omega) hacc hpast
      · obtain ⟨P, hP⟩ : ∃ P : Nat, (PL.length : Int) + k = P := ⟨((PL.length : Int) + k).toNat, by omega⟩
        have hdec := decimal_any s k m w hs' hm hk1 hk2 (neg s.data.toList) WH PL PT rfl hcut hlen (fun _ => by omega)
        rw [hb] at hdec
        have hz := zz_any s k w _ _ _ (hdec.mono fun e w' h => h)
        refine law_same s k w hs' hk1 hk2 true (PL.length : Int) (by omega) (by omega) _ _ true hacc (fun _ => by omega) hz (fun w1 _ => ?_)
        rw [pad_eq (neg s.data.toList) WH PL k P hP, fmt_eq, ← g.nd, ← g.hd]
        exact model_yes s k w1 hs' (neg s.data.toList) (st s.data.toList) WH.length PT PL.length P _ _ g.sh (by omega) rfl hW1 (by omega) (by omega) (by rw [g.nd]; exact h15) hP (by omega) rfl rfl
    · have hb : badB WH PL = true := by rw [hbad]; simp; omega
      have hacc := acc_any s w hs' hst _ _ _ _ _ _ g.sh false (by rw [g.nd]; simp; omega)
      rw [if_neg (by decide)] at hacc
      have hdec := decimal_any s k m w hs' hm hk1 hk2 (neg s.data.toList) WH PL PT rfl hcut hlen (fun e => by rw [hb] at e; cases e)
      rw [hb] at hdec
      have hz := zz_any s k w _ _ _ (hdec.mono fun e w' h => h)
      refine law_same s k w hs' hk1 hk2 false 0 (by omega) (by omega) _ _ false hacc (fun e => by cases e) hz (fun w1 _ => ?_)
      exact (model_no s k w1 hs' hst (.inr (by rw [g.nd]; omega))).mono fun e w' h => ⟨h.1, h.2 ▸ Fr.refl _ _⟩
  · obtain ⟨ok, NG, ST, IL, PT2, FL, hq⟩ : ∃ ok NG ST IL PT FL, shape s.data.toList = (ok, NG, ST, IL, PT, FL) := ⟨_, _, _, _, _, _, rfl⟩
    obtain rfl : ok = false := by rw [hq] at hno; exact hno
    have hacc := acc_any s w hs' hst _ _ _ _ _ _ hq false rfl
    rw [if_neg (by decide)] at hacc
    have hdec := decimal_any s k m w hs' hm hk1 hk2 (neg s.data.toList) WH PL PT rfl hcut hlen (fun e => by rw [hbad] at e; cases e)
    rw [hbad] at hdec
    have hz := zz_any s k w _ _ _ (hdec.mono fun e w' h => h)
    refine law_same s k w hs' hk1 hk2 false 0 (by omega) (by omega) _ _ false hacc (fun e => by cases e) hz (fun w1 _ => ?_)
    exact (model_no s k w1 hs' hst (.inl hno)).mono fun e w' h => ⟨h.1, h.2 ▸ Fr.refl _ _⟩
end Go.Proofs.Qxb6602721aDoor
