import Derived.Test.Qxb6602599aDoorStream
namespace Go.Proofs.Qxb6602599aDoor
open Go.RowKit
open Go

set_option maxHeartbeats 800000 in
set_option maxRecDepth 100000 in
theorem stream_zero (p : Option Addr) (c : Nat) (w : World) : Calls Tryd.prog 8 #[.slice p 0 c] w fun e w' => SPost w [] e w' := by
  have h3 := cont_no p 0 c 3 w (by omega) (by omega)
  have h0 := cont_zero p c w
  have hp := M.bom_part (xs := []) (by simp) (fun j hj => by simp at hj)
  have HP : Hid (SPost w [] (.returned (.tuple #[.slice none 0 0, .bool false, .bool false, .slice none 0 0, .slice none 0 0])) w) := SPost.mk (MS.start w) hp.1 (Fin.of (S := M.begun0) M.Ag.start hp.2)
  clear hp
  go_enter Tryd.func8, Tryd.ntmps8
  go_wp2_with fail
  refine h3.mono ?_
  rintro e w1 ⟨rfl, rfl⟩
  go_wp2_with fail
  refine h0.mono ?_
  rintro e w1 ⟨rfl, rfl⟩
  go_wp2
  exact bodyPost_ret (v := .tuple #[.slice none 0 0, .bool false, .bool false, .slice none 0 0, .slice none 0 0]) (by simp [results, Tryd.results8, go_sem]) rfl HP.out

theorem stream_all (p : Option Addr) (n c : Nat) (xs : List Int) (w : World) (hl : xs.length = n) (hn : n ≤ 1048576) (hnc : n ≤ c) (hB : IsB xs) (hin : BIn w p n xs) : Calls Tryd.prog 8 #[.slice p n c] w fun e w' => SPost w xs e w' := by
  rcases Nat.eq_zero_or_pos n with rfl | h0
  · have hx : xs = [] := List.eq_nil_of_length_eq_zero hl
    subst hx
    exact stream_zero p c w
  · obtain ⟨pb, po, rfl, hc⟩ := hin h0
    exact stream_any pb po n c xs w hl h0 hn hnc hB hc

theorem BIn.ltAll {w : World} {p : Option Addr} {n : Nat} {xs : List Int} (h : BIn w p n xs) : 0 < n → ∀ a, p = some a → a.block < w.heap.size := by
  intro hn a e
  obtain ⟨b, o, e', hc⟩ := h hn
  rw [e] at e'; cases e'
  exact World.block_lt_of_cell? w _ (hc 0 hn)

theorem nums_bytes {xs : List Int} (h : IsB xs) : nums ⟨(M.toBytes xs).toArray⟩ = xs := by
  unfold nums M.toBytes
  simp only [List.map_map]
  conv => rhs; rw [← List.map_id xs]
  apply List.map_congr_left
  intro x hx
  have := h x hx
  simp only [Function.comp, id]
  rw [UInt8.toNat_ofNat']
  omega

theorem bytes_ne {xs : List Int} (h : xs ≠ []) : M.named (M.toBytes xs) = M.toBytes xs := by
  unfold M.named
  rw [if_neg]
  intro e
  exact h (by simpa [M.toBytes] using e)

set_option maxHeartbeats 800000 in
theorem law3_no (p1 : Option Addr) (n1 c1 : Nat) (w : World) (h : 1048576 < n1) :
    Calls Tryd.prog 3 #[.slice p1 n1 c1] w fun e w' => e = .returned (.bool true) ∧ Below w.heap.size w w' := by
  have hc := bytes1_no p1 n1 c1 w h
  clear h
  go_enter Tryd.func3, Tryd.ntmps3
  go_wp2_with fail
  refine hc.mono ?_
  rintro e w1 ⟨rfl, rfl⟩
  go_wp2
  go_ret
  exact ⟨rfl, Below.refl _ _⟩

set_option maxHeartbeats 3200000 in
set_option maxRecDepth 1000000 in
theorem law3_main (p1 : Option Addr) (n c1 : Nat) (xs : List Int) (w : World) (m : Int) (henv : Env w m) (hl : xs.length = n) (hin : BIn w p1 n xs) (hB : IsB xs) (hn : n ≤ 1048576) :
    Calls Tryd.prog 3 #[.slice p1 n c1] w fun e w' => e = .returned (.bool true) ∧ Below w.heap.size w w' := by
  have hc1 := bytes1_ok p1 n c1 w hn
  have hca := clone_any p1 n c1 xs w hl hn hin
  have HX : Hid _ := And.intro henv (And.intro hl hB)
  have h3 : 3 ≤ w.heap.size := by have := World.block_lt_of_cell? w _ (henv.2.2 0 (by omega)).1; simp at this; omega
  clear henv hl hin hB
  have z1 : ¬ ((n : Int) > 1048576) := by omega
  go_enter Tryd.func3, Tryd.ntmps3
  go_wp2_with (go_at_call 5; refine hc1.mono ?_; rintro e w0 ⟨rfl, rfl⟩)
  go_at_call 6
  refine hca.mono ?_
  rintro e w1 ⟨pa, ca, rfl, ha, hf1, hca1, hca2⟩
  have HF1 : Hid (Fr (fun _ => False) w w1) := hf1
  have HA : Hid _ := And.intro ha hca1
  clear ha hf1 hca1 hca2 hca hc1
  go_wp2_with fail
  have hw1 : w.heap.size ≤ w1.heap.size := HF1.out.size
  have f2 : Fr (fun _ => False) w1 (w1.alloc (.cells (blkOf M.init 0 (.slice none 0 0) (.slice none 0 0) (.slice none 0 0)) 30)) := Fr.alloc w1 _
  refine (run_lies (lies_fresh w1) M.inv_init (by simp) (by omega) (m := m) ((HX.out.1.kept HF1.out (fun _ e => e.elim)).kept f2 (fun _ e => e.elim)) (BIn.kept HA.out.1 f2 (fun _ _ _ e => e)) (BIn.ltAll HA.out.1) HX.out.2.1 HA.out.2 hn HX.out.2.2 0 (by omega) (by omega) (by simp)).mono ?_
  rintro e w3 ⟨v1, rfl, hr3, hf3⟩
  rw [List.nil_append] at hr3
  obtain ⟨S, hS⟩ : ∃ S, S = (M.evs M.init xs 0).2 := ⟨_, rfl⟩
  obtain ⟨E, hE⟩ : ∃ E, E = (M.evs M.init xs 0).1 := ⟨_, rfl⟩
  have hEl : E.length ≤ n := by rw [hE, ← HX.out.2.1]; exact evs_len _ _ _
  rw [← hS, ← hE] at hr3
  obtain ⟨ao1, cap1, hv1, _⟩ := own_form hr3.own
  subst hv1
  have hf13 : Fr (fun _ => False) w1 w3 := f2.trans hf3 (fun i e => .inr e)
  have HF3 : Hid (Fr (fun _ => False) w w3) := HF1.out.trans hf13 (fun _ e => .inl e)
  have hA3 : BIn w3 pa n xs := BIn.kept HA.out.1 hf13 (fun _ _ _ e => e)
  have hst := stream_all pa n ca xs w3 HX.out.2.1 hn HA.out.2 HX.out.2.2 hA3
  have HR3 : Hid _ := hr3
  have HSE : Hid _ := And.intro hS hE
  obtain ⟨bs, hbs⟩ : ∃ bs, bs = w1.heap.size := ⟨_, rfl⟩
  rw [← hbs] at HR3
  rw [← hbs]
  clear hbs hr3 hf3 hf13 f2 hA3 hS hE
  go_wp2_with fail
  refine hst.mono ?_
  rintro e w4 ⟨v7, v10, v11, v16, v17, d, t, ec, nm, dt, en, ed, rfl, hms, hec, hfin⟩
  rw [← HSE.out.2] at hec
  rw [← HSE.out.1] at hfin
  subst hec
  have hr4 := HR3.out.kept hms.fr (Nat.le_refl _)
  have HF4 : Hid (Fr (fun _ => False) w w4) := HF3.out.trans hms.fr (fun i e => .inr (Nat.le_trans HF3.out.size e))
  have hcs := sameInts_own hr4.own hms.o7 (by omega)
  obtain ⟨ao7, cap7, hv7, _⟩ := own_form hms.o7
  obtain ⟨p10, n10, c10, hv10, hn10, hb10, _⟩ := hms.r10
  obtain ⟨p11, n11, c11, hv11, hn11, hb11, _⟩ := hms.r11
  subst hv7 hv10 hv11
  have HE : Hid _ := And.intro hr4 (And.intro hn10 (And.intro hb10 (And.intro hn11 (And.intro hb11 hfin))))
  have l10 : n10 ≤ 65536 := by rw [hn10]; exact hfin.ln
  have l11 : n11 ≤ 65536 := by rw [hn11]; exact hfin.ld
  clear hr4 hms hn10 hb10 hn11 hb11 hfin hst HR3
  go_wp2_with fail
  refine hcs.mono ?_
  rintro e w5 ⟨rfl, hf5⟩
  have HF5 : Hid (Fr (fun _ => False) w w5) := HF4.out.trans hf5 (fun _ e => .inl e)
  have HB5 : Hid (BIn w5 p10 n10 nm ∧ BIn w5 p11 n11 dt) := ⟨BIn.kept HE.out.2.2.1 hf5 (fun _ _ _ e => e), BIn.kept HE.out.2.2.2.2.1 hf5 (fun _ _ _ e => e)⟩
  obtain ⟨z, vl, vn, vd, hstr, _⟩ := HE.out.1.str
  have hs := state_any (hstr.kept hf5 (fun _ _ e => e))
  unfold stateV at hs
  rw [HE.out.2.2.2.2.2.disp, HE.out.2.2.2.2.2.too] at hs
  obtain ⟨FN, hFN⟩ : ∃ FN : ByteArray, FN = ⟨S.fname.toArray⟩ := ⟨_, rfl⟩
  obtain ⟨FD, hFD⟩ : ∃ FD : ByteArray, FD = ⟨S.fdata.toArray⟩ := ⟨_, rfl⟩
  rw [← hFN, ← hFD] at hs
  have HFN : Hid (FN = ⟨S.fname.toArray⟩ ∧ FD = ⟨S.fdata.toArray⟩) := ⟨hFN, hFD⟩
  obtain ⟨ol, cl, hvl, _⟩ := own_form hstr.line
  obtain ⟨on, cn, hvn, _⟩ := own_form hstr.name
  obtain ⟨od, cd, hvd, _⟩ := own_form hstr.data
  subst hvl hvn hvd
  clear hFN hFD hf5 hcs hstr
  go_wp2_with fail
  refine hs.mono ?_
  rintro e w6 ⟨rfl, hf6⟩
  have HF6 : Hid (Fr (fun _ => False) w w6) := HF5.out.trans hf6 (fun _ e => .inl e)
  have HB6 : Hid (BIn w6 p10 n10 nm ∧ BIn w6 p11 n11 dt) := ⟨BIn.kept HB5.out.1 hf6 (fun _ _ _ e => e), BIn.kept HB5.out.2 hf6 (fun _ _ _ e => e)⟩
  clear hs hf6 HB5
  cases d
  · obtain ⟨o1, o2⟩ := HE.out.2.2.2.2.2.off rfl
    obtain rfl : FN = ⟨#[]⟩ := by rw [HFN.out.1, o1]
    obtain rfl : FD = ⟨#[]⟩ := by rw [HFN.out.2, o2]
    clear o1 o2 HFN
    cases t
    all_goals
      go_wp2
      go_ret
      exact ⟨rfl, HF6.out.below (Nat.le_refl _) (fun _ e => e.elim)⟩
  · obtain ⟨o1, o2⟩ := HE.out.2.2.2.2.2.on rfl
    have hd2 : nums FD = dt := by rw [HFN.out.2, o2]; exact nums_bytes HE.out.2.2.2.2.2.bd
    rcases Nat.eq_zero_or_pos n10 with rfl | h10
    · have hnm : nm = [] := List.eq_nil_of_length_eq_zero HE.out.2.1.symm
      obtain rfl : FN = ⟨#[109, 101, 115, 115, 97, 103, 101]⟩ := by rw [HFN.out.1, o1, hnm]; rfl
      have hi := is_any p11 n11 c11 dt FD w6 (by omega) HE.out.2.2.2.1.symm HB6.out.2 true ⟨fun _ => hd2.symm, fun _ => rfl⟩
      clear o1 o2 HFN hd2 hnm
      cases t
      all_goals
        go_wp2_with fail
        refine hi.mono ?_
        rintro e w7 ⟨rfl, hf7⟩
        have HF7 : Hid (Fr (fun _ => False) w w7) := HF6.out.trans hf7 (fun _ e => .inl e)
        clear hi hf7
        go_wp2
        go_ret
        exact ⟨rfl, HF7.out.below (Nat.le_refl _) (fun _ e => e.elim)⟩
    · have hnm : nm ≠ [] := fun e => by have := HE.out.2.1; rw [e] at this; simp at this; omega
      have hd1 : nums FN = nm := by rw [HFN.out.1, o1, bytes_ne hnm]; exact nums_bytes HE.out.2.2.2.2.2.bn
      have hz10 : ((n10 : Int) == 0) = false := by simp; omega
      have hi1 := is_any p10 n10 c10 nm FN w6 (by omega) HE.out.2.1.symm HB6.out.1 true ⟨fun _ => hd1.symm, fun _ => rfl⟩
      have HD2 : Hid (nums FD = dt) := hd2
      clear o1 o2 HFN hd1 hd2 hnm
      cases t
      all_goals
        go_wp2_with fail
        refine hi1.mono ?_
        rintro e w7 ⟨rfl, hf7⟩
        have HF7 : Hid (Fr (fun _ => False) w w7) := HF6.out.trans hf7 (fun _ e => .inl e)
        have hi := is_any p11 n11 c11 dt FD w7 (by omega) HE.out.2.2.2.1.symm (BIn.kept HB6.out.2 hf7 (fun _ _ _ e => e)) true ⟨fun _ => HD2.out.symm, fun _ => rfl⟩
        clear hi1 hf7
        go_wp2_with fail
        refine hi.mono ?_
        rintro e w8 ⟨rfl, hf8⟩
        have HF8 : Hid (Fr (fun _ => False) w w8) := HF7.out.trans hf8 (fun _ e => .inl e)
        clear hi hf8
        go_wp2
        go_ret
        exact ⟨rfl, HF8.out.below (Nat.le_refl _) (fun _ e => e.elim)⟩

theorem law3 (p1 : Option Addr) (n c1 : Nat) (xs : List Int) (w : World) (m : Int) (henv : Env w m) (hl : xs.length = n) (hin : BIn w p1 n xs) (hB : IsB xs) :
    Calls Tryd.prog 3 #[.slice p1 n c1] w fun e w' => e = .returned (.bool true) ∧ Below w.heap.size w w' := by
  by_cases h : 1048576 < n
  · exact law3_no p1 n c1 w h
  · exact law3_main p1 n c1 xs w m henv hl hin hB (by omega)
end Go.Proofs.Qxb6602599aDoor
