import Derived.Test.Qxb6603125aDoorName2
import Derived.Test.Qxb6603125aDoorMplain
namespace Go.Proofs.Qxb6603125aDoor
open Go.RowKit
open Go

theorem bs_size (l : List UInt8) : (bs l).size = l.length := by simp [bs, ByteArray.size]

theorem pre_star (L : List UInt8) : Lib.hasPrefix L [42] = (L.head? == some 42) := by
  unfold Lib.hasPrefix
  cases L with
  | nil => rfl
  | cons c l =>
    show ((42 : UInt8) == c && List.isPrefixOf [] l) = (c == 42)
    rw [List.isPrefixOf, Bool.and_true, Bool.eq_iff_iff, beq_iff_eq, beq_iff_eq]
    exact ⟨Eq.symm, Eq.symm⟩

set_option maxHeartbeats 800000 in
theorem hostName_any (s : ByteArray) (m : Int) (w : World) (hs : s.size ≤ 1048576) (hm : w.cell? ⟨0, 0, none⟩ = some (.int .i64 m)) :
    Calls Tryd.prog 34 #[.string s] w fun e w' => e = .returned (.bool (hostn s.data.toList)) ∧ Fr (fun _ => False) w w' := by
  have h := dnsName_any s m w hs hm
  have hp := fun wx => Tryd.strings_HasPrefix s ⟨#[42]⟩ wx
  have hq : hostn s.data.toList = (dns s.data.toList && !Lib.hasPrefix s.data.toList [42]) := by rw [pre_star]; rfl
  change ∀ wx, Calls Tryd.prog 40 _ wx (fun e w' => e = .returned (.bool (Lib.hasPrefix s.data.toList [42])) ∧ w' = wx) at hp
  rw [hq]
  obtain ⟨D, hD⟩ : ∃ D, D = dns s.data.toList := ⟨_, rfl⟩
  obtain ⟨T, hT⟩ : ∃ T, T = Lib.hasPrefix s.data.toList [42] := ⟨_, rfl⟩
  rw [← hD] at h ⊢
  rw [← hT] at hp ⊢
  clear hD hT hq hm
  cases D
  · go_enter Tryd.func34, Tryd.ntmps34
    go_wp2_with fail
    refine h.mono ?_
    rintro e w1 ⟨rfl, hf⟩
    have HF : Hid _ := hf
    clear hf
    go_wp2
    go_ret
    exact ⟨rfl, HF.out⟩
  · go_enter Tryd.func34, Tryd.ntmps34
    go_wp2_with fail
    refine h.mono ?_
    rintro e w1 ⟨rfl, hf⟩
    have HF : Hid _ := hf
    clear hf
    go_wp2_with fail
    refine (hp _).mono ?_
    rintro e w2 ⟨rfl, rfl⟩
    go_wp2
    go_ret
    exact ⟨by first | rfl | simp, HF.out⟩

theorem pcs_le : ∀ (l : List UInt8), ∀ p ∈ pcs l, p.length ≤ l.length
  | [], p, hp => by
    simp [pcs] at hp
    simp [hp]
  | c :: l, p, hp => by
    have ih := pcs_le l
    rw [pcs] at hp
    split at hp
    · rcases List.mem_cons.1 hp with rfl | h
      · simp
      · have := ih p h
        rw [List.length_cons]; omega
    · cases h : pcs l with
      | nil => exact absurd h (pcs_ne l)
      | cons q qs =>
        rw [h] at hp ih
        rcases List.mem_cons.1 hp with rfl | h2
        · have := ih q (by simp)
          simp only [List.length_cons]; omega
        · have := ih p (by simp [h2])
          rw [List.length_cons]; omega

theorem marks_ix (X : UInt8) (wx : World) : Calls Tryd.prog 35 #[.string ⟨#[33, 35, 36, 37, 38, 39, 42, 43, 45, 47, 61, 63, 94, 95, 96, 123, 124, 125, 126]⟩, .int .u8 (X.toNat : Int)] wx fun e w' => e = .returned (.int .i64 (Lib.indexByte marks X)) ∧ w' = wx := by
  refine (Tryd.strings_IndexByte _ (X.toNat : Int) wx).mono ?_
  rintro e w' ⟨h1, h2⟩
  refine ⟨?_, h2⟩
  rw [h1, Int.toNat_natCast, show X.toNat.toUInt8 = X from by simp]
  rfl

set_option maxHeartbeats 3200000 in
theorem mailbox_any (s : ByteArray) (m : Int) (w : World) (hs : s.size ≤ 1048576) (hm : w.cell? ⟨0, 0, none⟩ = some (.int .i64 m)) :
    Calls Tryd.prog 25 #[.string s] w fun e w' => e = .returned (.bool (mail s.data.toList)) ∧ Fr (fun _ => False) w w' := by
  have hcut := Tryd.strings_Cut s ⟨#[64]⟩ m w (by omega) hm
  obtain ⟨Ca, Cd, Ck, hC⟩ : ∃ Ca Cd Ck, Lib.cut s.data.toList [64] = (Ca, Cd, Ck) := ⟨_, _, _, rfl⟩
  change Calls Tryd.prog 33 _ w (fun e w' => e = .returned (.tuple #[.string ⟨(Lib.cut s.data.toList [64]).1.toArray⟩, .string ⟨(Lib.cut s.data.toList [64]).2.1.toArray⟩, .bool (Lib.cut s.data.toList [64]).2.2]) ∧ ∃ n, w' = w.drewN n) at hcut
  have hsz : Ca.length ≤ s.data.toList.length ∧ Cd.length ≤ s.data.toList.length := by
    unfold Lib.cut at hC
    split at hC
    · simp only [Prod.mk.injEq] at hC
      obtain ⟨rfl, rfl, _⟩ := hC
      constructor <;> simp <;> omega
    · simp only [Prod.mk.injEq] at hC
      obtain ⟨rfl, rfl, _⟩ := hC
      simp
  have hq : mail s.data.toList = (Ck && hostn Cd && atoms Ca) := by unfold mail; rw [hC]
  rw [hq]
  rw [hC] at hcut
  obtain ⟨A, hA⟩ : ∃ A : ByteArray, A = bs Ca := ⟨_, rfl⟩
  obtain ⟨Dm, hDm⟩ : ∃ Dm : ByteArray, Dm = bs Cd := ⟨_, rfl⟩
  change Calls Tryd.prog 33 _ w (fun e w' => e = .returned (.tuple #[.string (bs Ca), .string (bs Cd), .bool Ck]) ∧ ∃ n, w' = w.drewN n) at hcut
  rw [← hA, ← hDm] at hcut
  have hll : s.data.toList.length = s.size := by simp
  have hAs : A.size ≤ 1048576 := by rw [hA, bs_size]; have := hsz.1; omega
  have hDs : Dm.size ≤ 1048576 := by rw [hDm, bs_size]; have := hsz.2; omega
  have hAl : A.data.toList = Ca := by rw [hA]; rfl
  have hDl : Dm.data.toList = Cd := by rw [hDm]; rfl
  obtain ⟨D, hD⟩ : ∃ D, D = (Ck && hostn Cd && atoms Ca) := ⟨_, rfl⟩
  rw [← hD]
  have hhost : ∀ wx : World, wx.cell? ⟨0, 0, none⟩ = some (.int .i64 m) → Calls Tryd.prog 34 #[.string Dm] wx fun e w' => e = .returned (.bool (hostn Cd)) ∧ Fr (fun _ => False) wx w' := fun wx h => by
    have := hostName_any Dm m wx hDs h
    rwa [hDl] at this
  have hspl : ∀ wx : World, wx.cell? ⟨0, 0, none⟩ = some (.int .i64 m) → Calls Tryd.prog 27 #[.string A, .string ⟨#[46]⟩] wx fun e w' => ∃ B N ls, e = .returned (.slice (some ⟨B, 0, none⟩) N N) ∧ Pieces wx w' B N Ca ls ∧ 1 ≤ N ∧ N ≤ 1048577 := fun wx h => by
    have := split_any A m wx hAs h
    rwa [hAl] at this
  have HH : Hid _ := And.intro hhost hspl
  have HLen : Hid (Ca.length ≤ 1048576) := by
    show Ca.length ≤ 1048576
    have := hsz.1
    have e : s.data.toList.length = s.size := by simp
    omega
  obtain ⟨Hn, hHn⟩ : ∃ Hn, Hn = hostn Cd := ⟨_, rfl⟩
  have HD : Hid (D = (Ck && hostn Cd && atoms Ca) ∧ Hn = hostn Cd) := ⟨hD, hHn⟩
  have HM : Hid _ := hm
  clear hhost hspl hD hHn hq hA hDm hAs hDs hAl hDl hsz hC hm
  go_enter Tryd.func25, Tryd.ntmps25
  go_wp2_with fail
  refine hcut.mono ?_
  rintro e w1 ⟨rfl, n, hw1⟩
  have hf1 : Fr (fun _ => False) w w1 := by rw [hw1]; exact Fr.drewN _ _
  have HM1 : Hid (w1.cell? ⟨0, 0, none⟩ = some (.int .i64 m)) := by
    show w1.cell? ⟨0, 0, none⟩ = _
    rw [hf1.cell (p := ⟨0, 0, none⟩) (World.block_lt_of_cell? w _ HM.out) (fun e => e)]; exact HM.out
  have HF1 : Hid _ := hf1
  clear hw1 hf1 hcut
  cases Ck
  · obtain rfl : D = false := by rw [HD.out.1]; rfl
    go_wp2
    go_ret
    exact ⟨rfl, HF1.out⟩
  · have hh := HH.out.1 w1 HM1.out
    rw [← HD.out.2] at hh
    go_wp2_with fail
    refine hh.mono ?_
    rintro e w2 ⟨rfl, hf2⟩
    have HM2 : Hid (w2.cell? ⟨0, 0, none⟩ = some (.int .i64 m)) := by
      show w2.cell? ⟨0, 0, none⟩ = _
      rw [hf2.cell (p := ⟨0, 0, none⟩) (World.block_lt_of_cell? w1 _ HM1.out) (fun e => e)]; exact HM1.out
    have HF2 : Hid (Fr (fun _ => False) w w2) := HF1.out.trans hf2 (fun _ e => .inl e)
    clear hf2 hh
    cases Hn
    · obtain rfl : D = false := by rw [HD.out.1, ← HD.out.2]; rfl
      go_wp2
      go_ret
      exact ⟨rfl, HF2.out⟩
    · have hsp := HH.out.2 w2 HM2.out
      have HD2 : Hid (D = atoms Ca) := by
        show D = _
        rw [HD.out.1, ← HD.out.2]; simp
      go_wp2_with fail
      refine hsp.mono ?_
      rintro e w3 ⟨B, N, ls, rfl, hP, hN1, hN2⟩
      have HP : Hid _ := hP
      clear hP hsp
      go_wp2
      go_loopg [26] N (fun g s26 wx => ∃ i : Nat, i + g = N ∧ s26 = .int .i64 i ∧ Fr (fun _ => False) w3 wx ∧ atoms Ca = ((pcs Ca).drop i).all atom)
      case atStart => exact ⟨0, by omega, rfl, Fr.refl _ _, by rw [List.drop_zero]; rfl⟩
      case round =>
        obtain ⟨i, hig, rfl, hfr, hgo⟩ := hrel
        have HF : Hid _ := hfr
        have HG : Hid _ := hgo
        clear hfr hgo
        cases gk with
        | zero => as_aux_lemma =>
          obtain rfl : i = N := by omega
          obtain rfl : D = true := by
            have h2 : (pcs Ca).drop i = [] := List.drop_eq_nil_of_le (by rw [← HP.out.map, List.length_map, HP.out.len]; exact Nat.le_refl _)
            rw [HD2.out, HG.out, h2]
            rfl
          go_wp2
          go_ret
          exact ⟨rfl, (HF2.out.trans HP.out.fr (fun _ e => .inl e)).trans HF.out (fun _ e => .inl e)⟩
        | succ g =>
          obtain ⟨lb, hlb⟩ : ∃ lb, lb = ls.getD i ⟨#[]⟩ := ⟨_, rfl⟩
          have hc : wr.cell? ⟨B, i, none⟩ = some (.string lb) := by
            rw [HF.out.cell (p := ⟨B, i, none⟩) HP.out.lt (fun e => e), HP.out.cell i (by omega), hlb]
          obtain ⟨p, hp⟩ : ∃ p, p = lb.data.toList := ⟨_, rfl⟩
          have hdr : atoms Ca = (atom p && ((pcs Ca).drop (i + 1)).all atom) := by
            rw [HG.out, HP.out.drop (i := i) (by omega), ← hlb, ← hp, List.all_cons]
          have hsz : lb.size = p.length := by rw [hp]; simp
          have HWG : Hid _ := hdr
          have HW : Hid (p = lb.data.toList ∧ lb.size = p.length) := ⟨hp, hsz⟩
          have hsl : lb.size ≤ 1048576 := by
            have h1 : p ∈ pcs Ca := by
              apply List.mem_of_mem_drop (i := i)
              rw [HP.out.drop (i := i) (by omega), ← hlb, ← hp]
              simp
            have h2 := pcs_le Ca p h1
            have h3 := HLen.out
            omega
          clear hlb hp hdr hsz
          have zi : (i : Int) < (N : Int) := by omega
          by_cases he : p = []
          · have ze : (lb.toList == []) = true := by rw [eq_list, ← HW.out.1, he]; rfl
            obtain rfl : D = false := by rw [HD2.out, HWG.out, he]; rfl
            clear he
            go_wp2
            go_ret
            exact ⟨rfl, (HF2.out.trans HP.out.fr (fun _ e => .inl e)).trans HF.out (fun _ e => .inl e)⟩
          · have ze : (lb.toList == []) = false := by rw [eq_list, ← HW.out.1]; simpa using he
            have HE : Hid (p ≠ []) := he
            clear he
            have hcv := Lib.run_convert_string_bytes (P := Tryd.prog) wr 9 27 5 lb (u := .string) Tryd.underlying9 Tryd.underlying27 Tryd.underlying5
            have hcl := fun j hj => Lib.bytesWorld_cell wr 5 lb j hj
            have hf2 : Fr (fun _ => False) wr (Lib.bytesWorld wr 5 lb) := Fr.bytesWorld _ _ _
            obtain ⟨w4, hw4⟩ : ∃ w4, w4 = Lib.bytesWorld wr 5 lb := ⟨_, rfl⟩
            obtain ⟨cp, hcp⟩ : ∃ cp, cp = grownCap wr lb.size 0 5 := ⟨_, rfl⟩
            obtain ⟨B2, hB2⟩ : ∃ B2, B2 = wr.heap.size := ⟨_, rfl⟩
            rw [← hw4] at hcv hcl hf2
            rw [← hcp, ← hB2] at hcv
            rw [← hB2, ← HW.out.1] at hcl
            have HCL : Hid _ := hcl
            have HF3 : Hid (Fr (fun _ => False) w3 w4) := HF.out.trans hf2 (fun _ e => .inl e)
            have HF4 : Hid (Fr (fun _ => False) w w4) := (HF2.out.trans HP.out.fr (fun _ e => .inl e)).trans HF3.out (fun _ e => .inl e)
            clear hw4 hcp hB2 hcl hf2
            go_wp2
            clear hc zi ze hcv
            go_loopg [35] lb.size (fun gg s35 wx => wx = w4 ∧ ∃ k : Nat, k + gg = lb.size ∧ s35 = .int .i64 k ∧ ∀ q, q < k → atx (p.getD q 0) = true)
            case atStart => exact ⟨rfl, 0, by omega, rfl, fun q h => absurd h (Nat.not_lt_zero q)⟩
            case round =>
              obtain ⟨rfl, k, hkg, rfl, hall⟩ := hrel
              have HA : Hid _ := hall
              clear hall
              cases gk with
              | zero =>
                obtain rfl : k = lb.size := by omega
                go_wp2
                go_roundg g
                case measure => omega
                case rel =>
                  refine ⟨i + 1, by omega, by first | rfl | simp, HF3.out, ?_⟩
                  have hl : atom p = true := by
                    rw [atom, show (p != []) = true from by simpa using HE.out, Bool.true_and, List.all_eq_true]
                    intro x hx
                    obtain ⟨q, hq, rfl⟩ := List.mem_iff_getElem.1 hx
                    have := HA.out q (by rw [HW.out.2]; exact hq)
                    rwa [List.getD, List.getElem?_eq_getElem hq] at this
                  rw [HWG.out, hl, Bool.true_and]
              | succ gg =>
                have zk : (k : Int) < (lb.size : Int) := by omega
                have e1 := HCL.out k (by omega)
                obtain ⟨X, hX⟩ : ∃ X, X = p.getD k 0 := ⟨_, rfl⟩
                rw [← hX] at e1
                have HXX : Hid _ := hX
                clear hX
                obtain ⟨Hb, hHb⟩ : ∃ Hb, Hb = atx X := ⟨_, rfl⟩
                have HHb : Hid _ := hHb
                clear hHb
                go_upto_region 12 with fail
                go_cut [51] from 36 to 52 (fun s51 wx => s51 = .bool (!Hb) ∧ wr = wx)
                case first => as_aux_lemma =>
                  have h1 : ∀ wx, Calls Tryd.prog 28 #[.int .u8 X.toNat] wx fun e w' => e = .returned (.bool (isL X)) ∧ wx = w' := fun wx => letter_any X wx
                  have h2 : ∀ wx, Calls Tryd.prog 29 #[.int .u8 X.toNat] wx fun e w' => e = .returned (.bool (isD X)) ∧ wx = w' := fun wx => digit_any X wx
                  have h3 : ∀ wx, Calls Tryd.prog 35 _ wx _ := fun wx => marks_ix X wx
                  have hh := HHb.out
                  unfold atx at hh
                  have hge := Lib.indexByte_ge marks X
                  have hcn := Lib.contains_iff_indexByte marks X
                  obtain ⟨x, hx⟩ : ∃ x, x = isL X := ⟨_, rfl⟩
                  obtain ⟨y, hy⟩ : ∃ y, y = isD X := ⟨_, rfl⟩
                  obtain ⟨I, hI⟩ : ∃ I, I = Lib.indexByte marks X := ⟨_, rfl⟩
                  rw [← hx] at h1 hh
                  rw [← hy] at h2 hh
                  rw [← hI] at h3 hcn hge
                  rw [hcn] at hh
                  clear hx hy hI hcn
                  clear e1 HHb
                  cases x
                  · cases y
                    · by_cases hI0 : I < 0
                      · obtain rfl : Hb = false := by rw [hh]; simpa using hI0
                        clear hh
                        go_wp2_with fail
                        refine (h1 _).mono ?_
                        rintro e w1 ⟨rfl, rfl⟩
                        go_wp2_with fail
                        refine (h2 _).mono ?_
                        rintro e w1 ⟨rfl, rfl⟩
                        go_wp2_with fail
                        refine (h3 _).mono ?_
                        rintro e w1 ⟨rfl, rfl⟩
                        go_wp2
                        go_meet
                        case rel => exact ⟨rfl, rfl⟩
                      · obtain rfl : Hb = true := by rw [hh]; simpa using hI0
                        clear hh
                        go_wp2_with fail
                        refine (h1 _).mono ?_
                        rintro e w1 ⟨rfl, rfl⟩
                        go_wp2_with fail
                        refine (h2 _).mono ?_
                        rintro e w1 ⟨rfl, rfl⟩
                        go_wp2_with fail
                        refine (h3 _).mono ?_
                        rintro e w1 ⟨rfl, rfl⟩
                        go_wp2
                        go_meet
                        case rel => exact ⟨by rw [decide_eq_false (show ¬ I < 0 by omega)]; rfl, rfl⟩
                    · obtain rfl : Hb = true := by rw [hh]; rfl
                      clear hh
                      go_wp2_with fail
                      refine (h1 _).mono ?_
                      rintro e w1 ⟨rfl, rfl⟩
                      go_wp2_with fail
                      refine (h2 _).mono ?_
                      rintro e w1 ⟨rfl, rfl⟩
                      go_wp2
                      go_meet
                      case rel => exact ⟨rfl, rfl⟩
                  · obtain rfl : Hb = true := by rw [hh]; rfl
                    clear hh
                    go_wp2_with fail
                    refine (h1 _).mono ?_
                    rintro e w1 ⟨rfl, rfl⟩
                    go_wp2
                    go_meet
                    case rel => exact ⟨rfl, rfl⟩
                case rest =>
                  obtain ⟨rfl, hwc⟩ := hcut
                  subst hwc
                  cases Hb
                  · obtain rfl : D = false := by
                      have hl : atom p = false := by
                        rw [atom, show (p != []) = true from by simpa using HE.out, Bool.true_and, Bool.eq_false_iff]
                        intro h
                        rw [List.all_eq_true] at h
                        have := h X (by rw [HXX.out]; exact List.mem_of_getElem? (getD_of_lt (by rw [← HW.out.2]; omega)))
                        rw [← HHb.out] at this
                        exact Bool.noConfusion this
                      rw [HD2.out, HWG.out, hl]
                      rfl
                    go_wp2
                    go_ret
                    exact ⟨rfl, HF4.out⟩
                  · go_wp2
                    go_roundg gg
                    case measure => omega
                    case rel =>
                      refine ⟨rfl, k + 1, by omega, by first | rfl | simp, fun q hq => ?_⟩
                      by_cases hqk : q = k
                      · subst hqk; rw [← HXX.out, ← HHb.out]
                      · exact HA.out q (by omega)
end Go.Proofs.Qxb6603125aDoor
