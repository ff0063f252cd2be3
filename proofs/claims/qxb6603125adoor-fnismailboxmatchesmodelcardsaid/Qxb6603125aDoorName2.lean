import Derived.Test.Qxb6603125aDoorName
namespace Go.Proofs.Qxb6603125aDoor
open Go.RowKit
open Go

theorem Fr.bytesWorld {F : Nat → Prop} (w : World) (e : TypeId) (s : ByteArray) : Fr F w (Lib.bytesWorld w e s) :=
  ⟨rfl, rfl, rfl, by rw [Lib.bytesWorld_size]; omega, fun k hk _ => Lib.bytesWorld_at_old w e s k hk⟩

structure Pieces (w0 w1 : World) (B N : Nat) (L : List UInt8) (ls : List ByteArray) : Prop where
  len : ls.length = N
  map : ls.map (·.data.toList) = pcs L
  fr : Fr (fun _ => False) w0 w1
  new : w0.heap.size = B
  lt : B < w1.heap.size
  cell : ∀ i, i < N → w1.cell? ⟨B, i, none⟩ = some (.string (ls.getD i ⟨#[]⟩))

theorem split_any (s : ByteArray) (m : Int) (w : World) (hs : s.size ≤ 1048576) (hm : w.cell? ⟨0, 0, none⟩ = some (.int .i64 m)) :
    Calls Tryd.prog 27 #[.string s, .string ⟨#[46]⟩] w fun e w' => ∃ B N ls, e = .returned (.slice (some ⟨B, 0, none⟩) N N) ∧ Pieces w w' B N s.data.toList ls ∧ 1 ≤ N ∧ N ≤ 1048577 := by
  refine (Tryd.strings_Split s ⟨#[46]⟩ m w (by omega) hm (by decide)).mono ?_
  rintro e w' ⟨h1, h2⟩
  have hl := Lib.splitB_all ⟨#[46]⟩ (by decide) 0 _ s rfl
  have hc := Lib.countB_le ⟨#[46]⟩ (by decide) s.size s (Nat.le_refl _)
  refine ⟨w.heap.size, Lib.countB s ⟨#[46]⟩ + 1, Lib.splitB ⟨#[46]⟩ 0 (Lib.countB s ⟨#[46]⟩) s, by rw [h1], ⟨hl, splitB_pcs s, by rw [h2]; exact Fr.alloc _ _, rfl, by rw [h2]; simp, fun i hi => ?_⟩, by omega, by omega⟩
  rw [h2]
  obtain ⟨ls, hls⟩ : ∃ ls, ls = Lib.splitB ⟨#[46]⟩ 0 (Lib.countB s ⟨#[46]⟩) s := ⟨_, rfl⟩
  rw [← hls] at hl ⊢
  have hi2 : i < ls.length := by omega
  simp [World.cell?, World.alloc, -World.alloc_eq, List.getD, hi2]

theorem Pieces.drop {w0 w1 : World} {B N : Nat} {L : List UInt8} {ls : List ByteArray} (h : Pieces w0 w1 B N L ls) {i : Nat} (hi : i < N) : (pcs L).drop i = (ls.getD i ⟨#[]⟩).data.toList :: (pcs L).drop (i + 1) := by
  have hl := h.len
  have h2 : i < (pcs L).length := by rw [← h.map, List.length_map]; omega
  rw [List.drop_eq_getElem_cons h2]
  congr 1
  have : (pcs L)[i]? = some ((ls.getD i ⟨#[]⟩).data.toList) := by
    rw [← h.map, List.getElem?_map, List.getD, List.getElem?_eq_getElem (by omega)]; rfl
  rw [List.getElem?_eq_getElem h2] at this
  exact Option.some.inj this
theorem Pieces.last {w0 w1 : World} {B N : Nat} {L : List UInt8} {ls : List ByteArray} (h : Pieces w0 w1 B N L ls) (hN : 1 ≤ N) : lastp L = (ls.getD (N - 1) ⟨#[]⟩).data.toList := by
  have hl := h.len
  have hl2 : (pcs L).length = N := by rw [← h.map, List.length_map]; exact hl
  have h1 := h.drop (i := N - 1) (by omega)
  unfold lastp
  have h2 : (pcs L).drop (N - 1 + 1) = [] := List.drop_eq_nil_of_le (by omega)
  rw [h2] at h1
  have h3 : pcs L = (pcs L).take (N - 1) ++ [(ls.getD (N - 1) ⟨#[]⟩).data.toList] := by
    conv => lhs; rw [← List.take_append_drop (N - 1) (pcs L), h1]
  have h4 : (pcs L).getLast? = some (ls.getD (N - 1) ⟨#[]⟩).data.toList := by
    rw [h3]; simp
  rw [List.getLast?_eq_some_getLast (pcs_ne L)] at h4
  exact Option.some.inj h4

theorem lab_parts (p : List UInt8) : lab p = (!(p == [] || decide (63 < p.length) || p.head? == some 45 || p.getLast? == some 45) && p.all host) := by
  unfold lab
  have : decide (p.length ≤ 63) = !decide (63 < p.length) := by
    rw [← decide_not]; congr 1; simp
  rw [this]
  simp only [bne, Bool.not_or]

theorem head_getD {p : List UInt8} (h : p ≠ []) : p.head? = some (p.getD 0 0) := by
  cases p with
  | nil => exact absurd rfl h
  | cons c l => rfl
theorem last_getD {p : List UInt8} (h : p ≠ []) : p.getLast? = some (p.getD (p.length - 1) 0) := by
  have hl : 0 < p.length := List.length_pos_iff.2 h
  rw [List.getLast?_eq_getElem?, getD_of_lt (by omega)]

set_option maxHeartbeats 3200000 in
theorem dnsName_any (s : ByteArray) (m : Int) (w : World) (hs : s.size ≤ 1048576) (hm : w.cell? ⟨0, 0, none⟩ = some (.int .i64 m)) :
    Calls Tryd.prog 22 #[.string s] w fun e w' => e = .returned (.bool (dns s.data.toList)) ∧ Fr (fun _ => False) w w' := by
  obtain ⟨L, hL⟩ : ∃ L, L = s.data.toList := ⟨_, rfl⟩
  have hnL : s.size = L.length := by rw [hL]; simp
  have hsp := split_any s m w hs hm
  rw [← hL] at hsp ⊢
  by_cases h253 : s.size ≤ 253
  · have z0 : ¬ ((s.size : Int) > 253) := by omega
    obtain ⟨D, hD⟩ : ∃ D, D = dns L := ⟨_, rfl⟩
    rw [← hD]
    have HX : Hid (s.size = L.length ∧ L = s.data.toList ∧ D = dns L) := ⟨hnL, hL, hD⟩
    clear hnL hL hD hm
    go_enter Tryd.func22, Tryd.ntmps22
    go_wp2_with fail
    refine hsp.mono ?_
    rintro e w1 ⟨B, N, ls, rfl, hP, hN1, hN2⟩
    have HP : Hid _ := hP
    clear hP hsp
    go_wp2
    go_loopg [15] N (fun g s15 wx => ∃ i : Nat, i + g = N ∧ s15 = .int .i64 i ∧ Fr (fun _ => False) w1 wx ∧ goods (decide (1 < s.size)) (pcs L) = goods (decide (i = 0) && decide (1 < s.size)) ((pcs L).drop i))
    case atStart => exact ⟨0, by omega, rfl, Fr.refl _ _, by simp⟩
    case round =>
      obtain ⟨i, hig, rfl, hfr, hgo⟩ := hrel
      have HF : Hid _ := hfr
      have HG : Hid _ := hgo
      clear hfr hgo
      cases gk with
      | zero => as_aux_lemma =>
        obtain rfl : i = N := by omega
        obtain ⟨lb, hlb⟩ : ∃ lb, lb = ls.getD (i - 1) ⟨#[]⟩ := ⟨_, rfl⟩
        have hc : wr.cell? ⟨B, i - 1, none⟩ = some (.string lb) := by
          rw [HF.out.cell (p := ⟨B, i - 1, none⟩) HP.out.lt (fun e => e), HP.out.cell (i - 1) (by omega), hlb]
        have hm := number_any lb wr
        have hDv : D = !lb.data.toList.all isD := by
          have h2 : (pcs L).drop i = [] := List.drop_eq_nil_of_le (by rw [← HP.out.map, List.length_map, HP.out.len]; exact Nat.le_refl _)
          have h1 := HG.out
          rw [h2, goods] at h1
          rw [HX.out.2.2, hlb, ← HP.out.last hN1]
          unfold dns
          rw [← HX.out.1, h1]
          simp [h253]
        obtain ⟨T, hT⟩ : ∃ T, T = lb.data.toList.all isD := ⟨_, rfl⟩
        rw [← hT] at hm hDv
        subst hDv
        clear hT HX hlb
        go_wp2_with fail
        refine hm.mono ?_
        rintro e w2 ⟨rfl, hf⟩
        have HF2 : Hid _ := hf
        clear hf
        go_wp2
        go_ret
        exact ⟨rfl, (HP.out.fr.trans HF.out (fun _ e => .inl e)).trans HF2.out (fun _ e => .inl e)⟩
      | succ g =>
        obtain ⟨lb, hlb⟩ : ∃ lb, lb = ls.getD i ⟨#[]⟩ := ⟨_, rfl⟩
        have hc : wr.cell? ⟨B, i, none⟩ = some (.string lb) := by
          rw [HF.out.cell (p := ⟨B, i, none⟩) HP.out.lt (fun e => e), HP.out.cell i (by omega), hlb]
        obtain ⟨p, hp⟩ : ∃ p, p = lb.data.toList := ⟨_, rfl⟩
        have hdr : (pcs L).drop i = p :: (pcs L).drop (i + 1) := by rw [hp, hlb]; exact HP.out.drop (by omega)
        obtain ⟨W, hW⟩ : ∃ W, W = (p == [42] && decide (i = 0) && L != [42]) := ⟨_, rfl⟩
        have hWg : goods (decide (1 < s.size)) (pcs L) = ((W || lab p) && goods false ((pcs L).drop (i + 1))) := by
          rw [HG.out, hdr, goods]
          have hw : ((decide (i = 0) && decide (1 < s.size)) && p == [42]) = W := by
            rw [hW, Bool.eq_iff_iff]
            simp only [Bool.and_eq_true, decide_eq_true_eq, beq_iff_eq, bne_iff_ne]
            constructor
            · rintro ⟨⟨h0, h1⟩, h42⟩
              subst h0
              rw [List.drop_zero] at hdr
              exact ⟨⟨h42, rfl⟩, (star_first hdr h42).2 (by rw [← HX.out.1]; exact h1)⟩
            · rintro ⟨⟨h42, h0⟩, h1⟩
              subst h0
              rw [List.drop_zero] at hdr
              exact ⟨⟨rfl, by rw [HX.out.1]; exact (star_first hdr h42).1 h1⟩, h42⟩
          rw [hw]
        have hsz : lb.size = p.length := by rw [hp]; simp
        have HW : Hid (W = (p == [42] && decide (i = 0) && L != [42]) ∧ p = lb.data.toList ∧ lb.size = p.length) := ⟨hW, hp, hsz⟩
        have HWG : Hid _ := hWg
        clear hlb hp hdr hW hWg hsz
        have zi : (i : Int) < (N : Int) := by omega
        go_upto_region 7 with fail
        go_cut [29] from 16 to 74 (fun s29 wx => s29 = .bool W ∧ wr = wx)
        case first => as_aux_lemma =>
          by_cases h42 : p = [42]
          · have z42 : (lb.toList == [42]) = true := by rw [eq_list, ← HW.out.2.1, h42]; rfl
            by_cases h0 : i = 0
            · have zi0 : ((i : Int) == 0) = true := by rw [beq_iff_eq]; omega
              by_cases hL42 : L = [42]
              · have zL : (s.toList == [42]) = true := by rw [eq_list, ← HX.out.2.1, hL42]; rfl
                obtain rfl : W = false := by rw [HW.out.1, hL42]; simp
                clear h42 h0 hL42
                go_wp2
                go_meet
                case rel => exact ⟨by first | rfl | (rw [zL]; rfl), rfl⟩
              · have zL : (s.toList == [42]) = false := by rw [eq_list, ← HX.out.2.1]; simpa using hL42
                obtain rfl : W = true := by rw [HW.out.1, h42, h0]; simpa using hL42
                clear h42 h0 hL42
                go_wp2
                go_meet
                case rel => exact ⟨by first | rfl | (rw [zL]; rfl), rfl⟩
            · have zi0 : ((i : Int) == 0) = false := by rw [beq_eq_false_iff_ne]; omega
              obtain rfl : W = false := by rw [HW.out.1]; simp [h0]
              clear h42 h0
              go_wp2
              go_meet
              case rel => exact ⟨rfl, rfl⟩
          · have z42 : (lb.toList == [42]) = false := by rw [eq_list, ← HW.out.2.1]; simpa using h42
            obtain rfl : W = false := by rw [HW.out.1]; simp [h42]
            clear h42
            go_wp2
            go_meet
            case rel => exact ⟨rfl, rfl⟩
        case rest =>
          obtain ⟨rfl, hwc⟩ := hcut
          subst hwc
          cases W
          · obtain ⟨Bd, hBd⟩ : ∃ Bd, Bd = (p == [] || decide (63 < p.length) || p.head? == some 45 || p.getLast? == some 45) := ⟨_, rfl⟩
            have HBd : Hid _ := hBd
            clear hBd
            go_upto_region 8 with fail
            go_cut [49] from 16 to 74 (fun s49 wx => s49 = .bool Bd ∧ wr = wx)
            case first => as_aux_lemma =>
              by_cases he : p = []
              · have ze : (lb.toList == []) = true := by rw [eq_list, ← HW.out.2.1, he]; rfl
                obtain rfl : Bd = true := by rw [HBd.out, he]; rfl
                clear he
                go_wp2
                go_meet
                case rel => exact ⟨rfl, rfl⟩
              · have ze : (lb.toList == []) = false := by rw [eq_list, ← HW.out.2.1]; simpa using he
                have hpos : 0 < p.length := List.length_pos_iff.2 he
                by_cases h63 : 63 < p.length
                · have z63 : (lb.size : Int) > 63 := by rw [HW.out.2.2]; omega
                  obtain rfl : Bd = true := by rw [HBd.out]; simp [h63]
                  clear he h63 hpos
                  go_wp2
                  go_meet
                  case rel => exact ⟨rfl, rfl⟩
                · have z63 : ¬ (lb.size : Int) > 63 := by rw [HW.out.2.2]; omega
                  have e1 : (Instr.index 9 (.string lb) (.int .i64 0)).run Tryd.prog wr = .ok (.int .u8 ((lb.data.toList.getD 0 0).toNat : Int)) wr := idx_str lb 0 (by rw [HW.out.2.2]; omega) wr
                  have e2 := idx_str lb (lb.size - 1) (by rw [HW.out.2.2]; omega) wr
                  rw [at_, show ((lb.size - 1 : Nat) : Int) = (lb.size : Int) - 1 from by have := HW.out.2.2; omega] at e2
                  rw [← HW.out.2.1] at e1
                  rw [← HW.out.2.1, HW.out.2.2] at e2
                  rw [← HW.out.2.2] at e2
                  have hh := head_getD he
                  have ht := last_getD he
                  rw [← HW.out.2.2] at ht
                  obtain ⟨X, hX⟩ : ∃ X, X = p.getD 0 0 := ⟨_, rfl⟩
                  obtain ⟨Y, hY⟩ : ∃ Y, Y = p.getD (lb.size - 1) 0 := ⟨_, rfl⟩
                  rw [← hX] at e1 hh
                  rw [← hY] at e2 ht
                  have hb2 : Bd = (X == 45 || Y == 45) := by
                    rw [HBd.out, hh, ht, show (p == []) = false from by simpa using he, show decide (63 < p.length) = false from by simpa using h63]
                    rfl
                  have HB2 : Hid _ := hb2
                  clear hX hY hh ht hb2 he h63 hpos
                  by_cases hx : X = 45
                  · have zx : ((X.toNat : Int) == 45) = true := by rw [hx]; rfl
                    obtain rfl : Bd = true := by rw [HB2.out, hx]; rfl
                    clear hx
                    go_wp2
                    go_meet
                    case rel => exact ⟨rfl, rfl⟩
                  · have zx : ((X.toNat : Int) == 45) = false := by rw [show ((X.toNat : Int) == 45) = (X == 45) from u8_beq X 45 (by omega)]; simpa using hx
                    have zy : ((Y.toNat : Int) == 45) = Bd := by
                      rw [show ((Y.toNat : Int) == 45) = (Y == 45) from u8_beq Y 45 (by omega), HB2.out]; simp [hx]
                    clear hx
                    go_wp2
                    go_meet
                    case rel => exact ⟨by first | rfl | rw [zy], rfl⟩
            case rest =>
              obtain ⟨rfl, hwc⟩ := hcut
              subst hwc
              cases Bd
              · have h63 : lb.size ≤ 63 := by
                  have := HBd.out.symm
                  rw [Bool.or_eq_false_iff, Bool.or_eq_false_iff, Bool.or_eq_false_iff, decide_eq_false_iff_not] at this
                  rw [HW.out.2.2]
                  omega
                have hcv := Lib.run_convert_string_bytes (P := Tryd.prog) wr 9 27 5 lb (u := .string) Tryd.underlying9 Tryd.underlying27 Tryd.underlying5
                have hcl := fun j hj => Lib.bytesWorld_cell wr 5 lb j hj
                have hf2 : Fr (fun _ => False) wr (Lib.bytesWorld wr 5 lb) := Fr.bytesWorld _ _ _
                obtain ⟨w2, hw2⟩ : ∃ w2, w2 = Lib.bytesWorld wr 5 lb := ⟨_, rfl⟩
                obtain ⟨cp, hcp⟩ : ∃ cp, cp = grownCap wr lb.size 0 5 := ⟨_, rfl⟩
                obtain ⟨B2, hB2⟩ : ∃ B2, B2 = wr.heap.size := ⟨_, rfl⟩
                rw [← hw2] at hcv hcl hf2
                rw [← hcp, ← hB2] at hcv
                rw [← hB2, ← HW.out.2.1] at hcl
                have HCL : Hid _ := hcl
                have HF2 : Hid (Fr (fun _ => False) w w2) := (HP.out.fr.trans HF.out (fun _ e => .inl e)).trans hf2 (fun _ e => .inl e)
                have HF3 : Hid (Fr (fun _ => False) w1 w2) := HF.out.trans hf2 (fun _ e => .inl e)
                clear hw2 hcp hB2 hcl hf2 hc zi
                go_wp2
                go_loopg [53] lb.size (fun gg s53 wx => wx = w2 ∧ ∃ k : Nat, k + gg = lb.size ∧ s53 = .int .i64 k ∧ ∀ q, q < k → host (p.getD q 0) = true)
                case atStart => exact ⟨rfl, 0, by omega, rfl, fun q h => absurd h (Nat.not_lt_zero q)⟩
                case round =>
                  obtain ⟨rfl, k, hkg, rfl, hall⟩ := hrel
                  have HA : Hid _ := hall
                  clear hall
                  cases gk with
                  | zero =>
                    obtain rfl : k = lb.size := by omega
                    go_wp2
                    go_roundg g
                    case measure => omega
                    case rel =>
                      refine ⟨i + 1, by omega, by first | rfl | simp, HF3.out, ?_⟩
                      have hl : lab p = true := by
                        rw [lab_parts, ← HBd.out]
                        rw [Bool.not_false, Bool.true_and, List.all_eq_true]
                        intro x hx
                        obtain ⟨q, hq, rfl⟩ := List.mem_iff_getElem.1 hx
                        have := HA.out q (by rw [HW.out.2.2]; exact hq)
                        rwa [List.getD, List.getElem?_eq_getElem hq] at this
                      rw [HWG.out, hl]
                      simp
                  | succ gg =>
                    have zk : (k : Int) < (lb.size : Int) := by omega
                    have e1 := HCL.out k (by omega)
                    obtain ⟨X, hX⟩ : ∃ X, X = p.getD k 0 := ⟨_, rfl⟩
                    rw [← hX] at e1
                    have HXX : Hid _ := hX
                    clear hX
                    obtain ⟨Hb, hHb⟩ : ∃ Hb, Hb = host X := ⟨_, rfl⟩
                    have HHb : Hid _ := hHb
                    clear hHb
                    go_upto_region 13 with fail
                    go_cut [72] from 54 to 73 (fun s72 wx => s72 = .bool (!Hb) ∧ wr = wx)
                    case first => as_aux_lemma =>
                      have h1 : ∀ wx, Calls Tryd.prog 28 #[.int .u8 X.toNat] wx fun e w' => e = .returned (.bool (isL X)) ∧ wx = w' := fun wx => letter_any X wx
                      have h2 : ∀ wx, Calls Tryd.prog 29 #[.int .u8 X.toNat] wx fun e w' => e = .returned (.bool (isD X)) ∧ wx = w' := fun wx => digit_any X wx
                      have z1 : ((X.toNat : Int) != 45) = !(X == 45) := by rw [bne, show ((X.toNat : Int) == 45) = (X == 45) from u8_beq X 45 (by omega)]
                      have z2 : ((X.toNat : Int) != 95) = !(X == 95) := by rw [bne, show ((X.toNat : Int) == 95) = (X == 95) from u8_beq X 95 (by omega)]
                      have hh := HHb.out
                      unfold host at hh
                      obtain ⟨x, hx⟩ : ∃ x, x = isL X := ⟨_, rfl⟩
                      obtain ⟨y, hy⟩ : ∃ y, y = isD X := ⟨_, rfl⟩
                      rw [← hx] at h1 hh
                      rw [← hy] at h2 hh
                      clear hx hy
                      obtain ⟨z, hz⟩ : ∃ z, z = (X == 45) := ⟨_, rfl⟩
                      obtain ⟨u, hu⟩ : ∃ u, u = (X == 95) := ⟨_, rfl⟩
                      rw [← hz] at z1 hh
                      rw [← hu] at z2 hh
                      clear hz hu
                      subst hh
                      clear e1 HHb
                      cases x
                      · cases y
                        · cases z
                          · cases u <;> (
                              simp only [Bool.not_true, Bool.not_false] at z1 z2
                              go_wp2_with fail
                              refine (h1 _).mono ?_
                              rintro e w1 ⟨rfl, rfl⟩
                              go_wp2_with fail
                              refine (h2 _).mono ?_
                              rintro e w1 ⟨rfl, rfl⟩
                              go_wp2
                              go_meet
                              case rel => exact ⟨by first | rfl | (rw [z2]; rfl), rfl⟩)
                          · simp only [Bool.not_true] at z1
                            go_wp2_with fail
                            refine (h1 _).mono ?_
                            rintro e w1 ⟨rfl, rfl⟩
                            go_wp2_with fail
                            refine (h2 _).mono ?_
                            rintro e w1 ⟨rfl, rfl⟩
                            go_wp2
                            go_meet
                            case rel => exact ⟨rfl, rfl⟩
                        · go_wp2_with fail
                          refine (h1 _).mono ?_
                          rintro e w1 ⟨rfl, rfl⟩
                          go_wp2_with fail
                          refine (h2 _).mono ?_
                          rintro e w1 ⟨rfl, rfl⟩
                          go_wp2
                          go_meet
                          case rel => exact ⟨rfl, rfl⟩
                      · go_wp2_with fail
                        refine (h1 _).mono ?_
                        rintro e w1 ⟨rfl, rfl⟩
                        go_wp2
                        go_meet
                        case rel => exact ⟨rfl, rfl⟩
                    case rest =>
                      obtain ⟨rfl, hwc⟩ := hcut
                      subst hwc
                      cases Hb
                      · have hDf : D = false := by
                          have hl : lab p = false := by
                            rw [lab_parts, ← HBd.out, Bool.not_false, Bool.true_and, Bool.eq_false_iff]
                            intro h
                            rw [List.all_eq_true] at h
                            have := h X (by rw [HXX.out]; exact List.mem_of_getElem? (getD_of_lt (by rw [← HW.out.2.2]; omega)))
                            rw [← HHb.out] at this
                            exact Bool.noConfusion this
                          rw [HX.out.2.2]
                          unfold dns
                          rw [← HX.out.1, HWG.out, hl]
                          simp
                        subst hDf
                        go_wp2
                        go_ret
                        exact ⟨rfl, HF2.out⟩
                      · go_wp2
                        go_roundg gg
                        case measure => omega
                        case rel =>
                          refine ⟨rfl, k + 1, by omega, by first | rfl | simp, fun q hq => ?_⟩
                          by_cases hqk : q = k
                          · subst hqk; rw [← HXX.out, ← HHb.out]
                          · exact HA.out q (by omega)
              · have hDf : D = false := by
                  rw [HX.out.2.2]
                  unfold dns
                  rw [← HX.out.1, HWG.out, lab_parts, ← HBd.out]
                  simp
                subst hDf
                go_wp2
                go_ret
                exact ⟨rfl, HP.out.fr.trans HF.out (fun _ e => .inl e)⟩
          · go_wp2
            go_roundg g
            case measure => omega
            case rel =>
              refine ⟨i + 1, by omega, by first | rfl | simp, HF.out, ?_⟩
              rw [HWG.out]; simp
  · have z0 : ((s.size : Int) > 253) := by omega
    have e : dns L = false := by unfold dns; rw [← hnL]; simp [h253]
    rw [e]
    clear hnL hL e hsp
    go_enter Tryd.func22, Tryd.ntmps22
    go_wp2
    go_ret
    exact ⟨rfl, Fr.refl _ _⟩
end Go.Proofs.Qxb6603125aDoor
